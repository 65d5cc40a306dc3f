import JvmDerived
import JvmDerived.Pilot.@@N@@Statement
import JvmDerived.Pilot.@@N@@Code
set_option linter.unusedVariables false
set_option linter.unusedSimpArgs false
namespace Jvm.RoadKit
open Sem ClassFile Op Lib Jvm.Stand Jvm.Free Jvm.LawKit
section New
variable {p : Program} {l : Launch} {e : Env} {R : Room} {s : State} {m : MethodId} {args : Array Value} {below : List Frame} {meth : Method} {c : Code} {T : State} {locs : List Loc} {cells slots : Nat}
theorem retI (X : Stand p l e R s m args below meth c T locs cells slots) (hx : p.tables.exec = Jvm.exec) {pc : Nat} {Ls : Array Slot} {z : Int32} {rest : List Value} (hret : meth.sig.returnType = some .int) (hd : decode c.code pc = .ok (.ireturn, 1)) {fs : List Frame}
    (hl : ∀ (f : JFrame) (acts : List Action), f.method = m → f.locked = none → f.entered = [] → (doReturn e (T.setTop f) acts (some (.int z))).1 = T.setFrames fs) : Steps p.tables e below (T.setTop (mkF m pc Ls (.int z :: rest))) (T.setFrames fs) := by
  have hm' : T.vm.method? m = some meth := X.method'
  have hn : narrow .int (.int z) = .int z := rfl
  show Steps p.tables e below (T.setTop { method := m, pc := pc, locals := Ls, stack := _ :: rest, locked := none }) _
  jvm_step X.here [X.here.top, hx, hd, hm', hret, hn]
  first | (intro acts; rw [hl _ acts rfl rfl rfl]) | rw [hl _ _ rfl rfl rfl]
  exact Steps.refl _
theorem own_lrem {g : JFrame} {target : State} (X : Stand p l e R s m args below meth c T locs cells slots) (hx : p.tables.exec = Jvm.exec) (hg : g.method = m) {x y : Int64} {rest : List Value} (hd : decode c.code g.pc = .ok (.lrem, 1)) (hs : g.stack = .long y :: .long x :: rest) (hy : y ≠ 0)
    (hr : Steps p.tables e below (T.setTop { g with pc := g.pc + 1, stack := .long (x % y) :: rest }) target) : Steps p.tables e below (T.setTop g) target := by
  have q : x - (x / y) * y = x % y := lrem_mod x y
  exact XS.lrem X.here hx hg hd hs hy (by rw [q]; exact hr)
theorem own_b1 {P : Prop} [Decidable P] (h : P) : ¬ ((if P then (1 : Int32) else 0) = 0) := by rw [if_pos h]; decide
theorem own_b0 {P : Prop} [Decidable P] (h : ¬ P) : (if P then (1 : Int32) else 0) = 0 := if_neg h
theorem own_c1 {P : Prop} [Decidable P] (h : P) : (if P then (1 : Int32) else 0) = 1 := if_pos h
theorem own_c0 {P : Prop} [Decidable P] (h : ¬ P) : ¬ ((if P then (1 : Int32) else 0) = 1) := by rw [if_neg h]; decide
theorem own_bb {P Q : Prop} [Decidable P] [Decidable Q] (h : P ↔ Q) : (if P then (1 : Int32) else 0) = (if Q then (1 : Int32) else 0) := by
  by_cases p : P
  · rw [if_pos p, if_pos (h.mp p)]
  · rw [if_neg p, if_neg (fun q => p (h.mpr q))]
theorem own_bn {P Q : Prop} [Decidable P] [Decidable Q] (h : ¬ (P ↔ Q)) : ¬ ((if P then (1 : Int32) else 0) = (if Q then (1 : Int32) else 0)) := fun e => h (by
  by_cases p : P <;> by_cases q : Q
  · exact ⟨fun _ => q, fun _ => p⟩
  · rw [if_pos p, if_neg q] at e; exact absurd e (by decide)
  · rw [if_neg p, if_pos q] at e; exact absurd e (by decide)
  · exact ⟨fun a => absurd a p, fun a => absurd a q⟩)
theorem own_t {P : Prop} [Decidable P] (h : P) : some (Value.int 1) = some (Value.int (if P then (1 : Int32) else 0)) := by rw [if_pos h]
theorem own_f {P : Prop} [Decidable P] (h : ¬ P) : some (Value.int 0) = some (Value.int (if P then (1 : Int32) else 0)) := by rw [if_neg h]
end New
end Jvm.RoadKit
namespace Jvm.Pilot.@@N@@
open Jvm Jvm.ClassFile Sem Op Lib Jvm.Free Jvm.Stand Jvm.LawKit Jvm.RoadKit Bundle Jvm.Pilot.@@N@@.Jvm.D
def own_max (a b : Int64) : Int64 := if a < b then b else a
theorem own_ltmax (t a b : Int64) : t < own_max a b ↔ (t < a ∨ t < b) := by
  unfold own_max
  simp only [Int64.lt_iff_toInt_lt]
  split <;> omega
theorem own_max_toInt (a b : Int64) : (own_max a b).toInt = max a.toInt b.toInt := by
  unfold own_max
  simp only [Int64.lt_iff_toInt_lt]
  split <;> omega
theorem pn_0 : plainName "com/example/sensor_access_indicators/sensoraccessindicators/ShownAccesses" = true := by first | (simp [plainName, overriddenIn]; done) | decide +kernel
theorem d1_0 : decode prog_35_method_1_code 0 = .ok (.aload_n 0, 1) := by decide +kernel
theorem d1_1 : decode prog_35_method_1_code 1 = .ok (.invokespecial 1, 3) := by decide +kernel
theorem d1_4 : decode prog_35_method_1_code 4 = .ok (.aload_n 0, 1) := by decide +kernel
theorem d1_5 : decode prog_35_method_1_code 5 = .ok (.ldc2_w 9, 3) := by decide +kernel
theorem d1_8 : decode prog_35_method_1_code 8 = .ok (.putfield 11, 3) := by decide +kernel
theorem d1_11 : decode prog_35_method_1_code 11 = .ok (.return_, 1) := by decide +kernel
theorem ef_1 (m : MethodId) (x0 : Addr) : entryFrame m #[(.ref x0)] 1 = mkF m 0 #[.val (.ref x0)] [] := by first | (simp [entryFrame, mkF, argsToLocals, Value.category]; done) | rfl
def Q1 (Z : State) (o0 : Addr) (u1 : Value) (r : Int32) (h0 : Heap) (n0 : Nat) (v : Option Value) (h : Heap) (L : List Loc) : Prop := v = none ∧ Fr n0 L ∧ Keep h0 h [o0] ∧ Exa Z h o0 "com/example/sensor_access_indicators/sensoraccessindicators/ShownAccesses" ∧ Fld Z h o0 "com/example/sensor_access_indicators/sensoraccessindicators/ShownAccesses" "shownUntil" "J" (.long (-9223372036854775808 : Int64)) ∧ Fld Z h o0 "com/example/sensor_access_indicators/sensoraccessindicators/ShownAccesses" "running" "I" (.int r)
set_option maxRecDepth 65536 in
set_option maxHeartbeats 40000000 in
theorem rm1 (l : Launch) (Z : State) (a0 : Array Value) (hw : ∀ d ∈ tables_1, d.before a0 Z = true) (ws : List Jvm.Cond) (o0 : Addr) (u1 : Value) (r : Int32) (h0 : Heap) (n0 : Nat) (Z0 : n0 ≤ h0.size) (F_shownUntil_o0 : Fld Z h0 o0 "com/example/sensor_access_indicators/sensoraccessindicators/ShownAccesses" "shownUntil" "J" u1) (F_running_o0 : Fld Z h0 o0 "com/example/sensor_access_indicators/sensoraccessindicators/ShownAccesses" "running" "I" (.int r)) (E_o0 : Exa Z h0 o0 "com/example/sensor_access_indicators/sensoraccessindicators/ShownAccesses") (g_o0 : n0 ≤ o0) :
    MetFree l (⟨"com/example/sensor_access_indicators/sensoraccessindicators/ShownAccesses", "<init>", "()V"⟩ : MethodName) (head1 (Jvm.Cond.code (⟨"com/example/sensor_access_indicators/sensoraccessindicators/ShownAccesses", "<init>", "()V"⟩ : MethodName) prog_35_method_1_code 1 none :: ws) ({ frames := 1, cells := 0, slots := 0, locals := 12 } : Room)) (fun a U => a = #[(.ref o0)] ∧ Z.Warmed39 U.vm ∧ U.heap = h0) (fun _ _ _ _ _ => True) (fun _ U o U' => ∃ v L, o = .returned v ∧ Q1 Z o0 u1 r h0 n0 v U'.heap L ∧ FrameEnd U o U' L ({ frames := 1, cells := 0, slots := 0, locals := 12 } : Room).cells ({ frames := 1, cells := 0, slots := 0, locals := 12 } : Room).slots) := by
  refine MetFree.of_bodySF (plainFor_of_name pn_0) hisR ?_
  intro p e s m args below meth c s₁ Bd hml0 hP hK
  obtain ⟨rfl, hZ, hh⟩ := hP
  have hx := Bd.exec
  have hby := Bd.bytes
  have hml : c.maxLocals = 1 := hml0
  have hown : s.vm.findClass "com/example/sensor_access_indicators/sensoraccessindicators/ShownAccesses" = some m.cls := findClass_of_methodNamed Bd.named
  have hnm := (name_of_methodNamed Bd.named Bd.method).1
  have X0 : Stand p l e ({ frames := 1, cells := 0, slots := 0, locals := 12 } : Room) s m #[(.ref o0)] below meth c s₁ [] 0 0 := Stand.of_body Bd
  have e0 : s₁.heap = h0 := by rw [← hh, Bd.state]; rfl
  have N0 := Fr.nil n0
  have pre0 : ∀ t, Steps p.tables e below (s₁.setTop (mkF m 0 #[.val (.ref o0)] [])) t → Steps p.tables e below (s₁.setTop (entryFrame m #[(.ref o0)] 1)) t := fun t k => castTop (ef_1 m o0) k
  obtain ⟨T1, X1, e1, st1⟩ := initO X0 hx hZ hown (hw _ (List.mem_of_getElem? (i := 6) rfl)) (hw _ (List.mem_of_getElem? (i := 7) rfl)) (hw _ (List.mem_of_getElem? (i := 8) rfl)) e0 (g := (mkF m 1 #[.val (.ref o0)] [(.ref o0)])) rfl (by rw [hml]; rfl) rfl (hb hby d1_1) (by decide) (W := 0) (by show 2 * 0 + _ ≤ _; exact Nat.le_of_eq rfl) (by decide)
  obtain ⟨T2, h2, X2, e2, W2, st2⟩ := putF X1 hx hZ hown (host := "") (Or.inl (hw _ (List.mem_of_getElem? (i := 10) rfl))) Via.refl e1 F_shownUntil_o0 E_o0 (Or.inl (hw _ (List.mem_of_getElem? (i := 11) rfl))) (hw _ (List.mem_of_getElem? (i := 1) rfl)) (ty := .long) (by decide) rfl rfl (g := (mkF m 8 #[.val (.ref o0)] [(.long (-9223372036854775808 : Int64)), (.ref o0)])) rfl rfl (hb hby d1_8)
  have Fw2 := F_shownUntil_o0.same W2
  have KK2 : Keep h0 h2 [o0] := (Keep.refl h0 [o0]).wr W2 (Or.inl (List.mem_of_getElem? (i := 0) rfl))
  have N2 := Fr.snoc X2 N0 g_o0
  have pre3 : ∀ t, Steps p.tables e below (T2.setTop (mkF m 11 #[.val (.ref o0)] [])) t → Steps p.tables e below (s₁.setTop (entryFrame m #[(.ref o0)] 1)) t := fun t k => pre0 t (by
    show Steps p.tables e below (s₁.setTop (mkF m 0 #[.val (.ref o0)] [])) _
    refine XS.aloadN X0.here hx rfl (hb hby d1_0) rfl rfl ?_
    show Steps p.tables e below (s₁.setTop (mkF m 1 #[.val (.ref o0)] [(.ref o0)])) _
    refine st1 _ ?_
    show Steps p.tables e below (T1.setTop (mkF m 4 #[.val (.ref o0)] [])) _
    refine XS.aloadN X1.here hx rfl (hb hby d1_4) rfl rfl ?_
    show Steps p.tables e below (T1.setTop (mkF m 5 #[.val (.ref o0)] [(.ref o0)])) _
    refine X1.ldc2Long hx hown (mvT hZ (hw _ (List.mem_of_getElem? (i := 9) rfl))) (g := (mkF m 5 #[.val (.ref o0)] [(.ref o0)])) rfl (hb hby d1_5) _ ?_
    show Steps p.tables e below (T1.setTop (mkF m 8 #[.val (.ref o0)] [(.long (-9223372036854775808 : Int64)), (.ref o0)])) _
    refine st2 _ ?_
    exact k)
  obtain ⟨fs, hr, hrun, hended, hW, hsame⟩ := X2.leave (v := none) (fun _ => rfl)
  refine ⟨_, _, pre3 _ ?_, hrun, hended, _, _, rfl, ?_, ⟨_, rfl⟩, hW, hsame.mono (by decide) (by decide)⟩
  · exact X2.returnOut hx Bd.returns (hb hby d1_11) hr
  · show Q1 Z o0 u1 r h0 n0 _ T2.heap _
    rw [e2]
    exact ⟨rfl, N2, KK2, (E_o0.wr W2), Fw2, (F_running_o0.other W2 (Or.inr (slot_ne (Or.inl (hw _ (List.mem_of_getElem? (i := 14) rfl))) (Or.inl (hw _ (List.mem_of_getElem? (i := 11) rfl))) (by decide) (t := .int) (t' := .long) (by decide) (by decide))))⟩
theorem d4_0 : decode jdk_29_method_66_code 0 = .ok (.lload_n 0, 1) := by decide +kernel
theorem d4_1 : decode jdk_29_method_66_code 1 = .ok (.lload_n 2, 1) := by decide +kernel
theorem d4_2 : decode jdk_29_method_66_code 2 = .ok (.lcmp, 1) := by decide +kernel
theorem d4_3 : decode jdk_29_method_66_code 3 = .ok (.ifCond .lt 7, 3) := by decide +kernel
theorem d4_10 : decode jdk_29_method_66_code 10 = .ok (.lload_n 2, 1) := by decide +kernel
theorem d4_11 : decode jdk_29_method_66_code 11 = .ok (.lreturn, 1) := by decide +kernel
theorem d4_6 : decode jdk_29_method_66_code 6 = .ok (.lload_n 0, 1) := by decide +kernel
theorem d4_7 : decode jdk_29_method_66_code 7 = .ok (.goto 4, 3) := by decide +kernel
theorem ef_4 (m : MethodId) (x0 : Int64) (x1 : Int64) : entryFrame m #[(.long x0), (.long x1)] 4 = mkF m 0 #[.val (.long x0), .second, .val (.long x1), .second] [] := by first | (simp [entryFrame, mkF, argsToLocals, Value.category]; done) | rfl
def Q4 (Z : State) (q0 : Int64) (q1 : Int64) (h0 : Heap) (n0 : Nat) (v : Option Value) (h : Heap) (L : List Loc) : Prop := v = some (.long (own_max q0 q1)) ∧ Fr n0 L ∧ h = h0
set_option maxRecDepth 65536 in
set_option maxHeartbeats 40000000 in
theorem rm4 (l : Launch) (Z : State) (a0 : Array Value) (hw : ∀ d ∈ tables_1, d.before a0 Z = true) (ws : List Jvm.Cond) (q0 : Int64) (q1 : Int64) (h0 : Heap) (n0 : Nat) (Z0 : n0 ≤ h0.size) :
    MetFree l (⟨"java/lang/Math", "max", "(JJ)J"⟩ : MethodName) (head1 (Jvm.Cond.code (⟨"java/lang/Math", "max", "(JJ)J"⟩ : MethodName) jdk_29_method_66_code 4 (some .long) :: ws) ({ frames := 0, cells := 0, slots := 0, locals := 0 } : Room)) (fun a U => a = #[(.long q0), (.long q1)] ∧ Z.Warmed39 U.vm ∧ U.heap = h0) (fun _ _ _ _ _ => True) (fun _ U o U' => ∃ v L, o = .returned v ∧ Q4 Z q0 q1 h0 n0 v U'.heap L ∧ FrameEnd U o U' L ({ frames := 0, cells := 0, slots := 0, locals := 0 } : Room).cells ({ frames := 0, cells := 0, slots := 0, locals := 0 } : Room).slots) := by
  refine MetFree.of_bodySF (Jvm.Free.JP.mathPlain rfl (by decide +kernel)) hisR ?_
  intro p e s m args below meth c s₁ Bd hml0 hP hK
  obtain ⟨rfl, hZ, hh⟩ := hP
  have hx := Bd.exec
  have hby := Bd.bytes
  have hml : c.maxLocals = 4 := hml0
  have hown : s.vm.findClass "java/lang/Math" = some m.cls := findClass_of_methodNamed Bd.named
  have hnm := (name_of_methodNamed Bd.named Bd.method).1
  have X0 : Stand p l e ({ frames := 0, cells := 0, slots := 0, locals := 0 } : Room) s m #[(.long q0), (.long q1)] below meth c s₁ [] 0 0 := Stand.of_body Bd
  have e0 : s₁.heap = h0 := by rw [← hh, Bd.state]; rfl
  have N0 := Fr.nil n0
  have pre0 : ∀ t, Steps p.tables e below (s₁.setTop (mkF m 0 #[.val (.long q0), .second, .val (.long q1), .second] [])) t → Steps p.tables e below (s₁.setTop (entryFrame m #[(.long q0), (.long q1)] 4)) t := fun t k => castTop (ef_4 m q0 q1) k
  have pre1 : ∀ t, Steps p.tables e below (s₁.setTop (mkF m 3 #[.val (.long q0), .second, .val (.long q1), .second] [(.int (lcmpW q0 q1))])) t → Steps p.tables e below (s₁.setTop (entryFrame m #[(.long q0), (.long q1)] 4)) t := fun t k => pre0 t (by
    show Steps p.tables e below (s₁.setTop (mkF m 0 #[.val (.long q0), .second, .val (.long q1), .second] [])) _
    refine XS.lloadN X0.here hx rfl (hb hby d4_0) rfl ?_
    show Steps p.tables e below (s₁.setTop (mkF m 1 #[.val (.long q0), .second, .val (.long q1), .second] [(.long q0)])) _
    refine XS.lloadN X0.here hx rfl (hb hby d4_1) rfl ?_
    show Steps p.tables e below (s₁.setTop (mkF m 2 #[.val (.long q0), .second, .val (.long q1), .second] [(.long q1), (.long q0)])) _
    refine XS.lcmp X0.here hx rfl (hb hby d4_2) rfl ?_
    exact k)
  by_cases hc3_2 : q0 < q1
  · have pre3 : ∀ t, Steps p.tables e below (s₁.setTop (mkF m 11 #[.val (.long q0), .second, .val (.long q1), .second] [(.long q1)])) t → Steps p.tables e below (s₁.setTop (entryFrame m #[(.long q0), (.long q1)] 4)) t := fun t k => pre1 t (by
      show Steps p.tables e below (s₁.setTop (mkF m 3 #[.val (.long q0), .second, .val (.long q1), .second] [(.int (lcmpW q0 q1))])) _
      refine XS.ifYes X0.here hx rfl (pc0 := 3) (pc' := 10) rfl (hb hby d4_3) rfl ((if0 _ _).trans (tlt ((lw_lt _ _).mpr hc3_2)).1) (by decide) (by decide) ?_
      show Steps p.tables e below (s₁.setTop (mkF m 10 #[.val (.long q0), .second, .val (.long q1), .second] [])) _
      refine XS.lloadN X0.here hx rfl (hb hby d4_10) rfl ?_
      exact k)
    obtain ⟨fs, hr, hrun, hended, hW, hsame⟩ := X0.leave (v := some (.long q1)) (fun h => by rw [Bd.returns] at h; cases h)
    refine ⟨_, _, pre3 _ ?_, hrun, hended, _, _, rfl, ?_, ⟨_, rfl⟩, hW, hsame.mono (by decide) (by decide)⟩
    · show Steps p.tables e below (s₁.setTop (mkF m 11 #[.val (.long q0), .second, .val (.long q1), .second] [(.long q1)])) _
      jvm_step X0.here [X0.here.top, hx, (hb hby d4_11), X0.method', Bd.returns, narrow]
      first | (intro acts; rw [hr _ acts rfl rfl rfl]) | rw [hr _ _ rfl rfl rfl]
      exact Steps.refl _
    · show Q4 Z q0 q1 h0 n0 _ s₁.heap _
      rw [e0]
      exact ⟨by unfold own_max; rw [if_pos hc3_2], N0, rfl⟩
  · have pre4 : ∀ t, Steps p.tables e below (s₁.setTop (mkF m 11 #[.val (.long q0), .second, .val (.long q1), .second] [(.long q0)])) t → Steps p.tables e below (s₁.setTop (entryFrame m #[(.long q0), (.long q1)] 4)) t := fun t k => pre1 t (by
      show Steps p.tables e below (s₁.setTop (mkF m 3 #[.val (.long q0), .second, .val (.long q1), .second] [(.int (lcmpW q0 q1))])) _
      refine XS.ifNo X0.here hx rfl (hb hby d4_3) rfl ((if0 _ _).trans (flt (fun q => hc3_2 ((lw_lt _ _).mp q))).1) ?_
      show Steps p.tables e below (s₁.setTop (mkF m 6 #[.val (.long q0), .second, .val (.long q1), .second] [])) _
      refine XS.lloadN X0.here hx rfl (hb hby d4_6) rfl ?_
      show Steps p.tables e below (s₁.setTop (mkF m 7 #[.val (.long q0), .second, .val (.long q1), .second] [(.long q0)])) _
      refine XS.goto X0.here hx rfl (pc0 := 7) (pc' := 11) rfl (hb hby d4_7) (by decide) (by decide) ?_
      exact k)
    obtain ⟨fs, hr, hrun, hended, hW, hsame⟩ := X0.leave (v := some (.long q0)) (fun h => by rw [Bd.returns] at h; cases h)
    refine ⟨_, _, pre4 _ ?_, hrun, hended, _, _, rfl, ?_, ⟨_, rfl⟩, hW, hsame.mono (by decide) (by decide)⟩
    · show Steps p.tables e below (s₁.setTop (mkF m 11 #[.val (.long q0), .second, .val (.long q1), .second] [(.long q0)])) _
      jvm_step X0.here [X0.here.top, hx, (hb hby d4_11), X0.method', Bd.returns, narrow]
      first | (intro acts; rw [hr _ acts rfl rfl rfl]) | rw [hr _ _ rfl rfl rfl]
      exact Steps.refl _
    · show Q4 Z q0 q1 h0 n0 _ s₁.heap _
      rw [e0]
      exact ⟨by unfold own_max; rw [if_neg hc3_2], N0, rfl⟩
theorem d3_0 : decode prog_35_method_2_code 0 = .ok (.aload_n 0, 1) := by decide +kernel
theorem d3_1 : decode prog_35_method_2_code 1 = .ok (.aload_n 0, 1) := by decide +kernel
theorem d3_2 : decode prog_35_method_2_code 2 = .ok (.getfield 11, 3) := by decide +kernel
theorem d3_5 : decode prog_35_method_2_code 5 = .ok (.lload_n 1, 1) := by decide +kernel
theorem pd_0 : parseMethodDescriptor "(JJ)J" = some ⟨[.long, .long], some .long⟩ := by decide +kernel
theorem d3_6 : decode prog_35_method_2_code 6 = .ok (.invokestatic 17, 3) := by decide +kernel
theorem d3_9 : decode prog_35_method_2_code 9 = .ok (.putfield 11, 3) := by decide +kernel
theorem d3_12 : decode prog_35_method_2_code 12 = .ok (.return_, 1) := by decide +kernel
theorem ef_3 (m : MethodId) (x0 : Addr) (x1 : Int64) : entryFrame m #[(.ref x0), (.long x1)] 3 = mkF m 0 #[.val (.ref x0), .val (.long x1), .second] [] := by first | (simp [entryFrame, mkF, argsToLocals, Value.category]; done) | rfl
def Q3 (Z : State) (o0 : Addr) (q1 : Int64) (u : Int64) (r : Int32) (h0 : Heap) (n0 : Nat) (v : Option Value) (h : Heap) (L : List Loc) : Prop := v = none ∧ Fr n0 L ∧ Keep h0 h [o0] ∧ Exa Z h o0 "com/example/sensor_access_indicators/sensoraccessindicators/ShownAccesses" ∧ Fld Z h o0 "com/example/sensor_access_indicators/sensoraccessindicators/ShownAccesses" "shownUntil" "J" (.long (own_max u q1)) ∧ Fld Z h o0 "com/example/sensor_access_indicators/sensoraccessindicators/ShownAccesses" "running" "I" (.int r)
set_option maxRecDepth 65536 in
set_option maxHeartbeats 40000000 in
theorem rm3 (l : Launch) (Z : State) (a0 : Array Value) (hw : ∀ d ∈ tables_1, d.before a0 Z = true) (ws : List Jvm.Cond) (o0 : Addr) (q1 : Int64) (u : Int64) (r : Int32) (h0 : Heap) (n0 : Nat) (Z0 : n0 ≤ h0.size) (F_shownUntil_o0 : Fld Z h0 o0 "com/example/sensor_access_indicators/sensoraccessindicators/ShownAccesses" "shownUntil" "J" (.long u)) (F_running_o0 : Fld Z h0 o0 "com/example/sensor_access_indicators/sensoraccessindicators/ShownAccesses" "running" "I" (.int r)) (E_o0 : Exa Z h0 o0 "com/example/sensor_access_indicators/sensoraccessindicators/ShownAccesses") (g_o0 : n0 ≤ o0) :
    MetFree l (⟨"com/example/sensor_access_indicators/sensoraccessindicators/ShownAccesses", "show", "(J)V"⟩ : MethodName) (head1 (Jvm.Cond.code (⟨"com/example/sensor_access_indicators/sensoraccessindicators/ShownAccesses", "show", "(J)V"⟩ : MethodName) prog_35_method_2_code 3 none :: ws) ({ frames := 1, cells := 0, slots := 0, locals := 16 } : Room)) (fun a U => a = #[(.ref o0), (.long q1)] ∧ Z.Warmed39 U.vm ∧ U.heap = h0) (fun _ _ _ _ _ => True) (fun _ U o U' => ∃ v L, o = .returned v ∧ Q3 Z o0 q1 u r h0 n0 v U'.heap L ∧ FrameEnd U o U' L ({ frames := 1, cells := 0, slots := 0, locals := 16 } : Room).cells ({ frames := 1, cells := 0, slots := 0, locals := 16 } : Room).slots) := by
  refine MetFree.of_bodySF (plainFor_of_name pn_0) hisR ?_
  intro p e s m args below meth c s₁ Bd hml0 hP hK
  obtain ⟨rfl, hZ, hh⟩ := hP
  have hx := Bd.exec
  have hby := Bd.bytes
  have hml : c.maxLocals = 3 := hml0
  have hown : s.vm.findClass "com/example/sensor_access_indicators/sensoraccessindicators/ShownAccesses" = some m.cls := findClass_of_methodNamed Bd.named
  have hnm := (name_of_methodNamed Bd.named Bd.method).1
  have X0 : Stand p l e ({ frames := 1, cells := 0, slots := 0, locals := 16 } : Room) s m #[(.ref o0), (.long q1)] below meth c s₁ [] 0 0 := Stand.of_body Bd
  have e0 : s₁.heap = h0 := by rw [← hh, Bd.state]; rfl
  have N0 := Fr.nil n0
  have pre0 : ∀ t, Steps p.tables e below (s₁.setTop (mkF m 0 #[.val (.ref o0), .val (.long q1), .second] [])) t → Steps p.tables e below (s₁.setTop (entryFrame m #[(.ref o0), (.long q1)] 3)) t := fun t k => castTop (ef_3 m o0 q1) k
  obtain ⟨T1, X1, e1, st1⟩ := getF X0 hx hZ hown (host := "") (Or.inl (hw _ (List.mem_of_getElem? (i := 10) rfl))) Via.refl e0 F_shownUntil_o0 (g := (mkF m 2 #[.val (.ref o0), .val (.long q1), .second] [(.ref o0), (.ref o0)])) rfl rfl (hb hby d3_2)
  obtain ⟨_, _, ⟨T2, L2, k2, n2⟩, -, X2, ⟨Lc2, hQ2, l2, y2, z2⟩, st2⟩ := Jvm.LawKit.callS X1 hx (y := (⟨"java/lang/Math", "max", "(JJ)J"⟩ : MethodName)) hown (mvT hZ (hw _ (List.mem_of_getElem? (i := 20) rfl))) (mvT hZ (hw _ (List.mem_of_getElem? (i := 21) rfl))) (mvT hZ (hw _ (List.mem_of_getElem? (i := 22) rfl))) (mvT hZ (hw _ (List.mem_of_getElem? (i := 23) rfl))) (by decide) (backOf (W := 1) (rm4 l Z a0 hw [] u q1 h0 n0 Z0 ) hZ (hw _ (List.mem_of_getElem? (i := 23) rfl)) (hw _ (List.mem_of_getElem? (i := 22) rfl)) (by decide) (by decide)) (g := (mkF m 6 #[.val (.ref o0), .val (.long q1), .second] [(.long q1), (.long u), (.ref o0)])) rfl (by rw [hml]; rfl) (argsL := [(.long u), (.long q1)]) (rest := [(.ref o0)]) (lenOf pd_0 rfl) rfl (by show 2 * 0 + _ ≤ _; exact Nat.le_of_eq rfl) (hb hby d3_6) (fun _ _ => ⟨rfl, e1, (by decide : 0 + 0 ≤ _), (by decide : 0 + 0 ≤ _)⟩)
  dsimp only [Pt.U, Pt.locs, Pt.cells, Pt.slots] at X2 l2 y2 z2 st2 hQ2
  subst l2 y2 z2
  obtain ⟨rfl, N2q, hh2⟩ := hQ2
  have N2 := Fr.app N0 N2q
  obtain ⟨T3, h3, X3, e3, W3, st3⟩ := putF X2 hx hZ hown (host := "") (Or.inl (hw _ (List.mem_of_getElem? (i := 10) rfl))) Via.refl hh2 F_shownUntil_o0 E_o0 (Or.inl (hw _ (List.mem_of_getElem? (i := 11) rfl))) (hw _ (List.mem_of_getElem? (i := 1) rfl)) (ty := .long) (by decide) rfl rfl (g := (mkF m 9 #[.val (.ref o0), .val (.long q1), .second] [(.long (own_max u q1)), (.ref o0)])) rfl rfl (hb hby d3_9)
  have Fw3 := F_shownUntil_o0.same W3
  have KK3 : Keep h0 h3 [o0] := (Keep.refl h0 [o0]).wr W3 (Or.inl (List.mem_of_getElem? (i := 0) rfl))
  have N3 := Fr.snoc X3 N2 g_o0
  have pre4 : ∀ t, Steps p.tables e below (T3.setTop (mkF m 12 #[.val (.ref o0), .val (.long q1), .second] [])) t → Steps p.tables e below (s₁.setTop (entryFrame m #[(.ref o0), (.long q1)] 3)) t := fun t k => pre0 t (by
    show Steps p.tables e below (s₁.setTop (mkF m 0 #[.val (.ref o0), .val (.long q1), .second] [])) _
    refine XS.aloadN X0.here hx rfl (hb hby d3_0) rfl rfl ?_
    show Steps p.tables e below (s₁.setTop (mkF m 1 #[.val (.ref o0), .val (.long q1), .second] [(.ref o0)])) _
    refine XS.aloadN X0.here hx rfl (hb hby d3_1) rfl rfl ?_
    show Steps p.tables e below (s₁.setTop (mkF m 2 #[.val (.ref o0), .val (.long q1), .second] [(.ref o0), (.ref o0)])) _
    refine st1 _ ?_
    show Steps p.tables e below (T1.setTop (mkF m 5 #[.val (.ref o0), .val (.long q1), .second] [(.long u), (.ref o0)])) _
    refine XS.lloadN X1.here hx rfl (hb hby d3_5) rfl ?_
    show Steps p.tables e below (T1.setTop (mkF m 6 #[.val (.ref o0), .val (.long q1), .second] [(.long q1), (.long u), (.ref o0)])) _
    refine st2 _ ?_
    show Steps p.tables e below (T2.setTop (mkF m 9 #[.val (.ref o0), .val (.long q1), .second] [(.long (own_max u q1)), (.ref o0)])) _
    refine st3 _ ?_
    exact k)
  obtain ⟨fs, hr, hrun, hended, hW, hsame⟩ := X3.leave (v := none) (fun _ => rfl)
  refine ⟨_, _, pre4 _ ?_, hrun, hended, _, _, rfl, ?_, ⟨_, rfl⟩, hW, hsame.mono (by decide) (by decide)⟩
  · exact X3.returnOut hx Bd.returns (hb hby d3_12) hr
  · show Q3 Z o0 q1 u r h0 n0 _ T3.heap _
    rw [e3]
    exact ⟨rfl, N3, KK3, (E_o0.wr W3), Fw3, (F_running_o0.other W3 (Or.inr (slot_ne (Or.inl (hw _ (List.mem_of_getElem? (i := 14) rfl))) (Or.inl (hw _ (List.mem_of_getElem? (i := 11) rfl))) (by decide) (t := .int) (t' := .long) (by decide) (by decide))))⟩
theorem d5_0 : decode prog_35_method_3_code 0 = .ok (.aload_n 0, 1) := by decide +kernel
theorem d5_1 : decode prog_35_method_3_code 1 = .ok (.getfield 23, 3) := by decide +kernel
theorem d5_4 : decode prog_35_method_3_code 4 = .ok (.ifCond .gt 12, 3) := by decide +kernel
theorem d5_16 : decode prog_35_method_3_code 16 = .ok (.iconst 1, 1) := by decide +kernel
theorem d5_17 : decode prog_35_method_3_code 17 = .ok (.goto 4, 3) := by decide +kernel
theorem d5_21 : decode prog_35_method_3_code 21 = .ok (.ireturn, 1) := by decide +kernel
theorem d5_7 : decode prog_35_method_3_code 7 = .ok (.aload_n 0, 1) := by decide +kernel
theorem d5_8 : decode prog_35_method_3_code 8 = .ok (.getfield 11, 3) := by decide +kernel
theorem d5_11 : decode prog_35_method_3_code 11 = .ok (.lload_n 1, 1) := by decide +kernel
theorem d5_12 : decode prog_35_method_3_code 12 = .ok (.lcmp, 1) := by decide +kernel
theorem d5_13 : decode prog_35_method_3_code 13 = .ok (.ifCond .le 7, 3) := by decide +kernel
theorem d5_20 : decode prog_35_method_3_code 20 = .ok (.iconst 0, 1) := by decide +kernel
theorem ef_5 (m : MethodId) (x0 : Addr) (x1 : Int64) : entryFrame m #[(.ref x0), (.long x1)] 3 = mkF m 0 #[.val (.ref x0), .val (.long x1), .second] [] := by first | (simp [entryFrame, mkF, argsToLocals, Value.category]; done) | rfl
def Q5 (Z : State) (o0 : Addr) (q1 : Int64) (u : Int64) (r : Int32) (h0 : Heap) (n0 : Nat) (v : Option Value) (h : Heap) (L : List Loc) : Prop := v = some (.int (if ((0 : Int32) < r ∨ q1 < u) then (1 : Int32) else 0)) ∧ Fr n0 L ∧ h = h0
set_option maxRecDepth 65536 in
set_option maxHeartbeats 40000000 in
theorem rm5 (l : Launch) (Z : State) (a0 : Array Value) (hw : ∀ d ∈ tables_1, d.before a0 Z = true) (ws : List Jvm.Cond) (o0 : Addr) (q1 : Int64) (u : Int64) (r : Int32) (h0 : Heap) (n0 : Nat) (Z0 : n0 ≤ h0.size) (F_shownUntil_o0 : Fld Z h0 o0 "com/example/sensor_access_indicators/sensoraccessindicators/ShownAccesses" "shownUntil" "J" (.long u)) (F_running_o0 : Fld Z h0 o0 "com/example/sensor_access_indicators/sensoraccessindicators/ShownAccesses" "running" "I" (.int r)) :
    MetFree l (⟨"com/example/sensor_access_indicators/sensoraccessindicators/ShownAccesses", "isShownAt", "(J)Z"⟩ : MethodName) (head1 (Jvm.Cond.code (⟨"com/example/sensor_access_indicators/sensoraccessindicators/ShownAccesses", "isShownAt", "(J)Z"⟩ : MethodName) prog_35_method_3_code 3 (some .boolean) :: ws) ({ frames := 0, cells := 0, slots := 0, locals := 0 } : Room)) (fun a U => a = #[(.ref o0), (.long q1)] ∧ Z.Warmed39 U.vm ∧ U.heap = h0) (fun _ _ _ _ _ => True) (fun _ U o U' => ∃ v L, o = .returned v ∧ Q5 Z o0 q1 u r h0 n0 v U'.heap L ∧ FrameEnd U o U' L ({ frames := 0, cells := 0, slots := 0, locals := 0 } : Room).cells ({ frames := 0, cells := 0, slots := 0, locals := 0 } : Room).slots) := by
  refine MetFree.of_bodySF (plainFor_of_name pn_0) hisR ?_
  intro p e s m args below meth c s₁ Bd hml0 hP hK
  obtain ⟨rfl, hZ, hh⟩ := hP
  have hx := Bd.exec
  have hby := Bd.bytes
  have hml : c.maxLocals = 3 := hml0
  have hown : s.vm.findClass "com/example/sensor_access_indicators/sensoraccessindicators/ShownAccesses" = some m.cls := findClass_of_methodNamed Bd.named
  have hnm := (name_of_methodNamed Bd.named Bd.method).1
  have X0 : Stand p l e ({ frames := 0, cells := 0, slots := 0, locals := 0 } : Room) s m #[(.ref o0), (.long q1)] below meth c s₁ [] 0 0 := Stand.of_body Bd
  have e0 : s₁.heap = h0 := by rw [← hh, Bd.state]; rfl
  have N0 := Fr.nil n0
  have pre0 : ∀ t, Steps p.tables e below (s₁.setTop (mkF m 0 #[.val (.ref o0), .val (.long q1), .second] [])) t → Steps p.tables e below (s₁.setTop (entryFrame m #[(.ref o0), (.long q1)] 3)) t := fun t k => castTop (ef_5 m o0 q1) k
  obtain ⟨T1, X1, e1, st1⟩ := getF X0 hx hZ hown (host := "") (Or.inl (hw _ (List.mem_of_getElem? (i := 29) rfl))) Via.refl e0 F_running_o0 (g := (mkF m 1 #[.val (.ref o0), .val (.long q1), .second] [(.ref o0)])) rfl rfl (hb hby d5_1)
  have pre2 : ∀ t, Steps p.tables e below (T1.setTop (mkF m 4 #[.val (.ref o0), .val (.long q1), .second] [(.int r)])) t → Steps p.tables e below (s₁.setTop (entryFrame m #[(.ref o0), (.long q1)] 3)) t := fun t k => pre0 t (by
    show Steps p.tables e below (s₁.setTop (mkF m 0 #[.val (.ref o0), .val (.long q1), .second] [])) _
    refine XS.aloadN X0.here hx rfl (hb hby d5_0) rfl rfl ?_
    show Steps p.tables e below (s₁.setTop (mkF m 1 #[.val (.ref o0), .val (.long q1), .second] [(.ref o0)])) _
    refine st1 _ ?_
    exact k)
  by_cases hc4_3 : (0 : Int32) < r
  · have pre4 : ∀ t, Steps p.tables e below (T1.setTop (mkF m 21 #[.val (.ref o0), .val (.long q1), .second] [(.int (1 : Int32))])) t → Steps p.tables e below (s₁.setTop (entryFrame m #[(.ref o0), (.long q1)] 3)) t := fun t k => pre2 t (by
      show Steps p.tables e below (T1.setTop (mkF m 4 #[.val (.ref o0), .val (.long q1), .second] [(.int r)])) _
      refine XS.ifYes X1.here hx rfl (pc0 := 4) (pc' := 16) rfl (hb hby d5_4) rfl ((if0 _ _).trans (tlt hc4_3).2.2.1) (by decide) (by decide) ?_
      show Steps p.tables e below (T1.setTop (mkF m 16 #[.val (.ref o0), .val (.long q1), .second] [])) _
      refine XS.iconst X1.here hx rfl (hb hby d5_16) ?_
      show Steps p.tables e below (T1.setTop (mkF m 17 #[.val (.ref o0), .val (.long q1), .second] [(.int (1 : Int32))])) _
      refine XS.goto X1.here hx rfl (pc0 := 17) (pc' := 21) rfl (hb hby d5_17) (by decide) (by decide) ?_
      exact k)
    obtain ⟨fs, hr, hrun, hended, hW, hsame⟩ := X1.leave (v := some (.int (1 : Int32))) (fun h => by rw [Bd.returns] at h; cases h)
    refine ⟨_, _, pre4 _ ?_, hrun, hended, _, _, rfl, ?_, ⟨_, rfl⟩, hW, hsame.mono (by decide) (by decide)⟩
    · exact retN X1 hx (t := .boolean) Bd.returns (by simp) (hb hby d5_21) hr
    · show Q5 Z o0 q1 u r h0 n0 _ T1.heap _
      rw [e1]
      exact ⟨own_t (by simp only [Int32.lt_iff_toInt_lt, Int64.lt_iff_toInt_lt, Int32.reduceToInt] at hc4_3 ⊢; omega), N0, rfl⟩
  · obtain ⟨T5, X5, e5, st5⟩ := getF X1 hx hZ hown (host := "") (Or.inl (hw _ (List.mem_of_getElem? (i := 10) rfl))) Via.refl e1 F_shownUntil_o0 (g := (mkF m 8 #[.val (.ref o0), .val (.long q1), .second] [(.ref o0)])) rfl rfl (hb hby d5_8)
    have pre6 : ∀ t, Steps p.tables e below (T5.setTop (mkF m 13 #[.val (.ref o0), .val (.long q1), .second] [(.int (lcmpW u q1))])) t → Steps p.tables e below (s₁.setTop (entryFrame m #[(.ref o0), (.long q1)] 3)) t := fun t k => pre2 t (by
      show Steps p.tables e below (T1.setTop (mkF m 4 #[.val (.ref o0), .val (.long q1), .second] [(.int r)])) _
      refine XS.ifNo X1.here hx rfl (hb hby d5_4) rfl ((if0 _ _).trans (flt hc4_3).2.2.1) ?_
      show Steps p.tables e below (T1.setTop (mkF m 7 #[.val (.ref o0), .val (.long q1), .second] [])) _
      refine XS.aloadN X1.here hx rfl (hb hby d5_7) rfl rfl ?_
      show Steps p.tables e below (T1.setTop (mkF m 8 #[.val (.ref o0), .val (.long q1), .second] [(.ref o0)])) _
      refine st5 _ ?_
      show Steps p.tables e below (T5.setTop (mkF m 11 #[.val (.ref o0), .val (.long q1), .second] [(.long u)])) _
      refine XS.lloadN X5.here hx rfl (hb hby d5_11) rfl ?_
      show Steps p.tables e below (T5.setTop (mkF m 12 #[.val (.ref o0), .val (.long q1), .second] [(.long q1), (.long u)])) _
      refine XS.lcmp X5.here hx rfl (hb hby d5_12) rfl ?_
      exact k)
    by_cases hc13_7 : q1 < u
    · have pre8 : ∀ t, Steps p.tables e below (T5.setTop (mkF m 21 #[.val (.ref o0), .val (.long q1), .second] [(.int (1 : Int32))])) t → Steps p.tables e below (s₁.setTop (entryFrame m #[(.ref o0), (.long q1)] 3)) t := fun t k => pre6 t (by
        show Steps p.tables e below (T5.setTop (mkF m 13 #[.val (.ref o0), .val (.long q1), .second] [(.int (lcmpW u q1))])) _
        refine XS.ifNo X5.here hx rfl (hb hby d5_13) rfl ((if0 _ _).trans (tlt ((lw_gt _ _).mpr hc13_7)).2.2.2) ?_
        show Steps p.tables e below (T5.setTop (mkF m 16 #[.val (.ref o0), .val (.long q1), .second] [])) _
        refine XS.iconst X5.here hx rfl (hb hby d5_16) ?_
        show Steps p.tables e below (T5.setTop (mkF m 17 #[.val (.ref o0), .val (.long q1), .second] [(.int (1 : Int32))])) _
        refine XS.goto X5.here hx rfl (pc0 := 17) (pc' := 21) rfl (hb hby d5_17) (by decide) (by decide) ?_
        exact k)
      obtain ⟨fs, hr, hrun, hended, hW, hsame⟩ := X5.leave (v := some (.int (1 : Int32))) (fun h => by rw [Bd.returns] at h; cases h)
      refine ⟨_, _, pre8 _ ?_, hrun, hended, _, _, rfl, ?_, ⟨_, rfl⟩, hW, hsame.mono (by decide) (by decide)⟩
      · exact retN X5 hx (t := .boolean) Bd.returns (by simp) (hb hby d5_21) hr
      · show Q5 Z o0 q1 u r h0 n0 _ T5.heap _
        rw [e5]
        exact ⟨own_t (by simp only [Int32.lt_iff_toInt_lt, Int64.lt_iff_toInt_lt, Int32.reduceToInt] at hc4_3 hc13_7 ⊢; omega), N0, rfl⟩
    · have pre9 : ∀ t, Steps p.tables e below (T5.setTop (mkF m 21 #[.val (.ref o0), .val (.long q1), .second] [(.int (0 : Int32))])) t → Steps p.tables e below (s₁.setTop (entryFrame m #[(.ref o0), (.long q1)] 3)) t := fun t k => pre6 t (by
        show Steps p.tables e below (T5.setTop (mkF m 13 #[.val (.ref o0), .val (.long q1), .second] [(.int (lcmpW u q1))])) _
        refine XS.ifYes X5.here hx rfl (pc0 := 13) (pc' := 20) rfl (hb hby d5_13) rfl ((if0 _ _).trans (flt (fun q => hc13_7 ((lw_gt _ _).mp q))).2.2.2) (by decide) (by decide) ?_
        show Steps p.tables e below (T5.setTop (mkF m 20 #[.val (.ref o0), .val (.long q1), .second] [])) _
        refine XS.iconst X5.here hx rfl (hb hby d5_20) ?_
        exact k)
      obtain ⟨fs, hr, hrun, hended, hW, hsame⟩ := X5.leave (v := some (.int (0 : Int32))) (fun h => by rw [Bd.returns] at h; cases h)
      refine ⟨_, _, pre9 _ ?_, hrun, hended, _, _, rfl, ?_, ⟨_, rfl⟩, hW, hsame.mono (by decide) (by decide)⟩
      · exact retN X5 hx (t := .boolean) Bd.returns (by simp) (hb hby d5_21) hr
      · show Q5 Z o0 q1 u r h0 n0 _ T5.heap _
        rw [e5]
        exact ⟨own_f (by simp only [Int32.lt_iff_toInt_lt, Int64.lt_iff_toInt_lt, Int32.reduceToInt] at hc4_3 hc13_7 ⊢; omega), N0, rfl⟩
theorem pn_1 : plainName "com/example/sensor_access_indicators/sensoraccessindicators/ShownAccessesIsShownAtPinLaw" = true := by first | (simp [plainName, overriddenIn]; done) | decide +kernel
theorem pd_1 : parseMethodDescriptor "()V" = some ⟨[], none⟩ := by decide +kernel
theorem pd_2 : parseMethodDescriptor "(J)Z" = some ⟨[.long], some .boolean⟩ := by decide +kernel
theorem pd_3 : parseMethodDescriptor "(J)V" = some ⟨[.long], none⟩ := by decide +kernel
theorem ef_0 (m : MethodId) (x0 : Int64) (x1 : Int64) (x2 : Int64) (x3 : Int32) (x4 : Int32) : entryFrame m #[(.long x0), (.long x1), (.long x2), (.int x3), (.int x4)] maxLocals = mkF m 0 #[.val (.long x0), .second, .val (.long x1), .second, .val (.long x2), .second, .val (.int x3), .val (.int x4), .unset, .unset, .unset, .unset] [] := by first | (simp [entryFrame, mkF, argsToLocals, Value.category, maxLocals]; done) | rfl
def Q0 (Z : State) (q0 : Int64) (q1 : Int64) (q2 : Int64) (p3 : Int32) (p4 : Int32) (h0 : Heap) (n0 : Nat) (v : Option Value) (h : Heap) (L : List Loc) : Prop := v = some (.int 1) ∧ Fr n0 L
set_option maxRecDepth 65536 in
set_option maxHeartbeats 40000000 in
theorem rm0 (l : Launch) (Z : State) (a0 : Array Value) (hw : ∀ d ∈ tables_1, d.before a0 Z = true) (ws : List Jvm.Cond) (q0 : Int64) (q1 : Int64) (q2 : Int64) (p3 : Int32) (p4 : Int32) (h0 : Heap) (n0 : Nat) (Z0 : n0 ≤ h0.size) :
    MetFree l x (head1 (Jvm.Cond.code x code maxLocals ret :: ws) room_1) (fun a U => a = #[(.long q0), (.long q1), (.long q2), (.int p3), (.int p4)] ∧ Z.Warmed39 U.vm ∧ U.heap = h0) (fun _ _ _ _ _ => True) (fun _ U o U' => ∃ v L, o = .returned v ∧ Q0 Z q0 q1 q2 p3 p4 h0 n0 v U'.heap L ∧ FrameEnd U o U' L room_1.cells room_1.slots) := by
  refine MetFree.of_bodySF (plainFor_of_name pn_1) hisR ?_
  intro p e s m args below meth c s₁ Bd hml0 hP hK
  obtain ⟨rfl, hZ, hh⟩ := hP
  have hx := Bd.exec
  have hby := Bd.bytes
  have hml : c.maxLocals = 12 := hml0
  have hown : s.vm.findClass "com/example/sensor_access_indicators/sensoraccessindicators/ShownAccessesIsShownAtPinLaw" = some m.cls := findClass_of_methodNamed Bd.named
  have hnm := (name_of_methodNamed Bd.named Bd.method).1
  have X0 : Stand p l e room_1 s m #[(.long q0), (.long q1), (.long q2), (.int p3), (.int p4)] below meth c s₁ [] 0 0 := Stand.of_body Bd
  have e0 : s₁.heap = h0 := by rw [← hh, Bd.state]; rfl
  have N0 := Fr.nil n0
  have pre0 : ∀ t, Steps p.tables e below (s₁.setTop (mkF m 0 #[.val (.long q0), .second, .val (.long q1), .second, .val (.long q2), .second, .val (.int p3), .val (.int p4), .unset, .unset, .unset, .unset] [])) t → Steps p.tables e below (s₁.setTop (entryFrame m #[(.long q0), (.long q1), (.long q2), (.int p3), (.int p4)] maxLocals)) t := fun t k => castTop (ef_0 m q0 q1 q2 p3 p4) k
  obtain ⟨T1, h1, X1, e1, E1, A1, D1, -, st1⟩ := newO X0 hx hZ hown (hw _ (List.mem_of_getElem? (i := 0) rfl)) (hw _ (List.mem_of_getElem? (i := 1) rfl)) (hw _ (List.mem_of_getElem? (i := 2) rfl)) e0 (g := (mkF m 0 #[.val (.long q0), .second, .val (.long q1), .second, .val (.long q2), .second, .val (.int p3), .val (.int p4), .unset, .unset, .unset, .unset] [])) rfl (hb hby at_0) (by decide) (by decide)
  obtain ⟨b1, g1⟩ : ∃ z, z = h0.size := ⟨_, rfl⟩
  rw [← g1] at A1 D1 st1
  have F_shownUntil_b1 : Fld Z h1 b1 "com/example/sensor_access_indicators/sensoraccessindicators/ShownAccesses" "shownUntil" "J" (.long (0 : Int64)) := D1 (Or.inl (hw _ (List.mem_of_getElem? (i := 11) rfl))) (ty := .long) (by decide)
  have F_running_b1 : Fld Z h1 b1 "com/example/sensor_access_indicators/sensoraccessindicators/ShownAccesses" "running" "I" (.int (0 : Int32)) := D1 (Or.inl (hw _ (List.mem_of_getElem? (i := 14) rfl))) (ty := .int) (by decide)
  have g_b1 : n0 ≤ b1 := Nat.le_trans Z0 (Nat.le_of_eq g1.symm)
  have sz_b1 : h0.size ≤ b1 := Nat.le_trans (Keep.refl h0 []).1 (Nat.le_of_eq g1.symm)
  have KK1 : Keep h0 h1 [] := (Keep.refl h0 []).ext E1
  obtain ⟨_, _, ⟨T2, L2, k2, n2⟩, -, X2, ⟨Lc2, hQ2, l2, y2, z2⟩, st2⟩ := X1.specialBack hx (y := (⟨"com/example/sensor_access_indicators/sensoraccessindicators/ShownAccesses", "<init>", "()V"⟩ : MethodName)) rfl hown (mvT hZ (hw _ (List.mem_of_getElem? (i := 3) rfl))) (mvT hZ (hw _ (List.mem_of_getElem? (i := 4) rfl))) (mvT hZ (hw _ (List.mem_of_getElem? (i := 5) rfl))) (by decide) (backOf (W := 1) (rm1 l Z a0 hw [] b1 (.long (0 : Int64)) (0 : Int32) h1 n0 (Nat.le_trans Z0 E1.1) F_shownUntil_b1 F_running_b1 A1 g_b1) hZ (hw _ (List.mem_of_getElem? (i := 5) rfl)) (hw _ (List.mem_of_getElem? (i := 2) rfl)) (by decide) (by decide)) (g := (mkF m 4 #[.val (.long q0), .second, .val (.long q1), .second, .val (.long q2), .second, .val (.int p3), .val (.int p4), .unset, .unset, .unset, .unset] [(.ref b1), (.ref b1)])) rfl (by rw [hml]; rfl) (Steps.refl _) (a := b1) (argsL := []) (rest := [(.ref b1)]) (lenOf pd_1 rfl) rfl (by show 2 * 0 + _ ≤ _; exact Nat.le_of_eq rfl) (hb hby at_4) (fun _ _ => ⟨rfl, e1, (by decide : 1 + 0 ≤ _), (by decide : 2 + 0 ≤ _)⟩)
  dsimp only [Pt.U, Pt.locs, Pt.cells, Pt.slots] at X2 l2 y2 z2 st2 hQ2
  subst l2 y2 z2
  obtain ⟨rfl, N2q, K2, P2_0, P2_1, P2_2⟩ := hQ2
  have N2 := Fr.app N0 N2q
  have KK2 : Keep h0 T2.heap [] := KK1.trans K2 (allS (Or.inr sz_b1) all0)
  obtain ⟨T3, h3, X3, e3, W3, st3⟩ := putF X2 hx hZ hown (host := "") (Or.inl (hw _ (List.mem_of_getElem? (i := 13) rfl))) Via.refl rfl P2_2 P2_0 (Or.inl (hw _ (List.mem_of_getElem? (i := 14) rfl))) (hw _ (List.mem_of_getElem? (i := 1) rfl)) (ty := .int) (by decide) rfl rfl (g := (mkF m 20 #[.val (.long q0), .second, .val (.long q1), .second, .val (.long q2), .second, .val (.int p3), .val (.int p4), .val (.ref b1), .val (.int (p3 &&& (2147483647 : Int32))), .unset, .unset] [(.int (p3 &&& (2147483647 : Int32))), (.ref b1)])) rfl rfl (hb hby at_20)
  have Fw3 := P2_2.same W3
  have KK3 : Keep h0 h3 [] := KK2.wr W3 (Or.inr sz_b1)
  have N3 := Fr.snoc X3 N2 g_b1
  have pre4 : ∀ t, Steps p.tables e below (T3.setTop (mkF m 32 #[.val (.long q0), .second, .val (.long q1), .second, .val (.long q2), .second, .val (.int p3), .val (.int p4), .val (.ref b1), .val (.int (p3 &&& (2147483647 : Int32))), .val (.int (p4 &&& (3 : Int32))), .unset] [(.int (1 : Int32)), (.int (p4 &&& (3 : Int32)))])) t → Steps p.tables e below (s₁.setTop (entryFrame m #[(.long q0), (.long q1), (.long q2), (.int p3), (.int p4)] maxLocals)) t := fun t k => pre0 t (by
    show Steps p.tables e below (s₁.setTop (mkF m 0 #[.val (.long q0), .second, .val (.long q1), .second, .val (.long q2), .second, .val (.int p3), .val (.int p4), .unset, .unset, .unset, .unset] [])) _
    refine st1 _ ?_
    show Steps p.tables e below (T1.setTop (mkF m 3 #[.val (.long q0), .second, .val (.long q1), .second, .val (.long q2), .second, .val (.int p3), .val (.int p4), .unset, .unset, .unset, .unset] [(.ref b1)])) _
    refine XS.dup X1.here hx rfl (hb hby at_3) rfl rfl ?_
    show Steps p.tables e below (T1.setTop (mkF m 4 #[.val (.long q0), .second, .val (.long q1), .second, .val (.long q2), .second, .val (.int p3), .val (.int p4), .unset, .unset, .unset, .unset] [(.ref b1), (.ref b1)])) _
    refine st2.trans ?_
    show Steps p.tables e below (T2.setTop (mkF m 7 #[.val (.long q0), .second, .val (.long q1), .second, .val (.long q2), .second, .val (.int p3), .val (.int p4), .unset, .unset, .unset, .unset] [(.ref b1)])) _
    refine XS.astore X2.here hx rfl (hb hby at_7) rfl rfl (l' := #[.val (.long q0), .second, .val (.long q1), .second, .val (.long q2), .second, .val (.int p3), .val (.int p4), .val (.ref b1), .unset, .unset, .unset]) rfl ?_
    show Steps p.tables e below (T2.setTop (mkF m 9 #[.val (.long q0), .second, .val (.long q1), .second, .val (.long q2), .second, .val (.int p3), .val (.int p4), .val (.ref b1), .unset, .unset, .unset] [])) _
    refine XS.iload X2.here hx rfl (hb hby at_9) rfl ?_
    show Steps p.tables e below (T2.setTop (mkF m 11 #[.val (.long q0), .second, .val (.long q1), .second, .val (.long q2), .second, .val (.int p3), .val (.int p4), .val (.ref b1), .unset, .unset, .unset] [(.int p3)])) _
    refine X2.ldcInt hx hown (mvT hZ (hw _ (List.mem_of_getElem? (i := 12) rfl))) (g := (mkF m 11 #[.val (.long q0), .second, .val (.long q1), .second, .val (.long q2), .second, .val (.int p3), .val (.int p4), .val (.ref b1), .unset, .unset, .unset] [(.int p3)])) rfl (hb hby at_11) _ ?_
    show Steps p.tables e below (T2.setTop (mkF m 13 #[.val (.long q0), .second, .val (.long q1), .second, .val (.long q2), .second, .val (.int p3), .val (.int p4), .val (.ref b1), .unset, .unset, .unset] [(.int (2147483647 : Int32)), (.int p3)])) _
    refine XS.iand X2.here hx rfl (hb hby at_13) rfl ?_
    show Steps p.tables e below (T2.setTop (mkF m 14 #[.val (.long q0), .second, .val (.long q1), .second, .val (.long q2), .second, .val (.int p3), .val (.int p4), .val (.ref b1), .unset, .unset, .unset] [(.int (p3 &&& (2147483647 : Int32)))])) _
    refine XS.istore X2.here hx rfl (hb hby at_14) rfl (l' := #[.val (.long q0), .second, .val (.long q1), .second, .val (.long q2), .second, .val (.int p3), .val (.int p4), .val (.ref b1), .val (.int (p3 &&& (2147483647 : Int32))), .unset, .unset]) rfl ?_
    show Steps p.tables e below (T2.setTop (mkF m 16 #[.val (.long q0), .second, .val (.long q1), .second, .val (.long q2), .second, .val (.int p3), .val (.int p4), .val (.ref b1), .val (.int (p3 &&& (2147483647 : Int32))), .unset, .unset] [])) _
    refine XS.aload X2.here hx rfl (hb hby at_16) rfl rfl ?_
    show Steps p.tables e below (T2.setTop (mkF m 18 #[.val (.long q0), .second, .val (.long q1), .second, .val (.long q2), .second, .val (.int p3), .val (.int p4), .val (.ref b1), .val (.int (p3 &&& (2147483647 : Int32))), .unset, .unset] [(.ref b1)])) _
    refine XS.iload X2.here hx rfl (hb hby at_18) rfl ?_
    show Steps p.tables e below (T2.setTop (mkF m 20 #[.val (.long q0), .second, .val (.long q1), .second, .val (.long q2), .second, .val (.int p3), .val (.int p4), .val (.ref b1), .val (.int (p3 &&& (2147483647 : Int32))), .unset, .unset] [(.int (p3 &&& (2147483647 : Int32))), (.ref b1)])) _
    refine st3 _ ?_
    show Steps p.tables e below (T3.setTop (mkF m 23 #[.val (.long q0), .second, .val (.long q1), .second, .val (.long q2), .second, .val (.int p3), .val (.int p4), .val (.ref b1), .val (.int (p3 &&& (2147483647 : Int32))), .unset, .unset] [])) _
    refine XS.iload X3.here hx rfl (hb hby at_23) rfl ?_
    show Steps p.tables e below (T3.setTop (mkF m 25 #[.val (.long q0), .second, .val (.long q1), .second, .val (.long q2), .second, .val (.int p3), .val (.int p4), .val (.ref b1), .val (.int (p3 &&& (2147483647 : Int32))), .unset, .unset] [(.int p4)])) _
    refine XS.iconst X3.here hx rfl (hb hby at_25) ?_
    show Steps p.tables e below (T3.setTop (mkF m 26 #[.val (.long q0), .second, .val (.long q1), .second, .val (.long q2), .second, .val (.int p3), .val (.int p4), .val (.ref b1), .val (.int (p3 &&& (2147483647 : Int32))), .unset, .unset] [(.int (3 : Int32)), (.int p4)])) _
    refine XS.iand X3.here hx rfl (hb hby at_26) rfl ?_
    show Steps p.tables e below (T3.setTop (mkF m 27 #[.val (.long q0), .second, .val (.long q1), .second, .val (.long q2), .second, .val (.int p3), .val (.int p4), .val (.ref b1), .val (.int (p3 &&& (2147483647 : Int32))), .unset, .unset] [(.int (p4 &&& (3 : Int32)))])) _
    refine XS.istore X3.here hx rfl (hb hby at_27) rfl (l' := #[.val (.long q0), .second, .val (.long q1), .second, .val (.long q2), .second, .val (.int p3), .val (.int p4), .val (.ref b1), .val (.int (p3 &&& (2147483647 : Int32))), .val (.int (p4 &&& (3 : Int32))), .unset]) rfl ?_
    show Steps p.tables e below (T3.setTop (mkF m 29 #[.val (.long q0), .second, .val (.long q1), .second, .val (.long q2), .second, .val (.int p3), .val (.int p4), .val (.ref b1), .val (.int (p3 &&& (2147483647 : Int32))), .val (.int (p4 &&& (3 : Int32))), .unset] [])) _
    refine XS.iload X3.here hx rfl (hb hby at_29) rfl ?_
    show Steps p.tables e below (T3.setTop (mkF m 31 #[.val (.long q0), .second, .val (.long q1), .second, .val (.long q2), .second, .val (.int p3), .val (.int p4), .val (.ref b1), .val (.int (p3 &&& (2147483647 : Int32))), .val (.int (p4 &&& (3 : Int32))), .unset] [(.int (p4 &&& (3 : Int32)))])) _
    refine XS.iconst X3.here hx rfl (hb hby at_31) ?_
    exact k)
  by_cases hc32_5 : (p4 &&& (3 : Int32)) < (1 : Int32)
  · have pre6 : ∀ t, Steps p.tables e below (T3.setTop (mkF m 44 #[.val (.long q0), .second, .val (.long q1), .second, .val (.long q2), .second, .val (.int p3), .val (.int p4), .val (.ref b1), .val (.int (p3 &&& (2147483647 : Int32))), .val (.int (p4 &&& (3 : Int32))), .unset] [(.int (2 : Int32)), (.int (p4 &&& (3 : Int32)))])) t → Steps p.tables e below (s₁.setTop (entryFrame m #[(.long q0), (.long q1), (.long q2), (.int p3), (.int p4)] maxLocals)) t := fun t k => pre4 t (by
      show Steps p.tables e below (T3.setTop (mkF m 32 #[.val (.long q0), .second, .val (.long q1), .second, .val (.long q2), .second, .val (.int p3), .val (.int p4), .val (.ref b1), .val (.int (p3 &&& (2147483647 : Int32))), .val (.int (p4 &&& (3 : Int32))), .unset] [(.int (1 : Int32)), (.int (p4 &&& (3 : Int32)))])) _
      refine XS.icmpYes X3.here hx rfl (pc0 := 32) (pc' := 41) rfl (hb hby at_32) rfl (tlt hc32_5).1 (by decide) (by decide) ?_
      show Steps p.tables e below (T3.setTop (mkF m 41 #[.val (.long q0), .second, .val (.long q1), .second, .val (.long q2), .second, .val (.int p3), .val (.int p4), .val (.ref b1), .val (.int (p3 &&& (2147483647 : Int32))), .val (.int (p4 &&& (3 : Int32))), .unset] [])) _
      refine XS.iload X3.here hx rfl (hb hby at_41) rfl ?_
      show Steps p.tables e below (T3.setTop (mkF m 43 #[.val (.long q0), .second, .val (.long q1), .second, .val (.long q2), .second, .val (.int p3), .val (.int p4), .val (.ref b1), .val (.int (p3 &&& (2147483647 : Int32))), .val (.int (p4 &&& (3 : Int32))), .unset] [(.int (p4 &&& (3 : Int32)))])) _
      refine XS.iconst X3.here hx rfl (hb hby at_43) ?_
      exact k)
    by_cases hc44_7 : (p4 &&& (3 : Int32)) < (2 : Int32)
    · have pre8 : ∀ t, Steps p.tables e below (T3.setTop (mkF m 55 #[.val (.long q0), .second, .val (.long q1), .second, .val (.long q2), .second, .val (.int p3), .val (.int p4), .val (.ref b1), .val (.int (p3 &&& (2147483647 : Int32))), .val (.int (p4 &&& (3 : Int32))), .unset] [(.int (p3 &&& (2147483647 : Int32)))])) t → Steps p.tables e below (s₁.setTop (entryFrame m #[(.long q0), (.long q1), (.long q2), (.int p3), (.int p4)] maxLocals)) t := fun t k => pre6 t (by
        show Steps p.tables e below (T3.setTop (mkF m 44 #[.val (.long q0), .second, .val (.long q1), .second, .val (.long q2), .second, .val (.int p3), .val (.int p4), .val (.ref b1), .val (.int (p3 &&& (2147483647 : Int32))), .val (.int (p4 &&& (3 : Int32))), .unset] [(.int (2 : Int32)), (.int (p4 &&& (3 : Int32)))])) _
        refine XS.icmpYes X3.here hx rfl (pc0 := 44) (pc' := 53) rfl (hb hby at_44) rfl (tlt hc44_7).1 (by decide) (by decide) ?_
        show Steps p.tables e below (T3.setTop (mkF m 53 #[.val (.long q0), .second, .val (.long q1), .second, .val (.long q2), .second, .val (.int p3), .val (.int p4), .val (.ref b1), .val (.int (p3 &&& (2147483647 : Int32))), .val (.int (p4 &&& (3 : Int32))), .unset] [])) _
        refine XS.iload X3.here hx rfl (hb hby at_53) rfl ?_
        exact k)
      by_cases hc55_9 : (0 : Int32) < (p3 &&& (2147483647 : Int32))
      · obtain ⟨cq10, kq10, q10a, q10b, q10c⟩ := isOf hZ e3 (P2_0.wr W3)
        obtain ⟨_, _, ⟨T10, L10, k10, n10⟩, -, X10, ⟨Lc10, hQ10, l10, y10, z10⟩, st10⟩ := X3.virtualBack hx (y := (⟨"com/example/sensor_access_indicators/sensoraccessindicators/ShownAccesses", "isShownAt", "(J)Z"⟩ : MethodName)) (z := (⟨"com/example/sensor_access_indicators/sensoraccessindicators/ShownAccesses", "isShownAt", "(J)Z"⟩ : MethodName)) hown (mvT hZ (hw _ (List.mem_of_getElem? (i := 24) rfl))) (mvT hZ (hw _ (List.mem_of_getElem? (i := 25) rfl))) (notFace_of_selects (args := #[]) (mvT hZ (hw _ (List.mem_of_getElem? (i := 27) rfl)))) (mvT hZ (hw _ (List.mem_of_getElem? (i := 27) rfl))) (mvT hZ (hw _ (List.mem_of_getElem? (i := 26) rfl))) (by decide) (backOf (W := 0) (rm5 l Z a0 hw [] b1 q2 (-9223372036854775808 : Int64) (p3 &&& (2147483647 : Int32)) h3 n0 (Nat.le_trans (Nat.le_trans (Nat.le_trans Z0 E1.1) K2.1) (Keep.of_wr W3).1) (P2_1.other W3 (Or.inr (slot_ne (Or.inl (hw _ (List.mem_of_getElem? (i := 11) rfl))) (Or.inl (hw _ (List.mem_of_getElem? (i := 14) rfl))) (by decide) (t := .long) (t' := .int) (by decide) (by decide)))) Fw3) hZ (hw _ (List.mem_of_getElem? (i := 28) rfl)) (hw _ (List.mem_of_getElem? (i := 2) rfl)) (by decide) (by decide)) q10a q10c (g := (mkF m 95 #[.val (.long q0), .second, .val (.long q1), .second, .val (.long q2), .second, .val (.int p3), .val (.int p4), .val (.ref b1), .val (.int (p3 &&& (2147483647 : Int32))), .val (.int (p4 &&& (3 : Int32))), .val (.int (1 : Int32))] [(.long q2), (.ref b1)])) rfl (by rw [hml]; rfl) (Steps.refl _) (argsL := [(.long q2)]) (rest := []) (lenOf pd_2 rfl) rfl (by show 2 * 0 + _ ≤ _; exact Nat.le_of_eq rfl) (hb hby at_95) (fun _ _ => ⟨rfl, e3, (by decide : 1 + 0 ≤ _), (by decide : 2 + 0 ≤ _)⟩)
        dsimp only [Pt.U, Pt.locs, Pt.cells, Pt.slots] at X10 l10 y10 z10 st10 hQ10
        subst l10 y10 z10
        obtain ⟨rfl, N10q, hh10⟩ := hQ10
        have N10 := Fr.app N3 N10q
        have pre11 : ∀ t, Steps p.tables e below (T10.setTop (mkF m 100 #[.val (.long q0), .second, .val (.long q1), .second, .val (.long q2), .second, .val (.int p3), .val (.int p4), .val (.ref b1), .val (.int (p3 &&& (2147483647 : Int32))), .val (.int (p4 &&& (3 : Int32))), .val (.int (1 : Int32))] [(.int (1 : Int32)), (.int (if ((0 : Int32) < (p3 &&& (2147483647 : Int32)) ∨ q2 < (-9223372036854775808 : Int64)) then (1 : Int32) else 0))])) t → Steps p.tables e below (s₁.setTop (entryFrame m #[(.long q0), (.long q1), (.long q2), (.int p3), (.int p4)] maxLocals)) t := fun t k => pre8 t (by
          show Steps p.tables e below (T3.setTop (mkF m 55 #[.val (.long q0), .second, .val (.long q1), .second, .val (.long q2), .second, .val (.int p3), .val (.int p4), .val (.ref b1), .val (.int (p3 &&& (2147483647 : Int32))), .val (.int (p4 &&& (3 : Int32))), .unset] [(.int (p3 &&& (2147483647 : Int32)))])) _
          refine XS.ifYes X3.here hx rfl (pc0 := 55) (pc' := 84) rfl (hb hby at_55) rfl ((if0 _ _).trans (tlt hc55_9).2.2.1) (by decide) (by decide) ?_
          show Steps p.tables e below (T3.setTop (mkF m 84 #[.val (.long q0), .second, .val (.long q1), .second, .val (.long q2), .second, .val (.int p3), .val (.int p4), .val (.ref b1), .val (.int (p3 &&& (2147483647 : Int32))), .val (.int (p4 &&& (3 : Int32))), .unset] [])) _
          refine XS.iconst X3.here hx rfl (hb hby at_84) ?_
          show Steps p.tables e below (T3.setTop (mkF m 85 #[.val (.long q0), .second, .val (.long q1), .second, .val (.long q2), .second, .val (.int p3), .val (.int p4), .val (.ref b1), .val (.int (p3 &&& (2147483647 : Int32))), .val (.int (p4 &&& (3 : Int32))), .unset] [(.int (1 : Int32))])) _
          refine XS.goto X3.here hx rfl (pc0 := 85) (pc' := 89) rfl (hb hby at_85) (by decide) (by decide) ?_
          show Steps p.tables e below (T3.setTop (mkF m 89 #[.val (.long q0), .second, .val (.long q1), .second, .val (.long q2), .second, .val (.int p3), .val (.int p4), .val (.ref b1), .val (.int (p3 &&& (2147483647 : Int32))), .val (.int (p4 &&& (3 : Int32))), .unset] [(.int (1 : Int32))])) _
          refine XS.istore X3.here hx rfl (hb hby at_89) rfl (l' := #[.val (.long q0), .second, .val (.long q1), .second, .val (.long q2), .second, .val (.int p3), .val (.int p4), .val (.ref b1), .val (.int (p3 &&& (2147483647 : Int32))), .val (.int (p4 &&& (3 : Int32))), .val (.int (1 : Int32))]) rfl ?_
          show Steps p.tables e below (T3.setTop (mkF m 91 #[.val (.long q0), .second, .val (.long q1), .second, .val (.long q2), .second, .val (.int p3), .val (.int p4), .val (.ref b1), .val (.int (p3 &&& (2147483647 : Int32))), .val (.int (p4 &&& (3 : Int32))), .val (.int (1 : Int32))] [])) _
          refine XS.aload X3.here hx rfl (hb hby at_91) rfl rfl ?_
          show Steps p.tables e below (T3.setTop (mkF m 93 #[.val (.long q0), .second, .val (.long q1), .second, .val (.long q2), .second, .val (.int p3), .val (.int p4), .val (.ref b1), .val (.int (p3 &&& (2147483647 : Int32))), .val (.int (p4 &&& (3 : Int32))), .val (.int (1 : Int32))] [(.ref b1)])) _
          refine XS.lload X3.here hx rfl (hb hby at_93) rfl ?_
          show Steps p.tables e below (T3.setTop (mkF m 95 #[.val (.long q0), .second, .val (.long q1), .second, .val (.long q2), .second, .val (.int p3), .val (.int p4), .val (.ref b1), .val (.int (p3 &&& (2147483647 : Int32))), .val (.int (p4 &&& (3 : Int32))), .val (.int (1 : Int32))] [(.long q2), (.ref b1)])) _
          refine st10.trans ?_
          show Steps p.tables e below (T10.setTop (mkF m 98 #[.val (.long q0), .second, .val (.long q1), .second, .val (.long q2), .second, .val (.int p3), .val (.int p4), .val (.ref b1), .val (.int (p3 &&& (2147483647 : Int32))), .val (.int (p4 &&& (3 : Int32))), .val (.int (1 : Int32))] [(.int (if ((0 : Int32) < (p3 &&& (2147483647 : Int32)) ∨ q2 < (-9223372036854775808 : Int64)) then (1 : Int32) else 0))])) _
          refine XS.iload X10.here hx rfl (hb hby at_98) rfl ?_
          exact k)
        by_cases hc100_12 : ((0 : Int32) < (p3 &&& (2147483647 : Int32)) ∨ q2 < (-9223372036854775808 : Int64))
        · have pre13 : ∀ t, Steps p.tables e below (T10.setTop (mkF m 108 #[.val (.long q0), .second, .val (.long q1), .second, .val (.long q2), .second, .val (.int p3), .val (.int p4), .val (.ref b1), .val (.int (p3 &&& (2147483647 : Int32))), .val (.int (p4 &&& (3 : Int32))), .val (.int (1 : Int32))] [(.int (1 : Int32))])) t → Steps p.tables e below (s₁.setTop (entryFrame m #[(.long q0), (.long q1), (.long q2), (.int p3), (.int p4)] maxLocals)) t := fun t k => pre11 t (by
            show Steps p.tables e below (T10.setTop (mkF m 100 #[.val (.long q0), .second, .val (.long q1), .second, .val (.long q2), .second, .val (.int p3), .val (.int p4), .val (.ref b1), .val (.int (p3 &&& (2147483647 : Int32))), .val (.int (p4 &&& (3 : Int32))), .val (.int (1 : Int32))] [(.int (1 : Int32)), (.int (if ((0 : Int32) < (p3 &&& (2147483647 : Int32)) ∨ q2 < (-9223372036854775808 : Int64)) then (1 : Int32) else 0))])) _
            refine XS.icmpNo X10.here hx rfl (hb hby at_100) rfl (teq (own_c1 hc100_12)).2 ?_
            show Steps p.tables e below (T10.setTop (mkF m 103 #[.val (.long q0), .second, .val (.long q1), .second, .val (.long q2), .second, .val (.int p3), .val (.int p4), .val (.ref b1), .val (.int (p3 &&& (2147483647 : Int32))), .val (.int (p4 &&& (3 : Int32))), .val (.int (1 : Int32))] [])) _
            refine XS.iconst X10.here hx rfl (hb hby at_103) ?_
            show Steps p.tables e below (T10.setTop (mkF m 104 #[.val (.long q0), .second, .val (.long q1), .second, .val (.long q2), .second, .val (.int p3), .val (.int p4), .val (.ref b1), .val (.int (p3 &&& (2147483647 : Int32))), .val (.int (p4 &&& (3 : Int32))), .val (.int (1 : Int32))] [(.int (1 : Int32))])) _
            refine XS.goto X10.here hx rfl (pc0 := 104) (pc' := 108) rfl (hb hby at_104) (by decide) (by decide) ?_
            exact k)
          obtain ⟨fs, hr, hrun, hended, hW, hsame⟩ := X10.leave (v := some (.int (1 : Int32))) (fun h => by rw [Bd.returns] at h; cases h)
          refine ⟨_, _, pre13 _ ?_, hrun, hended, _, _, rfl, ?_, ⟨_, rfl⟩, hW, hsame.mono (by decide) (by decide)⟩
          · exact retN X10 hx (t := .boolean) Bd.returns (by simp) (hb hby at_108) hr
          · show Q0 Z q0 q1 q2 p3 p4 h0 n0 _ T10.heap _
            rw [hh10]
            exact ⟨rfl, N10⟩
        · have pre14 : ∀ t, Steps p.tables e below (T10.setTop (mkF m 108 #[.val (.long q0), .second, .val (.long q1), .second, .val (.long q2), .second, .val (.int p3), .val (.int p4), .val (.ref b1), .val (.int (p3 &&& (2147483647 : Int32))), .val (.int (p4 &&& (3 : Int32))), .val (.int (1 : Int32))] [(.int (0 : Int32))])) t → Steps p.tables e below (s₁.setTop (entryFrame m #[(.long q0), (.long q1), (.long q2), (.int p3), (.int p4)] maxLocals)) t := fun t k => pre11 t (by
            show Steps p.tables e below (T10.setTop (mkF m 100 #[.val (.long q0), .second, .val (.long q1), .second, .val (.long q2), .second, .val (.int p3), .val (.int p4), .val (.ref b1), .val (.int (p3 &&& (2147483647 : Int32))), .val (.int (p4 &&& (3 : Int32))), .val (.int (1 : Int32))] [(.int (1 : Int32)), (.int (if ((0 : Int32) < (p3 &&& (2147483647 : Int32)) ∨ q2 < (-9223372036854775808 : Int64)) then (1 : Int32) else 0))])) _
            refine XS.icmpYes X10.here hx rfl (pc0 := 100) (pc' := 107) rfl (hb hby at_100) rfl (feq (own_c0 hc100_12)).2 (by decide) (by decide) ?_
            show Steps p.tables e below (T10.setTop (mkF m 107 #[.val (.long q0), .second, .val (.long q1), .second, .val (.long q2), .second, .val (.int p3), .val (.int p4), .val (.ref b1), .val (.int (p3 &&& (2147483647 : Int32))), .val (.int (p4 &&& (3 : Int32))), .val (.int (1 : Int32))] [])) _
            refine XS.iconst X10.here hx rfl (hb hby at_107) ?_
            exact k)
          obtain ⟨fs, hr, hrun, hended, hW, hsame⟩ := X10.leave (v := some (.int (0 : Int32))) (fun h => by rw [Bd.returns] at h; cases h)
          refine ⟨_, _, pre14 _ ?_, hrun, hended, _, _, rfl, ?_, ⟨_, rfl⟩, hW, hsame.mono (by decide) (by decide)⟩
          · exact retN X10 hx (t := .boolean) Bd.returns (by simp) (hb hby at_108) hr
          · show Q0 Z q0 q1 q2 p3 p4 h0 n0 _ T10.heap _
            rw [hh10]
            exfalso
            simp only [own_max_toInt, Int32.lt_iff_toInt_lt, Int64.lt_iff_toInt_lt, Int32.reduceToInt, Int64.reduceToInt] at hc32_5 hc44_7 hc55_9 hc100_12
            have r0 := rng64 q0
            have r1 := rng64 q1
            have r2 := rng64 q2
            omega
      · obtain ⟨cq15, kq15, q15a, q15b, q15c⟩ := isOf hZ e3 (P2_0.wr W3)
        obtain ⟨_, _, ⟨T15, L15, k15, n15⟩, -, X15, ⟨Lc15, hQ15, l15, y15, z15⟩, st15⟩ := X3.virtualBack hx (y := (⟨"com/example/sensor_access_indicators/sensoraccessindicators/ShownAccesses", "isShownAt", "(J)Z"⟩ : MethodName)) (z := (⟨"com/example/sensor_access_indicators/sensoraccessindicators/ShownAccesses", "isShownAt", "(J)Z"⟩ : MethodName)) hown (mvT hZ (hw _ (List.mem_of_getElem? (i := 24) rfl))) (mvT hZ (hw _ (List.mem_of_getElem? (i := 25) rfl))) (notFace_of_selects (args := #[]) (mvT hZ (hw _ (List.mem_of_getElem? (i := 27) rfl)))) (mvT hZ (hw _ (List.mem_of_getElem? (i := 27) rfl))) (mvT hZ (hw _ (List.mem_of_getElem? (i := 26) rfl))) (by decide) (backOf (W := 0) (rm5 l Z a0 hw [] b1 q2 (-9223372036854775808 : Int64) (p3 &&& (2147483647 : Int32)) h3 n0 (Nat.le_trans (Nat.le_trans (Nat.le_trans Z0 E1.1) K2.1) (Keep.of_wr W3).1) (P2_1.other W3 (Or.inr (slot_ne (Or.inl (hw _ (List.mem_of_getElem? (i := 11) rfl))) (Or.inl (hw _ (List.mem_of_getElem? (i := 14) rfl))) (by decide) (t := .long) (t' := .int) (by decide) (by decide)))) Fw3) hZ (hw _ (List.mem_of_getElem? (i := 28) rfl)) (hw _ (List.mem_of_getElem? (i := 2) rfl)) (by decide) (by decide)) q15a q15c (g := (mkF m 95 #[.val (.long q0), .second, .val (.long q1), .second, .val (.long q2), .second, .val (.int p3), .val (.int p4), .val (.ref b1), .val (.int (p3 &&& (2147483647 : Int32))), .val (.int (p4 &&& (3 : Int32))), .val (.int (0 : Int32))] [(.long q2), (.ref b1)])) rfl (by rw [hml]; rfl) (Steps.refl _) (argsL := [(.long q2)]) (rest := []) (lenOf pd_2 rfl) rfl (by show 2 * 0 + _ ≤ _; exact Nat.le_of_eq rfl) (hb hby at_95) (fun _ _ => ⟨rfl, e3, (by decide : 1 + 0 ≤ _), (by decide : 2 + 0 ≤ _)⟩)
        dsimp only [Pt.U, Pt.locs, Pt.cells, Pt.slots] at X15 l15 y15 z15 st15 hQ15
        subst l15 y15 z15
        obtain ⟨rfl, N15q, hh15⟩ := hQ15
        have N15 := Fr.app N3 N15q
        have pre16 : ∀ t, Steps p.tables e below (T15.setTop (mkF m 100 #[.val (.long q0), .second, .val (.long q1), .second, .val (.long q2), .second, .val (.int p3), .val (.int p4), .val (.ref b1), .val (.int (p3 &&& (2147483647 : Int32))), .val (.int (p4 &&& (3 : Int32))), .val (.int (0 : Int32))] [(.int (0 : Int32)), (.int (if ((0 : Int32) < (p3 &&& (2147483647 : Int32)) ∨ q2 < (-9223372036854775808 : Int64)) then (1 : Int32) else 0))])) t → Steps p.tables e below (s₁.setTop (entryFrame m #[(.long q0), (.long q1), (.long q2), (.int p3), (.int p4)] maxLocals)) t := fun t k => pre8 t (by
          show Steps p.tables e below (T3.setTop (mkF m 55 #[.val (.long q0), .second, .val (.long q1), .second, .val (.long q2), .second, .val (.int p3), .val (.int p4), .val (.ref b1), .val (.int (p3 &&& (2147483647 : Int32))), .val (.int (p4 &&& (3 : Int32))), .unset] [(.int (p3 &&& (2147483647 : Int32)))])) _
          refine XS.ifNo X3.here hx rfl (hb hby at_55) rfl ((if0 _ _).trans (flt hc55_9).2.2.1) ?_
          show Steps p.tables e below (T3.setTop (mkF m 58 #[.val (.long q0), .second, .val (.long q1), .second, .val (.long q2), .second, .val (.int p3), .val (.int p4), .val (.ref b1), .val (.int (p3 &&& (2147483647 : Int32))), .val (.int (p4 &&& (3 : Int32))), .unset] [])) _
          refine XS.iload X3.here hx rfl (hb hby at_58) rfl ?_
          show Steps p.tables e below (T3.setTop (mkF m 60 #[.val (.long q0), .second, .val (.long q1), .second, .val (.long q2), .second, .val (.int p3), .val (.int p4), .val (.ref b1), .val (.int (p3 &&& (2147483647 : Int32))), .val (.int (p4 &&& (3 : Int32))), .unset] [(.int (p4 &&& (3 : Int32)))])) _
          refine XS.iconst X3.here hx rfl (hb hby at_60) ?_
          show Steps p.tables e below (T3.setTop (mkF m 61 #[.val (.long q0), .second, .val (.long q1), .second, .val (.long q2), .second, .val (.int p3), .val (.int p4), .val (.ref b1), .val (.int (p3 &&& (2147483647 : Int32))), .val (.int (p4 &&& (3 : Int32))), .unset] [(.int (1 : Int32)), (.int (p4 &&& (3 : Int32)))])) _
          refine XS.icmpYes X3.here hx rfl (pc0 := 61) (pc' := 71) rfl (hb hby at_61) rfl (tlt hc32_5).1 (by decide) (by decide) ?_
          show Steps p.tables e below (T3.setTop (mkF m 71 #[.val (.long q0), .second, .val (.long q1), .second, .val (.long q2), .second, .val (.int p3), .val (.int p4), .val (.ref b1), .val (.int (p3 &&& (2147483647 : Int32))), .val (.int (p4 &&& (3 : Int32))), .unset] [])) _
          refine XS.iload X3.here hx rfl (hb hby at_71) rfl ?_
          show Steps p.tables e below (T3.setTop (mkF m 73 #[.val (.long q0), .second, .val (.long q1), .second, .val (.long q2), .second, .val (.int p3), .val (.int p4), .val (.ref b1), .val (.int (p3 &&& (2147483647 : Int32))), .val (.int (p4 &&& (3 : Int32))), .unset] [(.int (p4 &&& (3 : Int32)))])) _
          refine XS.iconst X3.here hx rfl (hb hby at_73) ?_
          show Steps p.tables e below (T3.setTop (mkF m 74 #[.val (.long q0), .second, .val (.long q1), .second, .val (.long q2), .second, .val (.int p3), .val (.int p4), .val (.ref b1), .val (.int (p3 &&& (2147483647 : Int32))), .val (.int (p4 &&& (3 : Int32))), .unset] [(.int (2 : Int32)), (.int (p4 &&& (3 : Int32)))])) _
          refine XS.icmpYes X3.here hx rfl (pc0 := 74) (pc' := 88) rfl (hb hby at_74) rfl (tlt hc44_7).1 (by decide) (by decide) ?_
          show Steps p.tables e below (T3.setTop (mkF m 88 #[.val (.long q0), .second, .val (.long q1), .second, .val (.long q2), .second, .val (.int p3), .val (.int p4), .val (.ref b1), .val (.int (p3 &&& (2147483647 : Int32))), .val (.int (p4 &&& (3 : Int32))), .unset] [])) _
          refine XS.iconst X3.here hx rfl (hb hby at_88) ?_
          show Steps p.tables e below (T3.setTop (mkF m 89 #[.val (.long q0), .second, .val (.long q1), .second, .val (.long q2), .second, .val (.int p3), .val (.int p4), .val (.ref b1), .val (.int (p3 &&& (2147483647 : Int32))), .val (.int (p4 &&& (3 : Int32))), .unset] [(.int (0 : Int32))])) _
          refine XS.istore X3.here hx rfl (hb hby at_89) rfl (l' := #[.val (.long q0), .second, .val (.long q1), .second, .val (.long q2), .second, .val (.int p3), .val (.int p4), .val (.ref b1), .val (.int (p3 &&& (2147483647 : Int32))), .val (.int (p4 &&& (3 : Int32))), .val (.int (0 : Int32))]) rfl ?_
          show Steps p.tables e below (T3.setTop (mkF m 91 #[.val (.long q0), .second, .val (.long q1), .second, .val (.long q2), .second, .val (.int p3), .val (.int p4), .val (.ref b1), .val (.int (p3 &&& (2147483647 : Int32))), .val (.int (p4 &&& (3 : Int32))), .val (.int (0 : Int32))] [])) _
          refine XS.aload X3.here hx rfl (hb hby at_91) rfl rfl ?_
          show Steps p.tables e below (T3.setTop (mkF m 93 #[.val (.long q0), .second, .val (.long q1), .second, .val (.long q2), .second, .val (.int p3), .val (.int p4), .val (.ref b1), .val (.int (p3 &&& (2147483647 : Int32))), .val (.int (p4 &&& (3 : Int32))), .val (.int (0 : Int32))] [(.ref b1)])) _
          refine XS.lload X3.here hx rfl (hb hby at_93) rfl ?_
          show Steps p.tables e below (T3.setTop (mkF m 95 #[.val (.long q0), .second, .val (.long q1), .second, .val (.long q2), .second, .val (.int p3), .val (.int p4), .val (.ref b1), .val (.int (p3 &&& (2147483647 : Int32))), .val (.int (p4 &&& (3 : Int32))), .val (.int (0 : Int32))] [(.long q2), (.ref b1)])) _
          refine st15.trans ?_
          show Steps p.tables e below (T15.setTop (mkF m 98 #[.val (.long q0), .second, .val (.long q1), .second, .val (.long q2), .second, .val (.int p3), .val (.int p4), .val (.ref b1), .val (.int (p3 &&& (2147483647 : Int32))), .val (.int (p4 &&& (3 : Int32))), .val (.int (0 : Int32))] [(.int (if ((0 : Int32) < (p3 &&& (2147483647 : Int32)) ∨ q2 < (-9223372036854775808 : Int64)) then (1 : Int32) else 0))])) _
          refine XS.iload X15.here hx rfl (hb hby at_98) rfl ?_
          exact k)
        by_cases hc100_17 : ((0 : Int32) < (p3 &&& (2147483647 : Int32)) ∨ q2 < (-9223372036854775808 : Int64))
        · have pre18 : ∀ t, Steps p.tables e below (T15.setTop (mkF m 108 #[.val (.long q0), .second, .val (.long q1), .second, .val (.long q2), .second, .val (.int p3), .val (.int p4), .val (.ref b1), .val (.int (p3 &&& (2147483647 : Int32))), .val (.int (p4 &&& (3 : Int32))), .val (.int (0 : Int32))] [(.int (0 : Int32))])) t → Steps p.tables e below (s₁.setTop (entryFrame m #[(.long q0), (.long q1), (.long q2), (.int p3), (.int p4)] maxLocals)) t := fun t k => pre16 t (by
            show Steps p.tables e below (T15.setTop (mkF m 100 #[.val (.long q0), .second, .val (.long q1), .second, .val (.long q2), .second, .val (.int p3), .val (.int p4), .val (.ref b1), .val (.int (p3 &&& (2147483647 : Int32))), .val (.int (p4 &&& (3 : Int32))), .val (.int (0 : Int32))] [(.int (0 : Int32)), (.int (if ((0 : Int32) < (p3 &&& (2147483647 : Int32)) ∨ q2 < (-9223372036854775808 : Int64)) then (1 : Int32) else 0))])) _
            refine XS.icmpYes X15.here hx rfl (pc0 := 100) (pc' := 107) rfl (hb hby at_100) rfl (feq (own_b1 hc100_17)).2 (by decide) (by decide) ?_
            show Steps p.tables e below (T15.setTop (mkF m 107 #[.val (.long q0), .second, .val (.long q1), .second, .val (.long q2), .second, .val (.int p3), .val (.int p4), .val (.ref b1), .val (.int (p3 &&& (2147483647 : Int32))), .val (.int (p4 &&& (3 : Int32))), .val (.int (0 : Int32))] [])) _
            refine XS.iconst X15.here hx rfl (hb hby at_107) ?_
            exact k)
          obtain ⟨fs, hr, hrun, hended, hW, hsame⟩ := X15.leave (v := some (.int (0 : Int32))) (fun h => by rw [Bd.returns] at h; cases h)
          refine ⟨_, _, pre18 _ ?_, hrun, hended, _, _, rfl, ?_, ⟨_, rfl⟩, hW, hsame.mono (by decide) (by decide)⟩
          · exact retN X15 hx (t := .boolean) Bd.returns (by simp) (hb hby at_108) hr
          · show Q0 Z q0 q1 q2 p3 p4 h0 n0 _ T15.heap _
            rw [hh15]
            exfalso
            simp only [own_max_toInt, Int32.lt_iff_toInt_lt, Int64.lt_iff_toInt_lt, Int32.reduceToInt, Int64.reduceToInt] at hc32_5 hc44_7 hc55_9 hc100_17
            have r0 := rng64 q0
            have r1 := rng64 q1
            have r2 := rng64 q2
            omega
        · have pre19 : ∀ t, Steps p.tables e below (T15.setTop (mkF m 108 #[.val (.long q0), .second, .val (.long q1), .second, .val (.long q2), .second, .val (.int p3), .val (.int p4), .val (.ref b1), .val (.int (p3 &&& (2147483647 : Int32))), .val (.int (p4 &&& (3 : Int32))), .val (.int (0 : Int32))] [(.int (1 : Int32))])) t → Steps p.tables e below (s₁.setTop (entryFrame m #[(.long q0), (.long q1), (.long q2), (.int p3), (.int p4)] maxLocals)) t := fun t k => pre16 t (by
            show Steps p.tables e below (T15.setTop (mkF m 100 #[.val (.long q0), .second, .val (.long q1), .second, .val (.long q2), .second, .val (.int p3), .val (.int p4), .val (.ref b1), .val (.int (p3 &&& (2147483647 : Int32))), .val (.int (p4 &&& (3 : Int32))), .val (.int (0 : Int32))] [(.int (0 : Int32)), (.int (if ((0 : Int32) < (p3 &&& (2147483647 : Int32)) ∨ q2 < (-9223372036854775808 : Int64)) then (1 : Int32) else 0))])) _
            refine XS.icmpNo X15.here hx rfl (hb hby at_100) rfl (teq (own_b0 hc100_17)).2 ?_
            show Steps p.tables e below (T15.setTop (mkF m 103 #[.val (.long q0), .second, .val (.long q1), .second, .val (.long q2), .second, .val (.int p3), .val (.int p4), .val (.ref b1), .val (.int (p3 &&& (2147483647 : Int32))), .val (.int (p4 &&& (3 : Int32))), .val (.int (0 : Int32))] [])) _
            refine XS.iconst X15.here hx rfl (hb hby at_103) ?_
            show Steps p.tables e below (T15.setTop (mkF m 104 #[.val (.long q0), .second, .val (.long q1), .second, .val (.long q2), .second, .val (.int p3), .val (.int p4), .val (.ref b1), .val (.int (p3 &&& (2147483647 : Int32))), .val (.int (p4 &&& (3 : Int32))), .val (.int (0 : Int32))] [(.int (1 : Int32))])) _
            refine XS.goto X15.here hx rfl (pc0 := 104) (pc' := 108) rfl (hb hby at_104) (by decide) (by decide) ?_
            exact k)
          obtain ⟨fs, hr, hrun, hended, hW, hsame⟩ := X15.leave (v := some (.int (1 : Int32))) (fun h => by rw [Bd.returns] at h; cases h)
          refine ⟨_, _, pre19 _ ?_, hrun, hended, _, _, rfl, ?_, ⟨_, rfl⟩, hW, hsame.mono (by decide) (by decide)⟩
          · exact retN X15 hx (t := .boolean) Bd.returns (by simp) (hb hby at_108) hr
          · show Q0 Z q0 q1 q2 p3 p4 h0 n0 _ T15.heap _
            rw [hh15]
            exact ⟨rfl, N15⟩
    · obtain ⟨cq20, kq20, q20a, q20b, q20c⟩ := isOf hZ e3 (P2_0.wr W3)
      obtain ⟨_, _, ⟨T20, L20, k20, n20⟩, -, X20, ⟨Lc20, hQ20, l20, y20, z20⟩, st20⟩ := X3.virtualBack hx (y := (⟨"com/example/sensor_access_indicators/sensoraccessindicators/ShownAccesses", "show", "(J)V"⟩ : MethodName)) (z := (⟨"com/example/sensor_access_indicators/sensoraccessindicators/ShownAccesses", "show", "(J)V"⟩ : MethodName)) hown (mvT hZ (hw _ (List.mem_of_getElem? (i := 15) rfl))) (mvT hZ (hw _ (List.mem_of_getElem? (i := 16) rfl))) (notFace_of_selects (args := #[]) (mvT hZ (hw _ (List.mem_of_getElem? (i := 18) rfl)))) (mvT hZ (hw _ (List.mem_of_getElem? (i := 18) rfl))) (mvT hZ (hw _ (List.mem_of_getElem? (i := 17) rfl))) (by decide) (backOf (W := 0) (rm3 l Z a0 hw [] b1 q1 (-9223372036854775808 : Int64) (p3 &&& (2147483647 : Int32)) h3 n0 (Nat.le_trans (Nat.le_trans (Nat.le_trans Z0 E1.1) K2.1) (Keep.of_wr W3).1) (P2_1.other W3 (Or.inr (slot_ne (Or.inl (hw _ (List.mem_of_getElem? (i := 11) rfl))) (Or.inl (hw _ (List.mem_of_getElem? (i := 14) rfl))) (by decide) (t := .long) (t' := .int) (by decide) (by decide)))) Fw3 (P2_0.wr W3) g_b1) hZ (hw _ (List.mem_of_getElem? (i := 19) rfl)) (hw _ (List.mem_of_getElem? (i := 2) rfl)) (by decide) (by decide)) q20a q20c (g := (mkF m 50 #[.val (.long q0), .second, .val (.long q1), .second, .val (.long q2), .second, .val (.int p3), .val (.int p4), .val (.ref b1), .val (.int (p3 &&& (2147483647 : Int32))), .val (.int (p4 &&& (3 : Int32))), .unset] [(.long q1), (.ref b1)])) rfl (by rw [hml]; rfl) (Steps.refl _) (argsL := [(.long q1)]) (rest := []) (lenOf pd_3 rfl) rfl (by show 2 * 0 + _ ≤ _; exact Nat.le_of_eq rfl) (hb hby at_50) (fun _ _ => ⟨rfl, e3, (by decide : 1 + 0 ≤ _), (by decide : 2 + 0 ≤ _)⟩)
      dsimp only [Pt.U, Pt.locs, Pt.cells, Pt.slots] at X20 l20 y20 z20 st20 hQ20
      subst l20 y20 z20
      obtain ⟨rfl, N20q, K20, P20_0, P20_1, P20_2⟩ := hQ20
      have N20 := Fr.app N3 N20q
      have KK20 : Keep h0 T20.heap [] := KK3.trans K20 (allS (Or.inr sz_b1) all0)
      have pre21 : ∀ t, Steps p.tables e below (T20.setTop (mkF m 55 #[.val (.long q0), .second, .val (.long q1), .second, .val (.long q2), .second, .val (.int p3), .val (.int p4), .val (.ref b1), .val (.int (p3 &&& (2147483647 : Int32))), .val (.int (p4 &&& (3 : Int32))), .unset] [(.int (p3 &&& (2147483647 : Int32)))])) t → Steps p.tables e below (s₁.setTop (entryFrame m #[(.long q0), (.long q1), (.long q2), (.int p3), (.int p4)] maxLocals)) t := fun t k => pre6 t (by
        show Steps p.tables e below (T3.setTop (mkF m 44 #[.val (.long q0), .second, .val (.long q1), .second, .val (.long q2), .second, .val (.int p3), .val (.int p4), .val (.ref b1), .val (.int (p3 &&& (2147483647 : Int32))), .val (.int (p4 &&& (3 : Int32))), .unset] [(.int (2 : Int32)), (.int (p4 &&& (3 : Int32)))])) _
        refine XS.icmpNo X3.here hx rfl (hb hby at_44) rfl (flt hc44_7).1 ?_
        show Steps p.tables e below (T3.setTop (mkF m 47 #[.val (.long q0), .second, .val (.long q1), .second, .val (.long q2), .second, .val (.int p3), .val (.int p4), .val (.ref b1), .val (.int (p3 &&& (2147483647 : Int32))), .val (.int (p4 &&& (3 : Int32))), .unset] [])) _
        refine XS.aload X3.here hx rfl (hb hby at_47) rfl rfl ?_
        show Steps p.tables e below (T3.setTop (mkF m 49 #[.val (.long q0), .second, .val (.long q1), .second, .val (.long q2), .second, .val (.int p3), .val (.int p4), .val (.ref b1), .val (.int (p3 &&& (2147483647 : Int32))), .val (.int (p4 &&& (3 : Int32))), .unset] [(.ref b1)])) _
        refine XS.lloadN X3.here hx rfl (hb hby at_49) rfl ?_
        show Steps p.tables e below (T3.setTop (mkF m 50 #[.val (.long q0), .second, .val (.long q1), .second, .val (.long q2), .second, .val (.int p3), .val (.int p4), .val (.ref b1), .val (.int (p3 &&& (2147483647 : Int32))), .val (.int (p4 &&& (3 : Int32))), .unset] [(.long q1), (.ref b1)])) _
        refine st20.trans ?_
        show Steps p.tables e below (T20.setTop (mkF m 53 #[.val (.long q0), .second, .val (.long q1), .second, .val (.long q2), .second, .val (.int p3), .val (.int p4), .val (.ref b1), .val (.int (p3 &&& (2147483647 : Int32))), .val (.int (p4 &&& (3 : Int32))), .unset] [])) _
        refine XS.iload X20.here hx rfl (hb hby at_53) rfl ?_
        exact k)
      by_cases hc55_22 : (0 : Int32) < (p3 &&& (2147483647 : Int32))
      · obtain ⟨cq23, kq23, q23a, q23b, q23c⟩ := isOf hZ rfl P20_0
        obtain ⟨_, _, ⟨T23, L23, k23, n23⟩, -, X23, ⟨Lc23, hQ23, l23, y23, z23⟩, st23⟩ := X20.virtualBack hx (y := (⟨"com/example/sensor_access_indicators/sensoraccessindicators/ShownAccesses", "isShownAt", "(J)Z"⟩ : MethodName)) (z := (⟨"com/example/sensor_access_indicators/sensoraccessindicators/ShownAccesses", "isShownAt", "(J)Z"⟩ : MethodName)) hown (mvT hZ (hw _ (List.mem_of_getElem? (i := 24) rfl))) (mvT hZ (hw _ (List.mem_of_getElem? (i := 25) rfl))) (notFace_of_selects (args := #[]) (mvT hZ (hw _ (List.mem_of_getElem? (i := 27) rfl)))) (mvT hZ (hw _ (List.mem_of_getElem? (i := 27) rfl))) (mvT hZ (hw _ (List.mem_of_getElem? (i := 26) rfl))) (by decide) (backOf (W := 0) (rm5 l Z a0 hw [] b1 q2 (own_max (-9223372036854775808 : Int64) q1) (p3 &&& (2147483647 : Int32)) T20.heap n0 (Nat.le_trans (Nat.le_trans (Nat.le_trans (Nat.le_trans Z0 E1.1) K2.1) (Keep.of_wr W3).1) K20.1) P20_1 P20_2) hZ (hw _ (List.mem_of_getElem? (i := 28) rfl)) (hw _ (List.mem_of_getElem? (i := 2) rfl)) (by decide) (by decide)) q23a q23c (g := (mkF m 95 #[.val (.long q0), .second, .val (.long q1), .second, .val (.long q2), .second, .val (.int p3), .val (.int p4), .val (.ref b1), .val (.int (p3 &&& (2147483647 : Int32))), .val (.int (p4 &&& (3 : Int32))), .val (.int (1 : Int32))] [(.long q2), (.ref b1)])) rfl (by rw [hml]; rfl) (Steps.refl _) (argsL := [(.long q2)]) (rest := []) (lenOf pd_2 rfl) rfl (by show 2 * 0 + _ ≤ _; exact Nat.le_of_eq rfl) (hb hby at_95) (fun _ _ => ⟨rfl, rfl, (by decide : 1 + 0 ≤ _), (by decide : 2 + 0 ≤ _)⟩)
        dsimp only [Pt.U, Pt.locs, Pt.cells, Pt.slots] at X23 l23 y23 z23 st23 hQ23
        subst l23 y23 z23
        obtain ⟨rfl, N23q, hh23⟩ := hQ23
        have N23 := Fr.app N20 N23q
        have pre24 : ∀ t, Steps p.tables e below (T23.setTop (mkF m 100 #[.val (.long q0), .second, .val (.long q1), .second, .val (.long q2), .second, .val (.int p3), .val (.int p4), .val (.ref b1), .val (.int (p3 &&& (2147483647 : Int32))), .val (.int (p4 &&& (3 : Int32))), .val (.int (1 : Int32))] [(.int (1 : Int32)), (.int (if ((0 : Int32) < (p3 &&& (2147483647 : Int32)) ∨ q2 < (own_max (-9223372036854775808 : Int64) q1)) then (1 : Int32) else 0))])) t → Steps p.tables e below (s₁.setTop (entryFrame m #[(.long q0), (.long q1), (.long q2), (.int p3), (.int p4)] maxLocals)) t := fun t k => pre21 t (by
          show Steps p.tables e below (T20.setTop (mkF m 55 #[.val (.long q0), .second, .val (.long q1), .second, .val (.long q2), .second, .val (.int p3), .val (.int p4), .val (.ref b1), .val (.int (p3 &&& (2147483647 : Int32))), .val (.int (p4 &&& (3 : Int32))), .unset] [(.int (p3 &&& (2147483647 : Int32)))])) _
          refine XS.ifYes X20.here hx rfl (pc0 := 55) (pc' := 84) rfl (hb hby at_55) rfl ((if0 _ _).trans (tlt hc55_22).2.2.1) (by decide) (by decide) ?_
          show Steps p.tables e below (T20.setTop (mkF m 84 #[.val (.long q0), .second, .val (.long q1), .second, .val (.long q2), .second, .val (.int p3), .val (.int p4), .val (.ref b1), .val (.int (p3 &&& (2147483647 : Int32))), .val (.int (p4 &&& (3 : Int32))), .unset] [])) _
          refine XS.iconst X20.here hx rfl (hb hby at_84) ?_
          show Steps p.tables e below (T20.setTop (mkF m 85 #[.val (.long q0), .second, .val (.long q1), .second, .val (.long q2), .second, .val (.int p3), .val (.int p4), .val (.ref b1), .val (.int (p3 &&& (2147483647 : Int32))), .val (.int (p4 &&& (3 : Int32))), .unset] [(.int (1 : Int32))])) _
          refine XS.goto X20.here hx rfl (pc0 := 85) (pc' := 89) rfl (hb hby at_85) (by decide) (by decide) ?_
          show Steps p.tables e below (T20.setTop (mkF m 89 #[.val (.long q0), .second, .val (.long q1), .second, .val (.long q2), .second, .val (.int p3), .val (.int p4), .val (.ref b1), .val (.int (p3 &&& (2147483647 : Int32))), .val (.int (p4 &&& (3 : Int32))), .unset] [(.int (1 : Int32))])) _
          refine XS.istore X20.here hx rfl (hb hby at_89) rfl (l' := #[.val (.long q0), .second, .val (.long q1), .second, .val (.long q2), .second, .val (.int p3), .val (.int p4), .val (.ref b1), .val (.int (p3 &&& (2147483647 : Int32))), .val (.int (p4 &&& (3 : Int32))), .val (.int (1 : Int32))]) rfl ?_
          show Steps p.tables e below (T20.setTop (mkF m 91 #[.val (.long q0), .second, .val (.long q1), .second, .val (.long q2), .second, .val (.int p3), .val (.int p4), .val (.ref b1), .val (.int (p3 &&& (2147483647 : Int32))), .val (.int (p4 &&& (3 : Int32))), .val (.int (1 : Int32))] [])) _
          refine XS.aload X20.here hx rfl (hb hby at_91) rfl rfl ?_
          show Steps p.tables e below (T20.setTop (mkF m 93 #[.val (.long q0), .second, .val (.long q1), .second, .val (.long q2), .second, .val (.int p3), .val (.int p4), .val (.ref b1), .val (.int (p3 &&& (2147483647 : Int32))), .val (.int (p4 &&& (3 : Int32))), .val (.int (1 : Int32))] [(.ref b1)])) _
          refine XS.lload X20.here hx rfl (hb hby at_93) rfl ?_
          show Steps p.tables e below (T20.setTop (mkF m 95 #[.val (.long q0), .second, .val (.long q1), .second, .val (.long q2), .second, .val (.int p3), .val (.int p4), .val (.ref b1), .val (.int (p3 &&& (2147483647 : Int32))), .val (.int (p4 &&& (3 : Int32))), .val (.int (1 : Int32))] [(.long q2), (.ref b1)])) _
          refine st23.trans ?_
          show Steps p.tables e below (T23.setTop (mkF m 98 #[.val (.long q0), .second, .val (.long q1), .second, .val (.long q2), .second, .val (.int p3), .val (.int p4), .val (.ref b1), .val (.int (p3 &&& (2147483647 : Int32))), .val (.int (p4 &&& (3 : Int32))), .val (.int (1 : Int32))] [(.int (if ((0 : Int32) < (p3 &&& (2147483647 : Int32)) ∨ q2 < (own_max (-9223372036854775808 : Int64) q1)) then (1 : Int32) else 0))])) _
          refine XS.iload X23.here hx rfl (hb hby at_98) rfl ?_
          exact k)
        by_cases hc100_25 : ((0 : Int32) < (p3 &&& (2147483647 : Int32)) ∨ q2 < (own_max (-9223372036854775808 : Int64) q1))
        · have pre26 : ∀ t, Steps p.tables e below (T23.setTop (mkF m 108 #[.val (.long q0), .second, .val (.long q1), .second, .val (.long q2), .second, .val (.int p3), .val (.int p4), .val (.ref b1), .val (.int (p3 &&& (2147483647 : Int32))), .val (.int (p4 &&& (3 : Int32))), .val (.int (1 : Int32))] [(.int (1 : Int32))])) t → Steps p.tables e below (s₁.setTop (entryFrame m #[(.long q0), (.long q1), (.long q2), (.int p3), (.int p4)] maxLocals)) t := fun t k => pre24 t (by
            show Steps p.tables e below (T23.setTop (mkF m 100 #[.val (.long q0), .second, .val (.long q1), .second, .val (.long q2), .second, .val (.int p3), .val (.int p4), .val (.ref b1), .val (.int (p3 &&& (2147483647 : Int32))), .val (.int (p4 &&& (3 : Int32))), .val (.int (1 : Int32))] [(.int (1 : Int32)), (.int (if ((0 : Int32) < (p3 &&& (2147483647 : Int32)) ∨ q2 < (own_max (-9223372036854775808 : Int64) q1)) then (1 : Int32) else 0))])) _
            refine XS.icmpNo X23.here hx rfl (hb hby at_100) rfl (teq (own_c1 hc100_25)).2 ?_
            show Steps p.tables e below (T23.setTop (mkF m 103 #[.val (.long q0), .second, .val (.long q1), .second, .val (.long q2), .second, .val (.int p3), .val (.int p4), .val (.ref b1), .val (.int (p3 &&& (2147483647 : Int32))), .val (.int (p4 &&& (3 : Int32))), .val (.int (1 : Int32))] [])) _
            refine XS.iconst X23.here hx rfl (hb hby at_103) ?_
            show Steps p.tables e below (T23.setTop (mkF m 104 #[.val (.long q0), .second, .val (.long q1), .second, .val (.long q2), .second, .val (.int p3), .val (.int p4), .val (.ref b1), .val (.int (p3 &&& (2147483647 : Int32))), .val (.int (p4 &&& (3 : Int32))), .val (.int (1 : Int32))] [(.int (1 : Int32))])) _
            refine XS.goto X23.here hx rfl (pc0 := 104) (pc' := 108) rfl (hb hby at_104) (by decide) (by decide) ?_
            exact k)
          obtain ⟨fs, hr, hrun, hended, hW, hsame⟩ := X23.leave (v := some (.int (1 : Int32))) (fun h => by rw [Bd.returns] at h; cases h)
          refine ⟨_, _, pre26 _ ?_, hrun, hended, _, _, rfl, ?_, ⟨_, rfl⟩, hW, hsame.mono (by decide) (by decide)⟩
          · exact retN X23 hx (t := .boolean) Bd.returns (by simp) (hb hby at_108) hr
          · show Q0 Z q0 q1 q2 p3 p4 h0 n0 _ T23.heap _
            rw [hh23]
            exact ⟨rfl, N23⟩
        · have pre27 : ∀ t, Steps p.tables e below (T23.setTop (mkF m 108 #[.val (.long q0), .second, .val (.long q1), .second, .val (.long q2), .second, .val (.int p3), .val (.int p4), .val (.ref b1), .val (.int (p3 &&& (2147483647 : Int32))), .val (.int (p4 &&& (3 : Int32))), .val (.int (1 : Int32))] [(.int (0 : Int32))])) t → Steps p.tables e below (s₁.setTop (entryFrame m #[(.long q0), (.long q1), (.long q2), (.int p3), (.int p4)] maxLocals)) t := fun t k => pre24 t (by
            show Steps p.tables e below (T23.setTop (mkF m 100 #[.val (.long q0), .second, .val (.long q1), .second, .val (.long q2), .second, .val (.int p3), .val (.int p4), .val (.ref b1), .val (.int (p3 &&& (2147483647 : Int32))), .val (.int (p4 &&& (3 : Int32))), .val (.int (1 : Int32))] [(.int (1 : Int32)), (.int (if ((0 : Int32) < (p3 &&& (2147483647 : Int32)) ∨ q2 < (own_max (-9223372036854775808 : Int64) q1)) then (1 : Int32) else 0))])) _
            refine XS.icmpYes X23.here hx rfl (pc0 := 100) (pc' := 107) rfl (hb hby at_100) rfl (feq (own_c0 hc100_25)).2 (by decide) (by decide) ?_
            show Steps p.tables e below (T23.setTop (mkF m 107 #[.val (.long q0), .second, .val (.long q1), .second, .val (.long q2), .second, .val (.int p3), .val (.int p4), .val (.ref b1), .val (.int (p3 &&& (2147483647 : Int32))), .val (.int (p4 &&& (3 : Int32))), .val (.int (1 : Int32))] [])) _
            refine XS.iconst X23.here hx rfl (hb hby at_107) ?_
            exact k)
          obtain ⟨fs, hr, hrun, hended, hW, hsame⟩ := X23.leave (v := some (.int (0 : Int32))) (fun h => by rw [Bd.returns] at h; cases h)
          refine ⟨_, _, pre27 _ ?_, hrun, hended, _, _, rfl, ?_, ⟨_, rfl⟩, hW, hsame.mono (by decide) (by decide)⟩
          · exact retN X23 hx (t := .boolean) Bd.returns (by simp) (hb hby at_108) hr
          · show Q0 Z q0 q1 q2 p3 p4 h0 n0 _ T23.heap _
            rw [hh23]
            exfalso
            simp only [own_max_toInt, Int32.lt_iff_toInt_lt, Int64.lt_iff_toInt_lt, Int32.reduceToInt, Int64.reduceToInt] at hc32_5 hc44_7 hc55_22 hc100_25
            have r0 := rng64 q0
            have r1 := rng64 q1
            have r2 := rng64 q2
            omega
      · have pre28 : ∀ t, Steps p.tables e below (T20.setTop (mkF m 81 #[.val (.long q0), .second, .val (.long q1), .second, .val (.long q2), .second, .val (.int p3), .val (.int p4), .val (.ref b1), .val (.int (p3 &&& (2147483647 : Int32))), .val (.int (p4 &&& (3 : Int32))), .unset] [(.int (lcmpW q1 q2))])) t → Steps p.tables e below (s₁.setTop (entryFrame m #[(.long q0), (.long q1), (.long q2), (.int p3), (.int p4)] maxLocals)) t := fun t k => pre21 t (by
          show Steps p.tables e below (T20.setTop (mkF m 55 #[.val (.long q0), .second, .val (.long q1), .second, .val (.long q2), .second, .val (.int p3), .val (.int p4), .val (.ref b1), .val (.int (p3 &&& (2147483647 : Int32))), .val (.int (p4 &&& (3 : Int32))), .unset] [(.int (p3 &&& (2147483647 : Int32)))])) _
          refine XS.ifNo X20.here hx rfl (hb hby at_55) rfl ((if0 _ _).trans (flt hc55_22).2.2.1) ?_
          show Steps p.tables e below (T20.setTop (mkF m 58 #[.val (.long q0), .second, .val (.long q1), .second, .val (.long q2), .second, .val (.int p3), .val (.int p4), .val (.ref b1), .val (.int (p3 &&& (2147483647 : Int32))), .val (.int (p4 &&& (3 : Int32))), .unset] [])) _
          refine XS.iload X20.here hx rfl (hb hby at_58) rfl ?_
          show Steps p.tables e below (T20.setTop (mkF m 60 #[.val (.long q0), .second, .val (.long q1), .second, .val (.long q2), .second, .val (.int p3), .val (.int p4), .val (.ref b1), .val (.int (p3 &&& (2147483647 : Int32))), .val (.int (p4 &&& (3 : Int32))), .unset] [(.int (p4 &&& (3 : Int32)))])) _
          refine XS.iconst X20.here hx rfl (hb hby at_60) ?_
          show Steps p.tables e below (T20.setTop (mkF m 61 #[.val (.long q0), .second, .val (.long q1), .second, .val (.long q2), .second, .val (.int p3), .val (.int p4), .val (.ref b1), .val (.int (p3 &&& (2147483647 : Int32))), .val (.int (p4 &&& (3 : Int32))), .unset] [(.int (1 : Int32)), (.int (p4 &&& (3 : Int32)))])) _
          refine XS.icmpYes X20.here hx rfl (pc0 := 61) (pc' := 71) rfl (hb hby at_61) rfl (tlt hc32_5).1 (by decide) (by decide) ?_
          show Steps p.tables e below (T20.setTop (mkF m 71 #[.val (.long q0), .second, .val (.long q1), .second, .val (.long q2), .second, .val (.int p3), .val (.int p4), .val (.ref b1), .val (.int (p3 &&& (2147483647 : Int32))), .val (.int (p4 &&& (3 : Int32))), .unset] [])) _
          refine XS.iload X20.here hx rfl (hb hby at_71) rfl ?_
          show Steps p.tables e below (T20.setTop (mkF m 73 #[.val (.long q0), .second, .val (.long q1), .second, .val (.long q2), .second, .val (.int p3), .val (.int p4), .val (.ref b1), .val (.int (p3 &&& (2147483647 : Int32))), .val (.int (p4 &&& (3 : Int32))), .unset] [(.int (p4 &&& (3 : Int32)))])) _
          refine XS.iconst X20.here hx rfl (hb hby at_73) ?_
          show Steps p.tables e below (T20.setTop (mkF m 74 #[.val (.long q0), .second, .val (.long q1), .second, .val (.long q2), .second, .val (.int p3), .val (.int p4), .val (.ref b1), .val (.int (p3 &&& (2147483647 : Int32))), .val (.int (p4 &&& (3 : Int32))), .unset] [(.int (2 : Int32)), (.int (p4 &&& (3 : Int32)))])) _
          refine XS.icmpNo X20.here hx rfl (hb hby at_74) rfl (flt hc44_7).1 ?_
          show Steps p.tables e below (T20.setTop (mkF m 77 #[.val (.long q0), .second, .val (.long q1), .second, .val (.long q2), .second, .val (.int p3), .val (.int p4), .val (.ref b1), .val (.int (p3 &&& (2147483647 : Int32))), .val (.int (p4 &&& (3 : Int32))), .unset] [])) _
          refine XS.lloadN X20.here hx rfl (hb hby at_77) rfl ?_
          show Steps p.tables e below (T20.setTop (mkF m 78 #[.val (.long q0), .second, .val (.long q1), .second, .val (.long q2), .second, .val (.int p3), .val (.int p4), .val (.ref b1), .val (.int (p3 &&& (2147483647 : Int32))), .val (.int (p4 &&& (3 : Int32))), .unset] [(.long q1)])) _
          refine XS.lload X20.here hx rfl (hb hby at_78) rfl ?_
          show Steps p.tables e below (T20.setTop (mkF m 80 #[.val (.long q0), .second, .val (.long q1), .second, .val (.long q2), .second, .val (.int p3), .val (.int p4), .val (.ref b1), .val (.int (p3 &&& (2147483647 : Int32))), .val (.int (p4 &&& (3 : Int32))), .unset] [(.long q2), (.long q1)])) _
          refine XS.lcmp X20.here hx rfl (hb hby at_80) rfl ?_
          exact k)
        by_cases hc81_29 : q2 < q1
        · obtain ⟨cq30, kq30, q30a, q30b, q30c⟩ := isOf hZ rfl P20_0
          obtain ⟨_, _, ⟨T30, L30, k30, n30⟩, -, X30, ⟨Lc30, hQ30, l30, y30, z30⟩, st30⟩ := X20.virtualBack hx (y := (⟨"com/example/sensor_access_indicators/sensoraccessindicators/ShownAccesses", "isShownAt", "(J)Z"⟩ : MethodName)) (z := (⟨"com/example/sensor_access_indicators/sensoraccessindicators/ShownAccesses", "isShownAt", "(J)Z"⟩ : MethodName)) hown (mvT hZ (hw _ (List.mem_of_getElem? (i := 24) rfl))) (mvT hZ (hw _ (List.mem_of_getElem? (i := 25) rfl))) (notFace_of_selects (args := #[]) (mvT hZ (hw _ (List.mem_of_getElem? (i := 27) rfl)))) (mvT hZ (hw _ (List.mem_of_getElem? (i := 27) rfl))) (mvT hZ (hw _ (List.mem_of_getElem? (i := 26) rfl))) (by decide) (backOf (W := 0) (rm5 l Z a0 hw [] b1 q2 (own_max (-9223372036854775808 : Int64) q1) (p3 &&& (2147483647 : Int32)) T20.heap n0 (Nat.le_trans (Nat.le_trans (Nat.le_trans (Nat.le_trans Z0 E1.1) K2.1) (Keep.of_wr W3).1) K20.1) P20_1 P20_2) hZ (hw _ (List.mem_of_getElem? (i := 28) rfl)) (hw _ (List.mem_of_getElem? (i := 2) rfl)) (by decide) (by decide)) q30a q30c (g := (mkF m 95 #[.val (.long q0), .second, .val (.long q1), .second, .val (.long q2), .second, .val (.int p3), .val (.int p4), .val (.ref b1), .val (.int (p3 &&& (2147483647 : Int32))), .val (.int (p4 &&& (3 : Int32))), .val (.int (1 : Int32))] [(.long q2), (.ref b1)])) rfl (by rw [hml]; rfl) (Steps.refl _) (argsL := [(.long q2)]) (rest := []) (lenOf pd_2 rfl) rfl (by show 2 * 0 + _ ≤ _; exact Nat.le_of_eq rfl) (hb hby at_95) (fun _ _ => ⟨rfl, rfl, (by decide : 1 + 0 ≤ _), (by decide : 2 + 0 ≤ _)⟩)
          dsimp only [Pt.U, Pt.locs, Pt.cells, Pt.slots] at X30 l30 y30 z30 st30 hQ30
          subst l30 y30 z30
          obtain ⟨rfl, N30q, hh30⟩ := hQ30
          have N30 := Fr.app N20 N30q
          have pre31 : ∀ t, Steps p.tables e below (T30.setTop (mkF m 100 #[.val (.long q0), .second, .val (.long q1), .second, .val (.long q2), .second, .val (.int p3), .val (.int p4), .val (.ref b1), .val (.int (p3 &&& (2147483647 : Int32))), .val (.int (p4 &&& (3 : Int32))), .val (.int (1 : Int32))] [(.int (1 : Int32)), (.int (if ((0 : Int32) < (p3 &&& (2147483647 : Int32)) ∨ q2 < (own_max (-9223372036854775808 : Int64) q1)) then (1 : Int32) else 0))])) t → Steps p.tables e below (s₁.setTop (entryFrame m #[(.long q0), (.long q1), (.long q2), (.int p3), (.int p4)] maxLocals)) t := fun t k => pre28 t (by
            show Steps p.tables e below (T20.setTop (mkF m 81 #[.val (.long q0), .second, .val (.long q1), .second, .val (.long q2), .second, .val (.int p3), .val (.int p4), .val (.ref b1), .val (.int (p3 &&& (2147483647 : Int32))), .val (.int (p4 &&& (3 : Int32))), .unset] [(.int (lcmpW q1 q2))])) _
            refine XS.ifNo X20.here hx rfl (hb hby at_81) rfl ((if0 _ _).trans (tlt ((lw_gt _ _).mpr hc81_29)).2.2.2) ?_
            show Steps p.tables e below (T20.setTop (mkF m 84 #[.val (.long q0), .second, .val (.long q1), .second, .val (.long q2), .second, .val (.int p3), .val (.int p4), .val (.ref b1), .val (.int (p3 &&& (2147483647 : Int32))), .val (.int (p4 &&& (3 : Int32))), .unset] [])) _
            refine XS.iconst X20.here hx rfl (hb hby at_84) ?_
            show Steps p.tables e below (T20.setTop (mkF m 85 #[.val (.long q0), .second, .val (.long q1), .second, .val (.long q2), .second, .val (.int p3), .val (.int p4), .val (.ref b1), .val (.int (p3 &&& (2147483647 : Int32))), .val (.int (p4 &&& (3 : Int32))), .unset] [(.int (1 : Int32))])) _
            refine XS.goto X20.here hx rfl (pc0 := 85) (pc' := 89) rfl (hb hby at_85) (by decide) (by decide) ?_
            show Steps p.tables e below (T20.setTop (mkF m 89 #[.val (.long q0), .second, .val (.long q1), .second, .val (.long q2), .second, .val (.int p3), .val (.int p4), .val (.ref b1), .val (.int (p3 &&& (2147483647 : Int32))), .val (.int (p4 &&& (3 : Int32))), .unset] [(.int (1 : Int32))])) _
            refine XS.istore X20.here hx rfl (hb hby at_89) rfl (l' := #[.val (.long q0), .second, .val (.long q1), .second, .val (.long q2), .second, .val (.int p3), .val (.int p4), .val (.ref b1), .val (.int (p3 &&& (2147483647 : Int32))), .val (.int (p4 &&& (3 : Int32))), .val (.int (1 : Int32))]) rfl ?_
            show Steps p.tables e below (T20.setTop (mkF m 91 #[.val (.long q0), .second, .val (.long q1), .second, .val (.long q2), .second, .val (.int p3), .val (.int p4), .val (.ref b1), .val (.int (p3 &&& (2147483647 : Int32))), .val (.int (p4 &&& (3 : Int32))), .val (.int (1 : Int32))] [])) _
            refine XS.aload X20.here hx rfl (hb hby at_91) rfl rfl ?_
            show Steps p.tables e below (T20.setTop (mkF m 93 #[.val (.long q0), .second, .val (.long q1), .second, .val (.long q2), .second, .val (.int p3), .val (.int p4), .val (.ref b1), .val (.int (p3 &&& (2147483647 : Int32))), .val (.int (p4 &&& (3 : Int32))), .val (.int (1 : Int32))] [(.ref b1)])) _
            refine XS.lload X20.here hx rfl (hb hby at_93) rfl ?_
            show Steps p.tables e below (T20.setTop (mkF m 95 #[.val (.long q0), .second, .val (.long q1), .second, .val (.long q2), .second, .val (.int p3), .val (.int p4), .val (.ref b1), .val (.int (p3 &&& (2147483647 : Int32))), .val (.int (p4 &&& (3 : Int32))), .val (.int (1 : Int32))] [(.long q2), (.ref b1)])) _
            refine st30.trans ?_
            show Steps p.tables e below (T30.setTop (mkF m 98 #[.val (.long q0), .second, .val (.long q1), .second, .val (.long q2), .second, .val (.int p3), .val (.int p4), .val (.ref b1), .val (.int (p3 &&& (2147483647 : Int32))), .val (.int (p4 &&& (3 : Int32))), .val (.int (1 : Int32))] [(.int (if ((0 : Int32) < (p3 &&& (2147483647 : Int32)) ∨ q2 < (own_max (-9223372036854775808 : Int64) q1)) then (1 : Int32) else 0))])) _
            refine XS.iload X30.here hx rfl (hb hby at_98) rfl ?_
            exact k)
          by_cases hc100_32 : ((0 : Int32) < (p3 &&& (2147483647 : Int32)) ∨ q2 < (own_max (-9223372036854775808 : Int64) q1))
          · have pre33 : ∀ t, Steps p.tables e below (T30.setTop (mkF m 108 #[.val (.long q0), .second, .val (.long q1), .second, .val (.long q2), .second, .val (.int p3), .val (.int p4), .val (.ref b1), .val (.int (p3 &&& (2147483647 : Int32))), .val (.int (p4 &&& (3 : Int32))), .val (.int (1 : Int32))] [(.int (1 : Int32))])) t → Steps p.tables e below (s₁.setTop (entryFrame m #[(.long q0), (.long q1), (.long q2), (.int p3), (.int p4)] maxLocals)) t := fun t k => pre31 t (by
              show Steps p.tables e below (T30.setTop (mkF m 100 #[.val (.long q0), .second, .val (.long q1), .second, .val (.long q2), .second, .val (.int p3), .val (.int p4), .val (.ref b1), .val (.int (p3 &&& (2147483647 : Int32))), .val (.int (p4 &&& (3 : Int32))), .val (.int (1 : Int32))] [(.int (1 : Int32)), (.int (if ((0 : Int32) < (p3 &&& (2147483647 : Int32)) ∨ q2 < (own_max (-9223372036854775808 : Int64) q1)) then (1 : Int32) else 0))])) _
              refine XS.icmpNo X30.here hx rfl (hb hby at_100) rfl (teq (own_c1 hc100_32)).2 ?_
              show Steps p.tables e below (T30.setTop (mkF m 103 #[.val (.long q0), .second, .val (.long q1), .second, .val (.long q2), .second, .val (.int p3), .val (.int p4), .val (.ref b1), .val (.int (p3 &&& (2147483647 : Int32))), .val (.int (p4 &&& (3 : Int32))), .val (.int (1 : Int32))] [])) _
              refine XS.iconst X30.here hx rfl (hb hby at_103) ?_
              show Steps p.tables e below (T30.setTop (mkF m 104 #[.val (.long q0), .second, .val (.long q1), .second, .val (.long q2), .second, .val (.int p3), .val (.int p4), .val (.ref b1), .val (.int (p3 &&& (2147483647 : Int32))), .val (.int (p4 &&& (3 : Int32))), .val (.int (1 : Int32))] [(.int (1 : Int32))])) _
              refine XS.goto X30.here hx rfl (pc0 := 104) (pc' := 108) rfl (hb hby at_104) (by decide) (by decide) ?_
              exact k)
            obtain ⟨fs, hr, hrun, hended, hW, hsame⟩ := X30.leave (v := some (.int (1 : Int32))) (fun h => by rw [Bd.returns] at h; cases h)
            refine ⟨_, _, pre33 _ ?_, hrun, hended, _, _, rfl, ?_, ⟨_, rfl⟩, hW, hsame.mono (by decide) (by decide)⟩
            · exact retN X30 hx (t := .boolean) Bd.returns (by simp) (hb hby at_108) hr
            · show Q0 Z q0 q1 q2 p3 p4 h0 n0 _ T30.heap _
              rw [hh30]
              exact ⟨rfl, N30⟩
          · have pre34 : ∀ t, Steps p.tables e below (T30.setTop (mkF m 108 #[.val (.long q0), .second, .val (.long q1), .second, .val (.long q2), .second, .val (.int p3), .val (.int p4), .val (.ref b1), .val (.int (p3 &&& (2147483647 : Int32))), .val (.int (p4 &&& (3 : Int32))), .val (.int (1 : Int32))] [(.int (0 : Int32))])) t → Steps p.tables e below (s₁.setTop (entryFrame m #[(.long q0), (.long q1), (.long q2), (.int p3), (.int p4)] maxLocals)) t := fun t k => pre31 t (by
              show Steps p.tables e below (T30.setTop (mkF m 100 #[.val (.long q0), .second, .val (.long q1), .second, .val (.long q2), .second, .val (.int p3), .val (.int p4), .val (.ref b1), .val (.int (p3 &&& (2147483647 : Int32))), .val (.int (p4 &&& (3 : Int32))), .val (.int (1 : Int32))] [(.int (1 : Int32)), (.int (if ((0 : Int32) < (p3 &&& (2147483647 : Int32)) ∨ q2 < (own_max (-9223372036854775808 : Int64) q1)) then (1 : Int32) else 0))])) _
              refine XS.icmpYes X30.here hx rfl (pc0 := 100) (pc' := 107) rfl (hb hby at_100) rfl (feq (own_c0 hc100_32)).2 (by decide) (by decide) ?_
              show Steps p.tables e below (T30.setTop (mkF m 107 #[.val (.long q0), .second, .val (.long q1), .second, .val (.long q2), .second, .val (.int p3), .val (.int p4), .val (.ref b1), .val (.int (p3 &&& (2147483647 : Int32))), .val (.int (p4 &&& (3 : Int32))), .val (.int (1 : Int32))] [])) _
              refine XS.iconst X30.here hx rfl (hb hby at_107) ?_
              exact k)
            obtain ⟨fs, hr, hrun, hended, hW, hsame⟩ := X30.leave (v := some (.int (0 : Int32))) (fun h => by rw [Bd.returns] at h; cases h)
            refine ⟨_, _, pre34 _ ?_, hrun, hended, _, _, rfl, ?_, ⟨_, rfl⟩, hW, hsame.mono (by decide) (by decide)⟩
            · exact retN X30 hx (t := .boolean) Bd.returns (by simp) (hb hby at_108) hr
            · show Q0 Z q0 q1 q2 p3 p4 h0 n0 _ T30.heap _
              rw [hh30]
              exfalso
              simp only [own_max_toInt, Int32.lt_iff_toInt_lt, Int64.lt_iff_toInt_lt, Int32.reduceToInt, Int64.reduceToInt] at hc32_5 hc44_7 hc55_22 hc81_29 hc100_32
              have r0 := rng64 q0
              have r1 := rng64 q1
              have r2 := rng64 q2
              omega
        · obtain ⟨cq35, kq35, q35a, q35b, q35c⟩ := isOf hZ rfl P20_0
          obtain ⟨_, _, ⟨T35, L35, k35, n35⟩, -, X35, ⟨Lc35, hQ35, l35, y35, z35⟩, st35⟩ := X20.virtualBack hx (y := (⟨"com/example/sensor_access_indicators/sensoraccessindicators/ShownAccesses", "isShownAt", "(J)Z"⟩ : MethodName)) (z := (⟨"com/example/sensor_access_indicators/sensoraccessindicators/ShownAccesses", "isShownAt", "(J)Z"⟩ : MethodName)) hown (mvT hZ (hw _ (List.mem_of_getElem? (i := 24) rfl))) (mvT hZ (hw _ (List.mem_of_getElem? (i := 25) rfl))) (notFace_of_selects (args := #[]) (mvT hZ (hw _ (List.mem_of_getElem? (i := 27) rfl)))) (mvT hZ (hw _ (List.mem_of_getElem? (i := 27) rfl))) (mvT hZ (hw _ (List.mem_of_getElem? (i := 26) rfl))) (by decide) (backOf (W := 0) (rm5 l Z a0 hw [] b1 q2 (own_max (-9223372036854775808 : Int64) q1) (p3 &&& (2147483647 : Int32)) T20.heap n0 (Nat.le_trans (Nat.le_trans (Nat.le_trans (Nat.le_trans Z0 E1.1) K2.1) (Keep.of_wr W3).1) K20.1) P20_1 P20_2) hZ (hw _ (List.mem_of_getElem? (i := 28) rfl)) (hw _ (List.mem_of_getElem? (i := 2) rfl)) (by decide) (by decide)) q35a q35c (g := (mkF m 95 #[.val (.long q0), .second, .val (.long q1), .second, .val (.long q2), .second, .val (.int p3), .val (.int p4), .val (.ref b1), .val (.int (p3 &&& (2147483647 : Int32))), .val (.int (p4 &&& (3 : Int32))), .val (.int (0 : Int32))] [(.long q2), (.ref b1)])) rfl (by rw [hml]; rfl) (Steps.refl _) (argsL := [(.long q2)]) (rest := []) (lenOf pd_2 rfl) rfl (by show 2 * 0 + _ ≤ _; exact Nat.le_of_eq rfl) (hb hby at_95) (fun _ _ => ⟨rfl, rfl, (by decide : 1 + 0 ≤ _), (by decide : 2 + 0 ≤ _)⟩)
          dsimp only [Pt.U, Pt.locs, Pt.cells, Pt.slots] at X35 l35 y35 z35 st35 hQ35
          subst l35 y35 z35
          obtain ⟨rfl, N35q, hh35⟩ := hQ35
          have N35 := Fr.app N20 N35q
          have pre36 : ∀ t, Steps p.tables e below (T35.setTop (mkF m 100 #[.val (.long q0), .second, .val (.long q1), .second, .val (.long q2), .second, .val (.int p3), .val (.int p4), .val (.ref b1), .val (.int (p3 &&& (2147483647 : Int32))), .val (.int (p4 &&& (3 : Int32))), .val (.int (0 : Int32))] [(.int (0 : Int32)), (.int (if ((0 : Int32) < (p3 &&& (2147483647 : Int32)) ∨ q2 < (own_max (-9223372036854775808 : Int64) q1)) then (1 : Int32) else 0))])) t → Steps p.tables e below (s₁.setTop (entryFrame m #[(.long q0), (.long q1), (.long q2), (.int p3), (.int p4)] maxLocals)) t := fun t k => pre28 t (by
            show Steps p.tables e below (T20.setTop (mkF m 81 #[.val (.long q0), .second, .val (.long q1), .second, .val (.long q2), .second, .val (.int p3), .val (.int p4), .val (.ref b1), .val (.int (p3 &&& (2147483647 : Int32))), .val (.int (p4 &&& (3 : Int32))), .unset] [(.int (lcmpW q1 q2))])) _
            refine XS.ifYes X20.here hx rfl (pc0 := 81) (pc' := 88) rfl (hb hby at_81) rfl ((if0 _ _).trans (flt (fun q => hc81_29 ((lw_gt _ _).mp q))).2.2.2) (by decide) (by decide) ?_
            show Steps p.tables e below (T20.setTop (mkF m 88 #[.val (.long q0), .second, .val (.long q1), .second, .val (.long q2), .second, .val (.int p3), .val (.int p4), .val (.ref b1), .val (.int (p3 &&& (2147483647 : Int32))), .val (.int (p4 &&& (3 : Int32))), .unset] [])) _
            refine XS.iconst X20.here hx rfl (hb hby at_88) ?_
            show Steps p.tables e below (T20.setTop (mkF m 89 #[.val (.long q0), .second, .val (.long q1), .second, .val (.long q2), .second, .val (.int p3), .val (.int p4), .val (.ref b1), .val (.int (p3 &&& (2147483647 : Int32))), .val (.int (p4 &&& (3 : Int32))), .unset] [(.int (0 : Int32))])) _
            refine XS.istore X20.here hx rfl (hb hby at_89) rfl (l' := #[.val (.long q0), .second, .val (.long q1), .second, .val (.long q2), .second, .val (.int p3), .val (.int p4), .val (.ref b1), .val (.int (p3 &&& (2147483647 : Int32))), .val (.int (p4 &&& (3 : Int32))), .val (.int (0 : Int32))]) rfl ?_
            show Steps p.tables e below (T20.setTop (mkF m 91 #[.val (.long q0), .second, .val (.long q1), .second, .val (.long q2), .second, .val (.int p3), .val (.int p4), .val (.ref b1), .val (.int (p3 &&& (2147483647 : Int32))), .val (.int (p4 &&& (3 : Int32))), .val (.int (0 : Int32))] [])) _
            refine XS.aload X20.here hx rfl (hb hby at_91) rfl rfl ?_
            show Steps p.tables e below (T20.setTop (mkF m 93 #[.val (.long q0), .second, .val (.long q1), .second, .val (.long q2), .second, .val (.int p3), .val (.int p4), .val (.ref b1), .val (.int (p3 &&& (2147483647 : Int32))), .val (.int (p4 &&& (3 : Int32))), .val (.int (0 : Int32))] [(.ref b1)])) _
            refine XS.lload X20.here hx rfl (hb hby at_93) rfl ?_
            show Steps p.tables e below (T20.setTop (mkF m 95 #[.val (.long q0), .second, .val (.long q1), .second, .val (.long q2), .second, .val (.int p3), .val (.int p4), .val (.ref b1), .val (.int (p3 &&& (2147483647 : Int32))), .val (.int (p4 &&& (3 : Int32))), .val (.int (0 : Int32))] [(.long q2), (.ref b1)])) _
            refine st35.trans ?_
            show Steps p.tables e below (T35.setTop (mkF m 98 #[.val (.long q0), .second, .val (.long q1), .second, .val (.long q2), .second, .val (.int p3), .val (.int p4), .val (.ref b1), .val (.int (p3 &&& (2147483647 : Int32))), .val (.int (p4 &&& (3 : Int32))), .val (.int (0 : Int32))] [(.int (if ((0 : Int32) < (p3 &&& (2147483647 : Int32)) ∨ q2 < (own_max (-9223372036854775808 : Int64) q1)) then (1 : Int32) else 0))])) _
            refine XS.iload X35.here hx rfl (hb hby at_98) rfl ?_
            exact k)
          by_cases hc100_37 : ((0 : Int32) < (p3 &&& (2147483647 : Int32)) ∨ q2 < (own_max (-9223372036854775808 : Int64) q1))
          · have pre38 : ∀ t, Steps p.tables e below (T35.setTop (mkF m 108 #[.val (.long q0), .second, .val (.long q1), .second, .val (.long q2), .second, .val (.int p3), .val (.int p4), .val (.ref b1), .val (.int (p3 &&& (2147483647 : Int32))), .val (.int (p4 &&& (3 : Int32))), .val (.int (0 : Int32))] [(.int (0 : Int32))])) t → Steps p.tables e below (s₁.setTop (entryFrame m #[(.long q0), (.long q1), (.long q2), (.int p3), (.int p4)] maxLocals)) t := fun t k => pre36 t (by
              show Steps p.tables e below (T35.setTop (mkF m 100 #[.val (.long q0), .second, .val (.long q1), .second, .val (.long q2), .second, .val (.int p3), .val (.int p4), .val (.ref b1), .val (.int (p3 &&& (2147483647 : Int32))), .val (.int (p4 &&& (3 : Int32))), .val (.int (0 : Int32))] [(.int (0 : Int32)), (.int (if ((0 : Int32) < (p3 &&& (2147483647 : Int32)) ∨ q2 < (own_max (-9223372036854775808 : Int64) q1)) then (1 : Int32) else 0))])) _
              refine XS.icmpYes X35.here hx rfl (pc0 := 100) (pc' := 107) rfl (hb hby at_100) rfl (feq (own_b1 hc100_37)).2 (by decide) (by decide) ?_
              show Steps p.tables e below (T35.setTop (mkF m 107 #[.val (.long q0), .second, .val (.long q1), .second, .val (.long q2), .second, .val (.int p3), .val (.int p4), .val (.ref b1), .val (.int (p3 &&& (2147483647 : Int32))), .val (.int (p4 &&& (3 : Int32))), .val (.int (0 : Int32))] [])) _
              refine XS.iconst X35.here hx rfl (hb hby at_107) ?_
              exact k)
            obtain ⟨fs, hr, hrun, hended, hW, hsame⟩ := X35.leave (v := some (.int (0 : Int32))) (fun h => by rw [Bd.returns] at h; cases h)
            refine ⟨_, _, pre38 _ ?_, hrun, hended, _, _, rfl, ?_, ⟨_, rfl⟩, hW, hsame.mono (by decide) (by decide)⟩
            · exact retN X35 hx (t := .boolean) Bd.returns (by simp) (hb hby at_108) hr
            · show Q0 Z q0 q1 q2 p3 p4 h0 n0 _ T35.heap _
              rw [hh35]
              exfalso
              simp only [own_max_toInt, Int32.lt_iff_toInt_lt, Int64.lt_iff_toInt_lt, Int32.reduceToInt, Int64.reduceToInt] at hc32_5 hc44_7 hc55_22 hc81_29 hc100_37
              have r0 := rng64 q0
              have r1 := rng64 q1
              have r2 := rng64 q2
              omega
          · have pre39 : ∀ t, Steps p.tables e below (T35.setTop (mkF m 108 #[.val (.long q0), .second, .val (.long q1), .second, .val (.long q2), .second, .val (.int p3), .val (.int p4), .val (.ref b1), .val (.int (p3 &&& (2147483647 : Int32))), .val (.int (p4 &&& (3 : Int32))), .val (.int (0 : Int32))] [(.int (1 : Int32))])) t → Steps p.tables e below (s₁.setTop (entryFrame m #[(.long q0), (.long q1), (.long q2), (.int p3), (.int p4)] maxLocals)) t := fun t k => pre36 t (by
              show Steps p.tables e below (T35.setTop (mkF m 100 #[.val (.long q0), .second, .val (.long q1), .second, .val (.long q2), .second, .val (.int p3), .val (.int p4), .val (.ref b1), .val (.int (p3 &&& (2147483647 : Int32))), .val (.int (p4 &&& (3 : Int32))), .val (.int (0 : Int32))] [(.int (0 : Int32)), (.int (if ((0 : Int32) < (p3 &&& (2147483647 : Int32)) ∨ q2 < (own_max (-9223372036854775808 : Int64) q1)) then (1 : Int32) else 0))])) _
              refine XS.icmpNo X35.here hx rfl (hb hby at_100) rfl (teq (own_b0 hc100_37)).2 ?_
              show Steps p.tables e below (T35.setTop (mkF m 103 #[.val (.long q0), .second, .val (.long q1), .second, .val (.long q2), .second, .val (.int p3), .val (.int p4), .val (.ref b1), .val (.int (p3 &&& (2147483647 : Int32))), .val (.int (p4 &&& (3 : Int32))), .val (.int (0 : Int32))] [])) _
              refine XS.iconst X35.here hx rfl (hb hby at_103) ?_
              show Steps p.tables e below (T35.setTop (mkF m 104 #[.val (.long q0), .second, .val (.long q1), .second, .val (.long q2), .second, .val (.int p3), .val (.int p4), .val (.ref b1), .val (.int (p3 &&& (2147483647 : Int32))), .val (.int (p4 &&& (3 : Int32))), .val (.int (0 : Int32))] [(.int (1 : Int32))])) _
              refine XS.goto X35.here hx rfl (pc0 := 104) (pc' := 108) rfl (hb hby at_104) (by decide) (by decide) ?_
              exact k)
            obtain ⟨fs, hr, hrun, hended, hW, hsame⟩ := X35.leave (v := some (.int (1 : Int32))) (fun h => by rw [Bd.returns] at h; cases h)
            refine ⟨_, _, pre39 _ ?_, hrun, hended, _, _, rfl, ?_, ⟨_, rfl⟩, hW, hsame.mono (by decide) (by decide)⟩
            · exact retN X35 hx (t := .boolean) Bd.returns (by simp) (hb hby at_108) hr
            · show Q0 Z q0 q1 q2 p3 p4 h0 n0 _ T35.heap _
              rw [hh35]
              exact ⟨rfl, N35⟩
  · obtain ⟨cq40, kq40, q40a, q40b, q40c⟩ := isOf hZ e3 (P2_0.wr W3)
    obtain ⟨_, _, ⟨T40, L40, k40, n40⟩, -, X40, ⟨Lc40, hQ40, l40, y40, z40⟩, st40⟩ := X3.virtualBack hx (y := (⟨"com/example/sensor_access_indicators/sensoraccessindicators/ShownAccesses", "show", "(J)V"⟩ : MethodName)) (z := (⟨"com/example/sensor_access_indicators/sensoraccessindicators/ShownAccesses", "show", "(J)V"⟩ : MethodName)) hown (mvT hZ (hw _ (List.mem_of_getElem? (i := 15) rfl))) (mvT hZ (hw _ (List.mem_of_getElem? (i := 16) rfl))) (notFace_of_selects (args := #[]) (mvT hZ (hw _ (List.mem_of_getElem? (i := 18) rfl)))) (mvT hZ (hw _ (List.mem_of_getElem? (i := 18) rfl))) (mvT hZ (hw _ (List.mem_of_getElem? (i := 17) rfl))) (by decide) (backOf (W := 0) (rm3 l Z a0 hw [] b1 q0 (-9223372036854775808 : Int64) (p3 &&& (2147483647 : Int32)) h3 n0 (Nat.le_trans (Nat.le_trans (Nat.le_trans Z0 E1.1) K2.1) (Keep.of_wr W3).1) (P2_1.other W3 (Or.inr (slot_ne (Or.inl (hw _ (List.mem_of_getElem? (i := 11) rfl))) (Or.inl (hw _ (List.mem_of_getElem? (i := 14) rfl))) (by decide) (t := .long) (t' := .int) (by decide) (by decide)))) Fw3 (P2_0.wr W3) g_b1) hZ (hw _ (List.mem_of_getElem? (i := 19) rfl)) (hw _ (List.mem_of_getElem? (i := 2) rfl)) (by decide) (by decide)) q40a q40c (g := (mkF m 38 #[.val (.long q0), .second, .val (.long q1), .second, .val (.long q2), .second, .val (.int p3), .val (.int p4), .val (.ref b1), .val (.int (p3 &&& (2147483647 : Int32))), .val (.int (p4 &&& (3 : Int32))), .unset] [(.long q0), (.ref b1)])) rfl (by rw [hml]; rfl) (Steps.refl _) (argsL := [(.long q0)]) (rest := []) (lenOf pd_3 rfl) rfl (by show 2 * 0 + _ ≤ _; exact Nat.le_of_eq rfl) (hb hby at_38) (fun _ _ => ⟨rfl, e3, (by decide : 1 + 0 ≤ _), (by decide : 2 + 0 ≤ _)⟩)
    dsimp only [Pt.U, Pt.locs, Pt.cells, Pt.slots] at X40 l40 y40 z40 st40 hQ40
    subst l40 y40 z40
    obtain ⟨rfl, N40q, K40, P40_0, P40_1, P40_2⟩ := hQ40
    have N40 := Fr.app N3 N40q
    have KK40 : Keep h0 T40.heap [] := KK3.trans K40 (allS (Or.inr sz_b1) all0)
    have pre41 : ∀ t, Steps p.tables e below (T40.setTop (mkF m 44 #[.val (.long q0), .second, .val (.long q1), .second, .val (.long q2), .second, .val (.int p3), .val (.int p4), .val (.ref b1), .val (.int (p3 &&& (2147483647 : Int32))), .val (.int (p4 &&& (3 : Int32))), .unset] [(.int (2 : Int32)), (.int (p4 &&& (3 : Int32)))])) t → Steps p.tables e below (s₁.setTop (entryFrame m #[(.long q0), (.long q1), (.long q2), (.int p3), (.int p4)] maxLocals)) t := fun t k => pre4 t (by
      show Steps p.tables e below (T3.setTop (mkF m 32 #[.val (.long q0), .second, .val (.long q1), .second, .val (.long q2), .second, .val (.int p3), .val (.int p4), .val (.ref b1), .val (.int (p3 &&& (2147483647 : Int32))), .val (.int (p4 &&& (3 : Int32))), .unset] [(.int (1 : Int32)), (.int (p4 &&& (3 : Int32)))])) _
      refine XS.icmpNo X3.here hx rfl (hb hby at_32) rfl (flt hc32_5).1 ?_
      show Steps p.tables e below (T3.setTop (mkF m 35 #[.val (.long q0), .second, .val (.long q1), .second, .val (.long q2), .second, .val (.int p3), .val (.int p4), .val (.ref b1), .val (.int (p3 &&& (2147483647 : Int32))), .val (.int (p4 &&& (3 : Int32))), .unset] [])) _
      refine XS.aload X3.here hx rfl (hb hby at_35) rfl rfl ?_
      show Steps p.tables e below (T3.setTop (mkF m 37 #[.val (.long q0), .second, .val (.long q1), .second, .val (.long q2), .second, .val (.int p3), .val (.int p4), .val (.ref b1), .val (.int (p3 &&& (2147483647 : Int32))), .val (.int (p4 &&& (3 : Int32))), .unset] [(.ref b1)])) _
      refine XS.lloadN X3.here hx rfl (hb hby at_37) rfl ?_
      show Steps p.tables e below (T3.setTop (mkF m 38 #[.val (.long q0), .second, .val (.long q1), .second, .val (.long q2), .second, .val (.int p3), .val (.int p4), .val (.ref b1), .val (.int (p3 &&& (2147483647 : Int32))), .val (.int (p4 &&& (3 : Int32))), .unset] [(.long q0), (.ref b1)])) _
      refine st40.trans ?_
      show Steps p.tables e below (T40.setTop (mkF m 41 #[.val (.long q0), .second, .val (.long q1), .second, .val (.long q2), .second, .val (.int p3), .val (.int p4), .val (.ref b1), .val (.int (p3 &&& (2147483647 : Int32))), .val (.int (p4 &&& (3 : Int32))), .unset] [])) _
      refine XS.iload X40.here hx rfl (hb hby at_41) rfl ?_
      show Steps p.tables e below (T40.setTop (mkF m 43 #[.val (.long q0), .second, .val (.long q1), .second, .val (.long q2), .second, .val (.int p3), .val (.int p4), .val (.ref b1), .val (.int (p3 &&& (2147483647 : Int32))), .val (.int (p4 &&& (3 : Int32))), .unset] [(.int (p4 &&& (3 : Int32)))])) _
      refine XS.iconst X40.here hx rfl (hb hby at_43) ?_
      exact k)
    by_cases hc44_42 : (p4 &&& (3 : Int32)) < (2 : Int32)
    · have pre43 : ∀ t, Steps p.tables e below (T40.setTop (mkF m 55 #[.val (.long q0), .second, .val (.long q1), .second, .val (.long q2), .second, .val (.int p3), .val (.int p4), .val (.ref b1), .val (.int (p3 &&& (2147483647 : Int32))), .val (.int (p4 &&& (3 : Int32))), .unset] [(.int (p3 &&& (2147483647 : Int32)))])) t → Steps p.tables e below (s₁.setTop (entryFrame m #[(.long q0), (.long q1), (.long q2), (.int p3), (.int p4)] maxLocals)) t := fun t k => pre41 t (by
        show Steps p.tables e below (T40.setTop (mkF m 44 #[.val (.long q0), .second, .val (.long q1), .second, .val (.long q2), .second, .val (.int p3), .val (.int p4), .val (.ref b1), .val (.int (p3 &&& (2147483647 : Int32))), .val (.int (p4 &&& (3 : Int32))), .unset] [(.int (2 : Int32)), (.int (p4 &&& (3 : Int32)))])) _
        refine XS.icmpYes X40.here hx rfl (pc0 := 44) (pc' := 53) rfl (hb hby at_44) rfl (tlt hc44_42).1 (by decide) (by decide) ?_
        show Steps p.tables e below (T40.setTop (mkF m 53 #[.val (.long q0), .second, .val (.long q1), .second, .val (.long q2), .second, .val (.int p3), .val (.int p4), .val (.ref b1), .val (.int (p3 &&& (2147483647 : Int32))), .val (.int (p4 &&& (3 : Int32))), .unset] [])) _
        refine XS.iload X40.here hx rfl (hb hby at_53) rfl ?_
        exact k)
      by_cases hc55_44 : (0 : Int32) < (p3 &&& (2147483647 : Int32))
      · obtain ⟨cq45, kq45, q45a, q45b, q45c⟩ := isOf hZ rfl P40_0
        obtain ⟨_, _, ⟨T45, L45, k45, n45⟩, -, X45, ⟨Lc45, hQ45, l45, y45, z45⟩, st45⟩ := X40.virtualBack hx (y := (⟨"com/example/sensor_access_indicators/sensoraccessindicators/ShownAccesses", "isShownAt", "(J)Z"⟩ : MethodName)) (z := (⟨"com/example/sensor_access_indicators/sensoraccessindicators/ShownAccesses", "isShownAt", "(J)Z"⟩ : MethodName)) hown (mvT hZ (hw _ (List.mem_of_getElem? (i := 24) rfl))) (mvT hZ (hw _ (List.mem_of_getElem? (i := 25) rfl))) (notFace_of_selects (args := #[]) (mvT hZ (hw _ (List.mem_of_getElem? (i := 27) rfl)))) (mvT hZ (hw _ (List.mem_of_getElem? (i := 27) rfl))) (mvT hZ (hw _ (List.mem_of_getElem? (i := 26) rfl))) (by decide) (backOf (W := 0) (rm5 l Z a0 hw [] b1 q2 (own_max (-9223372036854775808 : Int64) q0) (p3 &&& (2147483647 : Int32)) T40.heap n0 (Nat.le_trans (Nat.le_trans (Nat.le_trans (Nat.le_trans Z0 E1.1) K2.1) (Keep.of_wr W3).1) K40.1) P40_1 P40_2) hZ (hw _ (List.mem_of_getElem? (i := 28) rfl)) (hw _ (List.mem_of_getElem? (i := 2) rfl)) (by decide) (by decide)) q45a q45c (g := (mkF m 95 #[.val (.long q0), .second, .val (.long q1), .second, .val (.long q2), .second, .val (.int p3), .val (.int p4), .val (.ref b1), .val (.int (p3 &&& (2147483647 : Int32))), .val (.int (p4 &&& (3 : Int32))), .val (.int (1 : Int32))] [(.long q2), (.ref b1)])) rfl (by rw [hml]; rfl) (Steps.refl _) (argsL := [(.long q2)]) (rest := []) (lenOf pd_2 rfl) rfl (by show 2 * 0 + _ ≤ _; exact Nat.le_of_eq rfl) (hb hby at_95) (fun _ _ => ⟨rfl, rfl, (by decide : 1 + 0 ≤ _), (by decide : 2 + 0 ≤ _)⟩)
        dsimp only [Pt.U, Pt.locs, Pt.cells, Pt.slots] at X45 l45 y45 z45 st45 hQ45
        subst l45 y45 z45
        obtain ⟨rfl, N45q, hh45⟩ := hQ45
        have N45 := Fr.app N40 N45q
        have pre46 : ∀ t, Steps p.tables e below (T45.setTop (mkF m 100 #[.val (.long q0), .second, .val (.long q1), .second, .val (.long q2), .second, .val (.int p3), .val (.int p4), .val (.ref b1), .val (.int (p3 &&& (2147483647 : Int32))), .val (.int (p4 &&& (3 : Int32))), .val (.int (1 : Int32))] [(.int (1 : Int32)), (.int (if ((0 : Int32) < (p3 &&& (2147483647 : Int32)) ∨ q2 < (own_max (-9223372036854775808 : Int64) q0)) then (1 : Int32) else 0))])) t → Steps p.tables e below (s₁.setTop (entryFrame m #[(.long q0), (.long q1), (.long q2), (.int p3), (.int p4)] maxLocals)) t := fun t k => pre43 t (by
          show Steps p.tables e below (T40.setTop (mkF m 55 #[.val (.long q0), .second, .val (.long q1), .second, .val (.long q2), .second, .val (.int p3), .val (.int p4), .val (.ref b1), .val (.int (p3 &&& (2147483647 : Int32))), .val (.int (p4 &&& (3 : Int32))), .unset] [(.int (p3 &&& (2147483647 : Int32)))])) _
          refine XS.ifYes X40.here hx rfl (pc0 := 55) (pc' := 84) rfl (hb hby at_55) rfl ((if0 _ _).trans (tlt hc55_44).2.2.1) (by decide) (by decide) ?_
          show Steps p.tables e below (T40.setTop (mkF m 84 #[.val (.long q0), .second, .val (.long q1), .second, .val (.long q2), .second, .val (.int p3), .val (.int p4), .val (.ref b1), .val (.int (p3 &&& (2147483647 : Int32))), .val (.int (p4 &&& (3 : Int32))), .unset] [])) _
          refine XS.iconst X40.here hx rfl (hb hby at_84) ?_
          show Steps p.tables e below (T40.setTop (mkF m 85 #[.val (.long q0), .second, .val (.long q1), .second, .val (.long q2), .second, .val (.int p3), .val (.int p4), .val (.ref b1), .val (.int (p3 &&& (2147483647 : Int32))), .val (.int (p4 &&& (3 : Int32))), .unset] [(.int (1 : Int32))])) _
          refine XS.goto X40.here hx rfl (pc0 := 85) (pc' := 89) rfl (hb hby at_85) (by decide) (by decide) ?_
          show Steps p.tables e below (T40.setTop (mkF m 89 #[.val (.long q0), .second, .val (.long q1), .second, .val (.long q2), .second, .val (.int p3), .val (.int p4), .val (.ref b1), .val (.int (p3 &&& (2147483647 : Int32))), .val (.int (p4 &&& (3 : Int32))), .unset] [(.int (1 : Int32))])) _
          refine XS.istore X40.here hx rfl (hb hby at_89) rfl (l' := #[.val (.long q0), .second, .val (.long q1), .second, .val (.long q2), .second, .val (.int p3), .val (.int p4), .val (.ref b1), .val (.int (p3 &&& (2147483647 : Int32))), .val (.int (p4 &&& (3 : Int32))), .val (.int (1 : Int32))]) rfl ?_
          show Steps p.tables e below (T40.setTop (mkF m 91 #[.val (.long q0), .second, .val (.long q1), .second, .val (.long q2), .second, .val (.int p3), .val (.int p4), .val (.ref b1), .val (.int (p3 &&& (2147483647 : Int32))), .val (.int (p4 &&& (3 : Int32))), .val (.int (1 : Int32))] [])) _
          refine XS.aload X40.here hx rfl (hb hby at_91) rfl rfl ?_
          show Steps p.tables e below (T40.setTop (mkF m 93 #[.val (.long q0), .second, .val (.long q1), .second, .val (.long q2), .second, .val (.int p3), .val (.int p4), .val (.ref b1), .val (.int (p3 &&& (2147483647 : Int32))), .val (.int (p4 &&& (3 : Int32))), .val (.int (1 : Int32))] [(.ref b1)])) _
          refine XS.lload X40.here hx rfl (hb hby at_93) rfl ?_
          show Steps p.tables e below (T40.setTop (mkF m 95 #[.val (.long q0), .second, .val (.long q1), .second, .val (.long q2), .second, .val (.int p3), .val (.int p4), .val (.ref b1), .val (.int (p3 &&& (2147483647 : Int32))), .val (.int (p4 &&& (3 : Int32))), .val (.int (1 : Int32))] [(.long q2), (.ref b1)])) _
          refine st45.trans ?_
          show Steps p.tables e below (T45.setTop (mkF m 98 #[.val (.long q0), .second, .val (.long q1), .second, .val (.long q2), .second, .val (.int p3), .val (.int p4), .val (.ref b1), .val (.int (p3 &&& (2147483647 : Int32))), .val (.int (p4 &&& (3 : Int32))), .val (.int (1 : Int32))] [(.int (if ((0 : Int32) < (p3 &&& (2147483647 : Int32)) ∨ q2 < (own_max (-9223372036854775808 : Int64) q0)) then (1 : Int32) else 0))])) _
          refine XS.iload X45.here hx rfl (hb hby at_98) rfl ?_
          exact k)
        by_cases hc100_47 : ((0 : Int32) < (p3 &&& (2147483647 : Int32)) ∨ q2 < (own_max (-9223372036854775808 : Int64) q0))
        · have pre48 : ∀ t, Steps p.tables e below (T45.setTop (mkF m 108 #[.val (.long q0), .second, .val (.long q1), .second, .val (.long q2), .second, .val (.int p3), .val (.int p4), .val (.ref b1), .val (.int (p3 &&& (2147483647 : Int32))), .val (.int (p4 &&& (3 : Int32))), .val (.int (1 : Int32))] [(.int (1 : Int32))])) t → Steps p.tables e below (s₁.setTop (entryFrame m #[(.long q0), (.long q1), (.long q2), (.int p3), (.int p4)] maxLocals)) t := fun t k => pre46 t (by
            show Steps p.tables e below (T45.setTop (mkF m 100 #[.val (.long q0), .second, .val (.long q1), .second, .val (.long q2), .second, .val (.int p3), .val (.int p4), .val (.ref b1), .val (.int (p3 &&& (2147483647 : Int32))), .val (.int (p4 &&& (3 : Int32))), .val (.int (1 : Int32))] [(.int (1 : Int32)), (.int (if ((0 : Int32) < (p3 &&& (2147483647 : Int32)) ∨ q2 < (own_max (-9223372036854775808 : Int64) q0)) then (1 : Int32) else 0))])) _
            refine XS.icmpNo X45.here hx rfl (hb hby at_100) rfl (teq (own_c1 hc100_47)).2 ?_
            show Steps p.tables e below (T45.setTop (mkF m 103 #[.val (.long q0), .second, .val (.long q1), .second, .val (.long q2), .second, .val (.int p3), .val (.int p4), .val (.ref b1), .val (.int (p3 &&& (2147483647 : Int32))), .val (.int (p4 &&& (3 : Int32))), .val (.int (1 : Int32))] [])) _
            refine XS.iconst X45.here hx rfl (hb hby at_103) ?_
            show Steps p.tables e below (T45.setTop (mkF m 104 #[.val (.long q0), .second, .val (.long q1), .second, .val (.long q2), .second, .val (.int p3), .val (.int p4), .val (.ref b1), .val (.int (p3 &&& (2147483647 : Int32))), .val (.int (p4 &&& (3 : Int32))), .val (.int (1 : Int32))] [(.int (1 : Int32))])) _
            refine XS.goto X45.here hx rfl (pc0 := 104) (pc' := 108) rfl (hb hby at_104) (by decide) (by decide) ?_
            exact k)
          obtain ⟨fs, hr, hrun, hended, hW, hsame⟩ := X45.leave (v := some (.int (1 : Int32))) (fun h => by rw [Bd.returns] at h; cases h)
          refine ⟨_, _, pre48 _ ?_, hrun, hended, _, _, rfl, ?_, ⟨_, rfl⟩, hW, hsame.mono (by decide) (by decide)⟩
          · exact retN X45 hx (t := .boolean) Bd.returns (by simp) (hb hby at_108) hr
          · show Q0 Z q0 q1 q2 p3 p4 h0 n0 _ T45.heap _
            rw [hh45]
            exact ⟨rfl, N45⟩
        · have pre49 : ∀ t, Steps p.tables e below (T45.setTop (mkF m 108 #[.val (.long q0), .second, .val (.long q1), .second, .val (.long q2), .second, .val (.int p3), .val (.int p4), .val (.ref b1), .val (.int (p3 &&& (2147483647 : Int32))), .val (.int (p4 &&& (3 : Int32))), .val (.int (1 : Int32))] [(.int (0 : Int32))])) t → Steps p.tables e below (s₁.setTop (entryFrame m #[(.long q0), (.long q1), (.long q2), (.int p3), (.int p4)] maxLocals)) t := fun t k => pre46 t (by
            show Steps p.tables e below (T45.setTop (mkF m 100 #[.val (.long q0), .second, .val (.long q1), .second, .val (.long q2), .second, .val (.int p3), .val (.int p4), .val (.ref b1), .val (.int (p3 &&& (2147483647 : Int32))), .val (.int (p4 &&& (3 : Int32))), .val (.int (1 : Int32))] [(.int (1 : Int32)), (.int (if ((0 : Int32) < (p3 &&& (2147483647 : Int32)) ∨ q2 < (own_max (-9223372036854775808 : Int64) q0)) then (1 : Int32) else 0))])) _
            refine XS.icmpYes X45.here hx rfl (pc0 := 100) (pc' := 107) rfl (hb hby at_100) rfl (feq (own_c0 hc100_47)).2 (by decide) (by decide) ?_
            show Steps p.tables e below (T45.setTop (mkF m 107 #[.val (.long q0), .second, .val (.long q1), .second, .val (.long q2), .second, .val (.int p3), .val (.int p4), .val (.ref b1), .val (.int (p3 &&& (2147483647 : Int32))), .val (.int (p4 &&& (3 : Int32))), .val (.int (1 : Int32))] [])) _
            refine XS.iconst X45.here hx rfl (hb hby at_107) ?_
            exact k)
          obtain ⟨fs, hr, hrun, hended, hW, hsame⟩ := X45.leave (v := some (.int (0 : Int32))) (fun h => by rw [Bd.returns] at h; cases h)
          refine ⟨_, _, pre49 _ ?_, hrun, hended, _, _, rfl, ?_, ⟨_, rfl⟩, hW, hsame.mono (by decide) (by decide)⟩
          · exact retN X45 hx (t := .boolean) Bd.returns (by simp) (hb hby at_108) hr
          · show Q0 Z q0 q1 q2 p3 p4 h0 n0 _ T45.heap _
            rw [hh45]
            exfalso
            simp only [own_max_toInt, Int32.lt_iff_toInt_lt, Int64.lt_iff_toInt_lt, Int32.reduceToInt, Int64.reduceToInt] at hc32_5 hc44_42 hc55_44 hc100_47
            have r0 := rng64 q0
            have r1 := rng64 q1
            have r2 := rng64 q2
            omega
      · have pre50 : ∀ t, Steps p.tables e below (T40.setTop (mkF m 68 #[.val (.long q0), .second, .val (.long q1), .second, .val (.long q2), .second, .val (.int p3), .val (.int p4), .val (.ref b1), .val (.int (p3 &&& (2147483647 : Int32))), .val (.int (p4 &&& (3 : Int32))), .unset] [(.int (lcmpW q0 q2))])) t → Steps p.tables e below (s₁.setTop (entryFrame m #[(.long q0), (.long q1), (.long q2), (.int p3), (.int p4)] maxLocals)) t := fun t k => pre43 t (by
          show Steps p.tables e below (T40.setTop (mkF m 55 #[.val (.long q0), .second, .val (.long q1), .second, .val (.long q2), .second, .val (.int p3), .val (.int p4), .val (.ref b1), .val (.int (p3 &&& (2147483647 : Int32))), .val (.int (p4 &&& (3 : Int32))), .unset] [(.int (p3 &&& (2147483647 : Int32)))])) _
          refine XS.ifNo X40.here hx rfl (hb hby at_55) rfl ((if0 _ _).trans (flt hc55_44).2.2.1) ?_
          show Steps p.tables e below (T40.setTop (mkF m 58 #[.val (.long q0), .second, .val (.long q1), .second, .val (.long q2), .second, .val (.int p3), .val (.int p4), .val (.ref b1), .val (.int (p3 &&& (2147483647 : Int32))), .val (.int (p4 &&& (3 : Int32))), .unset] [])) _
          refine XS.iload X40.here hx rfl (hb hby at_58) rfl ?_
          show Steps p.tables e below (T40.setTop (mkF m 60 #[.val (.long q0), .second, .val (.long q1), .second, .val (.long q2), .second, .val (.int p3), .val (.int p4), .val (.ref b1), .val (.int (p3 &&& (2147483647 : Int32))), .val (.int (p4 &&& (3 : Int32))), .unset] [(.int (p4 &&& (3 : Int32)))])) _
          refine XS.iconst X40.here hx rfl (hb hby at_60) ?_
          show Steps p.tables e below (T40.setTop (mkF m 61 #[.val (.long q0), .second, .val (.long q1), .second, .val (.long q2), .second, .val (.int p3), .val (.int p4), .val (.ref b1), .val (.int (p3 &&& (2147483647 : Int32))), .val (.int (p4 &&& (3 : Int32))), .unset] [(.int (1 : Int32)), (.int (p4 &&& (3 : Int32)))])) _
          refine XS.icmpNo X40.here hx rfl (hb hby at_61) rfl (flt hc32_5).1 ?_
          show Steps p.tables e below (T40.setTop (mkF m 64 #[.val (.long q0), .second, .val (.long q1), .second, .val (.long q2), .second, .val (.int p3), .val (.int p4), .val (.ref b1), .val (.int (p3 &&& (2147483647 : Int32))), .val (.int (p4 &&& (3 : Int32))), .unset] [])) _
          refine XS.lloadN X40.here hx rfl (hb hby at_64) rfl ?_
          show Steps p.tables e below (T40.setTop (mkF m 65 #[.val (.long q0), .second, .val (.long q1), .second, .val (.long q2), .second, .val (.int p3), .val (.int p4), .val (.ref b1), .val (.int (p3 &&& (2147483647 : Int32))), .val (.int (p4 &&& (3 : Int32))), .unset] [(.long q0)])) _
          refine XS.lload X40.here hx rfl (hb hby at_65) rfl ?_
          show Steps p.tables e below (T40.setTop (mkF m 67 #[.val (.long q0), .second, .val (.long q1), .second, .val (.long q2), .second, .val (.int p3), .val (.int p4), .val (.ref b1), .val (.int (p3 &&& (2147483647 : Int32))), .val (.int (p4 &&& (3 : Int32))), .unset] [(.long q2), (.long q0)])) _
          refine XS.lcmp X40.here hx rfl (hb hby at_67) rfl ?_
          exact k)
        by_cases hc68_51 : q2 < q0
        · obtain ⟨cq52, kq52, q52a, q52b, q52c⟩ := isOf hZ rfl P40_0
          obtain ⟨_, _, ⟨T52, L52, k52, n52⟩, -, X52, ⟨Lc52, hQ52, l52, y52, z52⟩, st52⟩ := X40.virtualBack hx (y := (⟨"com/example/sensor_access_indicators/sensoraccessindicators/ShownAccesses", "isShownAt", "(J)Z"⟩ : MethodName)) (z := (⟨"com/example/sensor_access_indicators/sensoraccessindicators/ShownAccesses", "isShownAt", "(J)Z"⟩ : MethodName)) hown (mvT hZ (hw _ (List.mem_of_getElem? (i := 24) rfl))) (mvT hZ (hw _ (List.mem_of_getElem? (i := 25) rfl))) (notFace_of_selects (args := #[]) (mvT hZ (hw _ (List.mem_of_getElem? (i := 27) rfl)))) (mvT hZ (hw _ (List.mem_of_getElem? (i := 27) rfl))) (mvT hZ (hw _ (List.mem_of_getElem? (i := 26) rfl))) (by decide) (backOf (W := 0) (rm5 l Z a0 hw [] b1 q2 (own_max (-9223372036854775808 : Int64) q0) (p3 &&& (2147483647 : Int32)) T40.heap n0 (Nat.le_trans (Nat.le_trans (Nat.le_trans (Nat.le_trans Z0 E1.1) K2.1) (Keep.of_wr W3).1) K40.1) P40_1 P40_2) hZ (hw _ (List.mem_of_getElem? (i := 28) rfl)) (hw _ (List.mem_of_getElem? (i := 2) rfl)) (by decide) (by decide)) q52a q52c (g := (mkF m 95 #[.val (.long q0), .second, .val (.long q1), .second, .val (.long q2), .second, .val (.int p3), .val (.int p4), .val (.ref b1), .val (.int (p3 &&& (2147483647 : Int32))), .val (.int (p4 &&& (3 : Int32))), .val (.int (1 : Int32))] [(.long q2), (.ref b1)])) rfl (by rw [hml]; rfl) (Steps.refl _) (argsL := [(.long q2)]) (rest := []) (lenOf pd_2 rfl) rfl (by show 2 * 0 + _ ≤ _; exact Nat.le_of_eq rfl) (hb hby at_95) (fun _ _ => ⟨rfl, rfl, (by decide : 1 + 0 ≤ _), (by decide : 2 + 0 ≤ _)⟩)
          dsimp only [Pt.U, Pt.locs, Pt.cells, Pt.slots] at X52 l52 y52 z52 st52 hQ52
          subst l52 y52 z52
          obtain ⟨rfl, N52q, hh52⟩ := hQ52
          have N52 := Fr.app N40 N52q
          have pre53 : ∀ t, Steps p.tables e below (T52.setTop (mkF m 100 #[.val (.long q0), .second, .val (.long q1), .second, .val (.long q2), .second, .val (.int p3), .val (.int p4), .val (.ref b1), .val (.int (p3 &&& (2147483647 : Int32))), .val (.int (p4 &&& (3 : Int32))), .val (.int (1 : Int32))] [(.int (1 : Int32)), (.int (if ((0 : Int32) < (p3 &&& (2147483647 : Int32)) ∨ q2 < (own_max (-9223372036854775808 : Int64) q0)) then (1 : Int32) else 0))])) t → Steps p.tables e below (s₁.setTop (entryFrame m #[(.long q0), (.long q1), (.long q2), (.int p3), (.int p4)] maxLocals)) t := fun t k => pre50 t (by
            show Steps p.tables e below (T40.setTop (mkF m 68 #[.val (.long q0), .second, .val (.long q1), .second, .val (.long q2), .second, .val (.int p3), .val (.int p4), .val (.ref b1), .val (.int (p3 &&& (2147483647 : Int32))), .val (.int (p4 &&& (3 : Int32))), .unset] [(.int (lcmpW q0 q2))])) _
            refine XS.ifYes X40.here hx rfl (pc0 := 68) (pc' := 84) rfl (hb hby at_68) rfl ((if0 _ _).trans (tlt ((lw_gt _ _).mpr hc68_51)).2.2.1) (by decide) (by decide) ?_
            show Steps p.tables e below (T40.setTop (mkF m 84 #[.val (.long q0), .second, .val (.long q1), .second, .val (.long q2), .second, .val (.int p3), .val (.int p4), .val (.ref b1), .val (.int (p3 &&& (2147483647 : Int32))), .val (.int (p4 &&& (3 : Int32))), .unset] [])) _
            refine XS.iconst X40.here hx rfl (hb hby at_84) ?_
            show Steps p.tables e below (T40.setTop (mkF m 85 #[.val (.long q0), .second, .val (.long q1), .second, .val (.long q2), .second, .val (.int p3), .val (.int p4), .val (.ref b1), .val (.int (p3 &&& (2147483647 : Int32))), .val (.int (p4 &&& (3 : Int32))), .unset] [(.int (1 : Int32))])) _
            refine XS.goto X40.here hx rfl (pc0 := 85) (pc' := 89) rfl (hb hby at_85) (by decide) (by decide) ?_
            show Steps p.tables e below (T40.setTop (mkF m 89 #[.val (.long q0), .second, .val (.long q1), .second, .val (.long q2), .second, .val (.int p3), .val (.int p4), .val (.ref b1), .val (.int (p3 &&& (2147483647 : Int32))), .val (.int (p4 &&& (3 : Int32))), .unset] [(.int (1 : Int32))])) _
            refine XS.istore X40.here hx rfl (hb hby at_89) rfl (l' := #[.val (.long q0), .second, .val (.long q1), .second, .val (.long q2), .second, .val (.int p3), .val (.int p4), .val (.ref b1), .val (.int (p3 &&& (2147483647 : Int32))), .val (.int (p4 &&& (3 : Int32))), .val (.int (1 : Int32))]) rfl ?_
            show Steps p.tables e below (T40.setTop (mkF m 91 #[.val (.long q0), .second, .val (.long q1), .second, .val (.long q2), .second, .val (.int p3), .val (.int p4), .val (.ref b1), .val (.int (p3 &&& (2147483647 : Int32))), .val (.int (p4 &&& (3 : Int32))), .val (.int (1 : Int32))] [])) _
            refine XS.aload X40.here hx rfl (hb hby at_91) rfl rfl ?_
            show Steps p.tables e below (T40.setTop (mkF m 93 #[.val (.long q0), .second, .val (.long q1), .second, .val (.long q2), .second, .val (.int p3), .val (.int p4), .val (.ref b1), .val (.int (p3 &&& (2147483647 : Int32))), .val (.int (p4 &&& (3 : Int32))), .val (.int (1 : Int32))] [(.ref b1)])) _
            refine XS.lload X40.here hx rfl (hb hby at_93) rfl ?_
            show Steps p.tables e below (T40.setTop (mkF m 95 #[.val (.long q0), .second, .val (.long q1), .second, .val (.long q2), .second, .val (.int p3), .val (.int p4), .val (.ref b1), .val (.int (p3 &&& (2147483647 : Int32))), .val (.int (p4 &&& (3 : Int32))), .val (.int (1 : Int32))] [(.long q2), (.ref b1)])) _
            refine st52.trans ?_
            show Steps p.tables e below (T52.setTop (mkF m 98 #[.val (.long q0), .second, .val (.long q1), .second, .val (.long q2), .second, .val (.int p3), .val (.int p4), .val (.ref b1), .val (.int (p3 &&& (2147483647 : Int32))), .val (.int (p4 &&& (3 : Int32))), .val (.int (1 : Int32))] [(.int (if ((0 : Int32) < (p3 &&& (2147483647 : Int32)) ∨ q2 < (own_max (-9223372036854775808 : Int64) q0)) then (1 : Int32) else 0))])) _
            refine XS.iload X52.here hx rfl (hb hby at_98) rfl ?_
            exact k)
          by_cases hc100_54 : ((0 : Int32) < (p3 &&& (2147483647 : Int32)) ∨ q2 < (own_max (-9223372036854775808 : Int64) q0))
          · have pre55 : ∀ t, Steps p.tables e below (T52.setTop (mkF m 108 #[.val (.long q0), .second, .val (.long q1), .second, .val (.long q2), .second, .val (.int p3), .val (.int p4), .val (.ref b1), .val (.int (p3 &&& (2147483647 : Int32))), .val (.int (p4 &&& (3 : Int32))), .val (.int (1 : Int32))] [(.int (1 : Int32))])) t → Steps p.tables e below (s₁.setTop (entryFrame m #[(.long q0), (.long q1), (.long q2), (.int p3), (.int p4)] maxLocals)) t := fun t k => pre53 t (by
              show Steps p.tables e below (T52.setTop (mkF m 100 #[.val (.long q0), .second, .val (.long q1), .second, .val (.long q2), .second, .val (.int p3), .val (.int p4), .val (.ref b1), .val (.int (p3 &&& (2147483647 : Int32))), .val (.int (p4 &&& (3 : Int32))), .val (.int (1 : Int32))] [(.int (1 : Int32)), (.int (if ((0 : Int32) < (p3 &&& (2147483647 : Int32)) ∨ q2 < (own_max (-9223372036854775808 : Int64) q0)) then (1 : Int32) else 0))])) _
              refine XS.icmpNo X52.here hx rfl (hb hby at_100) rfl (teq (own_c1 hc100_54)).2 ?_
              show Steps p.tables e below (T52.setTop (mkF m 103 #[.val (.long q0), .second, .val (.long q1), .second, .val (.long q2), .second, .val (.int p3), .val (.int p4), .val (.ref b1), .val (.int (p3 &&& (2147483647 : Int32))), .val (.int (p4 &&& (3 : Int32))), .val (.int (1 : Int32))] [])) _
              refine XS.iconst X52.here hx rfl (hb hby at_103) ?_
              show Steps p.tables e below (T52.setTop (mkF m 104 #[.val (.long q0), .second, .val (.long q1), .second, .val (.long q2), .second, .val (.int p3), .val (.int p4), .val (.ref b1), .val (.int (p3 &&& (2147483647 : Int32))), .val (.int (p4 &&& (3 : Int32))), .val (.int (1 : Int32))] [(.int (1 : Int32))])) _
              refine XS.goto X52.here hx rfl (pc0 := 104) (pc' := 108) rfl (hb hby at_104) (by decide) (by decide) ?_
              exact k)
            obtain ⟨fs, hr, hrun, hended, hW, hsame⟩ := X52.leave (v := some (.int (1 : Int32))) (fun h => by rw [Bd.returns] at h; cases h)
            refine ⟨_, _, pre55 _ ?_, hrun, hended, _, _, rfl, ?_, ⟨_, rfl⟩, hW, hsame.mono (by decide) (by decide)⟩
            · exact retN X52 hx (t := .boolean) Bd.returns (by simp) (hb hby at_108) hr
            · show Q0 Z q0 q1 q2 p3 p4 h0 n0 _ T52.heap _
              rw [hh52]
              exact ⟨rfl, N52⟩
          · have pre56 : ∀ t, Steps p.tables e below (T52.setTop (mkF m 108 #[.val (.long q0), .second, .val (.long q1), .second, .val (.long q2), .second, .val (.int p3), .val (.int p4), .val (.ref b1), .val (.int (p3 &&& (2147483647 : Int32))), .val (.int (p4 &&& (3 : Int32))), .val (.int (1 : Int32))] [(.int (0 : Int32))])) t → Steps p.tables e below (s₁.setTop (entryFrame m #[(.long q0), (.long q1), (.long q2), (.int p3), (.int p4)] maxLocals)) t := fun t k => pre53 t (by
              show Steps p.tables e below (T52.setTop (mkF m 100 #[.val (.long q0), .second, .val (.long q1), .second, .val (.long q2), .second, .val (.int p3), .val (.int p4), .val (.ref b1), .val (.int (p3 &&& (2147483647 : Int32))), .val (.int (p4 &&& (3 : Int32))), .val (.int (1 : Int32))] [(.int (1 : Int32)), (.int (if ((0 : Int32) < (p3 &&& (2147483647 : Int32)) ∨ q2 < (own_max (-9223372036854775808 : Int64) q0)) then (1 : Int32) else 0))])) _
              refine XS.icmpYes X52.here hx rfl (pc0 := 100) (pc' := 107) rfl (hb hby at_100) rfl (feq (own_c0 hc100_54)).2 (by decide) (by decide) ?_
              show Steps p.tables e below (T52.setTop (mkF m 107 #[.val (.long q0), .second, .val (.long q1), .second, .val (.long q2), .second, .val (.int p3), .val (.int p4), .val (.ref b1), .val (.int (p3 &&& (2147483647 : Int32))), .val (.int (p4 &&& (3 : Int32))), .val (.int (1 : Int32))] [])) _
              refine XS.iconst X52.here hx rfl (hb hby at_107) ?_
              exact k)
            obtain ⟨fs, hr, hrun, hended, hW, hsame⟩ := X52.leave (v := some (.int (0 : Int32))) (fun h => by rw [Bd.returns] at h; cases h)
            refine ⟨_, _, pre56 _ ?_, hrun, hended, _, _, rfl, ?_, ⟨_, rfl⟩, hW, hsame.mono (by decide) (by decide)⟩
            · exact retN X52 hx (t := .boolean) Bd.returns (by simp) (hb hby at_108) hr
            · show Q0 Z q0 q1 q2 p3 p4 h0 n0 _ T52.heap _
              rw [hh52]
              exfalso
              simp only [own_max_toInt, Int32.lt_iff_toInt_lt, Int64.lt_iff_toInt_lt, Int32.reduceToInt, Int64.reduceToInt] at hc32_5 hc44_42 hc55_44 hc68_51 hc100_54
              have r0 := rng64 q0
              have r1 := rng64 q1
              have r2 := rng64 q2
              omega
        · obtain ⟨cq57, kq57, q57a, q57b, q57c⟩ := isOf hZ rfl P40_0
          obtain ⟨_, _, ⟨T57, L57, k57, n57⟩, -, X57, ⟨Lc57, hQ57, l57, y57, z57⟩, st57⟩ := X40.virtualBack hx (y := (⟨"com/example/sensor_access_indicators/sensoraccessindicators/ShownAccesses", "isShownAt", "(J)Z"⟩ : MethodName)) (z := (⟨"com/example/sensor_access_indicators/sensoraccessindicators/ShownAccesses", "isShownAt", "(J)Z"⟩ : MethodName)) hown (mvT hZ (hw _ (List.mem_of_getElem? (i := 24) rfl))) (mvT hZ (hw _ (List.mem_of_getElem? (i := 25) rfl))) (notFace_of_selects (args := #[]) (mvT hZ (hw _ (List.mem_of_getElem? (i := 27) rfl)))) (mvT hZ (hw _ (List.mem_of_getElem? (i := 27) rfl))) (mvT hZ (hw _ (List.mem_of_getElem? (i := 26) rfl))) (by decide) (backOf (W := 0) (rm5 l Z a0 hw [] b1 q2 (own_max (-9223372036854775808 : Int64) q0) (p3 &&& (2147483647 : Int32)) T40.heap n0 (Nat.le_trans (Nat.le_trans (Nat.le_trans (Nat.le_trans Z0 E1.1) K2.1) (Keep.of_wr W3).1) K40.1) P40_1 P40_2) hZ (hw _ (List.mem_of_getElem? (i := 28) rfl)) (hw _ (List.mem_of_getElem? (i := 2) rfl)) (by decide) (by decide)) q57a q57c (g := (mkF m 95 #[.val (.long q0), .second, .val (.long q1), .second, .val (.long q2), .second, .val (.int p3), .val (.int p4), .val (.ref b1), .val (.int (p3 &&& (2147483647 : Int32))), .val (.int (p4 &&& (3 : Int32))), .val (.int (0 : Int32))] [(.long q2), (.ref b1)])) rfl (by rw [hml]; rfl) (Steps.refl _) (argsL := [(.long q2)]) (rest := []) (lenOf pd_2 rfl) rfl (by show 2 * 0 + _ ≤ _; exact Nat.le_of_eq rfl) (hb hby at_95) (fun _ _ => ⟨rfl, rfl, (by decide : 1 + 0 ≤ _), (by decide : 2 + 0 ≤ _)⟩)
          dsimp only [Pt.U, Pt.locs, Pt.cells, Pt.slots] at X57 l57 y57 z57 st57 hQ57
          subst l57 y57 z57
          obtain ⟨rfl, N57q, hh57⟩ := hQ57
          have N57 := Fr.app N40 N57q
          have pre58 : ∀ t, Steps p.tables e below (T57.setTop (mkF m 100 #[.val (.long q0), .second, .val (.long q1), .second, .val (.long q2), .second, .val (.int p3), .val (.int p4), .val (.ref b1), .val (.int (p3 &&& (2147483647 : Int32))), .val (.int (p4 &&& (3 : Int32))), .val (.int (0 : Int32))] [(.int (0 : Int32)), (.int (if ((0 : Int32) < (p3 &&& (2147483647 : Int32)) ∨ q2 < (own_max (-9223372036854775808 : Int64) q0)) then (1 : Int32) else 0))])) t → Steps p.tables e below (s₁.setTop (entryFrame m #[(.long q0), (.long q1), (.long q2), (.int p3), (.int p4)] maxLocals)) t := fun t k => pre50 t (by
            show Steps p.tables e below (T40.setTop (mkF m 68 #[.val (.long q0), .second, .val (.long q1), .second, .val (.long q2), .second, .val (.int p3), .val (.int p4), .val (.ref b1), .val (.int (p3 &&& (2147483647 : Int32))), .val (.int (p4 &&& (3 : Int32))), .unset] [(.int (lcmpW q0 q2))])) _
            refine XS.ifNo X40.here hx rfl (hb hby at_68) rfl ((if0 _ _).trans (flt (fun q => hc68_51 ((lw_gt _ _).mp q))).2.2.1) ?_
            show Steps p.tables e below (T40.setTop (mkF m 71 #[.val (.long q0), .second, .val (.long q1), .second, .val (.long q2), .second, .val (.int p3), .val (.int p4), .val (.ref b1), .val (.int (p3 &&& (2147483647 : Int32))), .val (.int (p4 &&& (3 : Int32))), .unset] [])) _
            refine XS.iload X40.here hx rfl (hb hby at_71) rfl ?_
            show Steps p.tables e below (T40.setTop (mkF m 73 #[.val (.long q0), .second, .val (.long q1), .second, .val (.long q2), .second, .val (.int p3), .val (.int p4), .val (.ref b1), .val (.int (p3 &&& (2147483647 : Int32))), .val (.int (p4 &&& (3 : Int32))), .unset] [(.int (p4 &&& (3 : Int32)))])) _
            refine XS.iconst X40.here hx rfl (hb hby at_73) ?_
            show Steps p.tables e below (T40.setTop (mkF m 74 #[.val (.long q0), .second, .val (.long q1), .second, .val (.long q2), .second, .val (.int p3), .val (.int p4), .val (.ref b1), .val (.int (p3 &&& (2147483647 : Int32))), .val (.int (p4 &&& (3 : Int32))), .unset] [(.int (2 : Int32)), (.int (p4 &&& (3 : Int32)))])) _
            refine XS.icmpYes X40.here hx rfl (pc0 := 74) (pc' := 88) rfl (hb hby at_74) rfl (tlt hc44_42).1 (by decide) (by decide) ?_
            show Steps p.tables e below (T40.setTop (mkF m 88 #[.val (.long q0), .second, .val (.long q1), .second, .val (.long q2), .second, .val (.int p3), .val (.int p4), .val (.ref b1), .val (.int (p3 &&& (2147483647 : Int32))), .val (.int (p4 &&& (3 : Int32))), .unset] [])) _
            refine XS.iconst X40.here hx rfl (hb hby at_88) ?_
            show Steps p.tables e below (T40.setTop (mkF m 89 #[.val (.long q0), .second, .val (.long q1), .second, .val (.long q2), .second, .val (.int p3), .val (.int p4), .val (.ref b1), .val (.int (p3 &&& (2147483647 : Int32))), .val (.int (p4 &&& (3 : Int32))), .unset] [(.int (0 : Int32))])) _
            refine XS.istore X40.here hx rfl (hb hby at_89) rfl (l' := #[.val (.long q0), .second, .val (.long q1), .second, .val (.long q2), .second, .val (.int p3), .val (.int p4), .val (.ref b1), .val (.int (p3 &&& (2147483647 : Int32))), .val (.int (p4 &&& (3 : Int32))), .val (.int (0 : Int32))]) rfl ?_
            show Steps p.tables e below (T40.setTop (mkF m 91 #[.val (.long q0), .second, .val (.long q1), .second, .val (.long q2), .second, .val (.int p3), .val (.int p4), .val (.ref b1), .val (.int (p3 &&& (2147483647 : Int32))), .val (.int (p4 &&& (3 : Int32))), .val (.int (0 : Int32))] [])) _
            refine XS.aload X40.here hx rfl (hb hby at_91) rfl rfl ?_
            show Steps p.tables e below (T40.setTop (mkF m 93 #[.val (.long q0), .second, .val (.long q1), .second, .val (.long q2), .second, .val (.int p3), .val (.int p4), .val (.ref b1), .val (.int (p3 &&& (2147483647 : Int32))), .val (.int (p4 &&& (3 : Int32))), .val (.int (0 : Int32))] [(.ref b1)])) _
            refine XS.lload X40.here hx rfl (hb hby at_93) rfl ?_
            show Steps p.tables e below (T40.setTop (mkF m 95 #[.val (.long q0), .second, .val (.long q1), .second, .val (.long q2), .second, .val (.int p3), .val (.int p4), .val (.ref b1), .val (.int (p3 &&& (2147483647 : Int32))), .val (.int (p4 &&& (3 : Int32))), .val (.int (0 : Int32))] [(.long q2), (.ref b1)])) _
            refine st57.trans ?_
            show Steps p.tables e below (T57.setTop (mkF m 98 #[.val (.long q0), .second, .val (.long q1), .second, .val (.long q2), .second, .val (.int p3), .val (.int p4), .val (.ref b1), .val (.int (p3 &&& (2147483647 : Int32))), .val (.int (p4 &&& (3 : Int32))), .val (.int (0 : Int32))] [(.int (if ((0 : Int32) < (p3 &&& (2147483647 : Int32)) ∨ q2 < (own_max (-9223372036854775808 : Int64) q0)) then (1 : Int32) else 0))])) _
            refine XS.iload X57.here hx rfl (hb hby at_98) rfl ?_
            exact k)
          by_cases hc100_59 : ((0 : Int32) < (p3 &&& (2147483647 : Int32)) ∨ q2 < (own_max (-9223372036854775808 : Int64) q0))
          · have pre60 : ∀ t, Steps p.tables e below (T57.setTop (mkF m 108 #[.val (.long q0), .second, .val (.long q1), .second, .val (.long q2), .second, .val (.int p3), .val (.int p4), .val (.ref b1), .val (.int (p3 &&& (2147483647 : Int32))), .val (.int (p4 &&& (3 : Int32))), .val (.int (0 : Int32))] [(.int (0 : Int32))])) t → Steps p.tables e below (s₁.setTop (entryFrame m #[(.long q0), (.long q1), (.long q2), (.int p3), (.int p4)] maxLocals)) t := fun t k => pre58 t (by
              show Steps p.tables e below (T57.setTop (mkF m 100 #[.val (.long q0), .second, .val (.long q1), .second, .val (.long q2), .second, .val (.int p3), .val (.int p4), .val (.ref b1), .val (.int (p3 &&& (2147483647 : Int32))), .val (.int (p4 &&& (3 : Int32))), .val (.int (0 : Int32))] [(.int (0 : Int32)), (.int (if ((0 : Int32) < (p3 &&& (2147483647 : Int32)) ∨ q2 < (own_max (-9223372036854775808 : Int64) q0)) then (1 : Int32) else 0))])) _
              refine XS.icmpYes X57.here hx rfl (pc0 := 100) (pc' := 107) rfl (hb hby at_100) rfl (feq (own_b1 hc100_59)).2 (by decide) (by decide) ?_
              show Steps p.tables e below (T57.setTop (mkF m 107 #[.val (.long q0), .second, .val (.long q1), .second, .val (.long q2), .second, .val (.int p3), .val (.int p4), .val (.ref b1), .val (.int (p3 &&& (2147483647 : Int32))), .val (.int (p4 &&& (3 : Int32))), .val (.int (0 : Int32))] [])) _
              refine XS.iconst X57.here hx rfl (hb hby at_107) ?_
              exact k)
            obtain ⟨fs, hr, hrun, hended, hW, hsame⟩ := X57.leave (v := some (.int (0 : Int32))) (fun h => by rw [Bd.returns] at h; cases h)
            refine ⟨_, _, pre60 _ ?_, hrun, hended, _, _, rfl, ?_, ⟨_, rfl⟩, hW, hsame.mono (by decide) (by decide)⟩
            · exact retN X57 hx (t := .boolean) Bd.returns (by simp) (hb hby at_108) hr
            · show Q0 Z q0 q1 q2 p3 p4 h0 n0 _ T57.heap _
              rw [hh57]
              exfalso
              simp only [own_max_toInt, Int32.lt_iff_toInt_lt, Int64.lt_iff_toInt_lt, Int32.reduceToInt, Int64.reduceToInt] at hc32_5 hc44_42 hc55_44 hc68_51 hc100_59
              have r0 := rng64 q0
              have r1 := rng64 q1
              have r2 := rng64 q2
              omega
          · have pre61 : ∀ t, Steps p.tables e below (T57.setTop (mkF m 108 #[.val (.long q0), .second, .val (.long q1), .second, .val (.long q2), .second, .val (.int p3), .val (.int p4), .val (.ref b1), .val (.int (p3 &&& (2147483647 : Int32))), .val (.int (p4 &&& (3 : Int32))), .val (.int (0 : Int32))] [(.int (1 : Int32))])) t → Steps p.tables e below (s₁.setTop (entryFrame m #[(.long q0), (.long q1), (.long q2), (.int p3), (.int p4)] maxLocals)) t := fun t k => pre58 t (by
              show Steps p.tables e below (T57.setTop (mkF m 100 #[.val (.long q0), .second, .val (.long q1), .second, .val (.long q2), .second, .val (.int p3), .val (.int p4), .val (.ref b1), .val (.int (p3 &&& (2147483647 : Int32))), .val (.int (p4 &&& (3 : Int32))), .val (.int (0 : Int32))] [(.int (0 : Int32)), (.int (if ((0 : Int32) < (p3 &&& (2147483647 : Int32)) ∨ q2 < (own_max (-9223372036854775808 : Int64) q0)) then (1 : Int32) else 0))])) _
              refine XS.icmpNo X57.here hx rfl (hb hby at_100) rfl (teq (own_b0 hc100_59)).2 ?_
              show Steps p.tables e below (T57.setTop (mkF m 103 #[.val (.long q0), .second, .val (.long q1), .second, .val (.long q2), .second, .val (.int p3), .val (.int p4), .val (.ref b1), .val (.int (p3 &&& (2147483647 : Int32))), .val (.int (p4 &&& (3 : Int32))), .val (.int (0 : Int32))] [])) _
              refine XS.iconst X57.here hx rfl (hb hby at_103) ?_
              show Steps p.tables e below (T57.setTop (mkF m 104 #[.val (.long q0), .second, .val (.long q1), .second, .val (.long q2), .second, .val (.int p3), .val (.int p4), .val (.ref b1), .val (.int (p3 &&& (2147483647 : Int32))), .val (.int (p4 &&& (3 : Int32))), .val (.int (0 : Int32))] [(.int (1 : Int32))])) _
              refine XS.goto X57.here hx rfl (pc0 := 104) (pc' := 108) rfl (hb hby at_104) (by decide) (by decide) ?_
              exact k)
            obtain ⟨fs, hr, hrun, hended, hW, hsame⟩ := X57.leave (v := some (.int (1 : Int32))) (fun h => by rw [Bd.returns] at h; cases h)
            refine ⟨_, _, pre61 _ ?_, hrun, hended, _, _, rfl, ?_, ⟨_, rfl⟩, hW, hsame.mono (by decide) (by decide)⟩
            · exact retN X57 hx (t := .boolean) Bd.returns (by simp) (hb hby at_108) hr
            · show Q0 Z q0 q1 q2 p3 p4 h0 n0 _ T57.heap _
              rw [hh57]
              exact ⟨rfl, N57⟩
    · obtain ⟨cq62, kq62, q62a, q62b, q62c⟩ := isOf hZ rfl P40_0
      obtain ⟨_, _, ⟨T62, L62, k62, n62⟩, -, X62, ⟨Lc62, hQ62, l62, y62, z62⟩, st62⟩ := X40.virtualBack hx (y := (⟨"com/example/sensor_access_indicators/sensoraccessindicators/ShownAccesses", "show", "(J)V"⟩ : MethodName)) (z := (⟨"com/example/sensor_access_indicators/sensoraccessindicators/ShownAccesses", "show", "(J)V"⟩ : MethodName)) hown (mvT hZ (hw _ (List.mem_of_getElem? (i := 15) rfl))) (mvT hZ (hw _ (List.mem_of_getElem? (i := 16) rfl))) (notFace_of_selects (args := #[]) (mvT hZ (hw _ (List.mem_of_getElem? (i := 18) rfl)))) (mvT hZ (hw _ (List.mem_of_getElem? (i := 18) rfl))) (mvT hZ (hw _ (List.mem_of_getElem? (i := 17) rfl))) (by decide) (backOf (W := 0) (rm3 l Z a0 hw [] b1 q1 (own_max (-9223372036854775808 : Int64) q0) (p3 &&& (2147483647 : Int32)) T40.heap n0 (Nat.le_trans (Nat.le_trans (Nat.le_trans (Nat.le_trans Z0 E1.1) K2.1) (Keep.of_wr W3).1) K40.1) P40_1 P40_2 P40_0 g_b1) hZ (hw _ (List.mem_of_getElem? (i := 19) rfl)) (hw _ (List.mem_of_getElem? (i := 2) rfl)) (by decide) (by decide)) q62a q62c (g := (mkF m 50 #[.val (.long q0), .second, .val (.long q1), .second, .val (.long q2), .second, .val (.int p3), .val (.int p4), .val (.ref b1), .val (.int (p3 &&& (2147483647 : Int32))), .val (.int (p4 &&& (3 : Int32))), .unset] [(.long q1), (.ref b1)])) rfl (by rw [hml]; rfl) (Steps.refl _) (argsL := [(.long q1)]) (rest := []) (lenOf pd_3 rfl) rfl (by show 2 * 0 + _ ≤ _; exact Nat.le_of_eq rfl) (hb hby at_50) (fun _ _ => ⟨rfl, rfl, (by decide : 1 + 0 ≤ _), (by decide : 2 + 0 ≤ _)⟩)
      dsimp only [Pt.U, Pt.locs, Pt.cells, Pt.slots] at X62 l62 y62 z62 st62 hQ62
      subst l62 y62 z62
      obtain ⟨rfl, N62q, K62, P62_0, P62_1, P62_2⟩ := hQ62
      have N62 := Fr.app N40 N62q
      have KK62 : Keep h0 T62.heap [] := KK40.trans K62 (allS (Or.inr sz_b1) all0)
      have pre63 : ∀ t, Steps p.tables e below (T62.setTop (mkF m 55 #[.val (.long q0), .second, .val (.long q1), .second, .val (.long q2), .second, .val (.int p3), .val (.int p4), .val (.ref b1), .val (.int (p3 &&& (2147483647 : Int32))), .val (.int (p4 &&& (3 : Int32))), .unset] [(.int (p3 &&& (2147483647 : Int32)))])) t → Steps p.tables e below (s₁.setTop (entryFrame m #[(.long q0), (.long q1), (.long q2), (.int p3), (.int p4)] maxLocals)) t := fun t k => pre41 t (by
        show Steps p.tables e below (T40.setTop (mkF m 44 #[.val (.long q0), .second, .val (.long q1), .second, .val (.long q2), .second, .val (.int p3), .val (.int p4), .val (.ref b1), .val (.int (p3 &&& (2147483647 : Int32))), .val (.int (p4 &&& (3 : Int32))), .unset] [(.int (2 : Int32)), (.int (p4 &&& (3 : Int32)))])) _
        refine XS.icmpNo X40.here hx rfl (hb hby at_44) rfl (flt hc44_42).1 ?_
        show Steps p.tables e below (T40.setTop (mkF m 47 #[.val (.long q0), .second, .val (.long q1), .second, .val (.long q2), .second, .val (.int p3), .val (.int p4), .val (.ref b1), .val (.int (p3 &&& (2147483647 : Int32))), .val (.int (p4 &&& (3 : Int32))), .unset] [])) _
        refine XS.aload X40.here hx rfl (hb hby at_47) rfl rfl ?_
        show Steps p.tables e below (T40.setTop (mkF m 49 #[.val (.long q0), .second, .val (.long q1), .second, .val (.long q2), .second, .val (.int p3), .val (.int p4), .val (.ref b1), .val (.int (p3 &&& (2147483647 : Int32))), .val (.int (p4 &&& (3 : Int32))), .unset] [(.ref b1)])) _
        refine XS.lloadN X40.here hx rfl (hb hby at_49) rfl ?_
        show Steps p.tables e below (T40.setTop (mkF m 50 #[.val (.long q0), .second, .val (.long q1), .second, .val (.long q2), .second, .val (.int p3), .val (.int p4), .val (.ref b1), .val (.int (p3 &&& (2147483647 : Int32))), .val (.int (p4 &&& (3 : Int32))), .unset] [(.long q1), (.ref b1)])) _
        refine st62.trans ?_
        show Steps p.tables e below (T62.setTop (mkF m 53 #[.val (.long q0), .second, .val (.long q1), .second, .val (.long q2), .second, .val (.int p3), .val (.int p4), .val (.ref b1), .val (.int (p3 &&& (2147483647 : Int32))), .val (.int (p4 &&& (3 : Int32))), .unset] [])) _
        refine XS.iload X62.here hx rfl (hb hby at_53) rfl ?_
        exact k)
      by_cases hc55_64 : (0 : Int32) < (p3 &&& (2147483647 : Int32))
      · obtain ⟨cq65, kq65, q65a, q65b, q65c⟩ := isOf hZ rfl P62_0
        obtain ⟨_, _, ⟨T65, L65, k65, n65⟩, -, X65, ⟨Lc65, hQ65, l65, y65, z65⟩, st65⟩ := X62.virtualBack hx (y := (⟨"com/example/sensor_access_indicators/sensoraccessindicators/ShownAccesses", "isShownAt", "(J)Z"⟩ : MethodName)) (z := (⟨"com/example/sensor_access_indicators/sensoraccessindicators/ShownAccesses", "isShownAt", "(J)Z"⟩ : MethodName)) hown (mvT hZ (hw _ (List.mem_of_getElem? (i := 24) rfl))) (mvT hZ (hw _ (List.mem_of_getElem? (i := 25) rfl))) (notFace_of_selects (args := #[]) (mvT hZ (hw _ (List.mem_of_getElem? (i := 27) rfl)))) (mvT hZ (hw _ (List.mem_of_getElem? (i := 27) rfl))) (mvT hZ (hw _ (List.mem_of_getElem? (i := 26) rfl))) (by decide) (backOf (W := 0) (rm5 l Z a0 hw [] b1 q2 (own_max (own_max (-9223372036854775808 : Int64) q0) q1) (p3 &&& (2147483647 : Int32)) T62.heap n0 (Nat.le_trans (Nat.le_trans (Nat.le_trans (Nat.le_trans (Nat.le_trans Z0 E1.1) K2.1) (Keep.of_wr W3).1) K40.1) K62.1) P62_1 P62_2) hZ (hw _ (List.mem_of_getElem? (i := 28) rfl)) (hw _ (List.mem_of_getElem? (i := 2) rfl)) (by decide) (by decide)) q65a q65c (g := (mkF m 95 #[.val (.long q0), .second, .val (.long q1), .second, .val (.long q2), .second, .val (.int p3), .val (.int p4), .val (.ref b1), .val (.int (p3 &&& (2147483647 : Int32))), .val (.int (p4 &&& (3 : Int32))), .val (.int (1 : Int32))] [(.long q2), (.ref b1)])) rfl (by rw [hml]; rfl) (Steps.refl _) (argsL := [(.long q2)]) (rest := []) (lenOf pd_2 rfl) rfl (by show 2 * 0 + _ ≤ _; exact Nat.le_of_eq rfl) (hb hby at_95) (fun _ _ => ⟨rfl, rfl, (by decide : 1 + 0 ≤ _), (by decide : 2 + 0 ≤ _)⟩)
        dsimp only [Pt.U, Pt.locs, Pt.cells, Pt.slots] at X65 l65 y65 z65 st65 hQ65
        subst l65 y65 z65
        obtain ⟨rfl, N65q, hh65⟩ := hQ65
        have N65 := Fr.app N62 N65q
        have pre66 : ∀ t, Steps p.tables e below (T65.setTop (mkF m 100 #[.val (.long q0), .second, .val (.long q1), .second, .val (.long q2), .second, .val (.int p3), .val (.int p4), .val (.ref b1), .val (.int (p3 &&& (2147483647 : Int32))), .val (.int (p4 &&& (3 : Int32))), .val (.int (1 : Int32))] [(.int (1 : Int32)), (.int (if ((0 : Int32) < (p3 &&& (2147483647 : Int32)) ∨ q2 < (own_max (own_max (-9223372036854775808 : Int64) q0) q1)) then (1 : Int32) else 0))])) t → Steps p.tables e below (s₁.setTop (entryFrame m #[(.long q0), (.long q1), (.long q2), (.int p3), (.int p4)] maxLocals)) t := fun t k => pre63 t (by
          show Steps p.tables e below (T62.setTop (mkF m 55 #[.val (.long q0), .second, .val (.long q1), .second, .val (.long q2), .second, .val (.int p3), .val (.int p4), .val (.ref b1), .val (.int (p3 &&& (2147483647 : Int32))), .val (.int (p4 &&& (3 : Int32))), .unset] [(.int (p3 &&& (2147483647 : Int32)))])) _
          refine XS.ifYes X62.here hx rfl (pc0 := 55) (pc' := 84) rfl (hb hby at_55) rfl ((if0 _ _).trans (tlt hc55_64).2.2.1) (by decide) (by decide) ?_
          show Steps p.tables e below (T62.setTop (mkF m 84 #[.val (.long q0), .second, .val (.long q1), .second, .val (.long q2), .second, .val (.int p3), .val (.int p4), .val (.ref b1), .val (.int (p3 &&& (2147483647 : Int32))), .val (.int (p4 &&& (3 : Int32))), .unset] [])) _
          refine XS.iconst X62.here hx rfl (hb hby at_84) ?_
          show Steps p.tables e below (T62.setTop (mkF m 85 #[.val (.long q0), .second, .val (.long q1), .second, .val (.long q2), .second, .val (.int p3), .val (.int p4), .val (.ref b1), .val (.int (p3 &&& (2147483647 : Int32))), .val (.int (p4 &&& (3 : Int32))), .unset] [(.int (1 : Int32))])) _
          refine XS.goto X62.here hx rfl (pc0 := 85) (pc' := 89) rfl (hb hby at_85) (by decide) (by decide) ?_
          show Steps p.tables e below (T62.setTop (mkF m 89 #[.val (.long q0), .second, .val (.long q1), .second, .val (.long q2), .second, .val (.int p3), .val (.int p4), .val (.ref b1), .val (.int (p3 &&& (2147483647 : Int32))), .val (.int (p4 &&& (3 : Int32))), .unset] [(.int (1 : Int32))])) _
          refine XS.istore X62.here hx rfl (hb hby at_89) rfl (l' := #[.val (.long q0), .second, .val (.long q1), .second, .val (.long q2), .second, .val (.int p3), .val (.int p4), .val (.ref b1), .val (.int (p3 &&& (2147483647 : Int32))), .val (.int (p4 &&& (3 : Int32))), .val (.int (1 : Int32))]) rfl ?_
          show Steps p.tables e below (T62.setTop (mkF m 91 #[.val (.long q0), .second, .val (.long q1), .second, .val (.long q2), .second, .val (.int p3), .val (.int p4), .val (.ref b1), .val (.int (p3 &&& (2147483647 : Int32))), .val (.int (p4 &&& (3 : Int32))), .val (.int (1 : Int32))] [])) _
          refine XS.aload X62.here hx rfl (hb hby at_91) rfl rfl ?_
          show Steps p.tables e below (T62.setTop (mkF m 93 #[.val (.long q0), .second, .val (.long q1), .second, .val (.long q2), .second, .val (.int p3), .val (.int p4), .val (.ref b1), .val (.int (p3 &&& (2147483647 : Int32))), .val (.int (p4 &&& (3 : Int32))), .val (.int (1 : Int32))] [(.ref b1)])) _
          refine XS.lload X62.here hx rfl (hb hby at_93) rfl ?_
          show Steps p.tables e below (T62.setTop (mkF m 95 #[.val (.long q0), .second, .val (.long q1), .second, .val (.long q2), .second, .val (.int p3), .val (.int p4), .val (.ref b1), .val (.int (p3 &&& (2147483647 : Int32))), .val (.int (p4 &&& (3 : Int32))), .val (.int (1 : Int32))] [(.long q2), (.ref b1)])) _
          refine st65.trans ?_
          show Steps p.tables e below (T65.setTop (mkF m 98 #[.val (.long q0), .second, .val (.long q1), .second, .val (.long q2), .second, .val (.int p3), .val (.int p4), .val (.ref b1), .val (.int (p3 &&& (2147483647 : Int32))), .val (.int (p4 &&& (3 : Int32))), .val (.int (1 : Int32))] [(.int (if ((0 : Int32) < (p3 &&& (2147483647 : Int32)) ∨ q2 < (own_max (own_max (-9223372036854775808 : Int64) q0) q1)) then (1 : Int32) else 0))])) _
          refine XS.iload X65.here hx rfl (hb hby at_98) rfl ?_
          exact k)
        by_cases hc100_67 : ((0 : Int32) < (p3 &&& (2147483647 : Int32)) ∨ q2 < (own_max (own_max (-9223372036854775808 : Int64) q0) q1))
        · have pre68 : ∀ t, Steps p.tables e below (T65.setTop (mkF m 108 #[.val (.long q0), .second, .val (.long q1), .second, .val (.long q2), .second, .val (.int p3), .val (.int p4), .val (.ref b1), .val (.int (p3 &&& (2147483647 : Int32))), .val (.int (p4 &&& (3 : Int32))), .val (.int (1 : Int32))] [(.int (1 : Int32))])) t → Steps p.tables e below (s₁.setTop (entryFrame m #[(.long q0), (.long q1), (.long q2), (.int p3), (.int p4)] maxLocals)) t := fun t k => pre66 t (by
            show Steps p.tables e below (T65.setTop (mkF m 100 #[.val (.long q0), .second, .val (.long q1), .second, .val (.long q2), .second, .val (.int p3), .val (.int p4), .val (.ref b1), .val (.int (p3 &&& (2147483647 : Int32))), .val (.int (p4 &&& (3 : Int32))), .val (.int (1 : Int32))] [(.int (1 : Int32)), (.int (if ((0 : Int32) < (p3 &&& (2147483647 : Int32)) ∨ q2 < (own_max (own_max (-9223372036854775808 : Int64) q0) q1)) then (1 : Int32) else 0))])) _
            refine XS.icmpNo X65.here hx rfl (hb hby at_100) rfl (teq (own_c1 hc100_67)).2 ?_
            show Steps p.tables e below (T65.setTop (mkF m 103 #[.val (.long q0), .second, .val (.long q1), .second, .val (.long q2), .second, .val (.int p3), .val (.int p4), .val (.ref b1), .val (.int (p3 &&& (2147483647 : Int32))), .val (.int (p4 &&& (3 : Int32))), .val (.int (1 : Int32))] [])) _
            refine XS.iconst X65.here hx rfl (hb hby at_103) ?_
            show Steps p.tables e below (T65.setTop (mkF m 104 #[.val (.long q0), .second, .val (.long q1), .second, .val (.long q2), .second, .val (.int p3), .val (.int p4), .val (.ref b1), .val (.int (p3 &&& (2147483647 : Int32))), .val (.int (p4 &&& (3 : Int32))), .val (.int (1 : Int32))] [(.int (1 : Int32))])) _
            refine XS.goto X65.here hx rfl (pc0 := 104) (pc' := 108) rfl (hb hby at_104) (by decide) (by decide) ?_
            exact k)
          obtain ⟨fs, hr, hrun, hended, hW, hsame⟩ := X65.leave (v := some (.int (1 : Int32))) (fun h => by rw [Bd.returns] at h; cases h)
          refine ⟨_, _, pre68 _ ?_, hrun, hended, _, _, rfl, ?_, ⟨_, rfl⟩, hW, hsame.mono (by decide) (by decide)⟩
          · exact retN X65 hx (t := .boolean) Bd.returns (by simp) (hb hby at_108) hr
          · show Q0 Z q0 q1 q2 p3 p4 h0 n0 _ T65.heap _
            rw [hh65]
            exact ⟨rfl, N65⟩
        · have pre69 : ∀ t, Steps p.tables e below (T65.setTop (mkF m 108 #[.val (.long q0), .second, .val (.long q1), .second, .val (.long q2), .second, .val (.int p3), .val (.int p4), .val (.ref b1), .val (.int (p3 &&& (2147483647 : Int32))), .val (.int (p4 &&& (3 : Int32))), .val (.int (1 : Int32))] [(.int (0 : Int32))])) t → Steps p.tables e below (s₁.setTop (entryFrame m #[(.long q0), (.long q1), (.long q2), (.int p3), (.int p4)] maxLocals)) t := fun t k => pre66 t (by
            show Steps p.tables e below (T65.setTop (mkF m 100 #[.val (.long q0), .second, .val (.long q1), .second, .val (.long q2), .second, .val (.int p3), .val (.int p4), .val (.ref b1), .val (.int (p3 &&& (2147483647 : Int32))), .val (.int (p4 &&& (3 : Int32))), .val (.int (1 : Int32))] [(.int (1 : Int32)), (.int (if ((0 : Int32) < (p3 &&& (2147483647 : Int32)) ∨ q2 < (own_max (own_max (-9223372036854775808 : Int64) q0) q1)) then (1 : Int32) else 0))])) _
            refine XS.icmpYes X65.here hx rfl (pc0 := 100) (pc' := 107) rfl (hb hby at_100) rfl (feq (own_c0 hc100_67)).2 (by decide) (by decide) ?_
            show Steps p.tables e below (T65.setTop (mkF m 107 #[.val (.long q0), .second, .val (.long q1), .second, .val (.long q2), .second, .val (.int p3), .val (.int p4), .val (.ref b1), .val (.int (p3 &&& (2147483647 : Int32))), .val (.int (p4 &&& (3 : Int32))), .val (.int (1 : Int32))] [])) _
            refine XS.iconst X65.here hx rfl (hb hby at_107) ?_
            exact k)
          obtain ⟨fs, hr, hrun, hended, hW, hsame⟩ := X65.leave (v := some (.int (0 : Int32))) (fun h => by rw [Bd.returns] at h; cases h)
          refine ⟨_, _, pre69 _ ?_, hrun, hended, _, _, rfl, ?_, ⟨_, rfl⟩, hW, hsame.mono (by decide) (by decide)⟩
          · exact retN X65 hx (t := .boolean) Bd.returns (by simp) (hb hby at_108) hr
          · show Q0 Z q0 q1 q2 p3 p4 h0 n0 _ T65.heap _
            rw [hh65]
            exfalso
            simp only [own_max_toInt, Int32.lt_iff_toInt_lt, Int64.lt_iff_toInt_lt, Int32.reduceToInt, Int64.reduceToInt] at hc32_5 hc44_42 hc55_64 hc100_67
            have r0 := rng64 q0
            have r1 := rng64 q1
            have r2 := rng64 q2
            omega
      · have pre70 : ∀ t, Steps p.tables e below (T62.setTop (mkF m 68 #[.val (.long q0), .second, .val (.long q1), .second, .val (.long q2), .second, .val (.int p3), .val (.int p4), .val (.ref b1), .val (.int (p3 &&& (2147483647 : Int32))), .val (.int (p4 &&& (3 : Int32))), .unset] [(.int (lcmpW q0 q2))])) t → Steps p.tables e below (s₁.setTop (entryFrame m #[(.long q0), (.long q1), (.long q2), (.int p3), (.int p4)] maxLocals)) t := fun t k => pre63 t (by
          show Steps p.tables e below (T62.setTop (mkF m 55 #[.val (.long q0), .second, .val (.long q1), .second, .val (.long q2), .second, .val (.int p3), .val (.int p4), .val (.ref b1), .val (.int (p3 &&& (2147483647 : Int32))), .val (.int (p4 &&& (3 : Int32))), .unset] [(.int (p3 &&& (2147483647 : Int32)))])) _
          refine XS.ifNo X62.here hx rfl (hb hby at_55) rfl ((if0 _ _).trans (flt hc55_64).2.2.1) ?_
          show Steps p.tables e below (T62.setTop (mkF m 58 #[.val (.long q0), .second, .val (.long q1), .second, .val (.long q2), .second, .val (.int p3), .val (.int p4), .val (.ref b1), .val (.int (p3 &&& (2147483647 : Int32))), .val (.int (p4 &&& (3 : Int32))), .unset] [])) _
          refine XS.iload X62.here hx rfl (hb hby at_58) rfl ?_
          show Steps p.tables e below (T62.setTop (mkF m 60 #[.val (.long q0), .second, .val (.long q1), .second, .val (.long q2), .second, .val (.int p3), .val (.int p4), .val (.ref b1), .val (.int (p3 &&& (2147483647 : Int32))), .val (.int (p4 &&& (3 : Int32))), .unset] [(.int (p4 &&& (3 : Int32)))])) _
          refine XS.iconst X62.here hx rfl (hb hby at_60) ?_
          show Steps p.tables e below (T62.setTop (mkF m 61 #[.val (.long q0), .second, .val (.long q1), .second, .val (.long q2), .second, .val (.int p3), .val (.int p4), .val (.ref b1), .val (.int (p3 &&& (2147483647 : Int32))), .val (.int (p4 &&& (3 : Int32))), .unset] [(.int (1 : Int32)), (.int (p4 &&& (3 : Int32)))])) _
          refine XS.icmpNo X62.here hx rfl (hb hby at_61) rfl (flt hc32_5).1 ?_
          show Steps p.tables e below (T62.setTop (mkF m 64 #[.val (.long q0), .second, .val (.long q1), .second, .val (.long q2), .second, .val (.int p3), .val (.int p4), .val (.ref b1), .val (.int (p3 &&& (2147483647 : Int32))), .val (.int (p4 &&& (3 : Int32))), .unset] [])) _
          refine XS.lloadN X62.here hx rfl (hb hby at_64) rfl ?_
          show Steps p.tables e below (T62.setTop (mkF m 65 #[.val (.long q0), .second, .val (.long q1), .second, .val (.long q2), .second, .val (.int p3), .val (.int p4), .val (.ref b1), .val (.int (p3 &&& (2147483647 : Int32))), .val (.int (p4 &&& (3 : Int32))), .unset] [(.long q0)])) _
          refine XS.lload X62.here hx rfl (hb hby at_65) rfl ?_
          show Steps p.tables e below (T62.setTop (mkF m 67 #[.val (.long q0), .second, .val (.long q1), .second, .val (.long q2), .second, .val (.int p3), .val (.int p4), .val (.ref b1), .val (.int (p3 &&& (2147483647 : Int32))), .val (.int (p4 &&& (3 : Int32))), .unset] [(.long q2), (.long q0)])) _
          refine XS.lcmp X62.here hx rfl (hb hby at_67) rfl ?_
          exact k)
        by_cases hc68_71 : q2 < q0
        · obtain ⟨cq72, kq72, q72a, q72b, q72c⟩ := isOf hZ rfl P62_0
          obtain ⟨_, _, ⟨T72, L72, k72, n72⟩, -, X72, ⟨Lc72, hQ72, l72, y72, z72⟩, st72⟩ := X62.virtualBack hx (y := (⟨"com/example/sensor_access_indicators/sensoraccessindicators/ShownAccesses", "isShownAt", "(J)Z"⟩ : MethodName)) (z := (⟨"com/example/sensor_access_indicators/sensoraccessindicators/ShownAccesses", "isShownAt", "(J)Z"⟩ : MethodName)) hown (mvT hZ (hw _ (List.mem_of_getElem? (i := 24) rfl))) (mvT hZ (hw _ (List.mem_of_getElem? (i := 25) rfl))) (notFace_of_selects (args := #[]) (mvT hZ (hw _ (List.mem_of_getElem? (i := 27) rfl)))) (mvT hZ (hw _ (List.mem_of_getElem? (i := 27) rfl))) (mvT hZ (hw _ (List.mem_of_getElem? (i := 26) rfl))) (by decide) (backOf (W := 0) (rm5 l Z a0 hw [] b1 q2 (own_max (own_max (-9223372036854775808 : Int64) q0) q1) (p3 &&& (2147483647 : Int32)) T62.heap n0 (Nat.le_trans (Nat.le_trans (Nat.le_trans (Nat.le_trans (Nat.le_trans Z0 E1.1) K2.1) (Keep.of_wr W3).1) K40.1) K62.1) P62_1 P62_2) hZ (hw _ (List.mem_of_getElem? (i := 28) rfl)) (hw _ (List.mem_of_getElem? (i := 2) rfl)) (by decide) (by decide)) q72a q72c (g := (mkF m 95 #[.val (.long q0), .second, .val (.long q1), .second, .val (.long q2), .second, .val (.int p3), .val (.int p4), .val (.ref b1), .val (.int (p3 &&& (2147483647 : Int32))), .val (.int (p4 &&& (3 : Int32))), .val (.int (1 : Int32))] [(.long q2), (.ref b1)])) rfl (by rw [hml]; rfl) (Steps.refl _) (argsL := [(.long q2)]) (rest := []) (lenOf pd_2 rfl) rfl (by show 2 * 0 + _ ≤ _; exact Nat.le_of_eq rfl) (hb hby at_95) (fun _ _ => ⟨rfl, rfl, (by decide : 1 + 0 ≤ _), (by decide : 2 + 0 ≤ _)⟩)
          dsimp only [Pt.U, Pt.locs, Pt.cells, Pt.slots] at X72 l72 y72 z72 st72 hQ72
          subst l72 y72 z72
          obtain ⟨rfl, N72q, hh72⟩ := hQ72
          have N72 := Fr.app N62 N72q
          have pre73 : ∀ t, Steps p.tables e below (T72.setTop (mkF m 100 #[.val (.long q0), .second, .val (.long q1), .second, .val (.long q2), .second, .val (.int p3), .val (.int p4), .val (.ref b1), .val (.int (p3 &&& (2147483647 : Int32))), .val (.int (p4 &&& (3 : Int32))), .val (.int (1 : Int32))] [(.int (1 : Int32)), (.int (if ((0 : Int32) < (p3 &&& (2147483647 : Int32)) ∨ q2 < (own_max (own_max (-9223372036854775808 : Int64) q0) q1)) then (1 : Int32) else 0))])) t → Steps p.tables e below (s₁.setTop (entryFrame m #[(.long q0), (.long q1), (.long q2), (.int p3), (.int p4)] maxLocals)) t := fun t k => pre70 t (by
            show Steps p.tables e below (T62.setTop (mkF m 68 #[.val (.long q0), .second, .val (.long q1), .second, .val (.long q2), .second, .val (.int p3), .val (.int p4), .val (.ref b1), .val (.int (p3 &&& (2147483647 : Int32))), .val (.int (p4 &&& (3 : Int32))), .unset] [(.int (lcmpW q0 q2))])) _
            refine XS.ifYes X62.here hx rfl (pc0 := 68) (pc' := 84) rfl (hb hby at_68) rfl ((if0 _ _).trans (tlt ((lw_gt _ _).mpr hc68_71)).2.2.1) (by decide) (by decide) ?_
            show Steps p.tables e below (T62.setTop (mkF m 84 #[.val (.long q0), .second, .val (.long q1), .second, .val (.long q2), .second, .val (.int p3), .val (.int p4), .val (.ref b1), .val (.int (p3 &&& (2147483647 : Int32))), .val (.int (p4 &&& (3 : Int32))), .unset] [])) _
            refine XS.iconst X62.here hx rfl (hb hby at_84) ?_
            show Steps p.tables e below (T62.setTop (mkF m 85 #[.val (.long q0), .second, .val (.long q1), .second, .val (.long q2), .second, .val (.int p3), .val (.int p4), .val (.ref b1), .val (.int (p3 &&& (2147483647 : Int32))), .val (.int (p4 &&& (3 : Int32))), .unset] [(.int (1 : Int32))])) _
            refine XS.goto X62.here hx rfl (pc0 := 85) (pc' := 89) rfl (hb hby at_85) (by decide) (by decide) ?_
            show Steps p.tables e below (T62.setTop (mkF m 89 #[.val (.long q0), .second, .val (.long q1), .second, .val (.long q2), .second, .val (.int p3), .val (.int p4), .val (.ref b1), .val (.int (p3 &&& (2147483647 : Int32))), .val (.int (p4 &&& (3 : Int32))), .unset] [(.int (1 : Int32))])) _
            refine XS.istore X62.here hx rfl (hb hby at_89) rfl (l' := #[.val (.long q0), .second, .val (.long q1), .second, .val (.long q2), .second, .val (.int p3), .val (.int p4), .val (.ref b1), .val (.int (p3 &&& (2147483647 : Int32))), .val (.int (p4 &&& (3 : Int32))), .val (.int (1 : Int32))]) rfl ?_
            show Steps p.tables e below (T62.setTop (mkF m 91 #[.val (.long q0), .second, .val (.long q1), .second, .val (.long q2), .second, .val (.int p3), .val (.int p4), .val (.ref b1), .val (.int (p3 &&& (2147483647 : Int32))), .val (.int (p4 &&& (3 : Int32))), .val (.int (1 : Int32))] [])) _
            refine XS.aload X62.here hx rfl (hb hby at_91) rfl rfl ?_
            show Steps p.tables e below (T62.setTop (mkF m 93 #[.val (.long q0), .second, .val (.long q1), .second, .val (.long q2), .second, .val (.int p3), .val (.int p4), .val (.ref b1), .val (.int (p3 &&& (2147483647 : Int32))), .val (.int (p4 &&& (3 : Int32))), .val (.int (1 : Int32))] [(.ref b1)])) _
            refine XS.lload X62.here hx rfl (hb hby at_93) rfl ?_
            show Steps p.tables e below (T62.setTop (mkF m 95 #[.val (.long q0), .second, .val (.long q1), .second, .val (.long q2), .second, .val (.int p3), .val (.int p4), .val (.ref b1), .val (.int (p3 &&& (2147483647 : Int32))), .val (.int (p4 &&& (3 : Int32))), .val (.int (1 : Int32))] [(.long q2), (.ref b1)])) _
            refine st72.trans ?_
            show Steps p.tables e below (T72.setTop (mkF m 98 #[.val (.long q0), .second, .val (.long q1), .second, .val (.long q2), .second, .val (.int p3), .val (.int p4), .val (.ref b1), .val (.int (p3 &&& (2147483647 : Int32))), .val (.int (p4 &&& (3 : Int32))), .val (.int (1 : Int32))] [(.int (if ((0 : Int32) < (p3 &&& (2147483647 : Int32)) ∨ q2 < (own_max (own_max (-9223372036854775808 : Int64) q0) q1)) then (1 : Int32) else 0))])) _
            refine XS.iload X72.here hx rfl (hb hby at_98) rfl ?_
            exact k)
          by_cases hc100_74 : ((0 : Int32) < (p3 &&& (2147483647 : Int32)) ∨ q2 < (own_max (own_max (-9223372036854775808 : Int64) q0) q1))
          · have pre75 : ∀ t, Steps p.tables e below (T72.setTop (mkF m 108 #[.val (.long q0), .second, .val (.long q1), .second, .val (.long q2), .second, .val (.int p3), .val (.int p4), .val (.ref b1), .val (.int (p3 &&& (2147483647 : Int32))), .val (.int (p4 &&& (3 : Int32))), .val (.int (1 : Int32))] [(.int (1 : Int32))])) t → Steps p.tables e below (s₁.setTop (entryFrame m #[(.long q0), (.long q1), (.long q2), (.int p3), (.int p4)] maxLocals)) t := fun t k => pre73 t (by
              show Steps p.tables e below (T72.setTop (mkF m 100 #[.val (.long q0), .second, .val (.long q1), .second, .val (.long q2), .second, .val (.int p3), .val (.int p4), .val (.ref b1), .val (.int (p3 &&& (2147483647 : Int32))), .val (.int (p4 &&& (3 : Int32))), .val (.int (1 : Int32))] [(.int (1 : Int32)), (.int (if ((0 : Int32) < (p3 &&& (2147483647 : Int32)) ∨ q2 < (own_max (own_max (-9223372036854775808 : Int64) q0) q1)) then (1 : Int32) else 0))])) _
              refine XS.icmpNo X72.here hx rfl (hb hby at_100) rfl (teq (own_c1 hc100_74)).2 ?_
              show Steps p.tables e below (T72.setTop (mkF m 103 #[.val (.long q0), .second, .val (.long q1), .second, .val (.long q2), .second, .val (.int p3), .val (.int p4), .val (.ref b1), .val (.int (p3 &&& (2147483647 : Int32))), .val (.int (p4 &&& (3 : Int32))), .val (.int (1 : Int32))] [])) _
              refine XS.iconst X72.here hx rfl (hb hby at_103) ?_
              show Steps p.tables e below (T72.setTop (mkF m 104 #[.val (.long q0), .second, .val (.long q1), .second, .val (.long q2), .second, .val (.int p3), .val (.int p4), .val (.ref b1), .val (.int (p3 &&& (2147483647 : Int32))), .val (.int (p4 &&& (3 : Int32))), .val (.int (1 : Int32))] [(.int (1 : Int32))])) _
              refine XS.goto X72.here hx rfl (pc0 := 104) (pc' := 108) rfl (hb hby at_104) (by decide) (by decide) ?_
              exact k)
            obtain ⟨fs, hr, hrun, hended, hW, hsame⟩ := X72.leave (v := some (.int (1 : Int32))) (fun h => by rw [Bd.returns] at h; cases h)
            refine ⟨_, _, pre75 _ ?_, hrun, hended, _, _, rfl, ?_, ⟨_, rfl⟩, hW, hsame.mono (by decide) (by decide)⟩
            · exact retN X72 hx (t := .boolean) Bd.returns (by simp) (hb hby at_108) hr
            · show Q0 Z q0 q1 q2 p3 p4 h0 n0 _ T72.heap _
              rw [hh72]
              exact ⟨rfl, N72⟩
          · have pre76 : ∀ t, Steps p.tables e below (T72.setTop (mkF m 108 #[.val (.long q0), .second, .val (.long q1), .second, .val (.long q2), .second, .val (.int p3), .val (.int p4), .val (.ref b1), .val (.int (p3 &&& (2147483647 : Int32))), .val (.int (p4 &&& (3 : Int32))), .val (.int (1 : Int32))] [(.int (0 : Int32))])) t → Steps p.tables e below (s₁.setTop (entryFrame m #[(.long q0), (.long q1), (.long q2), (.int p3), (.int p4)] maxLocals)) t := fun t k => pre73 t (by
              show Steps p.tables e below (T72.setTop (mkF m 100 #[.val (.long q0), .second, .val (.long q1), .second, .val (.long q2), .second, .val (.int p3), .val (.int p4), .val (.ref b1), .val (.int (p3 &&& (2147483647 : Int32))), .val (.int (p4 &&& (3 : Int32))), .val (.int (1 : Int32))] [(.int (1 : Int32)), (.int (if ((0 : Int32) < (p3 &&& (2147483647 : Int32)) ∨ q2 < (own_max (own_max (-9223372036854775808 : Int64) q0) q1)) then (1 : Int32) else 0))])) _
              refine XS.icmpYes X72.here hx rfl (pc0 := 100) (pc' := 107) rfl (hb hby at_100) rfl (feq (own_c0 hc100_74)).2 (by decide) (by decide) ?_
              show Steps p.tables e below (T72.setTop (mkF m 107 #[.val (.long q0), .second, .val (.long q1), .second, .val (.long q2), .second, .val (.int p3), .val (.int p4), .val (.ref b1), .val (.int (p3 &&& (2147483647 : Int32))), .val (.int (p4 &&& (3 : Int32))), .val (.int (1 : Int32))] [])) _
              refine XS.iconst X72.here hx rfl (hb hby at_107) ?_
              exact k)
            obtain ⟨fs, hr, hrun, hended, hW, hsame⟩ := X72.leave (v := some (.int (0 : Int32))) (fun h => by rw [Bd.returns] at h; cases h)
            refine ⟨_, _, pre76 _ ?_, hrun, hended, _, _, rfl, ?_, ⟨_, rfl⟩, hW, hsame.mono (by decide) (by decide)⟩
            · exact retN X72 hx (t := .boolean) Bd.returns (by simp) (hb hby at_108) hr
            · show Q0 Z q0 q1 q2 p3 p4 h0 n0 _ T72.heap _
              rw [hh72]
              exfalso
              simp only [own_max_toInt, Int32.lt_iff_toInt_lt, Int64.lt_iff_toInt_lt, Int32.reduceToInt, Int64.reduceToInt] at hc32_5 hc44_42 hc55_64 hc68_71 hc100_74
              have r0 := rng64 q0
              have r1 := rng64 q1
              have r2 := rng64 q2
              omega
        · have pre77 : ∀ t, Steps p.tables e below (T62.setTop (mkF m 81 #[.val (.long q0), .second, .val (.long q1), .second, .val (.long q2), .second, .val (.int p3), .val (.int p4), .val (.ref b1), .val (.int (p3 &&& (2147483647 : Int32))), .val (.int (p4 &&& (3 : Int32))), .unset] [(.int (lcmpW q1 q2))])) t → Steps p.tables e below (s₁.setTop (entryFrame m #[(.long q0), (.long q1), (.long q2), (.int p3), (.int p4)] maxLocals)) t := fun t k => pre70 t (by
            show Steps p.tables e below (T62.setTop (mkF m 68 #[.val (.long q0), .second, .val (.long q1), .second, .val (.long q2), .second, .val (.int p3), .val (.int p4), .val (.ref b1), .val (.int (p3 &&& (2147483647 : Int32))), .val (.int (p4 &&& (3 : Int32))), .unset] [(.int (lcmpW q0 q2))])) _
            refine XS.ifNo X62.here hx rfl (hb hby at_68) rfl ((if0 _ _).trans (flt (fun q => hc68_71 ((lw_gt _ _).mp q))).2.2.1) ?_
            show Steps p.tables e below (T62.setTop (mkF m 71 #[.val (.long q0), .second, .val (.long q1), .second, .val (.long q2), .second, .val (.int p3), .val (.int p4), .val (.ref b1), .val (.int (p3 &&& (2147483647 : Int32))), .val (.int (p4 &&& (3 : Int32))), .unset] [])) _
            refine XS.iload X62.here hx rfl (hb hby at_71) rfl ?_
            show Steps p.tables e below (T62.setTop (mkF m 73 #[.val (.long q0), .second, .val (.long q1), .second, .val (.long q2), .second, .val (.int p3), .val (.int p4), .val (.ref b1), .val (.int (p3 &&& (2147483647 : Int32))), .val (.int (p4 &&& (3 : Int32))), .unset] [(.int (p4 &&& (3 : Int32)))])) _
            refine XS.iconst X62.here hx rfl (hb hby at_73) ?_
            show Steps p.tables e below (T62.setTop (mkF m 74 #[.val (.long q0), .second, .val (.long q1), .second, .val (.long q2), .second, .val (.int p3), .val (.int p4), .val (.ref b1), .val (.int (p3 &&& (2147483647 : Int32))), .val (.int (p4 &&& (3 : Int32))), .unset] [(.int (2 : Int32)), (.int (p4 &&& (3 : Int32)))])) _
            refine XS.icmpNo X62.here hx rfl (hb hby at_74) rfl (flt hc44_42).1 ?_
            show Steps p.tables e below (T62.setTop (mkF m 77 #[.val (.long q0), .second, .val (.long q1), .second, .val (.long q2), .second, .val (.int p3), .val (.int p4), .val (.ref b1), .val (.int (p3 &&& (2147483647 : Int32))), .val (.int (p4 &&& (3 : Int32))), .unset] [])) _
            refine XS.lloadN X62.here hx rfl (hb hby at_77) rfl ?_
            show Steps p.tables e below (T62.setTop (mkF m 78 #[.val (.long q0), .second, .val (.long q1), .second, .val (.long q2), .second, .val (.int p3), .val (.int p4), .val (.ref b1), .val (.int (p3 &&& (2147483647 : Int32))), .val (.int (p4 &&& (3 : Int32))), .unset] [(.long q1)])) _
            refine XS.lload X62.here hx rfl (hb hby at_78) rfl ?_
            show Steps p.tables e below (T62.setTop (mkF m 80 #[.val (.long q0), .second, .val (.long q1), .second, .val (.long q2), .second, .val (.int p3), .val (.int p4), .val (.ref b1), .val (.int (p3 &&& (2147483647 : Int32))), .val (.int (p4 &&& (3 : Int32))), .unset] [(.long q2), (.long q1)])) _
            refine XS.lcmp X62.here hx rfl (hb hby at_80) rfl ?_
            exact k)
          by_cases hc81_78 : q2 < q1
          · obtain ⟨cq79, kq79, q79a, q79b, q79c⟩ := isOf hZ rfl P62_0
            obtain ⟨_, _, ⟨T79, L79, k79, n79⟩, -, X79, ⟨Lc79, hQ79, l79, y79, z79⟩, st79⟩ := X62.virtualBack hx (y := (⟨"com/example/sensor_access_indicators/sensoraccessindicators/ShownAccesses", "isShownAt", "(J)Z"⟩ : MethodName)) (z := (⟨"com/example/sensor_access_indicators/sensoraccessindicators/ShownAccesses", "isShownAt", "(J)Z"⟩ : MethodName)) hown (mvT hZ (hw _ (List.mem_of_getElem? (i := 24) rfl))) (mvT hZ (hw _ (List.mem_of_getElem? (i := 25) rfl))) (notFace_of_selects (args := #[]) (mvT hZ (hw _ (List.mem_of_getElem? (i := 27) rfl)))) (mvT hZ (hw _ (List.mem_of_getElem? (i := 27) rfl))) (mvT hZ (hw _ (List.mem_of_getElem? (i := 26) rfl))) (by decide) (backOf (W := 0) (rm5 l Z a0 hw [] b1 q2 (own_max (own_max (-9223372036854775808 : Int64) q0) q1) (p3 &&& (2147483647 : Int32)) T62.heap n0 (Nat.le_trans (Nat.le_trans (Nat.le_trans (Nat.le_trans (Nat.le_trans Z0 E1.1) K2.1) (Keep.of_wr W3).1) K40.1) K62.1) P62_1 P62_2) hZ (hw _ (List.mem_of_getElem? (i := 28) rfl)) (hw _ (List.mem_of_getElem? (i := 2) rfl)) (by decide) (by decide)) q79a q79c (g := (mkF m 95 #[.val (.long q0), .second, .val (.long q1), .second, .val (.long q2), .second, .val (.int p3), .val (.int p4), .val (.ref b1), .val (.int (p3 &&& (2147483647 : Int32))), .val (.int (p4 &&& (3 : Int32))), .val (.int (1 : Int32))] [(.long q2), (.ref b1)])) rfl (by rw [hml]; rfl) (Steps.refl _) (argsL := [(.long q2)]) (rest := []) (lenOf pd_2 rfl) rfl (by show 2 * 0 + _ ≤ _; exact Nat.le_of_eq rfl) (hb hby at_95) (fun _ _ => ⟨rfl, rfl, (by decide : 1 + 0 ≤ _), (by decide : 2 + 0 ≤ _)⟩)
            dsimp only [Pt.U, Pt.locs, Pt.cells, Pt.slots] at X79 l79 y79 z79 st79 hQ79
            subst l79 y79 z79
            obtain ⟨rfl, N79q, hh79⟩ := hQ79
            have N79 := Fr.app N62 N79q
            have pre80 : ∀ t, Steps p.tables e below (T79.setTop (mkF m 100 #[.val (.long q0), .second, .val (.long q1), .second, .val (.long q2), .second, .val (.int p3), .val (.int p4), .val (.ref b1), .val (.int (p3 &&& (2147483647 : Int32))), .val (.int (p4 &&& (3 : Int32))), .val (.int (1 : Int32))] [(.int (1 : Int32)), (.int (if ((0 : Int32) < (p3 &&& (2147483647 : Int32)) ∨ q2 < (own_max (own_max (-9223372036854775808 : Int64) q0) q1)) then (1 : Int32) else 0))])) t → Steps p.tables e below (s₁.setTop (entryFrame m #[(.long q0), (.long q1), (.long q2), (.int p3), (.int p4)] maxLocals)) t := fun t k => pre77 t (by
              show Steps p.tables e below (T62.setTop (mkF m 81 #[.val (.long q0), .second, .val (.long q1), .second, .val (.long q2), .second, .val (.int p3), .val (.int p4), .val (.ref b1), .val (.int (p3 &&& (2147483647 : Int32))), .val (.int (p4 &&& (3 : Int32))), .unset] [(.int (lcmpW q1 q2))])) _
              refine XS.ifNo X62.here hx rfl (hb hby at_81) rfl ((if0 _ _).trans (tlt ((lw_gt _ _).mpr hc81_78)).2.2.2) ?_
              show Steps p.tables e below (T62.setTop (mkF m 84 #[.val (.long q0), .second, .val (.long q1), .second, .val (.long q2), .second, .val (.int p3), .val (.int p4), .val (.ref b1), .val (.int (p3 &&& (2147483647 : Int32))), .val (.int (p4 &&& (3 : Int32))), .unset] [])) _
              refine XS.iconst X62.here hx rfl (hb hby at_84) ?_
              show Steps p.tables e below (T62.setTop (mkF m 85 #[.val (.long q0), .second, .val (.long q1), .second, .val (.long q2), .second, .val (.int p3), .val (.int p4), .val (.ref b1), .val (.int (p3 &&& (2147483647 : Int32))), .val (.int (p4 &&& (3 : Int32))), .unset] [(.int (1 : Int32))])) _
              refine XS.goto X62.here hx rfl (pc0 := 85) (pc' := 89) rfl (hb hby at_85) (by decide) (by decide) ?_
              show Steps p.tables e below (T62.setTop (mkF m 89 #[.val (.long q0), .second, .val (.long q1), .second, .val (.long q2), .second, .val (.int p3), .val (.int p4), .val (.ref b1), .val (.int (p3 &&& (2147483647 : Int32))), .val (.int (p4 &&& (3 : Int32))), .unset] [(.int (1 : Int32))])) _
              refine XS.istore X62.here hx rfl (hb hby at_89) rfl (l' := #[.val (.long q0), .second, .val (.long q1), .second, .val (.long q2), .second, .val (.int p3), .val (.int p4), .val (.ref b1), .val (.int (p3 &&& (2147483647 : Int32))), .val (.int (p4 &&& (3 : Int32))), .val (.int (1 : Int32))]) rfl ?_
              show Steps p.tables e below (T62.setTop (mkF m 91 #[.val (.long q0), .second, .val (.long q1), .second, .val (.long q2), .second, .val (.int p3), .val (.int p4), .val (.ref b1), .val (.int (p3 &&& (2147483647 : Int32))), .val (.int (p4 &&& (3 : Int32))), .val (.int (1 : Int32))] [])) _
              refine XS.aload X62.here hx rfl (hb hby at_91) rfl rfl ?_
              show Steps p.tables e below (T62.setTop (mkF m 93 #[.val (.long q0), .second, .val (.long q1), .second, .val (.long q2), .second, .val (.int p3), .val (.int p4), .val (.ref b1), .val (.int (p3 &&& (2147483647 : Int32))), .val (.int (p4 &&& (3 : Int32))), .val (.int (1 : Int32))] [(.ref b1)])) _
              refine XS.lload X62.here hx rfl (hb hby at_93) rfl ?_
              show Steps p.tables e below (T62.setTop (mkF m 95 #[.val (.long q0), .second, .val (.long q1), .second, .val (.long q2), .second, .val (.int p3), .val (.int p4), .val (.ref b1), .val (.int (p3 &&& (2147483647 : Int32))), .val (.int (p4 &&& (3 : Int32))), .val (.int (1 : Int32))] [(.long q2), (.ref b1)])) _
              refine st79.trans ?_
              show Steps p.tables e below (T79.setTop (mkF m 98 #[.val (.long q0), .second, .val (.long q1), .second, .val (.long q2), .second, .val (.int p3), .val (.int p4), .val (.ref b1), .val (.int (p3 &&& (2147483647 : Int32))), .val (.int (p4 &&& (3 : Int32))), .val (.int (1 : Int32))] [(.int (if ((0 : Int32) < (p3 &&& (2147483647 : Int32)) ∨ q2 < (own_max (own_max (-9223372036854775808 : Int64) q0) q1)) then (1 : Int32) else 0))])) _
              refine XS.iload X79.here hx rfl (hb hby at_98) rfl ?_
              exact k)
            by_cases hc100_81 : ((0 : Int32) < (p3 &&& (2147483647 : Int32)) ∨ q2 < (own_max (own_max (-9223372036854775808 : Int64) q0) q1))
            · have pre82 : ∀ t, Steps p.tables e below (T79.setTop (mkF m 108 #[.val (.long q0), .second, .val (.long q1), .second, .val (.long q2), .second, .val (.int p3), .val (.int p4), .val (.ref b1), .val (.int (p3 &&& (2147483647 : Int32))), .val (.int (p4 &&& (3 : Int32))), .val (.int (1 : Int32))] [(.int (1 : Int32))])) t → Steps p.tables e below (s₁.setTop (entryFrame m #[(.long q0), (.long q1), (.long q2), (.int p3), (.int p4)] maxLocals)) t := fun t k => pre80 t (by
                show Steps p.tables e below (T79.setTop (mkF m 100 #[.val (.long q0), .second, .val (.long q1), .second, .val (.long q2), .second, .val (.int p3), .val (.int p4), .val (.ref b1), .val (.int (p3 &&& (2147483647 : Int32))), .val (.int (p4 &&& (3 : Int32))), .val (.int (1 : Int32))] [(.int (1 : Int32)), (.int (if ((0 : Int32) < (p3 &&& (2147483647 : Int32)) ∨ q2 < (own_max (own_max (-9223372036854775808 : Int64) q0) q1)) then (1 : Int32) else 0))])) _
                refine XS.icmpNo X79.here hx rfl (hb hby at_100) rfl (teq (own_c1 hc100_81)).2 ?_
                show Steps p.tables e below (T79.setTop (mkF m 103 #[.val (.long q0), .second, .val (.long q1), .second, .val (.long q2), .second, .val (.int p3), .val (.int p4), .val (.ref b1), .val (.int (p3 &&& (2147483647 : Int32))), .val (.int (p4 &&& (3 : Int32))), .val (.int (1 : Int32))] [])) _
                refine XS.iconst X79.here hx rfl (hb hby at_103) ?_
                show Steps p.tables e below (T79.setTop (mkF m 104 #[.val (.long q0), .second, .val (.long q1), .second, .val (.long q2), .second, .val (.int p3), .val (.int p4), .val (.ref b1), .val (.int (p3 &&& (2147483647 : Int32))), .val (.int (p4 &&& (3 : Int32))), .val (.int (1 : Int32))] [(.int (1 : Int32))])) _
                refine XS.goto X79.here hx rfl (pc0 := 104) (pc' := 108) rfl (hb hby at_104) (by decide) (by decide) ?_
                exact k)
              obtain ⟨fs, hr, hrun, hended, hW, hsame⟩ := X79.leave (v := some (.int (1 : Int32))) (fun h => by rw [Bd.returns] at h; cases h)
              refine ⟨_, _, pre82 _ ?_, hrun, hended, _, _, rfl, ?_, ⟨_, rfl⟩, hW, hsame.mono (by decide) (by decide)⟩
              · exact retN X79 hx (t := .boolean) Bd.returns (by simp) (hb hby at_108) hr
              · show Q0 Z q0 q1 q2 p3 p4 h0 n0 _ T79.heap _
                rw [hh79]
                exact ⟨rfl, N79⟩
            · have pre83 : ∀ t, Steps p.tables e below (T79.setTop (mkF m 108 #[.val (.long q0), .second, .val (.long q1), .second, .val (.long q2), .second, .val (.int p3), .val (.int p4), .val (.ref b1), .val (.int (p3 &&& (2147483647 : Int32))), .val (.int (p4 &&& (3 : Int32))), .val (.int (1 : Int32))] [(.int (0 : Int32))])) t → Steps p.tables e below (s₁.setTop (entryFrame m #[(.long q0), (.long q1), (.long q2), (.int p3), (.int p4)] maxLocals)) t := fun t k => pre80 t (by
                show Steps p.tables e below (T79.setTop (mkF m 100 #[.val (.long q0), .second, .val (.long q1), .second, .val (.long q2), .second, .val (.int p3), .val (.int p4), .val (.ref b1), .val (.int (p3 &&& (2147483647 : Int32))), .val (.int (p4 &&& (3 : Int32))), .val (.int (1 : Int32))] [(.int (1 : Int32)), (.int (if ((0 : Int32) < (p3 &&& (2147483647 : Int32)) ∨ q2 < (own_max (own_max (-9223372036854775808 : Int64) q0) q1)) then (1 : Int32) else 0))])) _
                refine XS.icmpYes X79.here hx rfl (pc0 := 100) (pc' := 107) rfl (hb hby at_100) rfl (feq (own_c0 hc100_81)).2 (by decide) (by decide) ?_
                show Steps p.tables e below (T79.setTop (mkF m 107 #[.val (.long q0), .second, .val (.long q1), .second, .val (.long q2), .second, .val (.int p3), .val (.int p4), .val (.ref b1), .val (.int (p3 &&& (2147483647 : Int32))), .val (.int (p4 &&& (3 : Int32))), .val (.int (1 : Int32))] [])) _
                refine XS.iconst X79.here hx rfl (hb hby at_107) ?_
                exact k)
              obtain ⟨fs, hr, hrun, hended, hW, hsame⟩ := X79.leave (v := some (.int (0 : Int32))) (fun h => by rw [Bd.returns] at h; cases h)
              refine ⟨_, _, pre83 _ ?_, hrun, hended, _, _, rfl, ?_, ⟨_, rfl⟩, hW, hsame.mono (by decide) (by decide)⟩
              · exact retN X79 hx (t := .boolean) Bd.returns (by simp) (hb hby at_108) hr
              · show Q0 Z q0 q1 q2 p3 p4 h0 n0 _ T79.heap _
                rw [hh79]
                exfalso
                simp only [own_max_toInt, Int32.lt_iff_toInt_lt, Int64.lt_iff_toInt_lt, Int32.reduceToInt, Int64.reduceToInt] at hc32_5 hc44_42 hc55_64 hc68_71 hc81_78 hc100_81
                have r0 := rng64 q0
                have r1 := rng64 q1
                have r2 := rng64 q2
                omega
          · obtain ⟨cq84, kq84, q84a, q84b, q84c⟩ := isOf hZ rfl P62_0
            obtain ⟨_, _, ⟨T84, L84, k84, n84⟩, -, X84, ⟨Lc84, hQ84, l84, y84, z84⟩, st84⟩ := X62.virtualBack hx (y := (⟨"com/example/sensor_access_indicators/sensoraccessindicators/ShownAccesses", "isShownAt", "(J)Z"⟩ : MethodName)) (z := (⟨"com/example/sensor_access_indicators/sensoraccessindicators/ShownAccesses", "isShownAt", "(J)Z"⟩ : MethodName)) hown (mvT hZ (hw _ (List.mem_of_getElem? (i := 24) rfl))) (mvT hZ (hw _ (List.mem_of_getElem? (i := 25) rfl))) (notFace_of_selects (args := #[]) (mvT hZ (hw _ (List.mem_of_getElem? (i := 27) rfl)))) (mvT hZ (hw _ (List.mem_of_getElem? (i := 27) rfl))) (mvT hZ (hw _ (List.mem_of_getElem? (i := 26) rfl))) (by decide) (backOf (W := 0) (rm5 l Z a0 hw [] b1 q2 (own_max (own_max (-9223372036854775808 : Int64) q0) q1) (p3 &&& (2147483647 : Int32)) T62.heap n0 (Nat.le_trans (Nat.le_trans (Nat.le_trans (Nat.le_trans (Nat.le_trans Z0 E1.1) K2.1) (Keep.of_wr W3).1) K40.1) K62.1) P62_1 P62_2) hZ (hw _ (List.mem_of_getElem? (i := 28) rfl)) (hw _ (List.mem_of_getElem? (i := 2) rfl)) (by decide) (by decide)) q84a q84c (g := (mkF m 95 #[.val (.long q0), .second, .val (.long q1), .second, .val (.long q2), .second, .val (.int p3), .val (.int p4), .val (.ref b1), .val (.int (p3 &&& (2147483647 : Int32))), .val (.int (p4 &&& (3 : Int32))), .val (.int (0 : Int32))] [(.long q2), (.ref b1)])) rfl (by rw [hml]; rfl) (Steps.refl _) (argsL := [(.long q2)]) (rest := []) (lenOf pd_2 rfl) rfl (by show 2 * 0 + _ ≤ _; exact Nat.le_of_eq rfl) (hb hby at_95) (fun _ _ => ⟨rfl, rfl, (by decide : 1 + 0 ≤ _), (by decide : 2 + 0 ≤ _)⟩)
            dsimp only [Pt.U, Pt.locs, Pt.cells, Pt.slots] at X84 l84 y84 z84 st84 hQ84
            subst l84 y84 z84
            obtain ⟨rfl, N84q, hh84⟩ := hQ84
            have N84 := Fr.app N62 N84q
            have pre85 : ∀ t, Steps p.tables e below (T84.setTop (mkF m 100 #[.val (.long q0), .second, .val (.long q1), .second, .val (.long q2), .second, .val (.int p3), .val (.int p4), .val (.ref b1), .val (.int (p3 &&& (2147483647 : Int32))), .val (.int (p4 &&& (3 : Int32))), .val (.int (0 : Int32))] [(.int (0 : Int32)), (.int (if ((0 : Int32) < (p3 &&& (2147483647 : Int32)) ∨ q2 < (own_max (own_max (-9223372036854775808 : Int64) q0) q1)) then (1 : Int32) else 0))])) t → Steps p.tables e below (s₁.setTop (entryFrame m #[(.long q0), (.long q1), (.long q2), (.int p3), (.int p4)] maxLocals)) t := fun t k => pre77 t (by
              show Steps p.tables e below (T62.setTop (mkF m 81 #[.val (.long q0), .second, .val (.long q1), .second, .val (.long q2), .second, .val (.int p3), .val (.int p4), .val (.ref b1), .val (.int (p3 &&& (2147483647 : Int32))), .val (.int (p4 &&& (3 : Int32))), .unset] [(.int (lcmpW q1 q2))])) _
              refine XS.ifYes X62.here hx rfl (pc0 := 81) (pc' := 88) rfl (hb hby at_81) rfl ((if0 _ _).trans (flt (fun q => hc81_78 ((lw_gt _ _).mp q))).2.2.2) (by decide) (by decide) ?_
              show Steps p.tables e below (T62.setTop (mkF m 88 #[.val (.long q0), .second, .val (.long q1), .second, .val (.long q2), .second, .val (.int p3), .val (.int p4), .val (.ref b1), .val (.int (p3 &&& (2147483647 : Int32))), .val (.int (p4 &&& (3 : Int32))), .unset] [])) _
              refine XS.iconst X62.here hx rfl (hb hby at_88) ?_
              show Steps p.tables e below (T62.setTop (mkF m 89 #[.val (.long q0), .second, .val (.long q1), .second, .val (.long q2), .second, .val (.int p3), .val (.int p4), .val (.ref b1), .val (.int (p3 &&& (2147483647 : Int32))), .val (.int (p4 &&& (3 : Int32))), .unset] [(.int (0 : Int32))])) _
              refine XS.istore X62.here hx rfl (hb hby at_89) rfl (l' := #[.val (.long q0), .second, .val (.long q1), .second, .val (.long q2), .second, .val (.int p3), .val (.int p4), .val (.ref b1), .val (.int (p3 &&& (2147483647 : Int32))), .val (.int (p4 &&& (3 : Int32))), .val (.int (0 : Int32))]) rfl ?_
              show Steps p.tables e below (T62.setTop (mkF m 91 #[.val (.long q0), .second, .val (.long q1), .second, .val (.long q2), .second, .val (.int p3), .val (.int p4), .val (.ref b1), .val (.int (p3 &&& (2147483647 : Int32))), .val (.int (p4 &&& (3 : Int32))), .val (.int (0 : Int32))] [])) _
              refine XS.aload X62.here hx rfl (hb hby at_91) rfl rfl ?_
              show Steps p.tables e below (T62.setTop (mkF m 93 #[.val (.long q0), .second, .val (.long q1), .second, .val (.long q2), .second, .val (.int p3), .val (.int p4), .val (.ref b1), .val (.int (p3 &&& (2147483647 : Int32))), .val (.int (p4 &&& (3 : Int32))), .val (.int (0 : Int32))] [(.ref b1)])) _
              refine XS.lload X62.here hx rfl (hb hby at_93) rfl ?_
              show Steps p.tables e below (T62.setTop (mkF m 95 #[.val (.long q0), .second, .val (.long q1), .second, .val (.long q2), .second, .val (.int p3), .val (.int p4), .val (.ref b1), .val (.int (p3 &&& (2147483647 : Int32))), .val (.int (p4 &&& (3 : Int32))), .val (.int (0 : Int32))] [(.long q2), (.ref b1)])) _
              refine st84.trans ?_
              show Steps p.tables e below (T84.setTop (mkF m 98 #[.val (.long q0), .second, .val (.long q1), .second, .val (.long q2), .second, .val (.int p3), .val (.int p4), .val (.ref b1), .val (.int (p3 &&& (2147483647 : Int32))), .val (.int (p4 &&& (3 : Int32))), .val (.int (0 : Int32))] [(.int (if ((0 : Int32) < (p3 &&& (2147483647 : Int32)) ∨ q2 < (own_max (own_max (-9223372036854775808 : Int64) q0) q1)) then (1 : Int32) else 0))])) _
              refine XS.iload X84.here hx rfl (hb hby at_98) rfl ?_
              exact k)
            by_cases hc100_86 : ((0 : Int32) < (p3 &&& (2147483647 : Int32)) ∨ q2 < (own_max (own_max (-9223372036854775808 : Int64) q0) q1))
            · have pre87 : ∀ t, Steps p.tables e below (T84.setTop (mkF m 108 #[.val (.long q0), .second, .val (.long q1), .second, .val (.long q2), .second, .val (.int p3), .val (.int p4), .val (.ref b1), .val (.int (p3 &&& (2147483647 : Int32))), .val (.int (p4 &&& (3 : Int32))), .val (.int (0 : Int32))] [(.int (0 : Int32))])) t → Steps p.tables e below (s₁.setTop (entryFrame m #[(.long q0), (.long q1), (.long q2), (.int p3), (.int p4)] maxLocals)) t := fun t k => pre85 t (by
                show Steps p.tables e below (T84.setTop (mkF m 100 #[.val (.long q0), .second, .val (.long q1), .second, .val (.long q2), .second, .val (.int p3), .val (.int p4), .val (.ref b1), .val (.int (p3 &&& (2147483647 : Int32))), .val (.int (p4 &&& (3 : Int32))), .val (.int (0 : Int32))] [(.int (0 : Int32)), (.int (if ((0 : Int32) < (p3 &&& (2147483647 : Int32)) ∨ q2 < (own_max (own_max (-9223372036854775808 : Int64) q0) q1)) then (1 : Int32) else 0))])) _
                refine XS.icmpYes X84.here hx rfl (pc0 := 100) (pc' := 107) rfl (hb hby at_100) rfl (feq (own_b1 hc100_86)).2 (by decide) (by decide) ?_
                show Steps p.tables e below (T84.setTop (mkF m 107 #[.val (.long q0), .second, .val (.long q1), .second, .val (.long q2), .second, .val (.int p3), .val (.int p4), .val (.ref b1), .val (.int (p3 &&& (2147483647 : Int32))), .val (.int (p4 &&& (3 : Int32))), .val (.int (0 : Int32))] [])) _
                refine XS.iconst X84.here hx rfl (hb hby at_107) ?_
                exact k)
              obtain ⟨fs, hr, hrun, hended, hW, hsame⟩ := X84.leave (v := some (.int (0 : Int32))) (fun h => by rw [Bd.returns] at h; cases h)
              refine ⟨_, _, pre87 _ ?_, hrun, hended, _, _, rfl, ?_, ⟨_, rfl⟩, hW, hsame.mono (by decide) (by decide)⟩
              · exact retN X84 hx (t := .boolean) Bd.returns (by simp) (hb hby at_108) hr
              · show Q0 Z q0 q1 q2 p3 p4 h0 n0 _ T84.heap _
                rw [hh84]
                exfalso
                simp only [own_max_toInt, Int32.lt_iff_toInt_lt, Int64.lt_iff_toInt_lt, Int32.reduceToInt, Int64.reduceToInt] at hc32_5 hc44_42 hc55_64 hc68_71 hc81_78 hc100_86
                have r0 := rng64 q0
                have r1 := rng64 q1
                have r2 := rng64 q2
                omega
            · have pre88 : ∀ t, Steps p.tables e below (T84.setTop (mkF m 108 #[.val (.long q0), .second, .val (.long q1), .second, .val (.long q2), .second, .val (.int p3), .val (.int p4), .val (.ref b1), .val (.int (p3 &&& (2147483647 : Int32))), .val (.int (p4 &&& (3 : Int32))), .val (.int (0 : Int32))] [(.int (1 : Int32))])) t → Steps p.tables e below (s₁.setTop (entryFrame m #[(.long q0), (.long q1), (.long q2), (.int p3), (.int p4)] maxLocals)) t := fun t k => pre85 t (by
                show Steps p.tables e below (T84.setTop (mkF m 100 #[.val (.long q0), .second, .val (.long q1), .second, .val (.long q2), .second, .val (.int p3), .val (.int p4), .val (.ref b1), .val (.int (p3 &&& (2147483647 : Int32))), .val (.int (p4 &&& (3 : Int32))), .val (.int (0 : Int32))] [(.int (0 : Int32)), (.int (if ((0 : Int32) < (p3 &&& (2147483647 : Int32)) ∨ q2 < (own_max (own_max (-9223372036854775808 : Int64) q0) q1)) then (1 : Int32) else 0))])) _
                refine XS.icmpNo X84.here hx rfl (hb hby at_100) rfl (teq (own_b0 hc100_86)).2 ?_
                show Steps p.tables e below (T84.setTop (mkF m 103 #[.val (.long q0), .second, .val (.long q1), .second, .val (.long q2), .second, .val (.int p3), .val (.int p4), .val (.ref b1), .val (.int (p3 &&& (2147483647 : Int32))), .val (.int (p4 &&& (3 : Int32))), .val (.int (0 : Int32))] [])) _
                refine XS.iconst X84.here hx rfl (hb hby at_103) ?_
                show Steps p.tables e below (T84.setTop (mkF m 104 #[.val (.long q0), .second, .val (.long q1), .second, .val (.long q2), .second, .val (.int p3), .val (.int p4), .val (.ref b1), .val (.int (p3 &&& (2147483647 : Int32))), .val (.int (p4 &&& (3 : Int32))), .val (.int (0 : Int32))] [(.int (1 : Int32))])) _
                refine XS.goto X84.here hx rfl (pc0 := 104) (pc' := 108) rfl (hb hby at_104) (by decide) (by decide) ?_
                exact k)
              obtain ⟨fs, hr, hrun, hended, hW, hsame⟩ := X84.leave (v := some (.int (1 : Int32))) (fun h => by rw [Bd.returns] at h; cases h)
              refine ⟨_, _, pre88 _ ?_, hrun, hended, _, _, rfl, ?_, ⟨_, rfl⟩, hW, hsame.mono (by decide) (by decide)⟩
              · exact retN X84 hx (t := .boolean) Bd.returns (by simp) (hb hby at_108) hr
              · show Q0 Z q0 q1 q2 p3 p4 h0 n0 _ T84.heap _
                rw [hh84]
                exact ⟨rfl, N84⟩
set_option maxRecDepth 65536 in
set_option maxHeartbeats 40000000 in
theorem comes_1 {Post : Tables → Env → Array Value → State → Outcome → State → Prop} (hpost : ∀ tb e args s v u, (limb_1_1.after args s (.returned v) u = true ∧ limb_1_2.after args s (.returned v) u = true ∧ True) → FrameEnd s (.returned v) u (Jvm.fieldLocs frame_1_writes args s ++ Jvm.arrayLocs frame_1_arrays args s ++ Jvm.staticLocs frame_1_statics s) 16 128 → Post tb e args s (.returned v) u) :
    ArmFor flags0 classFile x code maxLocals ret World_1 tables_1 room_1 Calls_1 rest_1 Pre_1 Post := by
  intro l hfl _ _ p e ha hc hk s m args below hf hA hF happ hP
  obtain ⟨hcalls, hrest, hpre⟩ := hP
  obtain ⟨-, -, -, hnamed, -, -, -, hat⟩ := (Spec.applies_iff hf).mp happ
  obtain ⟨hg, hn⟩ := and_e (Cond.before_iff.mp (show (Jvm.Cond.and given_1 narrow_1).before args s = true from hpre))
  obtain ⟨g1, g2⟩ := and_e hg
  obtain ⟨g3, g4⟩ := and_e g2
  obtain ⟨g5, g6⟩ := and_e g4
  obtain ⟨g7, g8⟩ := and_e g6
  obtain ⟨g9, g10⟩ := and_e g8
  obtain ⟨w0, w1, w2, w3, w4, rfl⟩ : ∃ w0 w1 w2 w3 w4 : Value, args = #[w0, w1, w2, w3, w4] := by
    have hs : args.size = 5 := by simpa [Cond.value, given_1] using g1
    obtain ⟨L⟩ := args
    match L, hs with
    | [w0, w1, w2, w3, w4], _ => exact ⟨w0, w1, w2, w3, w4, rfl⟩
  have hw := fun d (hd : d ∈ tables_1) => atoms_spec (ws := Jvm.Cond.code x code maxLocals ret :: tables_1) hat d (List.mem_cons_of_mem _ hd)
  have hfit : Fit s := fun {y c} hc i hi => by
    obtain ⟨ha, rfl⟩ := Array.getElem?_eq_some_iff.mp hc
    have q := List.all_eq_true.mp ((Array.all_eq_true_iff_forall_mem.mp hF) _ (Array.getElem_mem ha)) i (List.mem_range.mpr hi)
    simpa [Array.getElem?_eq_getElem hi] using q
  obtain ⟨i0, ei0⟩ := isL_v g3
  obtain rfl : w0 = (.long i0) := Option.some.inj ei0
  obtain ⟨i1, ei1⟩ := isL_v g5
  obtain rfl : w1 = (.long i1) := Option.some.inj ei1
  obtain ⟨i2, ei2⟩ := isL_v g7
  obtain rfl : w2 = (.long i2) := Option.some.inj ei2
  obtain ⟨i3, ei3⟩ := is_v g9
  obtain rfl : w3 = (.int i3) := Option.some.inj ei3
  obtain ⟨i4, ei4⟩ := is_v g10
  obtain rfl : w4 = (.int i4) := Option.some.inj ei4
  obtain ⟨n, o, h1, h2, h3, _, L, rfl, ⟨rfl, N⟩, hq⟩ := rm0 l s _ hw tables_1 i0 i1 i2 i3 i4 s.heap s.heap.size (Nat.le_refl _) p e ha hc hk s m _ below hf ((Spec.applies_iff_loose hf).mp happ).1 ⟨rfl, State.Warmed39.refl s, rfl⟩ trivial
  refine ⟨n, _, h1, h2, h3, hpost _ _ _ _ _ _ ⟨Cond.after_iff.mpr rfl, Cond.after_iff.mpr (eq_i res_at (Term.int_eval (1)) rfl), trivial⟩ ⟨hq.1, hq.2.1, (hq.2.2.sift fun y hy => Or.inr (N y hy)).mono (by decide) (by decide)⟩⟩
theorem main_1_1 : Claimed_1_1 := comes_1 fun _ _ _ _ _ _ h hF => ⟨h.1, hF⟩
theorem main_1_2 : Claimed_1_2 := comes_1 fun _ _ _ _ _ _ h hF => ⟨h.2.1, hF⟩
end Jvm.Pilot.@@N@@
namespace Jvm.Pilot.@@N@@
open Jvm Jvm.ClassFile Sem Op Lib Jvm.Free Jvm.Stand Jvm.Pilot.@@N@@.Jvm.D
/-! MADE BY PROGRAM (witnessworld.py) out of the Statement's table words and the real class files: 10 classes; the members and pool entries that the words name. The judged class is class 1, her method 1. -/
namespace start1
open Jvm.ClassFile
def u (s : String) : CpInfo := .utf8 (stringToUtf16 s)
/-- a pool by its gaps: so many unusable entries, then the entry; so many at the end -/
def gap : Nat → List CpInfo → List CpInfo
  | 0, r => r
  | n + 1, r => .unusable :: gap n r
def poolList (es : List (Nat × CpInfo)) (last : Nat) : List CpInfo := es.foldr (fun e r => gap e.1 (e.2 :: r)) (gap last [])
def pool (es : List (Nat × CpInfo)) (last : Nat) : Array CpInfo := ⟨poolList es last⟩
def fileOf (pool : Array CpInfo) (this : Nat) (attrs : Array Attribute := #[]) (ms : Array MethodInfo := #[]) (fl : Nat := 33) (sup : Nat := 0) (ifs : Array Nat := #[]) (fds : Array FieldInfo := #[]) : ClassFile where
  minorVersion := 0
  majorVersion := 65
  constantPool := pool
  accessFlags := fl
  thisClass := this
  superClass := sup
  interfaces := ifs
  fields := fds
  methods := ms
  attributes := attrs
def plain (name : String) (sup : Option ClassId) : Class where
  name := name
  kind := .ordinary
  loader := none
  accessFlags := 33
  super := sup
  interfaces := #[]
  cf := none
  fields := #[]
  methods := #[]
  instanceTypes := #[]
  staticTypes := #[]
  resolved := #[]
  callSites := []
  init := .initialized
  statics := none
  mirror := none

def pool0 : Array CpInfo := pool [(5, u "<init>"), (0, u "()V"), (1, .class_ 10), (1, u "java/lang/Object")] 113

def k0c0 : Code := { maxStack := 0, maxLocals := 1, code := object_method_1_code, exceptionTable := #[], attributes := #[] }
def k0m0 : Method := { name := "<init>", desc := "()V", sig := { parameters := [], returnType := none }, accessFlags := 1, code := some k0c0 }
/-- java/lang/Object -/
def k0 : Class := { plain "java/lang/Object" none with
  accessFlags := 33
  interfaces := #[]
  cf := some (fileOf pool0 8 #[] #[{ accessFlags := 1, nameIndex := 5, descriptorIndex := 6, attributes := #[] }] 33 0 #[] #[])
  fields := #[]
  methods := #[k0m0]
  instanceTypes := #[]
  staticTypes := #[]
  resolved := Array.replicate 124 none
  statics := none }

def pool1 : Array CpInfo := pool [(2, .class_ 4), (0, .nameAndType 5 6), (0, u "java/lang/Object"), (0, u "<init>"), (0, u "()V"), (0, .class_ 8), (0, u "com/example/sensor_access_indicators/sensoraccessindicators/ShownAccesses"), (0, .methodref 7 3), (0, .integer 2147483647), (0, .fieldref 7 12), (0, .nameAndType 13 14), (0, u "running"), (0, u "I"), (0, .methodref 7 16), (0, .nameAndType 17 18), (0, u "show"), (0, u "(J)V"), (0, .methodref 7 20), (0, .nameAndType 21 22), (0, u "isShownAt"), (0, u "(J)Z"), (0, .class_ 24), (0, u "com/example/sensor_access_indicators/sensoraccessindicators/ShownAccessesIsShownAtPinLaw"), (2, u "law"), (0, u "(JJJII)Z")] 3

def k1m0 : Method := { name := "<init>", desc := "()V", sig := { parameters := [], returnType := none }, accessFlags := 1, code := none }
def k1c1 : Code := { maxStack := 4, maxLocals := 12, code := code, exceptionTable := #[], attributes := #[] }
def k1m1 : Method := { name := "law", desc := "(JJJII)Z", sig := { parameters := [.long, .long, .long, .int, .int], returnType := some .boolean }, accessFlags := 9, code := some k1c1 }
/-- com/example/sensor_access_indicators/sensoraccessindicators/ShownAccessesIsShownAtPinLaw -/
def k1 : Class := { plain "com/example/sensor_access_indicators/sensoraccessindicators/ShownAccessesIsShownAtPinLaw" (some 0) with
  accessFlags := 49
  interfaces := #[]
  cf := some (fileOf pool1 23 #[] #[{ accessFlags := 1, nameIndex := 5, descriptorIndex := 6, attributes := #[] }, { accessFlags := 9, nameIndex := 27, descriptorIndex := 28, attributes := #[] }] 49 2 #[] #[])
  fields := #[]
  methods := #[k1m0, k1m1]
  instanceTypes := #[]
  staticTypes := #[]
  resolved := Array.replicate 32 none
  statics := none }

def pool2 : Array CpInfo := pool [(1, .methodref 2 3), (0, .class_ 4), (0, .nameAndType 5 6), (0, u "java/lang/Object"), (0, u "<init>"), (0, u "()V"), (2, .long 9223372036854775808), (1, .fieldref 12 13), (0, .class_ 14), (0, .nameAndType 15 16), (0, u "com/example/sensor_access_indicators/sensoraccessindicators/ShownAccesses"), (0, u "shownUntil"), (0, u "J"), (0, .methodref 18 19), (0, .class_ 20), (0, .nameAndType 21 22), (0, u "java/lang/Math"), (0, u "max"), (0, u "(JJ)J"), (0, .fieldref 12 24), (0, .nameAndType 25 26), (0, u "running"), (0, u "I"), (23, u "show"), (0, u "(J)V"), (0, u "isShownAt"), (0, u "(J)Z")] 6

def k2c0 : Code := { maxStack := 3, maxLocals := 1, code := prog_35_method_1_code, exceptionTable := #[], attributes := #[] }
def k2m0 : Method := { name := "<init>", desc := "()V", sig := { parameters := [], returnType := none }, accessFlags := 0, code := some k2c0 }
def k2c1 : Code := { maxStack := 5, maxLocals := 3, code := prog_35_method_2_code, exceptionTable := #[], attributes := #[] }
def k2m1 : Method := { name := "show", desc := "(J)V", sig := { parameters := [.long], returnType := none }, accessFlags := 0, code := some k2c1 }
def k2c2 : Code := { maxStack := 4, maxLocals := 3, code := prog_35_method_3_code, exceptionTable := #[], attributes := #[] }
def k2m2 : Method := { name := "isShownAt", desc := "(J)Z", sig := { parameters := [.long], returnType := some .boolean }, accessFlags := 0, code := some k2c2 }
/-- com/example/sensor_access_indicators/sensoraccessindicators/ShownAccesses -/
def k2 : Class := { plain "com/example/sensor_access_indicators/sensoraccessindicators/ShownAccesses" (some 0) with
  accessFlags := 32
  interfaces := #[]
  cf := some (fileOf pool2 12 #[] #[{ accessFlags := 0, nameIndex := 5, descriptorIndex := 6, attributes := #[] }, { accessFlags := 0, nameIndex := 50, descriptorIndex := 51, attributes := #[] }, { accessFlags := 0, nameIndex := 52, descriptorIndex := 53, attributes := #[] }] 32 2 #[] #[{ accessFlags := 0, nameIndex := 25, descriptorIndex := 26, attributes := #[] }, { accessFlags := 0, nameIndex := 15, descriptorIndex := 16, attributes := #[] }])
  fields := #[{ name := "running", type := .int, accessFlags := 0, slot := 0, constantValue := 0 }, { name := "shownUntil", type := .long, accessFlags := 0, slot := 1, constantValue := 0 }]
  methods := #[k2m0, k2m1, k2m2]
  instanceTypes := #[.int, .long]
  staticTypes := #[]
  resolved := Array.replicate 60 none
  statics := none }

def pool3 : Array CpInfo := pool [(1, .class_ 2), (0, u "java/lang/Math"), (1, .class_ 6), (1, u "java/lang/Object"), (0, u "<init>"), (0, u "()V"), (89, .class_ 100), (1, u "java/lang/Math$RandomNumberGeneratorHolder"), (20, u "(JJ)J"), (50, u "negativeZeroFloatBits"), (0, u "J"), (2, u "negativeZeroDoubleBits"), (21, u "max"), (46, u "$assertionsDisabled"), (0, u "Z"), (91, u "twoToTheDoubleScaleDown"), (0, u "D"), (4, u "twoToTheDoubleScaleUp"), (9, u "E"), (3, u "PI"), (2, u "TAU"), (2, u "DEGREES_TO_RADIANS"), (0, u "RADIANS_TO_DEGREES")] 94

def k3m0 : Method := { name := "<init>", desc := "()V", sig := { parameters := [], returnType := none }, accessFlags := 2, code := none }
def k3c1 : Code := { maxStack := 4, maxLocals := 4, code := jdk_29_method_66_code, exceptionTable := #[], attributes := #[] }
def k3m1 : Method := { name := "max", desc := "(JJ)J", sig := { parameters := [.long, .long], returnType := some .long }, accessFlags := 9, code := some k3c1 }
/-- java/lang/Math -/
def k3 : Class := { plain "java/lang/Math" (some 0) with
  accessFlags := 49
  interfaces := #[]
  cf := some (fileOf pool3 1 #[.nestMembers #[98]] #[{ accessFlags := 2, nameIndex := 7, descriptorIndex := 8, attributes := #[] }, { accessFlags := 9, nameIndex := 198, descriptorIndex := 121, attributes := #[] }] 49 4 #[] #[{ accessFlags := 25, nameIndex := 354, descriptorIndex := 339, attributes := #[] }, { accessFlags := 25, nameIndex := 358, descriptorIndex := 339, attributes := #[] }, { accessFlags := 25, nameIndex := 361, descriptorIndex := 339, attributes := #[] }, { accessFlags := 26, nameIndex := 364, descriptorIndex := 339, attributes := #[] }, { accessFlags := 26, nameIndex := 365, descriptorIndex := 339, attributes := #[] }, { accessFlags := 26, nameIndex := 172, descriptorIndex := 173, attributes := #[] }, { accessFlags := 26, nameIndex := 176, descriptorIndex := 173, attributes := #[] }, { accessFlags := 8, nameIndex := 344, descriptorIndex := 339, attributes := #[] }, { accessFlags := 8, nameIndex := 338, descriptorIndex := 339, attributes := #[] }, { accessFlags := 4120, nameIndex := 245, descriptorIndex := 246, attributes := #[] }])
  fields := #[{ name := "E", type := .double, accessFlags := 25, slot := 0, constantValue := 0 }, { name := "PI", type := .double, accessFlags := 25, slot := 1, constantValue := 0 }, { name := "TAU", type := .double, accessFlags := 25, slot := 2, constantValue := 0 }, { name := "DEGREES_TO_RADIANS", type := .double, accessFlags := 26, slot := 3, constantValue := 0 }, { name := "RADIANS_TO_DEGREES", type := .double, accessFlags := 26, slot := 4, constantValue := 0 }, { name := "negativeZeroFloatBits", type := .long, accessFlags := 26, slot := 5, constantValue := 0 }, { name := "negativeZeroDoubleBits", type := .long, accessFlags := 26, slot := 6, constantValue := 0 }, { name := "twoToTheDoubleScaleUp", type := .double, accessFlags := 8, slot := 7, constantValue := 0 }, { name := "twoToTheDoubleScaleDown", type := .double, accessFlags := 8, slot := 8, constantValue := 0 }, { name := "$assertionsDisabled", type := .boolean, accessFlags := 4120, slot := 9, constantValue := 0 }]
  methods := #[k3m0, k3m1]
  instanceTypes := #[]
  staticTypes := #[.double, .double, .double, .double, .double, .long, .long, .double, .double, .boolean]
  resolved := Array.replicate 460 none
  statics := none }

def pool4 : Array CpInfo := pool [(1, u "java/lang/Cloneable"), (0, .class_ 1), (0, u "java/lang/Object"), (0, .class_ 3)] 3

/-- java/lang/Cloneable -/
def k4 : Class := { plain "java/lang/Cloneable" (some 0) with
  accessFlags := 1537
  interfaces := #[]
  cf := some (fileOf pool4 2 #[] #[] 1537 4 #[] #[])
  fields := #[]
  methods := #[]
  instanceTypes := #[]
  staticTypes := #[]
  resolved := Array.replicate 8 none
  statics := none }

def pool5 : Array CpInfo := pool [(1, u "java/io/Serializable"), (0, .class_ 1), (0, u "java/lang/Object"), (0, .class_ 3)] 3

/-- java/io/Serializable -/
def k5 : Class := { plain "java/io/Serializable" (some 0) with
  accessFlags := 1537
  interfaces := #[]
  cf := some (fileOf pool5 2 #[] #[] 1537 4 #[] #[])
  fields := #[]
  methods := #[]
  instanceTypes := #[]
  staticTypes := #[]
  resolved := Array.replicate 8 none
  statics := none }

/-- the primitive byte -/
def k6 : Class := { plain "byte" none with kind := .primitive 'B', accessFlags := 0x411 }
/-- [B -/
def k7 : Class := { plain "[B" (some 0) with kind := .array 6 .byte, interfaces := #[4, 5], accessFlags := 1041 }

/-- the primitive int -/
def k8 : Class := { plain "int" none with kind := .primitive 'I', accessFlags := 0x411 }
/-- [I -/
def k9 : Class := { plain "[I" (some 0) with kind := .array 8 .int, interfaces := #[4, 5], accessFlags := 1041 }

def heap : Heap := #[]
def classes : Array Class := #[k0, k1, k2, k3, k4, k5, k6, k7, k8, k9]
def interned : List (Array UInt16 × Addr) := []
def slotsUsed : Nat := 0
def theMethod : MethodId := ⟨1, 1⟩
def args0 : Array Value := #[.long 5, .long 3, .long 4, .int 0, .int 2]
def aboutOver (below : List Frame) : State where
  vm := { classes := classes, interned := interned.toArray }
  heap := heap
  slotsUsed := slotsUsed
  threads := #[{ frames := .invoking theMethod args0 :: below }]
def below0 : List Frame := [.native { method := ⟨0, 0⟩, args := #[] }]
def about1 : State := aboutOver below0
def p0 : Program := .bare "" "" ""
def e0 : Env := launch0.env 0 0 0
theorem w_frames : about1.frames = Frame.invoking theMethod args0 :: below0 := rfl
set_option maxRecDepth 65536 in
theorem w_args : argsFit about1.vm theMethod args0 = true := by decide +kernel
set_option maxRecDepth 65536 in
theorem w_heap : heapFits about1 = true := by decide +kernel
set_option maxRecDepth 65536 in
theorem w_runnable : about1.curStatus? = some .runnable := by decide +kernel
set_option maxRecDepth 65536 in
theorem w_alone : about1.alone = true := by decide +kernel
set_option maxRecDepth 65536 in
theorem w_named : about1.methodNamed? x = some theMethod := by decide +kernel
set_option maxRecDepth 65536 in
theorem w_hears : about1.hears theMethod below0 = true := by decide +kernel
set_option maxRecDepth 65536 in
theorem w_ripe : about1.ripe theMethod args0 below0 = true := by decide +kernel
theorem w_running : about1.status = .running := rfl
set_option maxRecDepth 65536 in
theorem w_room : about1.hasRoom e0.platform room_1 = true :=
  launch0.hasRoom_least _ room_1 (by decide +kernel) (by decide +kernel) (by decide +kernel) (by decide +kernel) (by decide +kernel) (by decide +kernel)
theorem allAtoms_all (ts : List Jvm.Cond) (a : Array Jvm.Value) (st : Jvm.State) : (allAtoms ts).before a st = ts.all (fun c => c.before a st) := by
  induction ts with
  | nil => rfl
  | cons c t ih =>
    show (Jvm.Cond.and c (allAtoms t)).before a st = _
    rw [Jvm.Cond.before_and, ih, List.all_cons]
def words1 : List Jvm.Cond := Jvm.Cond.code x code maxLocals ret :: tables_1
/-- a 'code' word, met by the world's own term for the bytes: nothing is compared byte by byte -/
theorem code_word {y : MethodName} {bytes : ByteArray} {mx : Nat} {rt : Option FieldType} {a : Array Value} {s : State} {m : MethodId} {meth : Method} {c : Code} (h1 : s.methodNamed? y = some m) (h2 : s.vm.method? m = some meth) (h3 : meth.code = some c) (h4 : c.code = bytes)
    (h5 : (c.maxLocals == mx && c.exceptionTable.isEmpty && decide (c.maxStack ≤ mostOperands) && decide (meth.sig.returnType = rt) && !meth.locks && decide (parseMethodDescriptor y.desc = some meth.sig)) = true) : (Jvm.Cond.code y bytes mx rt).before a s = true := by
  simp only [Bool.and_eq_true, beq_iff_eq, Bool.not_eq_true', decide_eq_true_eq] at h5
  obtain ⟨⟨⟨⟨⟨g1, g2⟩, g3⟩, g4⟩, g5⟩, g6⟩ := h5
  simp [Cond.before, Cond.holds, Cond.value, h1, h2, h3, h4, g1, g2, g3, g4, g5, g6]
def isCode : Jvm.Cond → Bool
  | .code _ _ _ _ => true
  | _ => false
theorem all_split {L : List Jvm.Cond} {P : Jvm.Cond → Bool} (h1 : L.all (fun c => isCode c || P c) = true) (h2 : ∀ c ∈ L.filter isCode, P c = true) : L.all P = true := by
  refine List.all_eq_true.mpr fun c hc => ?_
  have h := List.all_eq_true.mp h1 c hc
  rcases Bool.eq_false_or_eq_true (isCode c) with hi | hi
  · exact h2 c (List.mem_filter.mpr ⟨hc, hi⟩)
  · simpa [hi] using h
set_option maxRecDepth 65536 in
theorem w_c0 : (Jvm.Cond.code x code maxLocals ret).before args0 about1 = true := code_word (m := ⟨1, 1⟩) (meth := k1m1) (c := k1c1) (by decide +kernel) rfl rfl rfl (by decide +kernel)
set_option maxRecDepth 65536 in
theorem w_c1 : (Jvm.Cond.code ({ cls := "com/example/sensor_access_indicators/sensoraccessindicators/ShownAccesses", name := "<init>", desc := "()V" } : Jvm.MethodName) prog_35_method_1_code (1 : Nat) (Option.none : Option Jvm.ClassFile.FieldType)).before args0 about1 = true := code_word (m := ⟨2, 0⟩) (meth := k2m0) (c := k2c0) (by decide +kernel) rfl rfl rfl (by decide +kernel)
set_option maxRecDepth 65536 in
theorem w_c2 : (Jvm.Cond.code ({ cls := "java/lang/Object", name := "<init>", desc := "()V" } : Jvm.MethodName) object_method_1_code (1 : Nat) (Option.none : Option Jvm.ClassFile.FieldType)).before args0 about1 = true := code_word (m := ⟨0, 0⟩) (meth := k0m0) (c := k0c0) (by decide +kernel) rfl rfl rfl (by decide +kernel)
set_option maxRecDepth 65536 in
theorem w_c3 : (Jvm.Cond.code ({ cls := "com/example/sensor_access_indicators/sensoraccessindicators/ShownAccesses", name := "show", desc := "(J)V" } : Jvm.MethodName) prog_35_method_2_code (3 : Nat) (Option.none : Option Jvm.ClassFile.FieldType)).before args0 about1 = true := code_word (m := ⟨2, 1⟩) (meth := k2m1) (c := k2c1) (by decide +kernel) rfl rfl rfl (by decide +kernel)
set_option maxRecDepth 65536 in
theorem w_c4 : (Jvm.Cond.code ({ cls := "java/lang/Math", name := "max", desc := "(JJ)J" } : Jvm.MethodName) jdk_29_method_66_code (4 : Nat) (Option.some Jvm.ClassFile.FieldType.long)).before args0 about1 = true := code_word (m := ⟨3, 1⟩) (meth := k3m1) (c := k3c1) (by decide +kernel) rfl rfl rfl (by decide +kernel)
set_option maxRecDepth 65536 in
theorem w_c5 : (Jvm.Cond.code ({ cls := "com/example/sensor_access_indicators/sensoraccessindicators/ShownAccesses", name := "isShownAt", desc := "(J)Z" } : Jvm.MethodName) prog_35_method_3_code (3 : Nat) (Option.some Jvm.ClassFile.FieldType.boolean)).before args0 about1 = true := code_word (m := ⟨2, 2⟩) (meth := k2m2) (c := k2c2) (by decide +kernel) rfl rfl rfl (by decide +kernel)
def codes1 : List Jvm.Cond := [Jvm.Cond.code x code maxLocals ret, Jvm.Cond.code ({ cls := "com/example/sensor_access_indicators/sensoraccessindicators/ShownAccesses", name := "<init>", desc := "()V" } : Jvm.MethodName) prog_35_method_1_code (1 : Nat) (Option.none : Option Jvm.ClassFile.FieldType), Jvm.Cond.code ({ cls := "java/lang/Object", name := "<init>", desc := "()V" } : Jvm.MethodName) object_method_1_code (1 : Nat) (Option.none : Option Jvm.ClassFile.FieldType), Jvm.Cond.code ({ cls := "com/example/sensor_access_indicators/sensoraccessindicators/ShownAccesses", name := "show", desc := "(J)V" } : Jvm.MethodName) prog_35_method_2_code (3 : Nat) (Option.none : Option Jvm.ClassFile.FieldType), Jvm.Cond.code ({ cls := "java/lang/Math", name := "max", desc := "(JJ)J" } : Jvm.MethodName) jdk_29_method_66_code (4 : Nat) (Option.some Jvm.ClassFile.FieldType.long), Jvm.Cond.code ({ cls := "com/example/sensor_access_indicators/sensoraccessindicators/ShownAccesses", name := "isShownAt", desc := "(J)Z" } : Jvm.MethodName) prog_35_method_3_code (3 : Nat) (Option.some Jvm.ClassFile.FieldType.boolean)]
set_option maxRecDepth 65536 in
theorem codes_eq : words1.filter isCode = codes1 := rfl
theorem w_codes : ∀ c ∈ words1.filter isCode, c.before args0 about1 = true := by
  rw [codes_eq]
  intro c hc
  simp only [codes1, List.mem_cons, List.not_mem_nil, or_false] at hc
  rcases hc with rfl | rfl | rfl | rfl | rfl | rfl
  · exact w_c0
  · exact w_c1
  · exact w_c2
  · exact w_c3
  · exact w_c4
  · exact w_c5
set_option maxRecDepth 65536 in
theorem w_t1 : (words1.take 24).all (fun c => isCode c || c.before args0 about1) = true := by decide +kernel
set_option maxRecDepth 65536 in
theorem w_t2 : (words1.drop 24).all (fun c => isCode c || c.before args0 about1) = true := by decide +kernel
theorem w_tables : (allAtoms (Jvm.Cond.code x code maxLocals ret :: tables_1)).before args0 about1 = true := by
  rw [allAtoms_all]
  show words1.all (fun c => c.before args0 about1) = true
  refine all_split ?_ w_codes
  rw [← List.take_append_drop 24 words1, List.all_append, w_t1, w_t2]
  rfl
set_option maxRecDepth 65536 in
theorem w_case : (Jvm.Cond.and given_1 narrow_1).before args0 about1 = true := by decide +kernel
theorem w_applies : (headSpec (Jvm.Cond.code x code maxLocals ret :: tables_1) room_1).applies x e0.platform about1 = true :=
  (Spec.applies_iff w_frames).mpr ⟨w_running, w_runnable, w_alone, w_named, w_hears, w_ripe, w_room, w_tables⟩
theorem atStart : AtStart classFile x code maxLocals ret World_1 tables_1 room_1 Calls_1 rest_1 Pre_1 launch0 p0 e0 about1 theMethod args0 below0 :=
  ⟨lists_1, trivial, launch0.admits_env _ _ _, launch0.least_env, fairChoices_fair.cas, fairChoices_fair.clock, w_frames, w_args, w_heap, w_applies, trivial, trivial, w_case⟩
end start1
theorem witness_1 : WitnessClaimed_1 := ⟨start1.p0, start1.e0, start1.about1, start1.theMethod, start1.args0, start1.below0, start1.atStart⟩
end Jvm.Pilot.@@N@@
