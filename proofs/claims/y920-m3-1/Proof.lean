import JvmDerived
import JvmDerived.Pilot.@@N@@Statement
import JvmDerived.Pilot.@@N@@Code
set_option linter.unusedVariables false
set_option linter.unusedSimpArgs false
namespace Jvm.RoadKit
open Sem ClassFile Op Lib Jvm.Stand Jvm.Free Jvm.LawKit
section New
variable {p : Program} {l : Launch} {e : Env} {R : Room} {s : State} {m : MethodId} {args : Array Value} {below : List Frame} {meth : Method} {c : Code} {T : State} {locs : List Loc} {cells slots : Nat}
theorem retI (X : Stand p l e R s m args below meth c T locs cells slots) (hx : p.tables.exec = Jvm.exec) {pc : Nat} {Ls : Array Slot} {z : Int32} {rest : List Value} (hret : meth.sig.returnType = some .int) (hd : decode c.code pc = .ok (.ireturn, 1)) {fs : List Frame}
    (hl : ∀ (f : JFrame) (acts : List Action), f.method = m → f.locked = none → f.entered = [] → (doReturn e (T.setTop f) acts (some (.int z))).1 = T.setFrames fs) : Steps p.tables e below (T.setTop (mkF m pc Ls (.int z :: rest))) (T.setFrames fs) := by
  have hm' : T.vm.method? m = some meth := X.method'
  have hn : narrow .int (.int z) = .int z := rfl
  show Steps p.tables e below (T.setTop { method := m, pc := pc, locals := Ls, stack := _ :: rest, locked := none }) _
  jvm_step X.here [X.here.top, hx, hd, hm', hret, hn]
  first | (intro acts; rw [hl _ acts rfl rfl rfl]) | rw [hl _ _ rfl rfl rfl]
  exact Steps.refl _
theorem own_lrem {g : JFrame} {target : State} (X : Stand p l e R s m args below meth c T locs cells slots) (hx : p.tables.exec = Jvm.exec) (hg : g.method = m) {x y : Int64} {rest : List Value} (hd : decode c.code g.pc = .ok (.lrem, 1)) (hs : g.stack = .long y :: .long x :: rest) (hy : y ≠ 0)
    (hr : Steps p.tables e below (T.setTop { g with pc := g.pc + 1, stack := .long (x % y) :: rest }) target) : Steps p.tables e below (T.setTop g) target := by
  have q : x - (x / y) * y = x % y := lrem_mod x y
  exact XS.lrem X.here hx hg hd hs hy (by rw [q]; exact hr)
theorem own_b1 {P : Prop} [Decidable P] (h : P) : ¬ ((if P then (1 : Int32) else 0) = 0) := by rw [if_pos h]; decide
theorem own_b0 {P : Prop} [Decidable P] (h : ¬ P) : (if P then (1 : Int32) else 0) = 0 := if_neg h
theorem own_c1 {P : Prop} [Decidable P] (h : P) : (if P then (1 : Int32) else 0) = 1 := if_pos h
theorem own_c0 {P : Prop} [Decidable P] (h : ¬ P) : ¬ ((if P then (1 : Int32) else 0) = 1) := by rw [if_neg h]; decide
theorem own_bb {P Q : Prop} [Decidable P] [Decidable Q] (h : P ↔ Q) : (if P then (1 : Int32) else 0) = (if Q then (1 : Int32) else 0) := by
  by_cases p : P
  · rw [if_pos p, if_pos (h.mp p)]
  · rw [if_neg p, if_neg (fun q => p (h.mpr q))]
theorem own_bn {P Q : Prop} [Decidable P] [Decidable Q] (h : ¬ (P ↔ Q)) : ¬ ((if P then (1 : Int32) else 0) = (if Q then (1 : Int32) else 0)) := fun e => h (by
  by_cases p : P <;> by_cases q : Q
  · exact ⟨fun _ => q, fun _ => p⟩
  · rw [if_pos p, if_neg q] at e; exact absurd e (by decide)
  · rw [if_neg p, if_pos q] at e; exact absurd e (by decide)
  · exact ⟨fun a => absurd a p, fun a => absurd a q⟩)
theorem own_t {P : Prop} [Decidable P] (h : P) : some (Value.int 1) = some (Value.int (if P then (1 : Int32) else 0)) := by rw [if_pos h]
theorem own_f {P : Prop} [Decidable P] (h : ¬ P) : some (Value.int 0) = some (Value.int (if P then (1 : Int32) else 0)) := by rw [if_neg h]
end New
end Jvm.RoadKit
namespace Jvm.Pilot.@@N@@
open Jvm Jvm.ClassFile Sem Op Lib Jvm.Free Jvm.Stand Jvm.LawKit Jvm.RoadKit Bundle Jvm.Pilot.@@N@@.Jvm.D
def own_max (a b : Int64) : Int64 := if a < b then b else a
theorem own_ltmax (t a b : Int64) : t < own_max a b ↔ (t < a ∨ t < b) := by
  unfold own_max
  simp only [Int64.lt_iff_toInt_lt]
  split <;> omega
theorem own_max_toInt (a b : Int64) : (own_max a b).toInt = max a.toInt b.toInt := by
  unfold own_max
  simp only [Int64.lt_iff_toInt_lt]
  split <;> omega
theorem own_eq {a b : Int64} (h : a.toInt = b.toInt) : a = b := Int64.toInt_inj.mp h
theorem own_p {P : Prop} [Decidable P] (h : P) : (1 : Int32) = (if P then (1 : Int32) else 0) := (if_pos h).symm
theorem own_n {P : Prop} [Decidable P] (h : ¬ P) : (0 : Int32) = (if P then (1 : Int32) else 0) := (if_neg h).symm
theorem pn_0 : plainName "com/example/sensor_access_indicators/sensoraccessindicators/ShownAccesses" = true := by first | (simp [plainName, overriddenIn]; done) | decide +kernel
theorem d1_0 : decode prog_35_method_1_code 0 = .ok (.aload_n 0, 1) := by decide +kernel
theorem d1_1 : decode prog_35_method_1_code 1 = .ok (.invokespecial 1, 3) := by decide +kernel
theorem d1_4 : decode prog_35_method_1_code 4 = .ok (.aload_n 0, 1) := by decide +kernel
theorem d1_5 : decode prog_35_method_1_code 5 = .ok (.ldc2_w 9, 3) := by decide +kernel
theorem d1_8 : decode prog_35_method_1_code 8 = .ok (.putfield 11, 3) := by decide +kernel
theorem d1_11 : decode prog_35_method_1_code 11 = .ok (.return_, 1) := by decide +kernel
theorem ef_1 (m : MethodId) (x0 : Addr) : entryFrame m #[(.ref x0)] 1 = mkF m 0 #[.val (.ref x0)] [] := by first | (simp [entryFrame, mkF, argsToLocals, Value.category]; done) | rfl
def Q1 (Z : State) (o0 : Addr) (u1 : Value) (r : Int32) (h0 : Heap) (n0 : Nat) (v : Option Value) (h : Heap) (L : List Loc) : Prop := v = none ∧ Fr n0 L ∧ Keep h0 h [o0] ∧ Exa Z h o0 "com/example/sensor_access_indicators/sensoraccessindicators/ShownAccesses" ∧ Fld Z h o0 "com/example/sensor_access_indicators/sensoraccessindicators/ShownAccesses" "shownUntil" "J" (.long (-9223372036854775808 : Int64)) ∧ Fld Z h o0 "com/example/sensor_access_indicators/sensoraccessindicators/ShownAccesses" "running" "I" (.int r)
set_option maxRecDepth 65536 in
set_option maxHeartbeats 40000000 in
theorem rm1 (l : Launch) (Z : State) (a0 : Array Value) (hw : ∀ d ∈ tables_1, d.before a0 Z = true) (ws : List Jvm.Cond) (o0 : Addr) (u1 : Value) (r : Int32) (h0 : Heap) (n0 : Nat) (Z0 : n0 ≤ h0.size) (F_shownUntil_o0 : Fld Z h0 o0 "com/example/sensor_access_indicators/sensoraccessindicators/ShownAccesses" "shownUntil" "J" u1) (F_running_o0 : Fld Z h0 o0 "com/example/sensor_access_indicators/sensoraccessindicators/ShownAccesses" "running" "I" (.int r)) (E_o0 : Exa Z h0 o0 "com/example/sensor_access_indicators/sensoraccessindicators/ShownAccesses") (g_o0 : n0 ≤ o0) :
    MetFree l (⟨"com/example/sensor_access_indicators/sensoraccessindicators/ShownAccesses", "<init>", "()V"⟩ : MethodName) (head1 (Jvm.Cond.code (⟨"com/example/sensor_access_indicators/sensoraccessindicators/ShownAccesses", "<init>", "()V"⟩ : MethodName) prog_35_method_1_code 1 none :: ws) ({ frames := 1, cells := 0, slots := 0, locals := 12 } : Room)) (fun a U => a = #[(.ref o0)] ∧ Z.Warmed39 U.vm ∧ U.heap = h0) (fun _ _ _ _ _ => True) (fun _ U o U' => ∃ v L, o = .returned v ∧ Q1 Z o0 u1 r h0 n0 v U'.heap L ∧ FrameEnd U o U' L ({ frames := 1, cells := 0, slots := 0, locals := 12 } : Room).cells ({ frames := 1, cells := 0, slots := 0, locals := 12 } : Room).slots) := by
  refine MetFree.of_bodySF (plainFor_of_name pn_0) hisR ?_
  intro p e s m args below meth c s₁ Bd hml0 hP hK
  obtain ⟨rfl, hZ, hh⟩ := hP
  have hx := Bd.exec
  have hby := Bd.bytes
  have hml : c.maxLocals = 1 := hml0
  have hown : s.vm.findClass "com/example/sensor_access_indicators/sensoraccessindicators/ShownAccesses" = some m.cls := findClass_of_methodNamed Bd.named
  have hnm := (name_of_methodNamed Bd.named Bd.method).1
  have X0 : Stand p l e ({ frames := 1, cells := 0, slots := 0, locals := 12 } : Room) s m #[(.ref o0)] below meth c s₁ [] 0 0 := Stand.of_body Bd
  have e0 : s₁.heap = h0 := by rw [← hh, Bd.state]; rfl
  have N0 := Fr.nil n0
  have pre0 : ∀ t, Steps p.tables e below (s₁.setTop (mkF m 0 #[.val (.ref o0)] [])) t → Steps p.tables e below (s₁.setTop (entryFrame m #[(.ref o0)] 1)) t := fun t k => castTop (ef_1 m o0) k
  obtain ⟨T1, X1, e1, st1⟩ := initO X0 hx hZ hown (hw _ (List.mem_of_getElem? (i := 6) rfl)) (hw _ (List.mem_of_getElem? (i := 7) rfl)) (hw _ (List.mem_of_getElem? (i := 8) rfl)) e0 (g := (mkF m 1 #[.val (.ref o0)] [(.ref o0)])) rfl (by rw [hml]; rfl) rfl (hb hby d1_1) (by decide) (W := 0) (by show 2 * 0 + _ ≤ _; exact Nat.le_of_eq rfl) (by decide)
  obtain ⟨T2, h2, X2, e2, W2, st2⟩ := putF X1 hx hZ hown (host := "") (Or.inl (hw _ (List.mem_of_getElem? (i := 10) rfl))) Via.refl e1 F_shownUntil_o0 E_o0 (Or.inl (hw _ (List.mem_of_getElem? (i := 11) rfl))) (hw _ (List.mem_of_getElem? (i := 1) rfl)) (ty := .long) (by decide) rfl rfl (g := (mkF m 8 #[.val (.ref o0)] [(.long (-9223372036854775808 : Int64)), (.ref o0)])) rfl rfl (hb hby d1_8)
  have Fw2 := F_shownUntil_o0.same W2
  have KK2 : Keep h0 h2 [o0] := (Keep.refl h0 [o0]).wr W2 (Or.inl (List.mem_of_getElem? (i := 0) rfl))
  have N2 := Fr.snoc X2 N0 g_o0
  have pre3 : ∀ t, Steps p.tables e below (T2.setTop (mkF m 11 #[.val (.ref o0)] [])) t → Steps p.tables e below (s₁.setTop (entryFrame m #[(.ref o0)] 1)) t := fun t k => pre0 t (by
    show Steps p.tables e below (s₁.setTop (mkF m 0 #[.val (.ref o0)] [])) _
    refine XS.aloadN X0.here hx rfl (hb hby d1_0) rfl rfl ?_
    show Steps p.tables e below (s₁.setTop (mkF m 1 #[.val (.ref o0)] [(.ref o0)])) _
    refine st1 _ ?_
    show Steps p.tables e below (T1.setTop (mkF m 4 #[.val (.ref o0)] [])) _
    refine XS.aloadN X1.here hx rfl (hb hby d1_4) rfl rfl ?_
    show Steps p.tables e below (T1.setTop (mkF m 5 #[.val (.ref o0)] [(.ref o0)])) _
    refine X1.ldc2Long hx hown (mvT hZ (hw _ (List.mem_of_getElem? (i := 9) rfl))) (g := (mkF m 5 #[.val (.ref o0)] [(.ref o0)])) rfl (hb hby d1_5) _ ?_
    show Steps p.tables e below (T1.setTop (mkF m 8 #[.val (.ref o0)] [(.long (-9223372036854775808 : Int64)), (.ref o0)])) _
    refine st2 _ ?_
    exact k)
  obtain ⟨fs, hr, hrun, hended, hW, hsame⟩ := X2.leave (v := none) (fun _ => rfl)
  refine ⟨_, _, pre3 _ ?_, hrun, hended, _, _, rfl, ?_, ⟨_, rfl⟩, hW, hsame.mono (by decide) (by decide)⟩
  · exact X2.returnOut hx Bd.returns (hb hby d1_11) hr
  · show Q1 Z o0 u1 r h0 n0 _ T2.heap _
    rw [e2]
    exact ⟨rfl, N2, KK2, (E_o0.wr W2), Fw2, (F_running_o0.other W2 (Or.inr (slot_ne (Or.inl (hw _ (List.mem_of_getElem? (i := 28) rfl))) (Or.inl (hw _ (List.mem_of_getElem? (i := 11) rfl))) (by decide) (t := .int) (t' := .long) (by decide) (by decide))))⟩
theorem d4_0 : decode jdk_29_method_66_code 0 = .ok (.lload_n 0, 1) := by decide +kernel
theorem d4_1 : decode jdk_29_method_66_code 1 = .ok (.lload_n 2, 1) := by decide +kernel
theorem d4_2 : decode jdk_29_method_66_code 2 = .ok (.lcmp, 1) := by decide +kernel
theorem d4_3 : decode jdk_29_method_66_code 3 = .ok (.ifCond .lt 7, 3) := by decide +kernel
theorem d4_10 : decode jdk_29_method_66_code 10 = .ok (.lload_n 2, 1) := by decide +kernel
theorem d4_11 : decode jdk_29_method_66_code 11 = .ok (.lreturn, 1) := by decide +kernel
theorem d4_6 : decode jdk_29_method_66_code 6 = .ok (.lload_n 0, 1) := by decide +kernel
theorem d4_7 : decode jdk_29_method_66_code 7 = .ok (.goto 4, 3) := by decide +kernel
theorem ef_4 (m : MethodId) (x0 : Int64) (x1 : Int64) : entryFrame m #[(.long x0), (.long x1)] 4 = mkF m 0 #[.val (.long x0), .second, .val (.long x1), .second] [] := by first | (simp [entryFrame, mkF, argsToLocals, Value.category]; done) | rfl
def Q4 (Z : State) (q0 : Int64) (q1 : Int64) (h0 : Heap) (n0 : Nat) (v : Option Value) (h : Heap) (L : List Loc) : Prop := v = some (.long (own_max q0 q1)) ∧ Fr n0 L ∧ h = h0
set_option maxRecDepth 65536 in
set_option maxHeartbeats 40000000 in
theorem rm4 (l : Launch) (Z : State) (a0 : Array Value) (hw : ∀ d ∈ tables_1, d.before a0 Z = true) (ws : List Jvm.Cond) (q0 : Int64) (q1 : Int64) (h0 : Heap) (n0 : Nat) (Z0 : n0 ≤ h0.size) :
    MetFree l (⟨"java/lang/Math", "max", "(JJ)J"⟩ : MethodName) (head1 (Jvm.Cond.code (⟨"java/lang/Math", "max", "(JJ)J"⟩ : MethodName) jdk_29_method_66_code 4 (some .long) :: ws) ({ frames := 0, cells := 0, slots := 0, locals := 0 } : Room)) (fun a U => a = #[(.long q0), (.long q1)] ∧ Z.Warmed39 U.vm ∧ U.heap = h0) (fun _ _ _ _ _ => True) (fun _ U o U' => ∃ v L, o = .returned v ∧ Q4 Z q0 q1 h0 n0 v U'.heap L ∧ FrameEnd U o U' L ({ frames := 0, cells := 0, slots := 0, locals := 0 } : Room).cells ({ frames := 0, cells := 0, slots := 0, locals := 0 } : Room).slots) := by
  refine MetFree.of_bodySF (Jvm.Free.JP.mathPlain rfl (by decide +kernel)) hisR ?_
  intro p e s m args below meth c s₁ Bd hml0 hP hK
  obtain ⟨rfl, hZ, hh⟩ := hP
  have hx := Bd.exec
  have hby := Bd.bytes
  have hml : c.maxLocals = 4 := hml0
  have hown : s.vm.findClass "java/lang/Math" = some m.cls := findClass_of_methodNamed Bd.named
  have hnm := (name_of_methodNamed Bd.named Bd.method).1
  have X0 : Stand p l e ({ frames := 0, cells := 0, slots := 0, locals := 0 } : Room) s m #[(.long q0), (.long q1)] below meth c s₁ [] 0 0 := Stand.of_body Bd
  have e0 : s₁.heap = h0 := by rw [← hh, Bd.state]; rfl
  have N0 := Fr.nil n0
  have pre0 : ∀ t, Steps p.tables e below (s₁.setTop (mkF m 0 #[.val (.long q0), .second, .val (.long q1), .second] [])) t → Steps p.tables e below (s₁.setTop (entryFrame m #[(.long q0), (.long q1)] 4)) t := fun t k => castTop (ef_4 m q0 q1) k
  have pre1 : ∀ t, Steps p.tables e below (s₁.setTop (mkF m 3 #[.val (.long q0), .second, .val (.long q1), .second] [(.int (lcmpW q0 q1))])) t → Steps p.tables e below (s₁.setTop (entryFrame m #[(.long q0), (.long q1)] 4)) t := fun t k => pre0 t (by
    show Steps p.tables e below (s₁.setTop (mkF m 0 #[.val (.long q0), .second, .val (.long q1), .second] [])) _
    refine XS.lloadN X0.here hx rfl (hb hby d4_0) rfl ?_
    show Steps p.tables e below (s₁.setTop (mkF m 1 #[.val (.long q0), .second, .val (.long q1), .second] [(.long q0)])) _
    refine XS.lloadN X0.here hx rfl (hb hby d4_1) rfl ?_
    show Steps p.tables e below (s₁.setTop (mkF m 2 #[.val (.long q0), .second, .val (.long q1), .second] [(.long q1), (.long q0)])) _
    refine XS.lcmp X0.here hx rfl (hb hby d4_2) rfl ?_
    exact k)
  by_cases hc3_2 : q0 < q1
  · have pre3 : ∀ t, Steps p.tables e below (s₁.setTop (mkF m 11 #[.val (.long q0), .second, .val (.long q1), .second] [(.long q1)])) t → Steps p.tables e below (s₁.setTop (entryFrame m #[(.long q0), (.long q1)] 4)) t := fun t k => pre1 t (by
      show Steps p.tables e below (s₁.setTop (mkF m 3 #[.val (.long q0), .second, .val (.long q1), .second] [(.int (lcmpW q0 q1))])) _
      refine XS.ifYes X0.here hx rfl (pc0 := 3) (pc' := 10) rfl (hb hby d4_3) rfl ((if0 _ _).trans (tlt ((lw_lt _ _).mpr hc3_2)).1) (by decide) (by decide) ?_
      show Steps p.tables e below (s₁.setTop (mkF m 10 #[.val (.long q0), .second, .val (.long q1), .second] [])) _
      refine XS.lloadN X0.here hx rfl (hb hby d4_10) rfl ?_
      exact k)
    obtain ⟨fs, hr, hrun, hended, hW, hsame⟩ := X0.leave (v := some (.long q1)) (fun h => by rw [Bd.returns] at h; cases h)
    refine ⟨_, _, pre3 _ ?_, hrun, hended, _, _, rfl, ?_, ⟨_, rfl⟩, hW, hsame.mono (by decide) (by decide)⟩
    · show Steps p.tables e below (s₁.setTop (mkF m 11 #[.val (.long q0), .second, .val (.long q1), .second] [(.long q1)])) _
      jvm_step X0.here [X0.here.top, hx, (hb hby d4_11), X0.method', Bd.returns, narrow]
      first | (intro acts; rw [hr _ acts rfl rfl rfl]) | rw [hr _ _ rfl rfl rfl]
      exact Steps.refl _
    · show Q4 Z q0 q1 h0 n0 _ s₁.heap _
      rw [e0]
      exact ⟨by unfold own_max; rw [if_pos hc3_2], N0, rfl⟩
  · have pre4 : ∀ t, Steps p.tables e below (s₁.setTop (mkF m 11 #[.val (.long q0), .second, .val (.long q1), .second] [(.long q0)])) t → Steps p.tables e below (s₁.setTop (entryFrame m #[(.long q0), (.long q1)] 4)) t := fun t k => pre1 t (by
      show Steps p.tables e below (s₁.setTop (mkF m 3 #[.val (.long q0), .second, .val (.long q1), .second] [(.int (lcmpW q0 q1))])) _
      refine XS.ifNo X0.here hx rfl (hb hby d4_3) rfl ((if0 _ _).trans (flt (fun q => hc3_2 ((lw_lt _ _).mp q))).1) ?_
      show Steps p.tables e below (s₁.setTop (mkF m 6 #[.val (.long q0), .second, .val (.long q1), .second] [])) _
      refine XS.lloadN X0.here hx rfl (hb hby d4_6) rfl ?_
      show Steps p.tables e below (s₁.setTop (mkF m 7 #[.val (.long q0), .second, .val (.long q1), .second] [(.long q0)])) _
      refine XS.goto X0.here hx rfl (pc0 := 7) (pc' := 11) rfl (hb hby d4_7) (by decide) (by decide) ?_
      exact k)
    obtain ⟨fs, hr, hrun, hended, hW, hsame⟩ := X0.leave (v := some (.long q0)) (fun h => by rw [Bd.returns] at h; cases h)
    refine ⟨_, _, pre4 _ ?_, hrun, hended, _, _, rfl, ?_, ⟨_, rfl⟩, hW, hsame.mono (by decide) (by decide)⟩
    · show Steps p.tables e below (s₁.setTop (mkF m 11 #[.val (.long q0), .second, .val (.long q1), .second] [(.long q0)])) _
      jvm_step X0.here [X0.here.top, hx, (hb hby d4_11), X0.method', Bd.returns, narrow]
      first | (intro acts; rw [hr _ acts rfl rfl rfl]) | rw [hr _ _ rfl rfl rfl]
      exact Steps.refl _
    · show Q4 Z q0 q1 h0 n0 _ s₁.heap _
      rw [e0]
      exact ⟨by unfold own_max; rw [if_neg hc3_2], N0, rfl⟩
theorem d3_0 : decode prog_35_method_2_code 0 = .ok (.aload_n 0, 1) := by decide +kernel
theorem d3_1 : decode prog_35_method_2_code 1 = .ok (.aload_n 0, 1) := by decide +kernel
theorem d3_2 : decode prog_35_method_2_code 2 = .ok (.getfield 11, 3) := by decide +kernel
theorem d3_5 : decode prog_35_method_2_code 5 = .ok (.lload_n 1, 1) := by decide +kernel
theorem pd_0 : parseMethodDescriptor "(JJ)J" = some ⟨[.long, .long], some .long⟩ := by decide +kernel
theorem d3_6 : decode prog_35_method_2_code 6 = .ok (.invokestatic 17, 3) := by decide +kernel
theorem d3_9 : decode prog_35_method_2_code 9 = .ok (.putfield 11, 3) := by decide +kernel
theorem d3_12 : decode prog_35_method_2_code 12 = .ok (.return_, 1) := by decide +kernel
theorem ef_3 (m : MethodId) (x0 : Addr) (x1 : Int64) : entryFrame m #[(.ref x0), (.long x1)] 3 = mkF m 0 #[.val (.ref x0), .val (.long x1), .second] [] := by first | (simp [entryFrame, mkF, argsToLocals, Value.category]; done) | rfl
def Q3 (Z : State) (o0 : Addr) (q1 : Int64) (u : Int64) (r : Int32) (h0 : Heap) (n0 : Nat) (v : Option Value) (h : Heap) (L : List Loc) : Prop := v = none ∧ Fr n0 L ∧ Keep h0 h [o0] ∧ Exa Z h o0 "com/example/sensor_access_indicators/sensoraccessindicators/ShownAccesses" ∧ Fld Z h o0 "com/example/sensor_access_indicators/sensoraccessindicators/ShownAccesses" "shownUntil" "J" (.long (own_max u q1)) ∧ Fld Z h o0 "com/example/sensor_access_indicators/sensoraccessindicators/ShownAccesses" "running" "I" (.int r)
set_option maxRecDepth 65536 in
set_option maxHeartbeats 40000000 in
theorem rm3 (l : Launch) (Z : State) (a0 : Array Value) (hw : ∀ d ∈ tables_1, d.before a0 Z = true) (ws : List Jvm.Cond) (o0 : Addr) (q1 : Int64) (u : Int64) (r : Int32) (h0 : Heap) (n0 : Nat) (Z0 : n0 ≤ h0.size) (F_shownUntil_o0 : Fld Z h0 o0 "com/example/sensor_access_indicators/sensoraccessindicators/ShownAccesses" "shownUntil" "J" (.long u)) (F_running_o0 : Fld Z h0 o0 "com/example/sensor_access_indicators/sensoraccessindicators/ShownAccesses" "running" "I" (.int r)) (E_o0 : Exa Z h0 o0 "com/example/sensor_access_indicators/sensoraccessindicators/ShownAccesses") (g_o0 : n0 ≤ o0) :
    MetFree l (⟨"com/example/sensor_access_indicators/sensoraccessindicators/ShownAccesses", "show", "(J)V"⟩ : MethodName) (head1 (Jvm.Cond.code (⟨"com/example/sensor_access_indicators/sensoraccessindicators/ShownAccesses", "show", "(J)V"⟩ : MethodName) prog_35_method_2_code 3 none :: ws) ({ frames := 1, cells := 0, slots := 0, locals := 16 } : Room)) (fun a U => a = #[(.ref o0), (.long q1)] ∧ Z.Warmed39 U.vm ∧ U.heap = h0) (fun _ _ _ _ _ => True) (fun _ U o U' => ∃ v L, o = .returned v ∧ Q3 Z o0 q1 u r h0 n0 v U'.heap L ∧ FrameEnd U o U' L ({ frames := 1, cells := 0, slots := 0, locals := 16 } : Room).cells ({ frames := 1, cells := 0, slots := 0, locals := 16 } : Room).slots) := by
  refine MetFree.of_bodySF (plainFor_of_name pn_0) hisR ?_
  intro p e s m args below meth c s₁ Bd hml0 hP hK
  obtain ⟨rfl, hZ, hh⟩ := hP
  have hx := Bd.exec
  have hby := Bd.bytes
  have hml : c.maxLocals = 3 := hml0
  have hown : s.vm.findClass "com/example/sensor_access_indicators/sensoraccessindicators/ShownAccesses" = some m.cls := findClass_of_methodNamed Bd.named
  have hnm := (name_of_methodNamed Bd.named Bd.method).1
  have X0 : Stand p l e ({ frames := 1, cells := 0, slots := 0, locals := 16 } : Room) s m #[(.ref o0), (.long q1)] below meth c s₁ [] 0 0 := Stand.of_body Bd
  have e0 : s₁.heap = h0 := by rw [← hh, Bd.state]; rfl
  have N0 := Fr.nil n0
  have pre0 : ∀ t, Steps p.tables e below (s₁.setTop (mkF m 0 #[.val (.ref o0), .val (.long q1), .second] [])) t → Steps p.tables e below (s₁.setTop (entryFrame m #[(.ref o0), (.long q1)] 3)) t := fun t k => castTop (ef_3 m o0 q1) k
  obtain ⟨T1, X1, e1, st1⟩ := getF X0 hx hZ hown (host := "") (Or.inl (hw _ (List.mem_of_getElem? (i := 10) rfl))) Via.refl e0 F_shownUntil_o0 (g := (mkF m 2 #[.val (.ref o0), .val (.long q1), .second] [(.ref o0), (.ref o0)])) rfl rfl (hb hby d3_2)
  obtain ⟨_, _, ⟨T2, L2, k2, n2⟩, -, X2, ⟨Lc2, hQ2, l2, y2, z2⟩, st2⟩ := Jvm.LawKit.callS X1 hx (y := (⟨"java/lang/Math", "max", "(JJ)J"⟩ : MethodName)) hown (mvT hZ (hw _ (List.mem_of_getElem? (i := 17) rfl))) (mvT hZ (hw _ (List.mem_of_getElem? (i := 18) rfl))) (mvT hZ (hw _ (List.mem_of_getElem? (i := 19) rfl))) (mvT hZ (hw _ (List.mem_of_getElem? (i := 20) rfl))) (by decide) (backOf (W := 1) (rm4 l Z a0 hw [] u q1 h0 n0 Z0 ) hZ (hw _ (List.mem_of_getElem? (i := 20) rfl)) (hw _ (List.mem_of_getElem? (i := 19) rfl)) (by decide) (by decide)) (g := (mkF m 6 #[.val (.ref o0), .val (.long q1), .second] [(.long q1), (.long u), (.ref o0)])) rfl (by rw [hml]; rfl) (argsL := [(.long u), (.long q1)]) (rest := [(.ref o0)]) (lenOf pd_0 rfl) rfl (by show 2 * 0 + _ ≤ _; exact Nat.le_of_eq rfl) (hb hby d3_6) (fun _ _ => ⟨rfl, e1, (by decide : 0 + 0 ≤ _), (by decide : 0 + 0 ≤ _)⟩)
  dsimp only [Pt.U, Pt.locs, Pt.cells, Pt.slots] at X2 l2 y2 z2 st2 hQ2
  subst l2 y2 z2
  obtain ⟨rfl, N2q, hh2⟩ := hQ2
  have N2 := Fr.app N0 N2q
  obtain ⟨T3, h3, X3, e3, W3, st3⟩ := putF X2 hx hZ hown (host := "") (Or.inl (hw _ (List.mem_of_getElem? (i := 10) rfl))) Via.refl hh2 F_shownUntil_o0 E_o0 (Or.inl (hw _ (List.mem_of_getElem? (i := 11) rfl))) (hw _ (List.mem_of_getElem? (i := 1) rfl)) (ty := .long) (by decide) rfl rfl (g := (mkF m 9 #[.val (.ref o0), .val (.long q1), .second] [(.long (own_max u q1)), (.ref o0)])) rfl rfl (hb hby d3_9)
  have Fw3 := F_shownUntil_o0.same W3
  have KK3 : Keep h0 h3 [o0] := (Keep.refl h0 [o0]).wr W3 (Or.inl (List.mem_of_getElem? (i := 0) rfl))
  have N3 := Fr.snoc X3 N2 g_o0
  have pre4 : ∀ t, Steps p.tables e below (T3.setTop (mkF m 12 #[.val (.ref o0), .val (.long q1), .second] [])) t → Steps p.tables e below (s₁.setTop (entryFrame m #[(.ref o0), (.long q1)] 3)) t := fun t k => pre0 t (by
    show Steps p.tables e below (s₁.setTop (mkF m 0 #[.val (.ref o0), .val (.long q1), .second] [])) _
    refine XS.aloadN X0.here hx rfl (hb hby d3_0) rfl rfl ?_
    show Steps p.tables e below (s₁.setTop (mkF m 1 #[.val (.ref o0), .val (.long q1), .second] [(.ref o0)])) _
    refine XS.aloadN X0.here hx rfl (hb hby d3_1) rfl rfl ?_
    show Steps p.tables e below (s₁.setTop (mkF m 2 #[.val (.ref o0), .val (.long q1), .second] [(.ref o0), (.ref o0)])) _
    refine st1 _ ?_
    show Steps p.tables e below (T1.setTop (mkF m 5 #[.val (.ref o0), .val (.long q1), .second] [(.long u), (.ref o0)])) _
    refine XS.lloadN X1.here hx rfl (hb hby d3_5) rfl ?_
    show Steps p.tables e below (T1.setTop (mkF m 6 #[.val (.ref o0), .val (.long q1), .second] [(.long q1), (.long u), (.ref o0)])) _
    refine st2 _ ?_
    show Steps p.tables e below (T2.setTop (mkF m 9 #[.val (.ref o0), .val (.long q1), .second] [(.long (own_max u q1)), (.ref o0)])) _
    refine st3 _ ?_
    exact k)
  obtain ⟨fs, hr, hrun, hended, hW, hsame⟩ := X3.leave (v := none) (fun _ => rfl)
  refine ⟨_, _, pre4 _ ?_, hrun, hended, _, _, rfl, ?_, ⟨_, rfl⟩, hW, hsame.mono (by decide) (by decide)⟩
  · exact X3.returnOut hx Bd.returns (hb hby d3_12) hr
  · show Q3 Z o0 q1 u r h0 n0 _ T3.heap _
    rw [e3]
    exact ⟨rfl, N3, KK3, (E_o0.wr W3), Fw3, (F_running_o0.other W3 (Or.inr (slot_ne (Or.inl (hw _ (List.mem_of_getElem? (i := 28) rfl))) (Or.inl (hw _ (List.mem_of_getElem? (i := 11) rfl))) (by decide) (t := .int) (t' := .long) (by decide) (by decide))))⟩
theorem d5_0 : decode prog_35_method_3_code 0 = .ok (.aload_n 0, 1) := by decide +kernel
theorem d5_1 : decode prog_35_method_3_code 1 = .ok (.getfield 23, 3) := by decide +kernel
theorem d5_4 : decode prog_35_method_3_code 4 = .ok (.ifCond .gt 12, 3) := by decide +kernel
theorem d5_16 : decode prog_35_method_3_code 16 = .ok (.iconst 1, 1) := by decide +kernel
theorem d5_17 : decode prog_35_method_3_code 17 = .ok (.goto 4, 3) := by decide +kernel
theorem d5_21 : decode prog_35_method_3_code 21 = .ok (.ireturn, 1) := by decide +kernel
theorem d5_7 : decode prog_35_method_3_code 7 = .ok (.aload_n 0, 1) := by decide +kernel
theorem d5_8 : decode prog_35_method_3_code 8 = .ok (.getfield 11, 3) := by decide +kernel
theorem d5_11 : decode prog_35_method_3_code 11 = .ok (.lload_n 1, 1) := by decide +kernel
theorem d5_12 : decode prog_35_method_3_code 12 = .ok (.lcmp, 1) := by decide +kernel
theorem d5_13 : decode prog_35_method_3_code 13 = .ok (.ifCond .le 7, 3) := by decide +kernel
theorem d5_20 : decode prog_35_method_3_code 20 = .ok (.iconst 0, 1) := by decide +kernel
theorem ef_5 (m : MethodId) (x0 : Addr) (x1 : Int64) : entryFrame m #[(.ref x0), (.long x1)] 3 = mkF m 0 #[.val (.ref x0), .val (.long x1), .second] [] := by first | (simp [entryFrame, mkF, argsToLocals, Value.category]; done) | rfl
def Q5 (Z : State) (o0 : Addr) (q1 : Int64) (u : Int64) (r : Int32) (h0 : Heap) (n0 : Nat) (v : Option Value) (h : Heap) (L : List Loc) : Prop := v = some (.int (if ((0 : Int32) < r ∨ q1 < u) then (1 : Int32) else 0)) ∧ Fr n0 L ∧ h = h0
set_option maxRecDepth 65536 in
set_option maxHeartbeats 40000000 in
theorem rm5 (l : Launch) (Z : State) (a0 : Array Value) (hw : ∀ d ∈ tables_1, d.before a0 Z = true) (ws : List Jvm.Cond) (o0 : Addr) (q1 : Int64) (u : Int64) (r : Int32) (h0 : Heap) (n0 : Nat) (Z0 : n0 ≤ h0.size) (F_shownUntil_o0 : Fld Z h0 o0 "com/example/sensor_access_indicators/sensoraccessindicators/ShownAccesses" "shownUntil" "J" (.long u)) (F_running_o0 : Fld Z h0 o0 "com/example/sensor_access_indicators/sensoraccessindicators/ShownAccesses" "running" "I" (.int r)) :
    MetFree l (⟨"com/example/sensor_access_indicators/sensoraccessindicators/ShownAccesses", "isShownAt", "(J)Z"⟩ : MethodName) (head1 (Jvm.Cond.code (⟨"com/example/sensor_access_indicators/sensoraccessindicators/ShownAccesses", "isShownAt", "(J)Z"⟩ : MethodName) prog_35_method_3_code 3 (some .boolean) :: ws) ({ frames := 0, cells := 0, slots := 0, locals := 0 } : Room)) (fun a U => a = #[(.ref o0), (.long q1)] ∧ Z.Warmed39 U.vm ∧ U.heap = h0) (fun _ _ _ _ _ => True) (fun _ U o U' => ∃ v L, o = .returned v ∧ Q5 Z o0 q1 u r h0 n0 v U'.heap L ∧ FrameEnd U o U' L ({ frames := 0, cells := 0, slots := 0, locals := 0 } : Room).cells ({ frames := 0, cells := 0, slots := 0, locals := 0 } : Room).slots) := by
  refine MetFree.of_bodySF (plainFor_of_name pn_0) hisR ?_
  intro p e s m args below meth c s₁ Bd hml0 hP hK
  obtain ⟨rfl, hZ, hh⟩ := hP
  have hx := Bd.exec
  have hby := Bd.bytes
  have hml : c.maxLocals = 3 := hml0
  have hown : s.vm.findClass "com/example/sensor_access_indicators/sensoraccessindicators/ShownAccesses" = some m.cls := findClass_of_methodNamed Bd.named
  have hnm := (name_of_methodNamed Bd.named Bd.method).1
  have X0 : Stand p l e ({ frames := 0, cells := 0, slots := 0, locals := 0 } : Room) s m #[(.ref o0), (.long q1)] below meth c s₁ [] 0 0 := Stand.of_body Bd
  have e0 : s₁.heap = h0 := by rw [← hh, Bd.state]; rfl
  have N0 := Fr.nil n0
  have pre0 : ∀ t, Steps p.tables e below (s₁.setTop (mkF m 0 #[.val (.ref o0), .val (.long q1), .second] [])) t → Steps p.tables e below (s₁.setTop (entryFrame m #[(.ref o0), (.long q1)] 3)) t := fun t k => castTop (ef_5 m o0 q1) k
  obtain ⟨T1, X1, e1, st1⟩ := getF X0 hx hZ hown (host := "") (Or.inl (hw _ (List.mem_of_getElem? (i := 27) rfl))) Via.refl e0 F_running_o0 (g := (mkF m 1 #[.val (.ref o0), .val (.long q1), .second] [(.ref o0)])) rfl rfl (hb hby d5_1)
  have pre2 : ∀ t, Steps p.tables e below (T1.setTop (mkF m 4 #[.val (.ref o0), .val (.long q1), .second] [(.int r)])) t → Steps p.tables e below (s₁.setTop (entryFrame m #[(.ref o0), (.long q1)] 3)) t := fun t k => pre0 t (by
    show Steps p.tables e below (s₁.setTop (mkF m 0 #[.val (.ref o0), .val (.long q1), .second] [])) _
    refine XS.aloadN X0.here hx rfl (hb hby d5_0) rfl rfl ?_
    show Steps p.tables e below (s₁.setTop (mkF m 1 #[.val (.ref o0), .val (.long q1), .second] [(.ref o0)])) _
    refine st1 _ ?_
    exact k)
  by_cases hc4_3 : (0 : Int32) < r
  · have pre4 : ∀ t, Steps p.tables e below (T1.setTop (mkF m 21 #[.val (.ref o0), .val (.long q1), .second] [(.int (1 : Int32))])) t → Steps p.tables e below (s₁.setTop (entryFrame m #[(.ref o0), (.long q1)] 3)) t := fun t k => pre2 t (by
      show Steps p.tables e below (T1.setTop (mkF m 4 #[.val (.ref o0), .val (.long q1), .second] [(.int r)])) _
      refine XS.ifYes X1.here hx rfl (pc0 := 4) (pc' := 16) rfl (hb hby d5_4) rfl ((if0 _ _).trans (tlt hc4_3).2.2.1) (by decide) (by decide) ?_
      show Steps p.tables e below (T1.setTop (mkF m 16 #[.val (.ref o0), .val (.long q1), .second] [])) _
      refine XS.iconst X1.here hx rfl (hb hby d5_16) ?_
      show Steps p.tables e below (T1.setTop (mkF m 17 #[.val (.ref o0), .val (.long q1), .second] [(.int (1 : Int32))])) _
      refine XS.goto X1.here hx rfl (pc0 := 17) (pc' := 21) rfl (hb hby d5_17) (by decide) (by decide) ?_
      exact k)
    obtain ⟨fs, hr, hrun, hended, hW, hsame⟩ := X1.leave (v := some (.int (1 : Int32))) (fun h => by rw [Bd.returns] at h; cases h)
    refine ⟨_, _, pre4 _ ?_, hrun, hended, _, _, rfl, ?_, ⟨_, rfl⟩, hW, hsame.mono (by decide) (by decide)⟩
    · exact retN X1 hx (t := .boolean) Bd.returns (by simp) (hb hby d5_21) hr
    · show Q5 Z o0 q1 u r h0 n0 _ T1.heap _
      rw [e1]
      exact ⟨own_t (by simp only [Int32.lt_iff_toInt_lt, Int64.lt_iff_toInt_lt, Int32.reduceToInt] at hc4_3 ⊢; omega), N0, rfl⟩
  · obtain ⟨T5, X5, e5, st5⟩ := getF X1 hx hZ hown (host := "") (Or.inl (hw _ (List.mem_of_getElem? (i := 10) rfl))) Via.refl e1 F_shownUntil_o0 (g := (mkF m 8 #[.val (.ref o0), .val (.long q1), .second] [(.ref o0)])) rfl rfl (hb hby d5_8)
    have pre6 : ∀ t, Steps p.tables e below (T5.setTop (mkF m 13 #[.val (.ref o0), .val (.long q1), .second] [(.int (lcmpW u q1))])) t → Steps p.tables e below (s₁.setTop (entryFrame m #[(.ref o0), (.long q1)] 3)) t := fun t k => pre2 t (by
      show Steps p.tables e below (T1.setTop (mkF m 4 #[.val (.ref o0), .val (.long q1), .second] [(.int r)])) _
      refine XS.ifNo X1.here hx rfl (hb hby d5_4) rfl ((if0 _ _).trans (flt hc4_3).2.2.1) ?_
      show Steps p.tables e below (T1.setTop (mkF m 7 #[.val (.ref o0), .val (.long q1), .second] [])) _
      refine XS.aloadN X1.here hx rfl (hb hby d5_7) rfl rfl ?_
      show Steps p.tables e below (T1.setTop (mkF m 8 #[.val (.ref o0), .val (.long q1), .second] [(.ref o0)])) _
      refine st5 _ ?_
      show Steps p.tables e below (T5.setTop (mkF m 11 #[.val (.ref o0), .val (.long q1), .second] [(.long u)])) _
      refine XS.lloadN X5.here hx rfl (hb hby d5_11) rfl ?_
      show Steps p.tables e below (T5.setTop (mkF m 12 #[.val (.ref o0), .val (.long q1), .second] [(.long q1), (.long u)])) _
      refine XS.lcmp X5.here hx rfl (hb hby d5_12) rfl ?_
      exact k)
    by_cases hc13_7 : q1 < u
    · have pre8 : ∀ t, Steps p.tables e below (T5.setTop (mkF m 21 #[.val (.ref o0), .val (.long q1), .second] [(.int (1 : Int32))])) t → Steps p.tables e below (s₁.setTop (entryFrame m #[(.ref o0), (.long q1)] 3)) t := fun t k => pre6 t (by
        show Steps p.tables e below (T5.setTop (mkF m 13 #[.val (.ref o0), .val (.long q1), .second] [(.int (lcmpW u q1))])) _
        refine XS.ifNo X5.here hx rfl (hb hby d5_13) rfl ((if0 _ _).trans (tlt ((lw_gt _ _).mpr hc13_7)).2.2.2) ?_
        show Steps p.tables e below (T5.setTop (mkF m 16 #[.val (.ref o0), .val (.long q1), .second] [])) _
        refine XS.iconst X5.here hx rfl (hb hby d5_16) ?_
        show Steps p.tables e below (T5.setTop (mkF m 17 #[.val (.ref o0), .val (.long q1), .second] [(.int (1 : Int32))])) _
        refine XS.goto X5.here hx rfl (pc0 := 17) (pc' := 21) rfl (hb hby d5_17) (by decide) (by decide) ?_
        exact k)
      obtain ⟨fs, hr, hrun, hended, hW, hsame⟩ := X5.leave (v := some (.int (1 : Int32))) (fun h => by rw [Bd.returns] at h; cases h)
      refine ⟨_, _, pre8 _ ?_, hrun, hended, _, _, rfl, ?_, ⟨_, rfl⟩, hW, hsame.mono (by decide) (by decide)⟩
      · exact retN X5 hx (t := .boolean) Bd.returns (by simp) (hb hby d5_21) hr
      · show Q5 Z o0 q1 u r h0 n0 _ T5.heap _
        rw [e5]
        exact ⟨own_t (by simp only [Int32.lt_iff_toInt_lt, Int64.lt_iff_toInt_lt, Int32.reduceToInt] at hc4_3 hc13_7 ⊢; omega), N0, rfl⟩
    · have pre9 : ∀ t, Steps p.tables e below (T5.setTop (mkF m 21 #[.val (.ref o0), .val (.long q1), .second] [(.int (0 : Int32))])) t → Steps p.tables e below (s₁.setTop (entryFrame m #[(.ref o0), (.long q1)] 3)) t := fun t k => pre6 t (by
        show Steps p.tables e below (T5.setTop (mkF m 13 #[.val (.ref o0), .val (.long q1), .second] [(.int (lcmpW u q1))])) _
        refine XS.ifYes X5.here hx rfl (pc0 := 13) (pc' := 20) rfl (hb hby d5_13) rfl ((if0 _ _).trans (flt (fun q => hc13_7 ((lw_gt _ _).mp q))).2.2.2) (by decide) (by decide) ?_
        show Steps p.tables e below (T5.setTop (mkF m 20 #[.val (.ref o0), .val (.long q1), .second] [])) _
        refine XS.iconst X5.here hx rfl (hb hby d5_20) ?_
        exact k)
      obtain ⟨fs, hr, hrun, hended, hW, hsame⟩ := X5.leave (v := some (.int (0 : Int32))) (fun h => by rw [Bd.returns] at h; cases h)
      refine ⟨_, _, pre9 _ ?_, hrun, hended, _, _, rfl, ?_, ⟨_, rfl⟩, hW, hsame.mono (by decide) (by decide)⟩
      · exact retN X5 hx (t := .boolean) Bd.returns (by simp) (hb hby d5_21) hr
      · show Q5 Z o0 q1 u r h0 n0 _ T5.heap _
        rw [e5]
        exact ⟨own_f (by simp only [Int32.lt_iff_toInt_lt, Int64.lt_iff_toInt_lt, Int32.reduceToInt] at hc4_3 hc13_7 ⊢; omega), N0, rfl⟩
theorem pn_1 : plainName "com/example/sensor_access_indicators/sensoraccessindicators/ShownAccessesShowPinLaw" = true := by first | (simp [plainName, overriddenIn]; done) | decide +kernel
theorem pd_1 : parseMethodDescriptor "()V" = some ⟨[], none⟩ := by decide +kernel
theorem pd_2 : parseMethodDescriptor "(J)Z" = some ⟨[.long], some .boolean⟩ := by decide +kernel
theorem pd_3 : parseMethodDescriptor "(J)V" = some ⟨[.long], none⟩ := by decide +kernel
theorem ef_0 (m : MethodId) (x0 : Int64) (x1 : Int64) (x2 : Int64) (x3 : Int64) (x4 : Int32) : entryFrame m #[(.long x0), (.long x1), (.long x2), (.long x3), (.int x4)] maxLocals = mkF m 0 #[.val (.long x0), .second, .val (.long x1), .second, .val (.long x2), .second, .val (.long x3), .second, .val (.int x4), .unset, .unset, .unset, .unset, .unset, .unset] [] := by first | (simp [entryFrame, mkF, argsToLocals, Value.category, maxLocals]; done) | rfl
def Q0 (Z : State) (q0 : Int64) (q1 : Int64) (q2 : Int64) (q3 : Int64) (p4 : Int32) (h0 : Heap) (n0 : Nat) (v : Option Value) (h : Heap) (L : List Loc) : Prop := v = some (.int 1) ∧ Fr n0 L
set_option maxRecDepth 65536 in
set_option maxHeartbeats 40000000 in
theorem rm0 (l : Launch) (Z : State) (a0 : Array Value) (hw : ∀ d ∈ tables_1, d.before a0 Z = true) (ws : List Jvm.Cond) (q0 : Int64) (q1 : Int64) (q2 : Int64) (q3 : Int64) (p4 : Int32) (h0 : Heap) (n0 : Nat) (Z0 : n0 ≤ h0.size) :
    MetFree l x (head1 (Jvm.Cond.code x code maxLocals ret :: ws) room_1) (fun a U => a = #[(.long q0), (.long q1), (.long q2), (.long q3), (.int p4)] ∧ Z.Warmed39 U.vm ∧ U.heap = h0) (fun _ _ _ _ _ => True) (fun _ U o U' => ∃ v L, o = .returned v ∧ Q0 Z q0 q1 q2 q3 p4 h0 n0 v U'.heap L ∧ FrameEnd U o U' L room_1.cells room_1.slots) := by
  refine MetFree.of_bodySF (plainFor_of_name pn_1) hisR ?_
  intro p e s m args below meth c s₁ Bd hml0 hP hK
  obtain ⟨rfl, hZ, hh⟩ := hP
  have hx := Bd.exec
  have hby := Bd.bytes
  have hml : c.maxLocals = 15 := hml0
  have hown : s.vm.findClass "com/example/sensor_access_indicators/sensoraccessindicators/ShownAccessesShowPinLaw" = some m.cls := findClass_of_methodNamed Bd.named
  have hnm := (name_of_methodNamed Bd.named Bd.method).1
  have X0 : Stand p l e room_1 s m #[(.long q0), (.long q1), (.long q2), (.long q3), (.int p4)] below meth c s₁ [] 0 0 := Stand.of_body Bd
  have e0 : s₁.heap = h0 := by rw [← hh, Bd.state]; rfl
  have N0 := Fr.nil n0
  have pre0 : ∀ t, Steps p.tables e below (s₁.setTop (mkF m 0 #[.val (.long q0), .second, .val (.long q1), .second, .val (.long q2), .second, .val (.long q3), .second, .val (.int p4), .unset, .unset, .unset, .unset, .unset, .unset] [])) t → Steps p.tables e below (s₁.setTop (entryFrame m #[(.long q0), (.long q1), (.long q2), (.long q3), (.int p4)] maxLocals)) t := fun t k => castTop (ef_0 m q0 q1 q2 q3 p4) k
  obtain ⟨T1, h1, X1, e1, E1, A1, D1, -, st1⟩ := newO X0 hx hZ hown (hw _ (List.mem_of_getElem? (i := 0) rfl)) (hw _ (List.mem_of_getElem? (i := 1) rfl)) (hw _ (List.mem_of_getElem? (i := 2) rfl)) e0 (g := (mkF m 6 #[.val (.long q0), .second, .val (.long q1), .second, .val (.long q2), .second, .val (.long q3), .second, .val (.int p4), .val (.int (p4 &&& (3 : Int32))), .unset, .unset, .unset, .unset, .unset] [])) rfl (hb hby at_6) (by decide) (by decide)
  obtain ⟨b1, g1⟩ : ∃ z, z = h0.size := ⟨_, rfl⟩
  rw [← g1] at A1 D1 st1
  have F_shownUntil_b1 : Fld Z h1 b1 "com/example/sensor_access_indicators/sensoraccessindicators/ShownAccesses" "shownUntil" "J" (.long (0 : Int64)) := D1 (Or.inl (hw _ (List.mem_of_getElem? (i := 11) rfl))) (ty := .long) (by decide)
  have F_running_b1 : Fld Z h1 b1 "com/example/sensor_access_indicators/sensoraccessindicators/ShownAccesses" "running" "I" (.int (0 : Int32)) := D1 (Or.inl (hw _ (List.mem_of_getElem? (i := 28) rfl))) (ty := .int) (by decide)
  have g_b1 : n0 ≤ b1 := Nat.le_trans Z0 (Nat.le_of_eq g1.symm)
  have sz_b1 : h0.size ≤ b1 := Nat.le_trans (Keep.refl h0 []).1 (Nat.le_of_eq g1.symm)
  have KK1 : Keep h0 h1 [] := (Keep.refl h0 []).ext E1
  obtain ⟨_, _, ⟨T2, L2, k2, n2⟩, -, X2, ⟨Lc2, hQ2, l2, y2, z2⟩, st2⟩ := X1.specialBack hx (y := (⟨"com/example/sensor_access_indicators/sensoraccessindicators/ShownAccesses", "<init>", "()V"⟩ : MethodName)) rfl hown (mvT hZ (hw _ (List.mem_of_getElem? (i := 3) rfl))) (mvT hZ (hw _ (List.mem_of_getElem? (i := 4) rfl))) (mvT hZ (hw _ (List.mem_of_getElem? (i := 5) rfl))) (by decide) (backOf (W := 1) (rm1 l Z a0 hw [] b1 (.long (0 : Int64)) (0 : Int32) h1 n0 (Nat.le_trans Z0 E1.1) F_shownUntil_b1 F_running_b1 A1 g_b1) hZ (hw _ (List.mem_of_getElem? (i := 5) rfl)) (hw _ (List.mem_of_getElem? (i := 2) rfl)) (by decide) (by decide)) (g := (mkF m 10 #[.val (.long q0), .second, .val (.long q1), .second, .val (.long q2), .second, .val (.long q3), .second, .val (.int p4), .val (.int (p4 &&& (3 : Int32))), .unset, .unset, .unset, .unset, .unset] [(.ref b1), (.ref b1)])) rfl (by rw [hml]; rfl) (Steps.refl _) (a := b1) (argsL := []) (rest := [(.ref b1)]) (lenOf pd_1 rfl) rfl (by show 2 * 0 + _ ≤ _; exact Nat.le_of_eq rfl) (hb hby at_10) (fun _ _ => ⟨rfl, e1, (by decide : 1 + 0 ≤ _), (by decide : 2 + 0 ≤ _)⟩)
  dsimp only [Pt.U, Pt.locs, Pt.cells, Pt.slots] at X2 l2 y2 z2 st2 hQ2
  subst l2 y2 z2
  obtain ⟨rfl, N2q, K2, P2_0, P2_1, P2_2⟩ := hQ2
  have N2 := Fr.app N0 N2q
  have KK2 : Keep h0 T2.heap [] := KK1.trans K2 (allS (Or.inr sz_b1) all0)
  have pre3 : ∀ t, Steps p.tables e below (T2.setTop (mkF m 18 #[.val (.long q0), .second, .val (.long q1), .second, .val (.long q2), .second, .val (.long q3), .second, .val (.int p4), .val (.int (p4 &&& (3 : Int32))), .val (.ref b1), .unset, .unset, .unset, .unset] [(.int (1 : Int32)), (.int (p4 &&& (3 : Int32)))])) t → Steps p.tables e below (s₁.setTop (entryFrame m #[(.long q0), (.long q1), (.long q2), (.long q3), (.int p4)] maxLocals)) t := fun t k => pre0 t (by
    show Steps p.tables e below (s₁.setTop (mkF m 0 #[.val (.long q0), .second, .val (.long q1), .second, .val (.long q2), .second, .val (.long q3), .second, .val (.int p4), .unset, .unset, .unset, .unset, .unset, .unset] [])) _
    refine XS.iload X0.here hx rfl (hb hby at_0) rfl ?_
    show Steps p.tables e below (s₁.setTop (mkF m 2 #[.val (.long q0), .second, .val (.long q1), .second, .val (.long q2), .second, .val (.long q3), .second, .val (.int p4), .unset, .unset, .unset, .unset, .unset, .unset] [(.int p4)])) _
    refine XS.iconst X0.here hx rfl (hb hby at_2) ?_
    show Steps p.tables e below (s₁.setTop (mkF m 3 #[.val (.long q0), .second, .val (.long q1), .second, .val (.long q2), .second, .val (.long q3), .second, .val (.int p4), .unset, .unset, .unset, .unset, .unset, .unset] [(.int (3 : Int32)), (.int p4)])) _
    refine XS.iand X0.here hx rfl (hb hby at_3) rfl ?_
    show Steps p.tables e below (s₁.setTop (mkF m 4 #[.val (.long q0), .second, .val (.long q1), .second, .val (.long q2), .second, .val (.long q3), .second, .val (.int p4), .unset, .unset, .unset, .unset, .unset, .unset] [(.int (p4 &&& (3 : Int32)))])) _
    refine XS.istore X0.here hx rfl (hb hby at_4) rfl (l' := #[.val (.long q0), .second, .val (.long q1), .second, .val (.long q2), .second, .val (.long q3), .second, .val (.int p4), .val (.int (p4 &&& (3 : Int32))), .unset, .unset, .unset, .unset, .unset]) rfl ?_
    show Steps p.tables e below (s₁.setTop (mkF m 6 #[.val (.long q0), .second, .val (.long q1), .second, .val (.long q2), .second, .val (.long q3), .second, .val (.int p4), .val (.int (p4 &&& (3 : Int32))), .unset, .unset, .unset, .unset, .unset] [])) _
    refine st1 _ ?_
    show Steps p.tables e below (T1.setTop (mkF m 9 #[.val (.long q0), .second, .val (.long q1), .second, .val (.long q2), .second, .val (.long q3), .second, .val (.int p4), .val (.int (p4 &&& (3 : Int32))), .unset, .unset, .unset, .unset, .unset] [(.ref b1)])) _
    refine XS.dup X1.here hx rfl (hb hby at_9) rfl rfl ?_
    show Steps p.tables e below (T1.setTop (mkF m 10 #[.val (.long q0), .second, .val (.long q1), .second, .val (.long q2), .second, .val (.long q3), .second, .val (.int p4), .val (.int (p4 &&& (3 : Int32))), .unset, .unset, .unset, .unset, .unset] [(.ref b1), (.ref b1)])) _
    refine st2.trans ?_
    show Steps p.tables e below (T2.setTop (mkF m 13 #[.val (.long q0), .second, .val (.long q1), .second, .val (.long q2), .second, .val (.long q3), .second, .val (.int p4), .val (.int (p4 &&& (3 : Int32))), .unset, .unset, .unset, .unset, .unset] [(.ref b1)])) _
    refine XS.astore X2.here hx rfl (hb hby at_13) rfl rfl (l' := #[.val (.long q0), .second, .val (.long q1), .second, .val (.long q2), .second, .val (.long q3), .second, .val (.int p4), .val (.int (p4 &&& (3 : Int32))), .val (.ref b1), .unset, .unset, .unset, .unset]) rfl ?_
    show Steps p.tables e below (T2.setTop (mkF m 15 #[.val (.long q0), .second, .val (.long q1), .second, .val (.long q2), .second, .val (.long q3), .second, .val (.int p4), .val (.int (p4 &&& (3 : Int32))), .val (.ref b1), .unset, .unset, .unset, .unset] [])) _
    refine XS.iload X2.here hx rfl (hb hby at_15) rfl ?_
    show Steps p.tables e below (T2.setTop (mkF m 17 #[.val (.long q0), .second, .val (.long q1), .second, .val (.long q2), .second, .val (.long q3), .second, .val (.int p4), .val (.int (p4 &&& (3 : Int32))), .val (.ref b1), .unset, .unset, .unset, .unset] [(.int (p4 &&& (3 : Int32)))])) _
    refine XS.iconst X2.here hx rfl (hb hby at_17) ?_
    exact k)
  by_cases hc18_4 : (p4 &&& (3 : Int32)) < (1 : Int32)
  · have pre5 : ∀ t, Steps p.tables e below (T2.setTop (mkF m 30 #[.val (.long q0), .second, .val (.long q1), .second, .val (.long q2), .second, .val (.long q3), .second, .val (.int p4), .val (.int (p4 &&& (3 : Int32))), .val (.ref b1), .unset, .unset, .unset, .unset] [(.int (2 : Int32)), (.int (p4 &&& (3 : Int32)))])) t → Steps p.tables e below (s₁.setTop (entryFrame m #[(.long q0), (.long q1), (.long q2), (.long q3), (.int p4)] maxLocals)) t := fun t k => pre3 t (by
      show Steps p.tables e below (T2.setTop (mkF m 18 #[.val (.long q0), .second, .val (.long q1), .second, .val (.long q2), .second, .val (.long q3), .second, .val (.int p4), .val (.int (p4 &&& (3 : Int32))), .val (.ref b1), .unset, .unset, .unset, .unset] [(.int (1 : Int32)), (.int (p4 &&& (3 : Int32)))])) _
      refine XS.icmpYes X2.here hx rfl (pc0 := 18) (pc' := 27) rfl (hb hby at_18) rfl (tlt hc18_4).1 (by decide) (by decide) ?_
      show Steps p.tables e below (T2.setTop (mkF m 27 #[.val (.long q0), .second, .val (.long q1), .second, .val (.long q2), .second, .val (.long q3), .second, .val (.int p4), .val (.int (p4 &&& (3 : Int32))), .val (.ref b1), .unset, .unset, .unset, .unset] [])) _
      refine XS.iload X2.here hx rfl (hb hby at_27) rfl ?_
      show Steps p.tables e below (T2.setTop (mkF m 29 #[.val (.long q0), .second, .val (.long q1), .second, .val (.long q2), .second, .val (.long q3), .second, .val (.int p4), .val (.int (p4 &&& (3 : Int32))), .val (.ref b1), .unset, .unset, .unset, .unset] [(.int (p4 &&& (3 : Int32)))])) _
      refine XS.iconst X2.here hx rfl (hb hby at_29) ?_
      exact k)
    by_cases hc30_6 : (p4 &&& (3 : Int32)) < (2 : Int32)
    · have pre7 : ∀ t, Steps p.tables e below (T2.setTop (mkF m 42 #[.val (.long q0), .second, .val (.long q1), .second, .val (.long q2), .second, .val (.long q3), .second, .val (.int p4), .val (.int (p4 &&& (3 : Int32))), .val (.ref b1), .unset, .unset, .unset, .unset] [(.int (3 : Int32)), (.int (p4 &&& (3 : Int32)))])) t → Steps p.tables e below (s₁.setTop (entryFrame m #[(.long q0), (.long q1), (.long q2), (.long q3), (.int p4)] maxLocals)) t := fun t k => pre5 t (by
        show Steps p.tables e below (T2.setTop (mkF m 30 #[.val (.long q0), .second, .val (.long q1), .second, .val (.long q2), .second, .val (.long q3), .second, .val (.int p4), .val (.int (p4 &&& (3 : Int32))), .val (.ref b1), .unset, .unset, .unset, .unset] [(.int (2 : Int32)), (.int (p4 &&& (3 : Int32)))])) _
        refine XS.icmpYes X2.here hx rfl (pc0 := 30) (pc' := 39) rfl (hb hby at_30) rfl (tlt hc30_6).1 (by decide) (by decide) ?_
        show Steps p.tables e below (T2.setTop (mkF m 39 #[.val (.long q0), .second, .val (.long q1), .second, .val (.long q2), .second, .val (.long q3), .second, .val (.int p4), .val (.int (p4 &&& (3 : Int32))), .val (.ref b1), .unset, .unset, .unset, .unset] [])) _
        refine XS.iload X2.here hx rfl (hb hby at_39) rfl ?_
        show Steps p.tables e below (T2.setTop (mkF m 41 #[.val (.long q0), .second, .val (.long q1), .second, .val (.long q2), .second, .val (.long q3), .second, .val (.int p4), .val (.int (p4 &&& (3 : Int32))), .val (.ref b1), .unset, .unset, .unset, .unset] [(.int (p4 &&& (3 : Int32)))])) _
        refine XS.iconst X2.here hx rfl (hb hby at_41) ?_
        exact k)
      by_cases hc42_8 : (p4 &&& (3 : Int32)) < (3 : Int32)
      · have pre9 : ∀ t, Steps p.tables e below (T2.setTop (mkF m 57 #[.val (.long q0), .second, .val (.long q1), .second, .val (.long q2), .second, .val (.long q3), .second, .val (.int p4), .val (.int (p4 &&& (3 : Int32))), .val (.ref b1), .val (.long (-9223372036854775808 : Int64)), .second, .unset, .unset] [])) t → Steps p.tables e below (s₁.setTop (entryFrame m #[(.long q0), (.long q1), (.long q2), (.long q3), (.int p4)] maxLocals)) t := fun t k => pre7 t (by
          show Steps p.tables e below (T2.setTop (mkF m 42 #[.val (.long q0), .second, .val (.long q1), .second, .val (.long q2), .second, .val (.long q3), .second, .val (.int p4), .val (.int (p4 &&& (3 : Int32))), .val (.ref b1), .unset, .unset, .unset, .unset] [(.int (3 : Int32)), (.int (p4 &&& (3 : Int32)))])) _
          refine XS.icmpYes X2.here hx rfl (pc0 := 42) (pc' := 52) rfl (hb hby at_42) rfl (tlt hc42_8).1 (by decide) (by decide) ?_
          show Steps p.tables e below (T2.setTop (mkF m 52 #[.val (.long q0), .second, .val (.long q1), .second, .val (.long q2), .second, .val (.long q3), .second, .val (.int p4), .val (.int (p4 &&& (3 : Int32))), .val (.ref b1), .unset, .unset, .unset, .unset] [])) _
          refine X2.ldc2Long hx hown (mvT hZ (hw _ (List.mem_of_getElem? (i := 21) rfl))) (g := (mkF m 52 #[.val (.long q0), .second, .val (.long q1), .second, .val (.long q2), .second, .val (.long q3), .second, .val (.int p4), .val (.int (p4 &&& (3 : Int32))), .val (.ref b1), .unset, .unset, .unset, .unset] [])) rfl (hb hby at_52) _ ?_
          show Steps p.tables e below (T2.setTop (mkF m 55 #[.val (.long q0), .second, .val (.long q1), .second, .val (.long q2), .second, .val (.long q3), .second, .val (.int p4), .val (.int (p4 &&& (3 : Int32))), .val (.ref b1), .unset, .unset, .unset, .unset] [(.long (-9223372036854775808 : Int64))])) _
          refine XS.lstore X2.here hx rfl (hb hby at_55) rfl (l' := #[.val (.long q0), .second, .val (.long q1), .second, .val (.long q2), .second, .val (.long q3), .second, .val (.int p4), .val (.int (p4 &&& (3 : Int32))), .val (.ref b1), .val (.long (-9223372036854775808 : Int64)), .second, .unset, .unset]) rfl ?_
          exact k)
        obtain ⟨v10_0, hv10, prem10⟩ : ∃ (v10_0 : Int64), v10_0 = (-9223372036854775808 : Int64) ∧ ∀ t, Steps p.tables e below (T2.setTop (mkF m 107 #[.val (.long q0), .second, .val (.long q1), .second, .val (.long q2), .second, .val (.long q3), .second, .val (.int p4), .val (.int (p4 &&& (3 : Int32))), .val (.ref b1), .val (.long v10_0), .second, .unset, .unset] [])) t → Steps p.tables e below (s₁.setTop (entryFrame m #[(.long q0), (.long q1), (.long q2), (.long q3), (.int p4)] maxLocals)) t := by
          have pre11 : ∀ t, Steps p.tables e below (T2.setTop (mkF m 107 #[.val (.long q0), .second, .val (.long q1), .second, .val (.long q2), .second, .val (.long q3), .second, .val (.int p4), .val (.int (p4 &&& (3 : Int32))), .val (.ref b1), .val (.long (-9223372036854775808 : Int64)), .second, .unset, .unset] [])) t → Steps p.tables e below (s₁.setTop (entryFrame m #[(.long q0), (.long q1), (.long q2), (.long q3), (.int p4)] maxLocals)) t := fun t k => pre9 t (by
            show Steps p.tables e below (T2.setTop (mkF m 57 #[.val (.long q0), .second, .val (.long q1), .second, .val (.long q2), .second, .val (.long q3), .second, .val (.int p4), .val (.int (p4 &&& (3 : Int32))), .val (.ref b1), .val (.long (-9223372036854775808 : Int64)), .second, .unset, .unset] [])) _
            refine XS.iload X2.here hx rfl (hb hby at_57) rfl ?_
            show Steps p.tables e below (T2.setTop (mkF m 59 #[.val (.long q0), .second, .val (.long q1), .second, .val (.long q2), .second, .val (.long q3), .second, .val (.int p4), .val (.int (p4 &&& (3 : Int32))), .val (.ref b1), .val (.long (-9223372036854775808 : Int64)), .second, .unset, .unset] [(.int (p4 &&& (3 : Int32)))])) _
            refine XS.iconst X2.here hx rfl (hb hby at_59) ?_
            show Steps p.tables e below (T2.setTop (mkF m 60 #[.val (.long q0), .second, .val (.long q1), .second, .val (.long q2), .second, .val (.long q3), .second, .val (.int p4), .val (.int (p4 &&& (3 : Int32))), .val (.ref b1), .val (.long (-9223372036854775808 : Int64)), .second, .unset, .unset] [(.int (1 : Int32)), (.int (p4 &&& (3 : Int32)))])) _
            refine XS.icmpYes X2.here hx rfl (pc0 := 60) (pc' := 73) rfl (hb hby at_60) rfl (tlt hc18_4).1 (by decide) (by decide) ?_
            show Steps p.tables e below (T2.setTop (mkF m 73 #[.val (.long q0), .second, .val (.long q1), .second, .val (.long q2), .second, .val (.long q3), .second, .val (.int p4), .val (.int (p4 &&& (3 : Int32))), .val (.ref b1), .val (.long (-9223372036854775808 : Int64)), .second, .unset, .unset] [])) _
            refine XS.iload X2.here hx rfl (hb hby at_73) rfl ?_
            show Steps p.tables e below (T2.setTop (mkF m 75 #[.val (.long q0), .second, .val (.long q1), .second, .val (.long q2), .second, .val (.long q3), .second, .val (.int p4), .val (.int (p4 &&& (3 : Int32))), .val (.ref b1), .val (.long (-9223372036854775808 : Int64)), .second, .unset, .unset] [(.int (p4 &&& (3 : Int32)))])) _
            refine XS.iconst X2.here hx rfl (hb hby at_75) ?_
            show Steps p.tables e below (T2.setTop (mkF m 76 #[.val (.long q0), .second, .val (.long q1), .second, .val (.long q2), .second, .val (.long q3), .second, .val (.int p4), .val (.int (p4 &&& (3 : Int32))), .val (.ref b1), .val (.long (-9223372036854775808 : Int64)), .second, .unset, .unset] [(.int (2 : Int32)), (.int (p4 &&& (3 : Int32)))])) _
            refine XS.icmpYes X2.here hx rfl (pc0 := 76) (pc' := 89) rfl (hb hby at_76) rfl (tlt hc30_6).1 (by decide) (by decide) ?_
            show Steps p.tables e below (T2.setTop (mkF m 89 #[.val (.long q0), .second, .val (.long q1), .second, .val (.long q2), .second, .val (.long q3), .second, .val (.int p4), .val (.int (p4 &&& (3 : Int32))), .val (.ref b1), .val (.long (-9223372036854775808 : Int64)), .second, .unset, .unset] [])) _
            refine XS.iload X2.here hx rfl (hb hby at_89) rfl ?_
            show Steps p.tables e below (T2.setTop (mkF m 91 #[.val (.long q0), .second, .val (.long q1), .second, .val (.long q2), .second, .val (.long q3), .second, .val (.int p4), .val (.int (p4 &&& (3 : Int32))), .val (.ref b1), .val (.long (-9223372036854775808 : Int64)), .second, .unset, .unset] [(.int (p4 &&& (3 : Int32)))])) _
            refine XS.iconst X2.here hx rfl (hb hby at_91) ?_
            show Steps p.tables e below (T2.setTop (mkF m 92 #[.val (.long q0), .second, .val (.long q1), .second, .val (.long q2), .second, .val (.long q3), .second, .val (.int p4), .val (.int (p4 &&& (3 : Int32))), .val (.ref b1), .val (.long (-9223372036854775808 : Int64)), .second, .unset, .unset] [(.int (3 : Int32)), (.int (p4 &&& (3 : Int32)))])) _
            refine XS.icmpYes X2.here hx rfl (pc0 := 92) (pc' := 107) rfl (hb hby at_92) rfl (tlt hc42_8).1 (by decide) (by decide) ?_
            exact k)
          exact ⟨(-9223372036854775808 : Int64), rfl, pre11⟩
        subst hv10
        obtain ⟨v12_0, hv12, prem12⟩ : ∃ (v12_0 : Int32), v12_0 = (if (q3 < (-9223372036854775808 : Int64)) then (1 : Int32) else 0) ∧ ∀ t, Steps p.tables e below (T2.setTop (mkF m 152 #[.val (.long q0), .second, .val (.long q1), .second, .val (.long q2), .second, .val (.long q3), .second, .val (.int p4), .val (.int (p4 &&& (3 : Int32))), .val (.ref b1), .val (.long (-9223372036854775808 : Int64)), .second, .unset, .unset] [(.int v12_0)])) t → Steps p.tables e below (s₁.setTop (entryFrame m #[(.long q0), (.long q1), (.long q2), (.long q3), (.int p4)] maxLocals)) t := by
          have pre13 : ∀ t, Steps p.tables e below (T2.setTop (mkF m 152 #[.val (.long q0), .second, .val (.long q1), .second, .val (.long q2), .second, .val (.long q3), .second, .val (.int p4), .val (.int (p4 &&& (3 : Int32))), .val (.ref b1), .val (.long (-9223372036854775808 : Int64)), .second, .unset, .unset] [(.int (0 : Int32))])) t → Steps p.tables e below (s₁.setTop (entryFrame m #[(.long q0), (.long q1), (.long q2), (.long q3), (.int p4)] maxLocals)) t := fun t k => prem10 t (by
            show Steps p.tables e below (T2.setTop (mkF m 107 #[.val (.long q0), .second, .val (.long q1), .second, .val (.long q2), .second, .val (.long q3), .second, .val (.int p4), .val (.int (p4 &&& (3 : Int32))), .val (.ref b1), .val (.long (-9223372036854775808 : Int64)), .second, .unset, .unset] [])) _
            refine XS.iload X2.here hx rfl (hb hby at_107) rfl ?_
            show Steps p.tables e below (T2.setTop (mkF m 109 #[.val (.long q0), .second, .val (.long q1), .second, .val (.long q2), .second, .val (.long q3), .second, .val (.int p4), .val (.int (p4 &&& (3 : Int32))), .val (.ref b1), .val (.long (-9223372036854775808 : Int64)), .second, .unset, .unset] [(.int (p4 &&& (3 : Int32)))])) _
            refine XS.iconst X2.here hx rfl (hb hby at_109) ?_
            show Steps p.tables e below (T2.setTop (mkF m 110 #[.val (.long q0), .second, .val (.long q1), .second, .val (.long q2), .second, .val (.long q3), .second, .val (.int p4), .val (.int (p4 &&& (3 : Int32))), .val (.ref b1), .val (.long (-9223372036854775808 : Int64)), .second, .unset, .unset] [(.int (1 : Int32)), (.int (p4 &&& (3 : Int32)))])) _
            refine XS.icmpYes X2.here hx rfl (pc0 := 110) (pc' := 120) rfl (hb hby at_110) rfl (tlt hc18_4).1 (by decide) (by decide) ?_
            show Steps p.tables e below (T2.setTop (mkF m 120 #[.val (.long q0), .second, .val (.long q1), .second, .val (.long q2), .second, .val (.long q3), .second, .val (.int p4), .val (.int (p4 &&& (3 : Int32))), .val (.ref b1), .val (.long (-9223372036854775808 : Int64)), .second, .unset, .unset] [])) _
            refine XS.iload X2.here hx rfl (hb hby at_120) rfl ?_
            show Steps p.tables e below (T2.setTop (mkF m 122 #[.val (.long q0), .second, .val (.long q1), .second, .val (.long q2), .second, .val (.long q3), .second, .val (.int p4), .val (.int (p4 &&& (3 : Int32))), .val (.ref b1), .val (.long (-9223372036854775808 : Int64)), .second, .unset, .unset] [(.int (p4 &&& (3 : Int32)))])) _
            refine XS.iconst X2.here hx rfl (hb hby at_122) ?_
            show Steps p.tables e below (T2.setTop (mkF m 123 #[.val (.long q0), .second, .val (.long q1), .second, .val (.long q2), .second, .val (.long q3), .second, .val (.int p4), .val (.int (p4 &&& (3 : Int32))), .val (.ref b1), .val (.long (-9223372036854775808 : Int64)), .second, .unset, .unset] [(.int (2 : Int32)), (.int (p4 &&& (3 : Int32)))])) _
            refine XS.icmpYes X2.here hx rfl (pc0 := 123) (pc' := 133) rfl (hb hby at_123) rfl (tlt hc30_6).1 (by decide) (by decide) ?_
            show Steps p.tables e below (T2.setTop (mkF m 133 #[.val (.long q0), .second, .val (.long q1), .second, .val (.long q2), .second, .val (.long q3), .second, .val (.int p4), .val (.int (p4 &&& (3 : Int32))), .val (.ref b1), .val (.long (-9223372036854775808 : Int64)), .second, .unset, .unset] [])) _
            refine XS.iload X2.here hx rfl (hb hby at_133) rfl ?_
            show Steps p.tables e below (T2.setTop (mkF m 135 #[.val (.long q0), .second, .val (.long q1), .second, .val (.long q2), .second, .val (.long q3), .second, .val (.int p4), .val (.int (p4 &&& (3 : Int32))), .val (.ref b1), .val (.long (-9223372036854775808 : Int64)), .second, .unset, .unset] [(.int (p4 &&& (3 : Int32)))])) _
            refine XS.iconst X2.here hx rfl (hb hby at_135) ?_
            show Steps p.tables e below (T2.setTop (mkF m 136 #[.val (.long q0), .second, .val (.long q1), .second, .val (.long q2), .second, .val (.long q3), .second, .val (.int p4), .val (.int (p4 &&& (3 : Int32))), .val (.ref b1), .val (.long (-9223372036854775808 : Int64)), .second, .unset, .unset] [(.int (3 : Int32)), (.int (p4 &&& (3 : Int32)))])) _
            refine XS.icmpYes X2.here hx rfl (pc0 := 136) (pc' := 151) rfl (hb hby at_136) rfl (tlt hc42_8).1 (by decide) (by decide) ?_
            show Steps p.tables e below (T2.setTop (mkF m 151 #[.val (.long q0), .second, .val (.long q1), .second, .val (.long q2), .second, .val (.long q3), .second, .val (.int p4), .val (.int (p4 &&& (3 : Int32))), .val (.ref b1), .val (.long (-9223372036854775808 : Int64)), .second, .unset, .unset] [])) _
            refine XS.iconst X2.here hx rfl (hb hby at_151) ?_
            exact k)
          exact ⟨(0 : Int32), (own_n (by simp only [Int64.lt_iff_toInt_lt, Int64.reduceToInt]; have r := rng64 q3; omega)), pre13⟩
        subst hv12
        obtain ⟨cq14, kq14, q14a, q14b, q14c⟩ := isOf hZ rfl P2_0
        obtain ⟨_, _, ⟨T14, L14, k14, n14⟩, -, X14, ⟨Lc14, hQ14, l14, y14, z14⟩, st14⟩ := X2.virtualBack hx (y := (⟨"com/example/sensor_access_indicators/sensoraccessindicators/ShownAccesses", "isShownAt", "(J)Z"⟩ : MethodName)) (z := (⟨"com/example/sensor_access_indicators/sensoraccessindicators/ShownAccesses", "isShownAt", "(J)Z"⟩ : MethodName)) hown (mvT hZ (hw _ (List.mem_of_getElem? (i := 22) rfl))) (mvT hZ (hw _ (List.mem_of_getElem? (i := 23) rfl))) (notFace_of_selects (args := #[]) (mvT hZ (hw _ (List.mem_of_getElem? (i := 25) rfl)))) (mvT hZ (hw _ (List.mem_of_getElem? (i := 25) rfl))) (mvT hZ (hw _ (List.mem_of_getElem? (i := 24) rfl))) (by decide) (backOf (W := 0) (rm5 l Z a0 hw [] b1 q3 (-9223372036854775808 : Int64) (0 : Int32) T2.heap n0 (Nat.le_trans (Nat.le_trans Z0 E1.1) K2.1) P2_1 P2_2) hZ (hw _ (List.mem_of_getElem? (i := 26) rfl)) (hw _ (List.mem_of_getElem? (i := 2) rfl)) (by decide) (by decide)) q14a q14c (g := (mkF m 158 #[.val (.long q0), .second, .val (.long q1), .second, .val (.long q2), .second, .val (.long q3), .second, .val (.int p4), .val (.int (p4 &&& (3 : Int32))), .val (.ref b1), .val (.long (-9223372036854775808 : Int64)), .second, .val (.int (if (q3 < (-9223372036854775808 : Int64)) then (1 : Int32) else 0)), .unset] [(.long q3), (.ref b1)])) rfl (by rw [hml]; rfl) (Steps.refl _) (argsL := [(.long q3)]) (rest := []) (lenOf pd_2 rfl) rfl (by show 2 * 0 + _ ≤ _; exact Nat.le_of_eq rfl) (hb hby at_158) (fun _ _ => ⟨rfl, rfl, (by decide : 1 + 0 ≤ _), (by decide : 2 + 0 ≤ _)⟩)
        dsimp only [Pt.U, Pt.locs, Pt.cells, Pt.slots] at X14 l14 y14 z14 st14 hQ14
        subst l14 y14 z14
        obtain ⟨rfl, N14q, hh14⟩ := hQ14
        have N14 := Fr.app N2 N14q
        obtain ⟨T15, X15, e15, st15⟩ := getF X14 hx hZ hown (host := "") (Or.inl (hw _ (List.mem_of_getElem? (i := 29) rfl))) Via.refl hh14 P2_1 (g := (mkF m 165 #[.val (.long q0), .second, .val (.long q1), .second, .val (.long q2), .second, .val (.long q3), .second, .val (.int p4), .val (.int (p4 &&& (3 : Int32))), .val (.ref b1), .val (.long (-9223372036854775808 : Int64)), .second, .val (.int (if (q3 < (-9223372036854775808 : Int64)) then (1 : Int32) else 0)), .val (.int (if ((0 : Int32) < (0 : Int32) ∨ q3 < (-9223372036854775808 : Int64)) then (1 : Int32) else 0))] [(.ref b1)])) rfl rfl (hb hby at_165)
        obtain ⟨T16, X16, e16, st16⟩ := getF X15 hx hZ hown (host := "") (Or.inl (hw _ (List.mem_of_getElem? (i := 30) rfl))) Via.refl e15 P2_2 (g := (mkF m 176 #[.val (.long q0), .second, .val (.long q1), .second, .val (.long q2), .second, .val (.long q3), .second, .val (.int p4), .val (.int (p4 &&& (3 : Int32))), .val (.ref b1), .val (.long (-9223372036854775808 : Int64)), .second, .val (.int (if (q3 < (-9223372036854775808 : Int64)) then (1 : Int32) else 0)), .val (.int (if ((0 : Int32) < (0 : Int32) ∨ q3 < (-9223372036854775808 : Int64)) then (1 : Int32) else 0))] [(.ref b1)])) rfl rfl (hb hby at_176)
        have pre17 : ∀ t, Steps p.tables e below (T16.setTop (mkF m 194 #[.val (.long q0), .second, .val (.long q1), .second, .val (.long q2), .second, .val (.long q3), .second, .val (.int p4), .val (.int (p4 &&& (3 : Int32))), .val (.ref b1), .val (.long (-9223372036854775808 : Int64)), .second, .val (.int (if (q3 < (-9223372036854775808 : Int64)) then (1 : Int32) else 0)), .val (.int (if ((0 : Int32) < (0 : Int32) ∨ q3 < (-9223372036854775808 : Int64)) then (1 : Int32) else 0))] [(.int (1 : Int32))])) t → Steps p.tables e below (s₁.setTop (entryFrame m #[(.long q0), (.long q1), (.long q2), (.long q3), (.int p4)] maxLocals)) t := fun t k => prem12 t (by
          show Steps p.tables e below (T2.setTop (mkF m 152 #[.val (.long q0), .second, .val (.long q1), .second, .val (.long q2), .second, .val (.long q3), .second, .val (.int p4), .val (.int (p4 &&& (3 : Int32))), .val (.ref b1), .val (.long (-9223372036854775808 : Int64)), .second, .unset, .unset] [(.int (if (q3 < (-9223372036854775808 : Int64)) then (1 : Int32) else 0))])) _
          refine XS.istore X2.here hx rfl (hb hby at_152) rfl (l' := #[.val (.long q0), .second, .val (.long q1), .second, .val (.long q2), .second, .val (.long q3), .second, .val (.int p4), .val (.int (p4 &&& (3 : Int32))), .val (.ref b1), .val (.long (-9223372036854775808 : Int64)), .second, .val (.int (if (q3 < (-9223372036854775808 : Int64)) then (1 : Int32) else 0)), .unset]) rfl ?_
          show Steps p.tables e below (T2.setTop (mkF m 154 #[.val (.long q0), .second, .val (.long q1), .second, .val (.long q2), .second, .val (.long q3), .second, .val (.int p4), .val (.int (p4 &&& (3 : Int32))), .val (.ref b1), .val (.long (-9223372036854775808 : Int64)), .second, .val (.int (if (q3 < (-9223372036854775808 : Int64)) then (1 : Int32) else 0)), .unset] [])) _
          refine XS.aload X2.here hx rfl (hb hby at_154) rfl rfl ?_
          show Steps p.tables e below (T2.setTop (mkF m 156 #[.val (.long q0), .second, .val (.long q1), .second, .val (.long q2), .second, .val (.long q3), .second, .val (.int p4), .val (.int (p4 &&& (3 : Int32))), .val (.ref b1), .val (.long (-9223372036854775808 : Int64)), .second, .val (.int (if (q3 < (-9223372036854775808 : Int64)) then (1 : Int32) else 0)), .unset] [(.ref b1)])) _
          refine XS.lload X2.here hx rfl (hb hby at_156) rfl ?_
          show Steps p.tables e below (T2.setTop (mkF m 158 #[.val (.long q0), .second, .val (.long q1), .second, .val (.long q2), .second, .val (.long q3), .second, .val (.int p4), .val (.int (p4 &&& (3 : Int32))), .val (.ref b1), .val (.long (-9223372036854775808 : Int64)), .second, .val (.int (if (q3 < (-9223372036854775808 : Int64)) then (1 : Int32) else 0)), .unset] [(.long q3), (.ref b1)])) _
          refine st14.trans ?_
          show Steps p.tables e below (T14.setTop (mkF m 161 #[.val (.long q0), .second, .val (.long q1), .second, .val (.long q2), .second, .val (.long q3), .second, .val (.int p4), .val (.int (p4 &&& (3 : Int32))), .val (.ref b1), .val (.long (-9223372036854775808 : Int64)), .second, .val (.int (if (q3 < (-9223372036854775808 : Int64)) then (1 : Int32) else 0)), .unset] [(.int (if ((0 : Int32) < (0 : Int32) ∨ q3 < (-9223372036854775808 : Int64)) then (1 : Int32) else 0))])) _
          refine XS.istore X14.here hx rfl (hb hby at_161) rfl (l' := #[.val (.long q0), .second, .val (.long q1), .second, .val (.long q2), .second, .val (.long q3), .second, .val (.int p4), .val (.int (p4 &&& (3 : Int32))), .val (.ref b1), .val (.long (-9223372036854775808 : Int64)), .second, .val (.int (if (q3 < (-9223372036854775808 : Int64)) then (1 : Int32) else 0)), .val (.int (if ((0 : Int32) < (0 : Int32) ∨ q3 < (-9223372036854775808 : Int64)) then (1 : Int32) else 0))]) rfl ?_
          show Steps p.tables e below (T14.setTop (mkF m 163 #[.val (.long q0), .second, .val (.long q1), .second, .val (.long q2), .second, .val (.long q3), .second, .val (.int p4), .val (.int (p4 &&& (3 : Int32))), .val (.ref b1), .val (.long (-9223372036854775808 : Int64)), .second, .val (.int (if (q3 < (-9223372036854775808 : Int64)) then (1 : Int32) else 0)), .val (.int (if ((0 : Int32) < (0 : Int32) ∨ q3 < (-9223372036854775808 : Int64)) then (1 : Int32) else 0))] [])) _
          refine XS.aload X14.here hx rfl (hb hby at_163) rfl rfl ?_
          show Steps p.tables e below (T14.setTop (mkF m 165 #[.val (.long q0), .second, .val (.long q1), .second, .val (.long q2), .second, .val (.long q3), .second, .val (.int p4), .val (.int (p4 &&& (3 : Int32))), .val (.ref b1), .val (.long (-9223372036854775808 : Int64)), .second, .val (.int (if (q3 < (-9223372036854775808 : Int64)) then (1 : Int32) else 0)), .val (.int (if ((0 : Int32) < (0 : Int32) ∨ q3 < (-9223372036854775808 : Int64)) then (1 : Int32) else 0))] [(.ref b1)])) _
          refine st15 _ ?_
          show Steps p.tables e below (T15.setTop (mkF m 168 #[.val (.long q0), .second, .val (.long q1), .second, .val (.long q2), .second, .val (.long q3), .second, .val (.int p4), .val (.int (p4 &&& (3 : Int32))), .val (.ref b1), .val (.long (-9223372036854775808 : Int64)), .second, .val (.int (if (q3 < (-9223372036854775808 : Int64)) then (1 : Int32) else 0)), .val (.int (if ((0 : Int32) < (0 : Int32) ∨ q3 < (-9223372036854775808 : Int64)) then (1 : Int32) else 0))] [(.long (-9223372036854775808 : Int64))])) _
          refine XS.lload X15.here hx rfl (hb hby at_168) rfl ?_
          show Steps p.tables e below (T15.setTop (mkF m 170 #[.val (.long q0), .second, .val (.long q1), .second, .val (.long q2), .second, .val (.long q3), .second, .val (.int p4), .val (.int (p4 &&& (3 : Int32))), .val (.ref b1), .val (.long (-9223372036854775808 : Int64)), .second, .val (.int (if (q3 < (-9223372036854775808 : Int64)) then (1 : Int32) else 0)), .val (.int (if ((0 : Int32) < (0 : Int32) ∨ q3 < (-9223372036854775808 : Int64)) then (1 : Int32) else 0))] [(.long (-9223372036854775808 : Int64)), (.long (-9223372036854775808 : Int64))])) _
          refine XS.lcmp X15.here hx rfl (hb hby at_170) rfl ?_
          show Steps p.tables e below (T15.setTop (mkF m 171 #[.val (.long q0), .second, .val (.long q1), .second, .val (.long q2), .second, .val (.long q3), .second, .val (.int p4), .val (.int (p4 &&& (3 : Int32))), .val (.ref b1), .val (.long (-9223372036854775808 : Int64)), .second, .val (.int (if (q3 < (-9223372036854775808 : Int64)) then (1 : Int32) else 0)), .val (.int (if ((0 : Int32) < (0 : Int32) ∨ q3 < (-9223372036854775808 : Int64)) then (1 : Int32) else 0))] [(.int (lcmpW (-9223372036854775808 : Int64) (-9223372036854775808 : Int64)))])) _
          refine XS.ifNo X15.here hx rfl (hb hby at_171) rfl ((if0 _ _).trans (teq ((lw_eq _ _).mpr (by decide : (-9223372036854775808 : Int64) = (-9223372036854775808 : Int64)))).2) ?_
          show Steps p.tables e below (T15.setTop (mkF m 174 #[.val (.long q0), .second, .val (.long q1), .second, .val (.long q2), .second, .val (.long q3), .second, .val (.int p4), .val (.int (p4 &&& (3 : Int32))), .val (.ref b1), .val (.long (-9223372036854775808 : Int64)), .second, .val (.int (if (q3 < (-9223372036854775808 : Int64)) then (1 : Int32) else 0)), .val (.int (if ((0 : Int32) < (0 : Int32) ∨ q3 < (-9223372036854775808 : Int64)) then (1 : Int32) else 0))] [])) _
          refine XS.aload X15.here hx rfl (hb hby at_174) rfl rfl ?_
          show Steps p.tables e below (T15.setTop (mkF m 176 #[.val (.long q0), .second, .val (.long q1), .second, .val (.long q2), .second, .val (.long q3), .second, .val (.int p4), .val (.int (p4 &&& (3 : Int32))), .val (.ref b1), .val (.long (-9223372036854775808 : Int64)), .second, .val (.int (if (q3 < (-9223372036854775808 : Int64)) then (1 : Int32) else 0)), .val (.int (if ((0 : Int32) < (0 : Int32) ∨ q3 < (-9223372036854775808 : Int64)) then (1 : Int32) else 0))] [(.ref b1)])) _
          refine st16 _ ?_
          show Steps p.tables e below (T16.setTop (mkF m 179 #[.val (.long q0), .second, .val (.long q1), .second, .val (.long q2), .second, .val (.long q3), .second, .val (.int p4), .val (.int (p4 &&& (3 : Int32))), .val (.ref b1), .val (.long (-9223372036854775808 : Int64)), .second, .val (.int (if (q3 < (-9223372036854775808 : Int64)) then (1 : Int32) else 0)), .val (.int (if ((0 : Int32) < (0 : Int32) ∨ q3 < (-9223372036854775808 : Int64)) then (1 : Int32) else 0))] [(.int (0 : Int32))])) _
          refine XS.ifNo X16.here hx rfl (hb hby at_179) rfl ((if0 _ _).trans (teq (by decide : (0 : Int32) = (0 : Int32))).2) ?_
          show Steps p.tables e below (T16.setTop (mkF m 182 #[.val (.long q0), .second, .val (.long q1), .second, .val (.long q2), .second, .val (.long q3), .second, .val (.int p4), .val (.int (p4 &&& (3 : Int32))), .val (.ref b1), .val (.long (-9223372036854775808 : Int64)), .second, .val (.int (if (q3 < (-9223372036854775808 : Int64)) then (1 : Int32) else 0)), .val (.int (if ((0 : Int32) < (0 : Int32) ∨ q3 < (-9223372036854775808 : Int64)) then (1 : Int32) else 0))] [])) _
          refine XS.iload X16.here hx rfl (hb hby at_182) rfl ?_
          show Steps p.tables e below (T16.setTop (mkF m 184 #[.val (.long q0), .second, .val (.long q1), .second, .val (.long q2), .second, .val (.long q3), .second, .val (.int p4), .val (.int (p4 &&& (3 : Int32))), .val (.ref b1), .val (.long (-9223372036854775808 : Int64)), .second, .val (.int (if (q3 < (-9223372036854775808 : Int64)) then (1 : Int32) else 0)), .val (.int (if ((0 : Int32) < (0 : Int32) ∨ q3 < (-9223372036854775808 : Int64)) then (1 : Int32) else 0))] [(.int (if ((0 : Int32) < (0 : Int32) ∨ q3 < (-9223372036854775808 : Int64)) then (1 : Int32) else 0))])) _
          refine XS.iload X16.here hx rfl (hb hby at_184) rfl ?_
          show Steps p.tables e below (T16.setTop (mkF m 186 #[.val (.long q0), .second, .val (.long q1), .second, .val (.long q2), .second, .val (.long q3), .second, .val (.int p4), .val (.int (p4 &&& (3 : Int32))), .val (.ref b1), .val (.long (-9223372036854775808 : Int64)), .second, .val (.int (if (q3 < (-9223372036854775808 : Int64)) then (1 : Int32) else 0)), .val (.int (if ((0 : Int32) < (0 : Int32) ∨ q3 < (-9223372036854775808 : Int64)) then (1 : Int32) else 0))] [(.int (if (q3 < (-9223372036854775808 : Int64)) then (1 : Int32) else 0)), (.int (if ((0 : Int32) < (0 : Int32) ∨ q3 < (-9223372036854775808 : Int64)) then (1 : Int32) else 0))])) _
          refine XS.icmpNo X16.here hx rfl (hb hby at_186) rfl (teq (own_bb (by simp only [own_max_toInt, Int32.lt_iff_toInt_lt, Int64.lt_iff_toInt_lt, Int32.reduceToInt, Int64.reduceToInt]; have r := rng64 q3; omega : (((0 : Int32) < (0 : Int32) ∨ q3 < (-9223372036854775808 : Int64)) ↔ (q3 < (-9223372036854775808 : Int64)))))).2 ?_
          show Steps p.tables e below (T16.setTop (mkF m 189 #[.val (.long q0), .second, .val (.long q1), .second, .val (.long q2), .second, .val (.long q3), .second, .val (.int p4), .val (.int (p4 &&& (3 : Int32))), .val (.ref b1), .val (.long (-9223372036854775808 : Int64)), .second, .val (.int (if (q3 < (-9223372036854775808 : Int64)) then (1 : Int32) else 0)), .val (.int (if ((0 : Int32) < (0 : Int32) ∨ q3 < (-9223372036854775808 : Int64)) then (1 : Int32) else 0))] [])) _
          refine XS.iconst X16.here hx rfl (hb hby at_189) ?_
          show Steps p.tables e below (T16.setTop (mkF m 190 #[.val (.long q0), .second, .val (.long q1), .second, .val (.long q2), .second, .val (.long q3), .second, .val (.int p4), .val (.int (p4 &&& (3 : Int32))), .val (.ref b1), .val (.long (-9223372036854775808 : Int64)), .second, .val (.int (if (q3 < (-9223372036854775808 : Int64)) then (1 : Int32) else 0)), .val (.int (if ((0 : Int32) < (0 : Int32) ∨ q3 < (-9223372036854775808 : Int64)) then (1 : Int32) else 0))] [(.int (1 : Int32))])) _
          refine XS.goto X16.here hx rfl (pc0 := 190) (pc' := 194) rfl (hb hby at_190) (by decide) (by decide) ?_
          exact k)
        obtain ⟨fs, hr, hrun, hended, hW, hsame⟩ := X16.leave (v := some (.int (1 : Int32))) (fun h => by rw [Bd.returns] at h; cases h)
        refine ⟨_, _, pre17 _ ?_, hrun, hended, _, _, rfl, ?_, ⟨_, rfl⟩, hW, hsame.mono (by decide) (by decide)⟩
        · exact retN X16 hx (t := .boolean) Bd.returns (by simp) (hb hby at_194) hr
        · show Q0 Z q0 q1 q2 q3 p4 h0 n0 _ T16.heap _
          rw [e16]
          exact ⟨rfl, N14⟩
      · exact absurd hc18_4 (by simp only [Int32.lt_iff_toInt_lt, Int32.reduceToInt] at hc42_8 ⊢; omega)
    · exact absurd hc18_4 (by simp only [Int32.lt_iff_toInt_lt, Int32.reduceToInt] at hc30_6 ⊢; omega)
  · obtain ⟨cq18, kq18, q18a, q18b, q18c⟩ := isOf hZ rfl P2_0
    obtain ⟨_, _, ⟨T18, L18, k18, n18⟩, -, X18, ⟨Lc18, hQ18, l18, y18, z18⟩, st18⟩ := X2.virtualBack hx (y := (⟨"com/example/sensor_access_indicators/sensoraccessindicators/ShownAccesses", "show", "(J)V"⟩ : MethodName)) (z := (⟨"com/example/sensor_access_indicators/sensoraccessindicators/ShownAccesses", "show", "(J)V"⟩ : MethodName)) hown (mvT hZ (hw _ (List.mem_of_getElem? (i := 12) rfl))) (mvT hZ (hw _ (List.mem_of_getElem? (i := 13) rfl))) (notFace_of_selects (args := #[]) (mvT hZ (hw _ (List.mem_of_getElem? (i := 15) rfl)))) (mvT hZ (hw _ (List.mem_of_getElem? (i := 15) rfl))) (mvT hZ (hw _ (List.mem_of_getElem? (i := 14) rfl))) (by decide) (backOf (W := 0) (rm3 l Z a0 hw [] b1 q0 (-9223372036854775808 : Int64) (0 : Int32) T2.heap n0 (Nat.le_trans (Nat.le_trans Z0 E1.1) K2.1) P2_1 P2_2 P2_0 g_b1) hZ (hw _ (List.mem_of_getElem? (i := 16) rfl)) (hw _ (List.mem_of_getElem? (i := 2) rfl)) (by decide) (by decide)) q18a q18c (g := (mkF m 24 #[.val (.long q0), .second, .val (.long q1), .second, .val (.long q2), .second, .val (.long q3), .second, .val (.int p4), .val (.int (p4 &&& (3 : Int32))), .val (.ref b1), .unset, .unset, .unset, .unset] [(.long q0), (.ref b1)])) rfl (by rw [hml]; rfl) (Steps.refl _) (argsL := [(.long q0)]) (rest := []) (lenOf pd_3 rfl) rfl (by show 2 * 0 + _ ≤ _; exact Nat.le_of_eq rfl) (hb hby at_24) (fun _ _ => ⟨rfl, rfl, (by decide : 1 + 0 ≤ _), (by decide : 2 + 0 ≤ _)⟩)
    dsimp only [Pt.U, Pt.locs, Pt.cells, Pt.slots] at X18 l18 y18 z18 st18 hQ18
    subst l18 y18 z18
    obtain ⟨rfl, N18q, K18, P18_0, P18_1, P18_2⟩ := hQ18
    have N18 := Fr.app N2 N18q
    have KK18 : Keep h0 T18.heap [] := KK2.trans K18 (allS (Or.inr sz_b1) all0)
    have pre19 : ∀ t, Steps p.tables e below (T18.setTop (mkF m 30 #[.val (.long q0), .second, .val (.long q1), .second, .val (.long q2), .second, .val (.long q3), .second, .val (.int p4), .val (.int (p4 &&& (3 : Int32))), .val (.ref b1), .unset, .unset, .unset, .unset] [(.int (2 : Int32)), (.int (p4 &&& (3 : Int32)))])) t → Steps p.tables e below (s₁.setTop (entryFrame m #[(.long q0), (.long q1), (.long q2), (.long q3), (.int p4)] maxLocals)) t := fun t k => pre3 t (by
      show Steps p.tables e below (T2.setTop (mkF m 18 #[.val (.long q0), .second, .val (.long q1), .second, .val (.long q2), .second, .val (.long q3), .second, .val (.int p4), .val (.int (p4 &&& (3 : Int32))), .val (.ref b1), .unset, .unset, .unset, .unset] [(.int (1 : Int32)), (.int (p4 &&& (3 : Int32)))])) _
      refine XS.icmpNo X2.here hx rfl (hb hby at_18) rfl (flt hc18_4).1 ?_
      show Steps p.tables e below (T2.setTop (mkF m 21 #[.val (.long q0), .second, .val (.long q1), .second, .val (.long q2), .second, .val (.long q3), .second, .val (.int p4), .val (.int (p4 &&& (3 : Int32))), .val (.ref b1), .unset, .unset, .unset, .unset] [])) _
      refine XS.aload X2.here hx rfl (hb hby at_21) rfl rfl ?_
      show Steps p.tables e below (T2.setTop (mkF m 23 #[.val (.long q0), .second, .val (.long q1), .second, .val (.long q2), .second, .val (.long q3), .second, .val (.int p4), .val (.int (p4 &&& (3 : Int32))), .val (.ref b1), .unset, .unset, .unset, .unset] [(.ref b1)])) _
      refine XS.lloadN X2.here hx rfl (hb hby at_23) rfl ?_
      show Steps p.tables e below (T2.setTop (mkF m 24 #[.val (.long q0), .second, .val (.long q1), .second, .val (.long q2), .second, .val (.long q3), .second, .val (.int p4), .val (.int (p4 &&& (3 : Int32))), .val (.ref b1), .unset, .unset, .unset, .unset] [(.long q0), (.ref b1)])) _
      refine st18.trans ?_
      show Steps p.tables e below (T18.setTop (mkF m 27 #[.val (.long q0), .second, .val (.long q1), .second, .val (.long q2), .second, .val (.long q3), .second, .val (.int p4), .val (.int (p4 &&& (3 : Int32))), .val (.ref b1), .unset, .unset, .unset, .unset] [])) _
      refine XS.iload X18.here hx rfl (hb hby at_27) rfl ?_
      show Steps p.tables e below (T18.setTop (mkF m 29 #[.val (.long q0), .second, .val (.long q1), .second, .val (.long q2), .second, .val (.long q3), .second, .val (.int p4), .val (.int (p4 &&& (3 : Int32))), .val (.ref b1), .unset, .unset, .unset, .unset] [(.int (p4 &&& (3 : Int32)))])) _
      refine XS.iconst X18.here hx rfl (hb hby at_29) ?_
      exact k)
    by_cases hc30_20 : (p4 &&& (3 : Int32)) < (2 : Int32)
    · have pre21 : ∀ t, Steps p.tables e below (T18.setTop (mkF m 42 #[.val (.long q0), .second, .val (.long q1), .second, .val (.long q2), .second, .val (.long q3), .second, .val (.int p4), .val (.int (p4 &&& (3 : Int32))), .val (.ref b1), .unset, .unset, .unset, .unset] [(.int (3 : Int32)), (.int (p4 &&& (3 : Int32)))])) t → Steps p.tables e below (s₁.setTop (entryFrame m #[(.long q0), (.long q1), (.long q2), (.long q3), (.int p4)] maxLocals)) t := fun t k => pre19 t (by
        show Steps p.tables e below (T18.setTop (mkF m 30 #[.val (.long q0), .second, .val (.long q1), .second, .val (.long q2), .second, .val (.long q3), .second, .val (.int p4), .val (.int (p4 &&& (3 : Int32))), .val (.ref b1), .unset, .unset, .unset, .unset] [(.int (2 : Int32)), (.int (p4 &&& (3 : Int32)))])) _
        refine XS.icmpYes X18.here hx rfl (pc0 := 30) (pc' := 39) rfl (hb hby at_30) rfl (tlt hc30_20).1 (by decide) (by decide) ?_
        show Steps p.tables e below (T18.setTop (mkF m 39 #[.val (.long q0), .second, .val (.long q1), .second, .val (.long q2), .second, .val (.long q3), .second, .val (.int p4), .val (.int (p4 &&& (3 : Int32))), .val (.ref b1), .unset, .unset, .unset, .unset] [])) _
        refine XS.iload X18.here hx rfl (hb hby at_39) rfl ?_
        show Steps p.tables e below (T18.setTop (mkF m 41 #[.val (.long q0), .second, .val (.long q1), .second, .val (.long q2), .second, .val (.long q3), .second, .val (.int p4), .val (.int (p4 &&& (3 : Int32))), .val (.ref b1), .unset, .unset, .unset, .unset] [(.int (p4 &&& (3 : Int32)))])) _
        refine XS.iconst X18.here hx rfl (hb hby at_41) ?_
        exact k)
      by_cases hc42_22 : (p4 &&& (3 : Int32)) < (3 : Int32)
      · have pre23 : ∀ t, Steps p.tables e below (T18.setTop (mkF m 57 #[.val (.long q0), .second, .val (.long q1), .second, .val (.long q2), .second, .val (.long q3), .second, .val (.int p4), .val (.int (p4 &&& (3 : Int32))), .val (.ref b1), .val (.long (-9223372036854775808 : Int64)), .second, .unset, .unset] [])) t → Steps p.tables e below (s₁.setTop (entryFrame m #[(.long q0), (.long q1), (.long q2), (.long q3), (.int p4)] maxLocals)) t := fun t k => pre21 t (by
          show Steps p.tables e below (T18.setTop (mkF m 42 #[.val (.long q0), .second, .val (.long q1), .second, .val (.long q2), .second, .val (.long q3), .second, .val (.int p4), .val (.int (p4 &&& (3 : Int32))), .val (.ref b1), .unset, .unset, .unset, .unset] [(.int (3 : Int32)), (.int (p4 &&& (3 : Int32)))])) _
          refine XS.icmpYes X18.here hx rfl (pc0 := 42) (pc' := 52) rfl (hb hby at_42) rfl (tlt hc42_22).1 (by decide) (by decide) ?_
          show Steps p.tables e below (T18.setTop (mkF m 52 #[.val (.long q0), .second, .val (.long q1), .second, .val (.long q2), .second, .val (.long q3), .second, .val (.int p4), .val (.int (p4 &&& (3 : Int32))), .val (.ref b1), .unset, .unset, .unset, .unset] [])) _
          refine X18.ldc2Long hx hown (mvT hZ (hw _ (List.mem_of_getElem? (i := 21) rfl))) (g := (mkF m 52 #[.val (.long q0), .second, .val (.long q1), .second, .val (.long q2), .second, .val (.long q3), .second, .val (.int p4), .val (.int (p4 &&& (3 : Int32))), .val (.ref b1), .unset, .unset, .unset, .unset] [])) rfl (hb hby at_52) _ ?_
          show Steps p.tables e below (T18.setTop (mkF m 55 #[.val (.long q0), .second, .val (.long q1), .second, .val (.long q2), .second, .val (.long q3), .second, .val (.int p4), .val (.int (p4 &&& (3 : Int32))), .val (.ref b1), .unset, .unset, .unset, .unset] [(.long (-9223372036854775808 : Int64))])) _
          refine XS.lstore X18.here hx rfl (hb hby at_55) rfl (l' := #[.val (.long q0), .second, .val (.long q1), .second, .val (.long q2), .second, .val (.long q3), .second, .val (.int p4), .val (.int (p4 &&& (3 : Int32))), .val (.ref b1), .val (.long (-9223372036854775808 : Int64)), .second, .unset, .unset]) rfl ?_
          exact k)
        obtain ⟨v24_0, hv24, prem24⟩ : ∃ (v24_0 : Int64), v24_0 = (own_max (-9223372036854775808 : Int64) q0) ∧ ∀ t, Steps p.tables e below (T18.setTop (mkF m 107 #[.val (.long q0), .second, .val (.long q1), .second, .val (.long q2), .second, .val (.long q3), .second, .val (.int p4), .val (.int (p4 &&& (3 : Int32))), .val (.ref b1), .val (.long v24_0), .second, .unset, .unset] [])) t → Steps p.tables e below (s₁.setTop (entryFrame m #[(.long q0), (.long q1), (.long q2), (.long q3), (.int p4)] maxLocals)) t := by
          have pre25 : ∀ t, Steps p.tables e below (T18.setTop (mkF m 67 #[.val (.long q0), .second, .val (.long q1), .second, .val (.long q2), .second, .val (.long q3), .second, .val (.int p4), .val (.int (p4 &&& (3 : Int32))), .val (.ref b1), .val (.long (-9223372036854775808 : Int64)), .second, .unset, .unset] [(.int (lcmpW q0 (-9223372036854775808 : Int64)))])) t → Steps p.tables e below (s₁.setTop (entryFrame m #[(.long q0), (.long q1), (.long q2), (.long q3), (.int p4)] maxLocals)) t := fun t k => pre23 t (by
            show Steps p.tables e below (T18.setTop (mkF m 57 #[.val (.long q0), .second, .val (.long q1), .second, .val (.long q2), .second, .val (.long q3), .second, .val (.int p4), .val (.int (p4 &&& (3 : Int32))), .val (.ref b1), .val (.long (-9223372036854775808 : Int64)), .second, .unset, .unset] [])) _
            refine XS.iload X18.here hx rfl (hb hby at_57) rfl ?_
            show Steps p.tables e below (T18.setTop (mkF m 59 #[.val (.long q0), .second, .val (.long q1), .second, .val (.long q2), .second, .val (.long q3), .second, .val (.int p4), .val (.int (p4 &&& (3 : Int32))), .val (.ref b1), .val (.long (-9223372036854775808 : Int64)), .second, .unset, .unset] [(.int (p4 &&& (3 : Int32)))])) _
            refine XS.iconst X18.here hx rfl (hb hby at_59) ?_
            show Steps p.tables e below (T18.setTop (mkF m 60 #[.val (.long q0), .second, .val (.long q1), .second, .val (.long q2), .second, .val (.long q3), .second, .val (.int p4), .val (.int (p4 &&& (3 : Int32))), .val (.ref b1), .val (.long (-9223372036854775808 : Int64)), .second, .unset, .unset] [(.int (1 : Int32)), (.int (p4 &&& (3 : Int32)))])) _
            refine XS.icmpNo X18.here hx rfl (hb hby at_60) rfl (flt hc18_4).1 ?_
            show Steps p.tables e below (T18.setTop (mkF m 63 #[.val (.long q0), .second, .val (.long q1), .second, .val (.long q2), .second, .val (.long q3), .second, .val (.int p4), .val (.int (p4 &&& (3 : Int32))), .val (.ref b1), .val (.long (-9223372036854775808 : Int64)), .second, .unset, .unset] [])) _
            refine XS.lloadN X18.here hx rfl (hb hby at_63) rfl ?_
            show Steps p.tables e below (T18.setTop (mkF m 64 #[.val (.long q0), .second, .val (.long q1), .second, .val (.long q2), .second, .val (.long q3), .second, .val (.int p4), .val (.int (p4 &&& (3 : Int32))), .val (.ref b1), .val (.long (-9223372036854775808 : Int64)), .second, .unset, .unset] [(.long q0)])) _
            refine XS.lload X18.here hx rfl (hb hby at_64) rfl ?_
            show Steps p.tables e below (T18.setTop (mkF m 66 #[.val (.long q0), .second, .val (.long q1), .second, .val (.long q2), .second, .val (.long q3), .second, .val (.int p4), .val (.int (p4 &&& (3 : Int32))), .val (.ref b1), .val (.long (-9223372036854775808 : Int64)), .second, .unset, .unset] [(.long (-9223372036854775808 : Int64)), (.long q0)])) _
            refine XS.lcmp X18.here hx rfl (hb hby at_66) rfl ?_
            exact k)
          by_cases hc67_26 : (-9223372036854775808 : Int64) < q0
          · have pre27 : ∀ t, Steps p.tables e below (T18.setTop (mkF m 107 #[.val (.long q0), .second, .val (.long q1), .second, .val (.long q2), .second, .val (.long q3), .second, .val (.int p4), .val (.int (p4 &&& (3 : Int32))), .val (.ref b1), .val (.long q0), .second, .unset, .unset] [])) t → Steps p.tables e below (s₁.setTop (entryFrame m #[(.long q0), (.long q1), (.long q2), (.long q3), (.int p4)] maxLocals)) t := fun t k => pre25 t (by
              show Steps p.tables e below (T18.setTop (mkF m 67 #[.val (.long q0), .second, .val (.long q1), .second, .val (.long q2), .second, .val (.long q3), .second, .val (.int p4), .val (.int (p4 &&& (3 : Int32))), .val (.ref b1), .val (.long (-9223372036854775808 : Int64)), .second, .unset, .unset] [(.int (lcmpW q0 (-9223372036854775808 : Int64)))])) _
              refine XS.ifNo X18.here hx rfl (hb hby at_67) rfl ((if0 _ _).trans (tlt ((lw_gt _ _).mpr hc67_26)).2.2.2) ?_
              show Steps p.tables e below (T18.setTop (mkF m 70 #[.val (.long q0), .second, .val (.long q1), .second, .val (.long q2), .second, .val (.long q3), .second, .val (.int p4), .val (.int (p4 &&& (3 : Int32))), .val (.ref b1), .val (.long (-9223372036854775808 : Int64)), .second, .unset, .unset] [])) _
              refine XS.lloadN X18.here hx rfl (hb hby at_70) rfl ?_
              show Steps p.tables e below (T18.setTop (mkF m 71 #[.val (.long q0), .second, .val (.long q1), .second, .val (.long q2), .second, .val (.long q3), .second, .val (.int p4), .val (.int (p4 &&& (3 : Int32))), .val (.ref b1), .val (.long (-9223372036854775808 : Int64)), .second, .unset, .unset] [(.long q0)])) _
              refine XS.lstore X18.here hx rfl (hb hby at_71) rfl (l' := #[.val (.long q0), .second, .val (.long q1), .second, .val (.long q2), .second, .val (.long q3), .second, .val (.int p4), .val (.int (p4 &&& (3 : Int32))), .val (.ref b1), .val (.long q0), .second, .unset, .unset]) rfl ?_
              show Steps p.tables e below (T18.setTop (mkF m 73 #[.val (.long q0), .second, .val (.long q1), .second, .val (.long q2), .second, .val (.long q3), .second, .val (.int p4), .val (.int (p4 &&& (3 : Int32))), .val (.ref b1), .val (.long q0), .second, .unset, .unset] [])) _
              refine XS.iload X18.here hx rfl (hb hby at_73) rfl ?_
              show Steps p.tables e below (T18.setTop (mkF m 75 #[.val (.long q0), .second, .val (.long q1), .second, .val (.long q2), .second, .val (.long q3), .second, .val (.int p4), .val (.int (p4 &&& (3 : Int32))), .val (.ref b1), .val (.long q0), .second, .unset, .unset] [(.int (p4 &&& (3 : Int32)))])) _
              refine XS.iconst X18.here hx rfl (hb hby at_75) ?_
              show Steps p.tables e below (T18.setTop (mkF m 76 #[.val (.long q0), .second, .val (.long q1), .second, .val (.long q2), .second, .val (.long q3), .second, .val (.int p4), .val (.int (p4 &&& (3 : Int32))), .val (.ref b1), .val (.long q0), .second, .unset, .unset] [(.int (2 : Int32)), (.int (p4 &&& (3 : Int32)))])) _
              refine XS.icmpYes X18.here hx rfl (pc0 := 76) (pc' := 89) rfl (hb hby at_76) rfl (tlt hc30_20).1 (by decide) (by decide) ?_
              show Steps p.tables e below (T18.setTop (mkF m 89 #[.val (.long q0), .second, .val (.long q1), .second, .val (.long q2), .second, .val (.long q3), .second, .val (.int p4), .val (.int (p4 &&& (3 : Int32))), .val (.ref b1), .val (.long q0), .second, .unset, .unset] [])) _
              refine XS.iload X18.here hx rfl (hb hby at_89) rfl ?_
              show Steps p.tables e below (T18.setTop (mkF m 91 #[.val (.long q0), .second, .val (.long q1), .second, .val (.long q2), .second, .val (.long q3), .second, .val (.int p4), .val (.int (p4 &&& (3 : Int32))), .val (.ref b1), .val (.long q0), .second, .unset, .unset] [(.int (p4 &&& (3 : Int32)))])) _
              refine XS.iconst X18.here hx rfl (hb hby at_91) ?_
              show Steps p.tables e below (T18.setTop (mkF m 92 #[.val (.long q0), .second, .val (.long q1), .second, .val (.long q2), .second, .val (.long q3), .second, .val (.int p4), .val (.int (p4 &&& (3 : Int32))), .val (.ref b1), .val (.long q0), .second, .unset, .unset] [(.int (3 : Int32)), (.int (p4 &&& (3 : Int32)))])) _
              refine XS.icmpYes X18.here hx rfl (pc0 := 92) (pc' := 107) rfl (hb hby at_92) rfl (tlt hc42_22).1 (by decide) (by decide) ?_
              exact k)
            exact ⟨q0, (own_eq (by simp only [own_max_toInt, Int64.lt_iff_toInt_lt, Int64.reduceToInt] at hc67_26 ⊢; have r0 := rng64 q0; have r1 := rng64 q1; have r2 := rng64 q2; omega)), pre27⟩
          · have pre28 : ∀ t, Steps p.tables e below (T18.setTop (mkF m 107 #[.val (.long q0), .second, .val (.long q1), .second, .val (.long q2), .second, .val (.long q3), .second, .val (.int p4), .val (.int (p4 &&& (3 : Int32))), .val (.ref b1), .val (.long (-9223372036854775808 : Int64)), .second, .unset, .unset] [])) t → Steps p.tables e below (s₁.setTop (entryFrame m #[(.long q0), (.long q1), (.long q2), (.long q3), (.int p4)] maxLocals)) t := fun t k => pre25 t (by
              show Steps p.tables e below (T18.setTop (mkF m 67 #[.val (.long q0), .second, .val (.long q1), .second, .val (.long q2), .second, .val (.long q3), .second, .val (.int p4), .val (.int (p4 &&& (3 : Int32))), .val (.ref b1), .val (.long (-9223372036854775808 : Int64)), .second, .unset, .unset] [(.int (lcmpW q0 (-9223372036854775808 : Int64)))])) _
              refine XS.ifYes X18.here hx rfl (pc0 := 67) (pc' := 73) rfl (hb hby at_67) rfl ((if0 _ _).trans (flt (fun q => hc67_26 ((lw_gt _ _).mp q))).2.2.2) (by decide) (by decide) ?_
              show Steps p.tables e below (T18.setTop (mkF m 73 #[.val (.long q0), .second, .val (.long q1), .second, .val (.long q2), .second, .val (.long q3), .second, .val (.int p4), .val (.int (p4 &&& (3 : Int32))), .val (.ref b1), .val (.long (-9223372036854775808 : Int64)), .second, .unset, .unset] [])) _
              refine XS.iload X18.here hx rfl (hb hby at_73) rfl ?_
              show Steps p.tables e below (T18.setTop (mkF m 75 #[.val (.long q0), .second, .val (.long q1), .second, .val (.long q2), .second, .val (.long q3), .second, .val (.int p4), .val (.int (p4 &&& (3 : Int32))), .val (.ref b1), .val (.long (-9223372036854775808 : Int64)), .second, .unset, .unset] [(.int (p4 &&& (3 : Int32)))])) _
              refine XS.iconst X18.here hx rfl (hb hby at_75) ?_
              show Steps p.tables e below (T18.setTop (mkF m 76 #[.val (.long q0), .second, .val (.long q1), .second, .val (.long q2), .second, .val (.long q3), .second, .val (.int p4), .val (.int (p4 &&& (3 : Int32))), .val (.ref b1), .val (.long (-9223372036854775808 : Int64)), .second, .unset, .unset] [(.int (2 : Int32)), (.int (p4 &&& (3 : Int32)))])) _
              refine XS.icmpYes X18.here hx rfl (pc0 := 76) (pc' := 89) rfl (hb hby at_76) rfl (tlt hc30_20).1 (by decide) (by decide) ?_
              show Steps p.tables e below (T18.setTop (mkF m 89 #[.val (.long q0), .second, .val (.long q1), .second, .val (.long q2), .second, .val (.long q3), .second, .val (.int p4), .val (.int (p4 &&& (3 : Int32))), .val (.ref b1), .val (.long (-9223372036854775808 : Int64)), .second, .unset, .unset] [])) _
              refine XS.iload X18.here hx rfl (hb hby at_89) rfl ?_
              show Steps p.tables e below (T18.setTop (mkF m 91 #[.val (.long q0), .second, .val (.long q1), .second, .val (.long q2), .second, .val (.long q3), .second, .val (.int p4), .val (.int (p4 &&& (3 : Int32))), .val (.ref b1), .val (.long (-9223372036854775808 : Int64)), .second, .unset, .unset] [(.int (p4 &&& (3 : Int32)))])) _
              refine XS.iconst X18.here hx rfl (hb hby at_91) ?_
              show Steps p.tables e below (T18.setTop (mkF m 92 #[.val (.long q0), .second, .val (.long q1), .second, .val (.long q2), .second, .val (.long q3), .second, .val (.int p4), .val (.int (p4 &&& (3 : Int32))), .val (.ref b1), .val (.long (-9223372036854775808 : Int64)), .second, .unset, .unset] [(.int (3 : Int32)), (.int (p4 &&& (3 : Int32)))])) _
              refine XS.icmpYes X18.here hx rfl (pc0 := 92) (pc' := 107) rfl (hb hby at_92) rfl (tlt hc42_22).1 (by decide) (by decide) ?_
              exact k)
            exact ⟨(-9223372036854775808 : Int64), (own_eq (by simp only [own_max_toInt, Int64.lt_iff_toInt_lt, Int64.reduceToInt] at hc67_26 ⊢; have r0 := rng64 q0; have r1 := rng64 q1; have r2 := rng64 q2; omega)), pre28⟩
        subst hv24
        obtain ⟨v29_0, hv29, prem29⟩ : ∃ (v29_0 : Int32), v29_0 = (if (q3 < q0) then (1 : Int32) else 0) ∧ ∀ t, Steps p.tables e below (T18.setTop (mkF m 152 #[.val (.long q0), .second, .val (.long q1), .second, .val (.long q2), .second, .val (.long q3), .second, .val (.int p4), .val (.int (p4 &&& (3 : Int32))), .val (.ref b1), .val (.long (own_max (-9223372036854775808 : Int64) q0)), .second, .unset, .unset] [(.int v29_0)])) t → Steps p.tables e below (s₁.setTop (entryFrame m #[(.long q0), (.long q1), (.long q2), (.long q3), (.int p4)] maxLocals)) t := by
          have pre30 : ∀ t, Steps p.tables e below (T18.setTop (mkF m 117 #[.val (.long q0), .second, .val (.long q1), .second, .val (.long q2), .second, .val (.long q3), .second, .val (.int p4), .val (.int (p4 &&& (3 : Int32))), .val (.ref b1), .val (.long (own_max (-9223372036854775808 : Int64) q0)), .second, .unset, .unset] [(.int (lcmpW q0 q3))])) t → Steps p.tables e below (s₁.setTop (entryFrame m #[(.long q0), (.long q1), (.long q2), (.long q3), (.int p4)] maxLocals)) t := fun t k => prem24 t (by
            show Steps p.tables e below (T18.setTop (mkF m 107 #[.val (.long q0), .second, .val (.long q1), .second, .val (.long q2), .second, .val (.long q3), .second, .val (.int p4), .val (.int (p4 &&& (3 : Int32))), .val (.ref b1), .val (.long (own_max (-9223372036854775808 : Int64) q0)), .second, .unset, .unset] [])) _
            refine XS.iload X18.here hx rfl (hb hby at_107) rfl ?_
            show Steps p.tables e below (T18.setTop (mkF m 109 #[.val (.long q0), .second, .val (.long q1), .second, .val (.long q2), .second, .val (.long q3), .second, .val (.int p4), .val (.int (p4 &&& (3 : Int32))), .val (.ref b1), .val (.long (own_max (-9223372036854775808 : Int64) q0)), .second, .unset, .unset] [(.int (p4 &&& (3 : Int32)))])) _
            refine XS.iconst X18.here hx rfl (hb hby at_109) ?_
            show Steps p.tables e below (T18.setTop (mkF m 110 #[.val (.long q0), .second, .val (.long q1), .second, .val (.long q2), .second, .val (.long q3), .second, .val (.int p4), .val (.int (p4 &&& (3 : Int32))), .val (.ref b1), .val (.long (own_max (-9223372036854775808 : Int64) q0)), .second, .unset, .unset] [(.int (1 : Int32)), (.int (p4 &&& (3 : Int32)))])) _
            refine XS.icmpNo X18.here hx rfl (hb hby at_110) rfl (flt hc18_4).1 ?_
            show Steps p.tables e below (T18.setTop (mkF m 113 #[.val (.long q0), .second, .val (.long q1), .second, .val (.long q2), .second, .val (.long q3), .second, .val (.int p4), .val (.int (p4 &&& (3 : Int32))), .val (.ref b1), .val (.long (own_max (-9223372036854775808 : Int64) q0)), .second, .unset, .unset] [])) _
            refine XS.lloadN X18.here hx rfl (hb hby at_113) rfl ?_
            show Steps p.tables e below (T18.setTop (mkF m 114 #[.val (.long q0), .second, .val (.long q1), .second, .val (.long q2), .second, .val (.long q3), .second, .val (.int p4), .val (.int (p4 &&& (3 : Int32))), .val (.ref b1), .val (.long (own_max (-9223372036854775808 : Int64) q0)), .second, .unset, .unset] [(.long q0)])) _
            refine XS.lload X18.here hx rfl (hb hby at_114) rfl ?_
            show Steps p.tables e below (T18.setTop (mkF m 116 #[.val (.long q0), .second, .val (.long q1), .second, .val (.long q2), .second, .val (.long q3), .second, .val (.int p4), .val (.int (p4 &&& (3 : Int32))), .val (.ref b1), .val (.long (own_max (-9223372036854775808 : Int64) q0)), .second, .unset, .unset] [(.long q3), (.long q0)])) _
            refine XS.lcmp X18.here hx rfl (hb hby at_116) rfl ?_
            exact k)
          by_cases hc117_31 : q3 < q0
          · have pre32 : ∀ t, Steps p.tables e below (T18.setTop (mkF m 152 #[.val (.long q0), .second, .val (.long q1), .second, .val (.long q2), .second, .val (.long q3), .second, .val (.int p4), .val (.int (p4 &&& (3 : Int32))), .val (.ref b1), .val (.long (own_max (-9223372036854775808 : Int64) q0)), .second, .unset, .unset] [(.int (1 : Int32))])) t → Steps p.tables e below (s₁.setTop (entryFrame m #[(.long q0), (.long q1), (.long q2), (.long q3), (.int p4)] maxLocals)) t := fun t k => pre30 t (by
              show Steps p.tables e below (T18.setTop (mkF m 117 #[.val (.long q0), .second, .val (.long q1), .second, .val (.long q2), .second, .val (.long q3), .second, .val (.int p4), .val (.int (p4 &&& (3 : Int32))), .val (.ref b1), .val (.long (own_max (-9223372036854775808 : Int64) q0)), .second, .unset, .unset] [(.int (lcmpW q0 q3))])) _
              refine XS.ifYes X18.here hx rfl (pc0 := 117) (pc' := 147) rfl (hb hby at_117) rfl ((if0 _ _).trans (tlt ((lw_gt _ _).mpr hc117_31)).2.2.1) (by decide) (by decide) ?_
              show Steps p.tables e below (T18.setTop (mkF m 147 #[.val (.long q0), .second, .val (.long q1), .second, .val (.long q2), .second, .val (.long q3), .second, .val (.int p4), .val (.int (p4 &&& (3 : Int32))), .val (.ref b1), .val (.long (own_max (-9223372036854775808 : Int64) q0)), .second, .unset, .unset] [])) _
              refine XS.iconst X18.here hx rfl (hb hby at_147) ?_
              show Steps p.tables e below (T18.setTop (mkF m 148 #[.val (.long q0), .second, .val (.long q1), .second, .val (.long q2), .second, .val (.long q3), .second, .val (.int p4), .val (.int (p4 &&& (3 : Int32))), .val (.ref b1), .val (.long (own_max (-9223372036854775808 : Int64) q0)), .second, .unset, .unset] [(.int (1 : Int32))])) _
              refine XS.goto X18.here hx rfl (pc0 := 148) (pc' := 152) rfl (hb hby at_148) (by decide) (by decide) ?_
              exact k)
            exact ⟨(1 : Int32), (own_p (by simp only [Int64.lt_iff_toInt_lt] at hc117_31 ⊢; omega)), pre32⟩
          · have pre33 : ∀ t, Steps p.tables e below (T18.setTop (mkF m 152 #[.val (.long q0), .second, .val (.long q1), .second, .val (.long q2), .second, .val (.long q3), .second, .val (.int p4), .val (.int (p4 &&& (3 : Int32))), .val (.ref b1), .val (.long (own_max (-9223372036854775808 : Int64) q0)), .second, .unset, .unset] [(.int (0 : Int32))])) t → Steps p.tables e below (s₁.setTop (entryFrame m #[(.long q0), (.long q1), (.long q2), (.long q3), (.int p4)] maxLocals)) t := fun t k => pre30 t (by
              show Steps p.tables e below (T18.setTop (mkF m 117 #[.val (.long q0), .second, .val (.long q1), .second, .val (.long q2), .second, .val (.long q3), .second, .val (.int p4), .val (.int (p4 &&& (3 : Int32))), .val (.ref b1), .val (.long (own_max (-9223372036854775808 : Int64) q0)), .second, .unset, .unset] [(.int (lcmpW q0 q3))])) _
              refine XS.ifNo X18.here hx rfl (hb hby at_117) rfl ((if0 _ _).trans (flt (fun q => hc117_31 ((lw_gt _ _).mp q))).2.2.1) ?_
              show Steps p.tables e below (T18.setTop (mkF m 120 #[.val (.long q0), .second, .val (.long q1), .second, .val (.long q2), .second, .val (.long q3), .second, .val (.int p4), .val (.int (p4 &&& (3 : Int32))), .val (.ref b1), .val (.long (own_max (-9223372036854775808 : Int64) q0)), .second, .unset, .unset] [])) _
              refine XS.iload X18.here hx rfl (hb hby at_120) rfl ?_
              show Steps p.tables e below (T18.setTop (mkF m 122 #[.val (.long q0), .second, .val (.long q1), .second, .val (.long q2), .second, .val (.long q3), .second, .val (.int p4), .val (.int (p4 &&& (3 : Int32))), .val (.ref b1), .val (.long (own_max (-9223372036854775808 : Int64) q0)), .second, .unset, .unset] [(.int (p4 &&& (3 : Int32)))])) _
              refine XS.iconst X18.here hx rfl (hb hby at_122) ?_
              show Steps p.tables e below (T18.setTop (mkF m 123 #[.val (.long q0), .second, .val (.long q1), .second, .val (.long q2), .second, .val (.long q3), .second, .val (.int p4), .val (.int (p4 &&& (3 : Int32))), .val (.ref b1), .val (.long (own_max (-9223372036854775808 : Int64) q0)), .second, .unset, .unset] [(.int (2 : Int32)), (.int (p4 &&& (3 : Int32)))])) _
              refine XS.icmpYes X18.here hx rfl (pc0 := 123) (pc' := 133) rfl (hb hby at_123) rfl (tlt hc30_20).1 (by decide) (by decide) ?_
              show Steps p.tables e below (T18.setTop (mkF m 133 #[.val (.long q0), .second, .val (.long q1), .second, .val (.long q2), .second, .val (.long q3), .second, .val (.int p4), .val (.int (p4 &&& (3 : Int32))), .val (.ref b1), .val (.long (own_max (-9223372036854775808 : Int64) q0)), .second, .unset, .unset] [])) _
              refine XS.iload X18.here hx rfl (hb hby at_133) rfl ?_
              show Steps p.tables e below (T18.setTop (mkF m 135 #[.val (.long q0), .second, .val (.long q1), .second, .val (.long q2), .second, .val (.long q3), .second, .val (.int p4), .val (.int (p4 &&& (3 : Int32))), .val (.ref b1), .val (.long (own_max (-9223372036854775808 : Int64) q0)), .second, .unset, .unset] [(.int (p4 &&& (3 : Int32)))])) _
              refine XS.iconst X18.here hx rfl (hb hby at_135) ?_
              show Steps p.tables e below (T18.setTop (mkF m 136 #[.val (.long q0), .second, .val (.long q1), .second, .val (.long q2), .second, .val (.long q3), .second, .val (.int p4), .val (.int (p4 &&& (3 : Int32))), .val (.ref b1), .val (.long (own_max (-9223372036854775808 : Int64) q0)), .second, .unset, .unset] [(.int (3 : Int32)), (.int (p4 &&& (3 : Int32)))])) _
              refine XS.icmpYes X18.here hx rfl (pc0 := 136) (pc' := 151) rfl (hb hby at_136) rfl (tlt hc42_22).1 (by decide) (by decide) ?_
              show Steps p.tables e below (T18.setTop (mkF m 151 #[.val (.long q0), .second, .val (.long q1), .second, .val (.long q2), .second, .val (.long q3), .second, .val (.int p4), .val (.int (p4 &&& (3 : Int32))), .val (.ref b1), .val (.long (own_max (-9223372036854775808 : Int64) q0)), .second, .unset, .unset] [])) _
              refine XS.iconst X18.here hx rfl (hb hby at_151) ?_
              exact k)
            exact ⟨(0 : Int32), (own_n (by simp only [Int64.lt_iff_toInt_lt] at hc117_31 ⊢; omega)), pre33⟩
        subst hv29
        obtain ⟨cq34, kq34, q34a, q34b, q34c⟩ := isOf hZ rfl P18_0
        obtain ⟨_, _, ⟨T34, L34, k34, n34⟩, -, X34, ⟨Lc34, hQ34, l34, y34, z34⟩, st34⟩ := X18.virtualBack hx (y := (⟨"com/example/sensor_access_indicators/sensoraccessindicators/ShownAccesses", "isShownAt", "(J)Z"⟩ : MethodName)) (z := (⟨"com/example/sensor_access_indicators/sensoraccessindicators/ShownAccesses", "isShownAt", "(J)Z"⟩ : MethodName)) hown (mvT hZ (hw _ (List.mem_of_getElem? (i := 22) rfl))) (mvT hZ (hw _ (List.mem_of_getElem? (i := 23) rfl))) (notFace_of_selects (args := #[]) (mvT hZ (hw _ (List.mem_of_getElem? (i := 25) rfl)))) (mvT hZ (hw _ (List.mem_of_getElem? (i := 25) rfl))) (mvT hZ (hw _ (List.mem_of_getElem? (i := 24) rfl))) (by decide) (backOf (W := 0) (rm5 l Z a0 hw [] b1 q3 (own_max (-9223372036854775808 : Int64) q0) (0 : Int32) T18.heap n0 (Nat.le_trans (Nat.le_trans (Nat.le_trans Z0 E1.1) K2.1) K18.1) P18_1 P18_2) hZ (hw _ (List.mem_of_getElem? (i := 26) rfl)) (hw _ (List.mem_of_getElem? (i := 2) rfl)) (by decide) (by decide)) q34a q34c (g := (mkF m 158 #[.val (.long q0), .second, .val (.long q1), .second, .val (.long q2), .second, .val (.long q3), .second, .val (.int p4), .val (.int (p4 &&& (3 : Int32))), .val (.ref b1), .val (.long (own_max (-9223372036854775808 : Int64) q0)), .second, .val (.int (if (q3 < q0) then (1 : Int32) else 0)), .unset] [(.long q3), (.ref b1)])) rfl (by rw [hml]; rfl) (Steps.refl _) (argsL := [(.long q3)]) (rest := []) (lenOf pd_2 rfl) rfl (by show 2 * 0 + _ ≤ _; exact Nat.le_of_eq rfl) (hb hby at_158) (fun _ _ => ⟨rfl, rfl, (by decide : 1 + 0 ≤ _), (by decide : 2 + 0 ≤ _)⟩)
        dsimp only [Pt.U, Pt.locs, Pt.cells, Pt.slots] at X34 l34 y34 z34 st34 hQ34
        subst l34 y34 z34
        obtain ⟨rfl, N34q, hh34⟩ := hQ34
        have N34 := Fr.app N18 N34q
        obtain ⟨T35, X35, e35, st35⟩ := getF X34 hx hZ hown (host := "") (Or.inl (hw _ (List.mem_of_getElem? (i := 29) rfl))) Via.refl hh34 P18_1 (g := (mkF m 165 #[.val (.long q0), .second, .val (.long q1), .second, .val (.long q2), .second, .val (.long q3), .second, .val (.int p4), .val (.int (p4 &&& (3 : Int32))), .val (.ref b1), .val (.long (own_max (-9223372036854775808 : Int64) q0)), .second, .val (.int (if (q3 < q0) then (1 : Int32) else 0)), .val (.int (if ((0 : Int32) < (0 : Int32) ∨ q3 < (own_max (-9223372036854775808 : Int64) q0)) then (1 : Int32) else 0))] [(.ref b1)])) rfl rfl (hb hby at_165)
        obtain ⟨T36, X36, e36, st36⟩ := getF X35 hx hZ hown (host := "") (Or.inl (hw _ (List.mem_of_getElem? (i := 30) rfl))) Via.refl e35 P18_2 (g := (mkF m 176 #[.val (.long q0), .second, .val (.long q1), .second, .val (.long q2), .second, .val (.long q3), .second, .val (.int p4), .val (.int (p4 &&& (3 : Int32))), .val (.ref b1), .val (.long (own_max (-9223372036854775808 : Int64) q0)), .second, .val (.int (if (q3 < q0) then (1 : Int32) else 0)), .val (.int (if ((0 : Int32) < (0 : Int32) ∨ q3 < (own_max (-9223372036854775808 : Int64) q0)) then (1 : Int32) else 0))] [(.ref b1)])) rfl rfl (hb hby at_176)
        have pre37 : ∀ t, Steps p.tables e below (T36.setTop (mkF m 194 #[.val (.long q0), .second, .val (.long q1), .second, .val (.long q2), .second, .val (.long q3), .second, .val (.int p4), .val (.int (p4 &&& (3 : Int32))), .val (.ref b1), .val (.long (own_max (-9223372036854775808 : Int64) q0)), .second, .val (.int (if (q3 < q0) then (1 : Int32) else 0)), .val (.int (if ((0 : Int32) < (0 : Int32) ∨ q3 < (own_max (-9223372036854775808 : Int64) q0)) then (1 : Int32) else 0))] [(.int (1 : Int32))])) t → Steps p.tables e below (s₁.setTop (entryFrame m #[(.long q0), (.long q1), (.long q2), (.long q3), (.int p4)] maxLocals)) t := fun t k => prem29 t (by
          show Steps p.tables e below (T18.setTop (mkF m 152 #[.val (.long q0), .second, .val (.long q1), .second, .val (.long q2), .second, .val (.long q3), .second, .val (.int p4), .val (.int (p4 &&& (3 : Int32))), .val (.ref b1), .val (.long (own_max (-9223372036854775808 : Int64) q0)), .second, .unset, .unset] [(.int (if (q3 < q0) then (1 : Int32) else 0))])) _
          refine XS.istore X18.here hx rfl (hb hby at_152) rfl (l' := #[.val (.long q0), .second, .val (.long q1), .second, .val (.long q2), .second, .val (.long q3), .second, .val (.int p4), .val (.int (p4 &&& (3 : Int32))), .val (.ref b1), .val (.long (own_max (-9223372036854775808 : Int64) q0)), .second, .val (.int (if (q3 < q0) then (1 : Int32) else 0)), .unset]) rfl ?_
          show Steps p.tables e below (T18.setTop (mkF m 154 #[.val (.long q0), .second, .val (.long q1), .second, .val (.long q2), .second, .val (.long q3), .second, .val (.int p4), .val (.int (p4 &&& (3 : Int32))), .val (.ref b1), .val (.long (own_max (-9223372036854775808 : Int64) q0)), .second, .val (.int (if (q3 < q0) then (1 : Int32) else 0)), .unset] [])) _
          refine XS.aload X18.here hx rfl (hb hby at_154) rfl rfl ?_
          show Steps p.tables e below (T18.setTop (mkF m 156 #[.val (.long q0), .second, .val (.long q1), .second, .val (.long q2), .second, .val (.long q3), .second, .val (.int p4), .val (.int (p4 &&& (3 : Int32))), .val (.ref b1), .val (.long (own_max (-9223372036854775808 : Int64) q0)), .second, .val (.int (if (q3 < q0) then (1 : Int32) else 0)), .unset] [(.ref b1)])) _
          refine XS.lload X18.here hx rfl (hb hby at_156) rfl ?_
          show Steps p.tables e below (T18.setTop (mkF m 158 #[.val (.long q0), .second, .val (.long q1), .second, .val (.long q2), .second, .val (.long q3), .second, .val (.int p4), .val (.int (p4 &&& (3 : Int32))), .val (.ref b1), .val (.long (own_max (-9223372036854775808 : Int64) q0)), .second, .val (.int (if (q3 < q0) then (1 : Int32) else 0)), .unset] [(.long q3), (.ref b1)])) _
          refine st34.trans ?_
          show Steps p.tables e below (T34.setTop (mkF m 161 #[.val (.long q0), .second, .val (.long q1), .second, .val (.long q2), .second, .val (.long q3), .second, .val (.int p4), .val (.int (p4 &&& (3 : Int32))), .val (.ref b1), .val (.long (own_max (-9223372036854775808 : Int64) q0)), .second, .val (.int (if (q3 < q0) then (1 : Int32) else 0)), .unset] [(.int (if ((0 : Int32) < (0 : Int32) ∨ q3 < (own_max (-9223372036854775808 : Int64) q0)) then (1 : Int32) else 0))])) _
          refine XS.istore X34.here hx rfl (hb hby at_161) rfl (l' := #[.val (.long q0), .second, .val (.long q1), .second, .val (.long q2), .second, .val (.long q3), .second, .val (.int p4), .val (.int (p4 &&& (3 : Int32))), .val (.ref b1), .val (.long (own_max (-9223372036854775808 : Int64) q0)), .second, .val (.int (if (q3 < q0) then (1 : Int32) else 0)), .val (.int (if ((0 : Int32) < (0 : Int32) ∨ q3 < (own_max (-9223372036854775808 : Int64) q0)) then (1 : Int32) else 0))]) rfl ?_
          show Steps p.tables e below (T34.setTop (mkF m 163 #[.val (.long q0), .second, .val (.long q1), .second, .val (.long q2), .second, .val (.long q3), .second, .val (.int p4), .val (.int (p4 &&& (3 : Int32))), .val (.ref b1), .val (.long (own_max (-9223372036854775808 : Int64) q0)), .second, .val (.int (if (q3 < q0) then (1 : Int32) else 0)), .val (.int (if ((0 : Int32) < (0 : Int32) ∨ q3 < (own_max (-9223372036854775808 : Int64) q0)) then (1 : Int32) else 0))] [])) _
          refine XS.aload X34.here hx rfl (hb hby at_163) rfl rfl ?_
          show Steps p.tables e below (T34.setTop (mkF m 165 #[.val (.long q0), .second, .val (.long q1), .second, .val (.long q2), .second, .val (.long q3), .second, .val (.int p4), .val (.int (p4 &&& (3 : Int32))), .val (.ref b1), .val (.long (own_max (-9223372036854775808 : Int64) q0)), .second, .val (.int (if (q3 < q0) then (1 : Int32) else 0)), .val (.int (if ((0 : Int32) < (0 : Int32) ∨ q3 < (own_max (-9223372036854775808 : Int64) q0)) then (1 : Int32) else 0))] [(.ref b1)])) _
          refine st35 _ ?_
          show Steps p.tables e below (T35.setTop (mkF m 168 #[.val (.long q0), .second, .val (.long q1), .second, .val (.long q2), .second, .val (.long q3), .second, .val (.int p4), .val (.int (p4 &&& (3 : Int32))), .val (.ref b1), .val (.long (own_max (-9223372036854775808 : Int64) q0)), .second, .val (.int (if (q3 < q0) then (1 : Int32) else 0)), .val (.int (if ((0 : Int32) < (0 : Int32) ∨ q3 < (own_max (-9223372036854775808 : Int64) q0)) then (1 : Int32) else 0))] [(.long (own_max (-9223372036854775808 : Int64) q0))])) _
          refine XS.lload X35.here hx rfl (hb hby at_168) rfl ?_
          show Steps p.tables e below (T35.setTop (mkF m 170 #[.val (.long q0), .second, .val (.long q1), .second, .val (.long q2), .second, .val (.long q3), .second, .val (.int p4), .val (.int (p4 &&& (3 : Int32))), .val (.ref b1), .val (.long (own_max (-9223372036854775808 : Int64) q0)), .second, .val (.int (if (q3 < q0) then (1 : Int32) else 0)), .val (.int (if ((0 : Int32) < (0 : Int32) ∨ q3 < (own_max (-9223372036854775808 : Int64) q0)) then (1 : Int32) else 0))] [(.long (own_max (-9223372036854775808 : Int64) q0)), (.long (own_max (-9223372036854775808 : Int64) q0))])) _
          refine XS.lcmp X35.here hx rfl (hb hby at_170) rfl ?_
          show Steps p.tables e below (T35.setTop (mkF m 171 #[.val (.long q0), .second, .val (.long q1), .second, .val (.long q2), .second, .val (.long q3), .second, .val (.int p4), .val (.int (p4 &&& (3 : Int32))), .val (.ref b1), .val (.long (own_max (-9223372036854775808 : Int64) q0)), .second, .val (.int (if (q3 < q0) then (1 : Int32) else 0)), .val (.int (if ((0 : Int32) < (0 : Int32) ∨ q3 < (own_max (-9223372036854775808 : Int64) q0)) then (1 : Int32) else 0))] [(.int (lcmpW (own_max (-9223372036854775808 : Int64) q0) (own_max (-9223372036854775808 : Int64) q0)))])) _
          refine XS.ifNo X35.here hx rfl (hb hby at_171) rfl ((if0 _ _).trans (teq ((lw_eq _ _).mpr rfl)).2) ?_
          show Steps p.tables e below (T35.setTop (mkF m 174 #[.val (.long q0), .second, .val (.long q1), .second, .val (.long q2), .second, .val (.long q3), .second, .val (.int p4), .val (.int (p4 &&& (3 : Int32))), .val (.ref b1), .val (.long (own_max (-9223372036854775808 : Int64) q0)), .second, .val (.int (if (q3 < q0) then (1 : Int32) else 0)), .val (.int (if ((0 : Int32) < (0 : Int32) ∨ q3 < (own_max (-9223372036854775808 : Int64) q0)) then (1 : Int32) else 0))] [])) _
          refine XS.aload X35.here hx rfl (hb hby at_174) rfl rfl ?_
          show Steps p.tables e below (T35.setTop (mkF m 176 #[.val (.long q0), .second, .val (.long q1), .second, .val (.long q2), .second, .val (.long q3), .second, .val (.int p4), .val (.int (p4 &&& (3 : Int32))), .val (.ref b1), .val (.long (own_max (-9223372036854775808 : Int64) q0)), .second, .val (.int (if (q3 < q0) then (1 : Int32) else 0)), .val (.int (if ((0 : Int32) < (0 : Int32) ∨ q3 < (own_max (-9223372036854775808 : Int64) q0)) then (1 : Int32) else 0))] [(.ref b1)])) _
          refine st36 _ ?_
          show Steps p.tables e below (T36.setTop (mkF m 179 #[.val (.long q0), .second, .val (.long q1), .second, .val (.long q2), .second, .val (.long q3), .second, .val (.int p4), .val (.int (p4 &&& (3 : Int32))), .val (.ref b1), .val (.long (own_max (-9223372036854775808 : Int64) q0)), .second, .val (.int (if (q3 < q0) then (1 : Int32) else 0)), .val (.int (if ((0 : Int32) < (0 : Int32) ∨ q3 < (own_max (-9223372036854775808 : Int64) q0)) then (1 : Int32) else 0))] [(.int (0 : Int32))])) _
          refine XS.ifNo X36.here hx rfl (hb hby at_179) rfl ((if0 _ _).trans (teq (by decide : (0 : Int32) = (0 : Int32))).2) ?_
          show Steps p.tables e below (T36.setTop (mkF m 182 #[.val (.long q0), .second, .val (.long q1), .second, .val (.long q2), .second, .val (.long q3), .second, .val (.int p4), .val (.int (p4 &&& (3 : Int32))), .val (.ref b1), .val (.long (own_max (-9223372036854775808 : Int64) q0)), .second, .val (.int (if (q3 < q0) then (1 : Int32) else 0)), .val (.int (if ((0 : Int32) < (0 : Int32) ∨ q3 < (own_max (-9223372036854775808 : Int64) q0)) then (1 : Int32) else 0))] [])) _
          refine XS.iload X36.here hx rfl (hb hby at_182) rfl ?_
          show Steps p.tables e below (T36.setTop (mkF m 184 #[.val (.long q0), .second, .val (.long q1), .second, .val (.long q2), .second, .val (.long q3), .second, .val (.int p4), .val (.int (p4 &&& (3 : Int32))), .val (.ref b1), .val (.long (own_max (-9223372036854775808 : Int64) q0)), .second, .val (.int (if (q3 < q0) then (1 : Int32) else 0)), .val (.int (if ((0 : Int32) < (0 : Int32) ∨ q3 < (own_max (-9223372036854775808 : Int64) q0)) then (1 : Int32) else 0))] [(.int (if ((0 : Int32) < (0 : Int32) ∨ q3 < (own_max (-9223372036854775808 : Int64) q0)) then (1 : Int32) else 0))])) _
          refine XS.iload X36.here hx rfl (hb hby at_184) rfl ?_
          show Steps p.tables e below (T36.setTop (mkF m 186 #[.val (.long q0), .second, .val (.long q1), .second, .val (.long q2), .second, .val (.long q3), .second, .val (.int p4), .val (.int (p4 &&& (3 : Int32))), .val (.ref b1), .val (.long (own_max (-9223372036854775808 : Int64) q0)), .second, .val (.int (if (q3 < q0) then (1 : Int32) else 0)), .val (.int (if ((0 : Int32) < (0 : Int32) ∨ q3 < (own_max (-9223372036854775808 : Int64) q0)) then (1 : Int32) else 0))] [(.int (if (q3 < q0) then (1 : Int32) else 0)), (.int (if ((0 : Int32) < (0 : Int32) ∨ q3 < (own_max (-9223372036854775808 : Int64) q0)) then (1 : Int32) else 0))])) _
          refine XS.icmpNo X36.here hx rfl (hb hby at_186) rfl (teq (own_bb (by simp only [own_max_toInt, Int32.lt_iff_toInt_lt, Int64.lt_iff_toInt_lt, Int32.reduceToInt, Int64.reduceToInt]; have r := rng64 q3; omega : (((0 : Int32) < (0 : Int32) ∨ q3 < (own_max (-9223372036854775808 : Int64) q0)) ↔ (q3 < q0))))).2 ?_
          show Steps p.tables e below (T36.setTop (mkF m 189 #[.val (.long q0), .second, .val (.long q1), .second, .val (.long q2), .second, .val (.long q3), .second, .val (.int p4), .val (.int (p4 &&& (3 : Int32))), .val (.ref b1), .val (.long (own_max (-9223372036854775808 : Int64) q0)), .second, .val (.int (if (q3 < q0) then (1 : Int32) else 0)), .val (.int (if ((0 : Int32) < (0 : Int32) ∨ q3 < (own_max (-9223372036854775808 : Int64) q0)) then (1 : Int32) else 0))] [])) _
          refine XS.iconst X36.here hx rfl (hb hby at_189) ?_
          show Steps p.tables e below (T36.setTop (mkF m 190 #[.val (.long q0), .second, .val (.long q1), .second, .val (.long q2), .second, .val (.long q3), .second, .val (.int p4), .val (.int (p4 &&& (3 : Int32))), .val (.ref b1), .val (.long (own_max (-9223372036854775808 : Int64) q0)), .second, .val (.int (if (q3 < q0) then (1 : Int32) else 0)), .val (.int (if ((0 : Int32) < (0 : Int32) ∨ q3 < (own_max (-9223372036854775808 : Int64) q0)) then (1 : Int32) else 0))] [(.int (1 : Int32))])) _
          refine XS.goto X36.here hx rfl (pc0 := 190) (pc' := 194) rfl (hb hby at_190) (by decide) (by decide) ?_
          exact k)
        obtain ⟨fs, hr, hrun, hended, hW, hsame⟩ := X36.leave (v := some (.int (1 : Int32))) (fun h => by rw [Bd.returns] at h; cases h)
        refine ⟨_, _, pre37 _ ?_, hrun, hended, _, _, rfl, ?_, ⟨_, rfl⟩, hW, hsame.mono (by decide) (by decide)⟩
        · exact retN X36 hx (t := .boolean) Bd.returns (by simp) (hb hby at_194) hr
        · show Q0 Z q0 q1 q2 q3 p4 h0 n0 _ T36.heap _
          rw [e36]
          exact ⟨rfl, N34⟩
      · exact absurd hc30_20 (by simp only [Int32.lt_iff_toInt_lt, Int32.reduceToInt] at hc42_22 ⊢; omega)
    · obtain ⟨cq38, kq38, q38a, q38b, q38c⟩ := isOf hZ rfl P18_0
      obtain ⟨_, _, ⟨T38, L38, k38, n38⟩, -, X38, ⟨Lc38, hQ38, l38, y38, z38⟩, st38⟩ := X18.virtualBack hx (y := (⟨"com/example/sensor_access_indicators/sensoraccessindicators/ShownAccesses", "show", "(J)V"⟩ : MethodName)) (z := (⟨"com/example/sensor_access_indicators/sensoraccessindicators/ShownAccesses", "show", "(J)V"⟩ : MethodName)) hown (mvT hZ (hw _ (List.mem_of_getElem? (i := 12) rfl))) (mvT hZ (hw _ (List.mem_of_getElem? (i := 13) rfl))) (notFace_of_selects (args := #[]) (mvT hZ (hw _ (List.mem_of_getElem? (i := 15) rfl)))) (mvT hZ (hw _ (List.mem_of_getElem? (i := 15) rfl))) (mvT hZ (hw _ (List.mem_of_getElem? (i := 14) rfl))) (by decide) (backOf (W := 0) (rm3 l Z a0 hw [] b1 q1 (own_max (-9223372036854775808 : Int64) q0) (0 : Int32) T18.heap n0 (Nat.le_trans (Nat.le_trans (Nat.le_trans Z0 E1.1) K2.1) K18.1) P18_1 P18_2 P18_0 g_b1) hZ (hw _ (List.mem_of_getElem? (i := 16) rfl)) (hw _ (List.mem_of_getElem? (i := 2) rfl)) (by decide) (by decide)) q38a q38c (g := (mkF m 36 #[.val (.long q0), .second, .val (.long q1), .second, .val (.long q2), .second, .val (.long q3), .second, .val (.int p4), .val (.int (p4 &&& (3 : Int32))), .val (.ref b1), .unset, .unset, .unset, .unset] [(.long q1), (.ref b1)])) rfl (by rw [hml]; rfl) (Steps.refl _) (argsL := [(.long q1)]) (rest := []) (lenOf pd_3 rfl) rfl (by show 2 * 0 + _ ≤ _; exact Nat.le_of_eq rfl) (hb hby at_36) (fun _ _ => ⟨rfl, rfl, (by decide : 1 + 0 ≤ _), (by decide : 2 + 0 ≤ _)⟩)
      dsimp only [Pt.U, Pt.locs, Pt.cells, Pt.slots] at X38 l38 y38 z38 st38 hQ38
      subst l38 y38 z38
      obtain ⟨rfl, N38q, K38, P38_0, P38_1, P38_2⟩ := hQ38
      have N38 := Fr.app N18 N38q
      have KK38 : Keep h0 T38.heap [] := KK18.trans K38 (allS (Or.inr sz_b1) all0)
      have pre39 : ∀ t, Steps p.tables e below (T38.setTop (mkF m 42 #[.val (.long q0), .second, .val (.long q1), .second, .val (.long q2), .second, .val (.long q3), .second, .val (.int p4), .val (.int (p4 &&& (3 : Int32))), .val (.ref b1), .unset, .unset, .unset, .unset] [(.int (3 : Int32)), (.int (p4 &&& (3 : Int32)))])) t → Steps p.tables e below (s₁.setTop (entryFrame m #[(.long q0), (.long q1), (.long q2), (.long q3), (.int p4)] maxLocals)) t := fun t k => pre19 t (by
        show Steps p.tables e below (T18.setTop (mkF m 30 #[.val (.long q0), .second, .val (.long q1), .second, .val (.long q2), .second, .val (.long q3), .second, .val (.int p4), .val (.int (p4 &&& (3 : Int32))), .val (.ref b1), .unset, .unset, .unset, .unset] [(.int (2 : Int32)), (.int (p4 &&& (3 : Int32)))])) _
        refine XS.icmpNo X18.here hx rfl (hb hby at_30) rfl (flt hc30_20).1 ?_
        show Steps p.tables e below (T18.setTop (mkF m 33 #[.val (.long q0), .second, .val (.long q1), .second, .val (.long q2), .second, .val (.long q3), .second, .val (.int p4), .val (.int (p4 &&& (3 : Int32))), .val (.ref b1), .unset, .unset, .unset, .unset] [])) _
        refine XS.aload X18.here hx rfl (hb hby at_33) rfl rfl ?_
        show Steps p.tables e below (T18.setTop (mkF m 35 #[.val (.long q0), .second, .val (.long q1), .second, .val (.long q2), .second, .val (.long q3), .second, .val (.int p4), .val (.int (p4 &&& (3 : Int32))), .val (.ref b1), .unset, .unset, .unset, .unset] [(.ref b1)])) _
        refine XS.lloadN X18.here hx rfl (hb hby at_35) rfl ?_
        show Steps p.tables e below (T18.setTop (mkF m 36 #[.val (.long q0), .second, .val (.long q1), .second, .val (.long q2), .second, .val (.long q3), .second, .val (.int p4), .val (.int (p4 &&& (3 : Int32))), .val (.ref b1), .unset, .unset, .unset, .unset] [(.long q1), (.ref b1)])) _
        refine st38.trans ?_
        show Steps p.tables e below (T38.setTop (mkF m 39 #[.val (.long q0), .second, .val (.long q1), .second, .val (.long q2), .second, .val (.long q3), .second, .val (.int p4), .val (.int (p4 &&& (3 : Int32))), .val (.ref b1), .unset, .unset, .unset, .unset] [])) _
        refine XS.iload X38.here hx rfl (hb hby at_39) rfl ?_
        show Steps p.tables e below (T38.setTop (mkF m 41 #[.val (.long q0), .second, .val (.long q1), .second, .val (.long q2), .second, .val (.long q3), .second, .val (.int p4), .val (.int (p4 &&& (3 : Int32))), .val (.ref b1), .unset, .unset, .unset, .unset] [(.int (p4 &&& (3 : Int32)))])) _
        refine XS.iconst X38.here hx rfl (hb hby at_41) ?_
        exact k)
      by_cases hc42_40 : (p4 &&& (3 : Int32)) < (3 : Int32)
      · have pre41 : ∀ t, Steps p.tables e below (T38.setTop (mkF m 57 #[.val (.long q0), .second, .val (.long q1), .second, .val (.long q2), .second, .val (.long q3), .second, .val (.int p4), .val (.int (p4 &&& (3 : Int32))), .val (.ref b1), .val (.long (-9223372036854775808 : Int64)), .second, .unset, .unset] [])) t → Steps p.tables e below (s₁.setTop (entryFrame m #[(.long q0), (.long q1), (.long q2), (.long q3), (.int p4)] maxLocals)) t := fun t k => pre39 t (by
          show Steps p.tables e below (T38.setTop (mkF m 42 #[.val (.long q0), .second, .val (.long q1), .second, .val (.long q2), .second, .val (.long q3), .second, .val (.int p4), .val (.int (p4 &&& (3 : Int32))), .val (.ref b1), .unset, .unset, .unset, .unset] [(.int (3 : Int32)), (.int (p4 &&& (3 : Int32)))])) _
          refine XS.icmpYes X38.here hx rfl (pc0 := 42) (pc' := 52) rfl (hb hby at_42) rfl (tlt hc42_40).1 (by decide) (by decide) ?_
          show Steps p.tables e below (T38.setTop (mkF m 52 #[.val (.long q0), .second, .val (.long q1), .second, .val (.long q2), .second, .val (.long q3), .second, .val (.int p4), .val (.int (p4 &&& (3 : Int32))), .val (.ref b1), .unset, .unset, .unset, .unset] [])) _
          refine X38.ldc2Long hx hown (mvT hZ (hw _ (List.mem_of_getElem? (i := 21) rfl))) (g := (mkF m 52 #[.val (.long q0), .second, .val (.long q1), .second, .val (.long q2), .second, .val (.long q3), .second, .val (.int p4), .val (.int (p4 &&& (3 : Int32))), .val (.ref b1), .unset, .unset, .unset, .unset] [])) rfl (hb hby at_52) _ ?_
          show Steps p.tables e below (T38.setTop (mkF m 55 #[.val (.long q0), .second, .val (.long q1), .second, .val (.long q2), .second, .val (.long q3), .second, .val (.int p4), .val (.int (p4 &&& (3 : Int32))), .val (.ref b1), .unset, .unset, .unset, .unset] [(.long (-9223372036854775808 : Int64))])) _
          refine XS.lstore X38.here hx rfl (hb hby at_55) rfl (l' := #[.val (.long q0), .second, .val (.long q1), .second, .val (.long q2), .second, .val (.long q3), .second, .val (.int p4), .val (.int (p4 &&& (3 : Int32))), .val (.ref b1), .val (.long (-9223372036854775808 : Int64)), .second, .unset, .unset]) rfl ?_
          exact k)
        obtain ⟨v42_0, hv42, prem42⟩ : ∃ (v42_0 : Int64), v42_0 = (own_max (own_max (-9223372036854775808 : Int64) q0) q1) ∧ ∀ t, Steps p.tables e below (T38.setTop (mkF m 107 #[.val (.long q0), .second, .val (.long q1), .second, .val (.long q2), .second, .val (.long q3), .second, .val (.int p4), .val (.int (p4 &&& (3 : Int32))), .val (.ref b1), .val (.long v42_0), .second, .unset, .unset] [])) t → Steps p.tables e below (s₁.setTop (entryFrame m #[(.long q0), (.long q1), (.long q2), (.long q3), (.int p4)] maxLocals)) t := by
          have pre43 : ∀ t, Steps p.tables e below (T38.setTop (mkF m 67 #[.val (.long q0), .second, .val (.long q1), .second, .val (.long q2), .second, .val (.long q3), .second, .val (.int p4), .val (.int (p4 &&& (3 : Int32))), .val (.ref b1), .val (.long (-9223372036854775808 : Int64)), .second, .unset, .unset] [(.int (lcmpW q0 (-9223372036854775808 : Int64)))])) t → Steps p.tables e below (s₁.setTop (entryFrame m #[(.long q0), (.long q1), (.long q2), (.long q3), (.int p4)] maxLocals)) t := fun t k => pre41 t (by
            show Steps p.tables e below (T38.setTop (mkF m 57 #[.val (.long q0), .second, .val (.long q1), .second, .val (.long q2), .second, .val (.long q3), .second, .val (.int p4), .val (.int (p4 &&& (3 : Int32))), .val (.ref b1), .val (.long (-9223372036854775808 : Int64)), .second, .unset, .unset] [])) _
            refine XS.iload X38.here hx rfl (hb hby at_57) rfl ?_
            show Steps p.tables e below (T38.setTop (mkF m 59 #[.val (.long q0), .second, .val (.long q1), .second, .val (.long q2), .second, .val (.long q3), .second, .val (.int p4), .val (.int (p4 &&& (3 : Int32))), .val (.ref b1), .val (.long (-9223372036854775808 : Int64)), .second, .unset, .unset] [(.int (p4 &&& (3 : Int32)))])) _
            refine XS.iconst X38.here hx rfl (hb hby at_59) ?_
            show Steps p.tables e below (T38.setTop (mkF m 60 #[.val (.long q0), .second, .val (.long q1), .second, .val (.long q2), .second, .val (.long q3), .second, .val (.int p4), .val (.int (p4 &&& (3 : Int32))), .val (.ref b1), .val (.long (-9223372036854775808 : Int64)), .second, .unset, .unset] [(.int (1 : Int32)), (.int (p4 &&& (3 : Int32)))])) _
            refine XS.icmpNo X38.here hx rfl (hb hby at_60) rfl (flt hc18_4).1 ?_
            show Steps p.tables e below (T38.setTop (mkF m 63 #[.val (.long q0), .second, .val (.long q1), .second, .val (.long q2), .second, .val (.long q3), .second, .val (.int p4), .val (.int (p4 &&& (3 : Int32))), .val (.ref b1), .val (.long (-9223372036854775808 : Int64)), .second, .unset, .unset] [])) _
            refine XS.lloadN X38.here hx rfl (hb hby at_63) rfl ?_
            show Steps p.tables e below (T38.setTop (mkF m 64 #[.val (.long q0), .second, .val (.long q1), .second, .val (.long q2), .second, .val (.long q3), .second, .val (.int p4), .val (.int (p4 &&& (3 : Int32))), .val (.ref b1), .val (.long (-9223372036854775808 : Int64)), .second, .unset, .unset] [(.long q0)])) _
            refine XS.lload X38.here hx rfl (hb hby at_64) rfl ?_
            show Steps p.tables e below (T38.setTop (mkF m 66 #[.val (.long q0), .second, .val (.long q1), .second, .val (.long q2), .second, .val (.long q3), .second, .val (.int p4), .val (.int (p4 &&& (3 : Int32))), .val (.ref b1), .val (.long (-9223372036854775808 : Int64)), .second, .unset, .unset] [(.long (-9223372036854775808 : Int64)), (.long q0)])) _
            refine XS.lcmp X38.here hx rfl (hb hby at_66) rfl ?_
            exact k)
          by_cases hc67_44 : (-9223372036854775808 : Int64) < q0
          · have pre45 : ∀ t, Steps p.tables e below (T38.setTop (mkF m 83 #[.val (.long q0), .second, .val (.long q1), .second, .val (.long q2), .second, .val (.long q3), .second, .val (.int p4), .val (.int (p4 &&& (3 : Int32))), .val (.ref b1), .val (.long q0), .second, .unset, .unset] [(.int (lcmpW q1 q0))])) t → Steps p.tables e below (s₁.setTop (entryFrame m #[(.long q0), (.long q1), (.long q2), (.long q3), (.int p4)] maxLocals)) t := fun t k => pre43 t (by
              show Steps p.tables e below (T38.setTop (mkF m 67 #[.val (.long q0), .second, .val (.long q1), .second, .val (.long q2), .second, .val (.long q3), .second, .val (.int p4), .val (.int (p4 &&& (3 : Int32))), .val (.ref b1), .val (.long (-9223372036854775808 : Int64)), .second, .unset, .unset] [(.int (lcmpW q0 (-9223372036854775808 : Int64)))])) _
              refine XS.ifNo X38.here hx rfl (hb hby at_67) rfl ((if0 _ _).trans (tlt ((lw_gt _ _).mpr hc67_44)).2.2.2) ?_
              show Steps p.tables e below (T38.setTop (mkF m 70 #[.val (.long q0), .second, .val (.long q1), .second, .val (.long q2), .second, .val (.long q3), .second, .val (.int p4), .val (.int (p4 &&& (3 : Int32))), .val (.ref b1), .val (.long (-9223372036854775808 : Int64)), .second, .unset, .unset] [])) _
              refine XS.lloadN X38.here hx rfl (hb hby at_70) rfl ?_
              show Steps p.tables e below (T38.setTop (mkF m 71 #[.val (.long q0), .second, .val (.long q1), .second, .val (.long q2), .second, .val (.long q3), .second, .val (.int p4), .val (.int (p4 &&& (3 : Int32))), .val (.ref b1), .val (.long (-9223372036854775808 : Int64)), .second, .unset, .unset] [(.long q0)])) _
              refine XS.lstore X38.here hx rfl (hb hby at_71) rfl (l' := #[.val (.long q0), .second, .val (.long q1), .second, .val (.long q2), .second, .val (.long q3), .second, .val (.int p4), .val (.int (p4 &&& (3 : Int32))), .val (.ref b1), .val (.long q0), .second, .unset, .unset]) rfl ?_
              show Steps p.tables e below (T38.setTop (mkF m 73 #[.val (.long q0), .second, .val (.long q1), .second, .val (.long q2), .second, .val (.long q3), .second, .val (.int p4), .val (.int (p4 &&& (3 : Int32))), .val (.ref b1), .val (.long q0), .second, .unset, .unset] [])) _
              refine XS.iload X38.here hx rfl (hb hby at_73) rfl ?_
              show Steps p.tables e below (T38.setTop (mkF m 75 #[.val (.long q0), .second, .val (.long q1), .second, .val (.long q2), .second, .val (.long q3), .second, .val (.int p4), .val (.int (p4 &&& (3 : Int32))), .val (.ref b1), .val (.long q0), .second, .unset, .unset] [(.int (p4 &&& (3 : Int32)))])) _
              refine XS.iconst X38.here hx rfl (hb hby at_75) ?_
              show Steps p.tables e below (T38.setTop (mkF m 76 #[.val (.long q0), .second, .val (.long q1), .second, .val (.long q2), .second, .val (.long q3), .second, .val (.int p4), .val (.int (p4 &&& (3 : Int32))), .val (.ref b1), .val (.long q0), .second, .unset, .unset] [(.int (2 : Int32)), (.int (p4 &&& (3 : Int32)))])) _
              refine XS.icmpNo X38.here hx rfl (hb hby at_76) rfl (flt hc30_20).1 ?_
              show Steps p.tables e below (T38.setTop (mkF m 79 #[.val (.long q0), .second, .val (.long q1), .second, .val (.long q2), .second, .val (.long q3), .second, .val (.int p4), .val (.int (p4 &&& (3 : Int32))), .val (.ref b1), .val (.long q0), .second, .unset, .unset] [])) _
              refine XS.lloadN X38.here hx rfl (hb hby at_79) rfl ?_
              show Steps p.tables e below (T38.setTop (mkF m 80 #[.val (.long q0), .second, .val (.long q1), .second, .val (.long q2), .second, .val (.long q3), .second, .val (.int p4), .val (.int (p4 &&& (3 : Int32))), .val (.ref b1), .val (.long q0), .second, .unset, .unset] [(.long q1)])) _
              refine XS.lload X38.here hx rfl (hb hby at_80) rfl ?_
              show Steps p.tables e below (T38.setTop (mkF m 82 #[.val (.long q0), .second, .val (.long q1), .second, .val (.long q2), .second, .val (.long q3), .second, .val (.int p4), .val (.int (p4 &&& (3 : Int32))), .val (.ref b1), .val (.long q0), .second, .unset, .unset] [(.long q0), (.long q1)])) _
              refine XS.lcmp X38.here hx rfl (hb hby at_82) rfl ?_
              exact k)
            by_cases hc83_46 : q0 < q1
            · have pre47 : ∀ t, Steps p.tables e below (T38.setTop (mkF m 107 #[.val (.long q0), .second, .val (.long q1), .second, .val (.long q2), .second, .val (.long q3), .second, .val (.int p4), .val (.int (p4 &&& (3 : Int32))), .val (.ref b1), .val (.long q1), .second, .unset, .unset] [])) t → Steps p.tables e below (s₁.setTop (entryFrame m #[(.long q0), (.long q1), (.long q2), (.long q3), (.int p4)] maxLocals)) t := fun t k => pre45 t (by
                show Steps p.tables e below (T38.setTop (mkF m 83 #[.val (.long q0), .second, .val (.long q1), .second, .val (.long q2), .second, .val (.long q3), .second, .val (.int p4), .val (.int (p4 &&& (3 : Int32))), .val (.ref b1), .val (.long q0), .second, .unset, .unset] [(.int (lcmpW q1 q0))])) _
                refine XS.ifNo X38.here hx rfl (hb hby at_83) rfl ((if0 _ _).trans (tlt ((lw_gt _ _).mpr hc83_46)).2.2.2) ?_
                show Steps p.tables e below (T38.setTop (mkF m 86 #[.val (.long q0), .second, .val (.long q1), .second, .val (.long q2), .second, .val (.long q3), .second, .val (.int p4), .val (.int (p4 &&& (3 : Int32))), .val (.ref b1), .val (.long q0), .second, .unset, .unset] [])) _
                refine XS.lloadN X38.here hx rfl (hb hby at_86) rfl ?_
                show Steps p.tables e below (T38.setTop (mkF m 87 #[.val (.long q0), .second, .val (.long q1), .second, .val (.long q2), .second, .val (.long q3), .second, .val (.int p4), .val (.int (p4 &&& (3 : Int32))), .val (.ref b1), .val (.long q0), .second, .unset, .unset] [(.long q1)])) _
                refine XS.lstore X38.here hx rfl (hb hby at_87) rfl (l' := #[.val (.long q0), .second, .val (.long q1), .second, .val (.long q2), .second, .val (.long q3), .second, .val (.int p4), .val (.int (p4 &&& (3 : Int32))), .val (.ref b1), .val (.long q1), .second, .unset, .unset]) rfl ?_
                show Steps p.tables e below (T38.setTop (mkF m 89 #[.val (.long q0), .second, .val (.long q1), .second, .val (.long q2), .second, .val (.long q3), .second, .val (.int p4), .val (.int (p4 &&& (3 : Int32))), .val (.ref b1), .val (.long q1), .second, .unset, .unset] [])) _
                refine XS.iload X38.here hx rfl (hb hby at_89) rfl ?_
                show Steps p.tables e below (T38.setTop (mkF m 91 #[.val (.long q0), .second, .val (.long q1), .second, .val (.long q2), .second, .val (.long q3), .second, .val (.int p4), .val (.int (p4 &&& (3 : Int32))), .val (.ref b1), .val (.long q1), .second, .unset, .unset] [(.int (p4 &&& (3 : Int32)))])) _
                refine XS.iconst X38.here hx rfl (hb hby at_91) ?_
                show Steps p.tables e below (T38.setTop (mkF m 92 #[.val (.long q0), .second, .val (.long q1), .second, .val (.long q2), .second, .val (.long q3), .second, .val (.int p4), .val (.int (p4 &&& (3 : Int32))), .val (.ref b1), .val (.long q1), .second, .unset, .unset] [(.int (3 : Int32)), (.int (p4 &&& (3 : Int32)))])) _
                refine XS.icmpYes X38.here hx rfl (pc0 := 92) (pc' := 107) rfl (hb hby at_92) rfl (tlt hc42_40).1 (by decide) (by decide) ?_
                exact k)
              exact ⟨q1, (own_eq (by simp only [own_max_toInt, Int64.lt_iff_toInt_lt, Int64.reduceToInt] at hc67_44 hc83_46 ⊢; have r0 := rng64 q0; have r1 := rng64 q1; have r2 := rng64 q2; omega)), pre47⟩
            · have pre48 : ∀ t, Steps p.tables e below (T38.setTop (mkF m 107 #[.val (.long q0), .second, .val (.long q1), .second, .val (.long q2), .second, .val (.long q3), .second, .val (.int p4), .val (.int (p4 &&& (3 : Int32))), .val (.ref b1), .val (.long q0), .second, .unset, .unset] [])) t → Steps p.tables e below (s₁.setTop (entryFrame m #[(.long q0), (.long q1), (.long q2), (.long q3), (.int p4)] maxLocals)) t := fun t k => pre45 t (by
                show Steps p.tables e below (T38.setTop (mkF m 83 #[.val (.long q0), .second, .val (.long q1), .second, .val (.long q2), .second, .val (.long q3), .second, .val (.int p4), .val (.int (p4 &&& (3 : Int32))), .val (.ref b1), .val (.long q0), .second, .unset, .unset] [(.int (lcmpW q1 q0))])) _
                refine XS.ifYes X38.here hx rfl (pc0 := 83) (pc' := 89) rfl (hb hby at_83) rfl ((if0 _ _).trans (flt (fun q => hc83_46 ((lw_gt _ _).mp q))).2.2.2) (by decide) (by decide) ?_
                show Steps p.tables e below (T38.setTop (mkF m 89 #[.val (.long q0), .second, .val (.long q1), .second, .val (.long q2), .second, .val (.long q3), .second, .val (.int p4), .val (.int (p4 &&& (3 : Int32))), .val (.ref b1), .val (.long q0), .second, .unset, .unset] [])) _
                refine XS.iload X38.here hx rfl (hb hby at_89) rfl ?_
                show Steps p.tables e below (T38.setTop (mkF m 91 #[.val (.long q0), .second, .val (.long q1), .second, .val (.long q2), .second, .val (.long q3), .second, .val (.int p4), .val (.int (p4 &&& (3 : Int32))), .val (.ref b1), .val (.long q0), .second, .unset, .unset] [(.int (p4 &&& (3 : Int32)))])) _
                refine XS.iconst X38.here hx rfl (hb hby at_91) ?_
                show Steps p.tables e below (T38.setTop (mkF m 92 #[.val (.long q0), .second, .val (.long q1), .second, .val (.long q2), .second, .val (.long q3), .second, .val (.int p4), .val (.int (p4 &&& (3 : Int32))), .val (.ref b1), .val (.long q0), .second, .unset, .unset] [(.int (3 : Int32)), (.int (p4 &&& (3 : Int32)))])) _
                refine XS.icmpYes X38.here hx rfl (pc0 := 92) (pc' := 107) rfl (hb hby at_92) rfl (tlt hc42_40).1 (by decide) (by decide) ?_
                exact k)
              exact ⟨q0, (own_eq (by simp only [own_max_toInt, Int64.lt_iff_toInt_lt, Int64.reduceToInt] at hc67_44 hc83_46 ⊢; have r0 := rng64 q0; have r1 := rng64 q1; have r2 := rng64 q2; omega)), pre48⟩
          · have pre49 : ∀ t, Steps p.tables e below (T38.setTop (mkF m 83 #[.val (.long q0), .second, .val (.long q1), .second, .val (.long q2), .second, .val (.long q3), .second, .val (.int p4), .val (.int (p4 &&& (3 : Int32))), .val (.ref b1), .val (.long (-9223372036854775808 : Int64)), .second, .unset, .unset] [(.int (lcmpW q1 (-9223372036854775808 : Int64)))])) t → Steps p.tables e below (s₁.setTop (entryFrame m #[(.long q0), (.long q1), (.long q2), (.long q3), (.int p4)] maxLocals)) t := fun t k => pre43 t (by
              show Steps p.tables e below (T38.setTop (mkF m 67 #[.val (.long q0), .second, .val (.long q1), .second, .val (.long q2), .second, .val (.long q3), .second, .val (.int p4), .val (.int (p4 &&& (3 : Int32))), .val (.ref b1), .val (.long (-9223372036854775808 : Int64)), .second, .unset, .unset] [(.int (lcmpW q0 (-9223372036854775808 : Int64)))])) _
              refine XS.ifYes X38.here hx rfl (pc0 := 67) (pc' := 73) rfl (hb hby at_67) rfl ((if0 _ _).trans (flt (fun q => hc67_44 ((lw_gt _ _).mp q))).2.2.2) (by decide) (by decide) ?_
              show Steps p.tables e below (T38.setTop (mkF m 73 #[.val (.long q0), .second, .val (.long q1), .second, .val (.long q2), .second, .val (.long q3), .second, .val (.int p4), .val (.int (p4 &&& (3 : Int32))), .val (.ref b1), .val (.long (-9223372036854775808 : Int64)), .second, .unset, .unset] [])) _
              refine XS.iload X38.here hx rfl (hb hby at_73) rfl ?_
              show Steps p.tables e below (T38.setTop (mkF m 75 #[.val (.long q0), .second, .val (.long q1), .second, .val (.long q2), .second, .val (.long q3), .second, .val (.int p4), .val (.int (p4 &&& (3 : Int32))), .val (.ref b1), .val (.long (-9223372036854775808 : Int64)), .second, .unset, .unset] [(.int (p4 &&& (3 : Int32)))])) _
              refine XS.iconst X38.here hx rfl (hb hby at_75) ?_
              show Steps p.tables e below (T38.setTop (mkF m 76 #[.val (.long q0), .second, .val (.long q1), .second, .val (.long q2), .second, .val (.long q3), .second, .val (.int p4), .val (.int (p4 &&& (3 : Int32))), .val (.ref b1), .val (.long (-9223372036854775808 : Int64)), .second, .unset, .unset] [(.int (2 : Int32)), (.int (p4 &&& (3 : Int32)))])) _
              refine XS.icmpNo X38.here hx rfl (hb hby at_76) rfl (flt hc30_20).1 ?_
              show Steps p.tables e below (T38.setTop (mkF m 79 #[.val (.long q0), .second, .val (.long q1), .second, .val (.long q2), .second, .val (.long q3), .second, .val (.int p4), .val (.int (p4 &&& (3 : Int32))), .val (.ref b1), .val (.long (-9223372036854775808 : Int64)), .second, .unset, .unset] [])) _
              refine XS.lloadN X38.here hx rfl (hb hby at_79) rfl ?_
              show Steps p.tables e below (T38.setTop (mkF m 80 #[.val (.long q0), .second, .val (.long q1), .second, .val (.long q2), .second, .val (.long q3), .second, .val (.int p4), .val (.int (p4 &&& (3 : Int32))), .val (.ref b1), .val (.long (-9223372036854775808 : Int64)), .second, .unset, .unset] [(.long q1)])) _
              refine XS.lload X38.here hx rfl (hb hby at_80) rfl ?_
              show Steps p.tables e below (T38.setTop (mkF m 82 #[.val (.long q0), .second, .val (.long q1), .second, .val (.long q2), .second, .val (.long q3), .second, .val (.int p4), .val (.int (p4 &&& (3 : Int32))), .val (.ref b1), .val (.long (-9223372036854775808 : Int64)), .second, .unset, .unset] [(.long (-9223372036854775808 : Int64)), (.long q1)])) _
              refine XS.lcmp X38.here hx rfl (hb hby at_82) rfl ?_
              exact k)
            by_cases hc83_50 : (-9223372036854775808 : Int64) < q1
            · have pre51 : ∀ t, Steps p.tables e below (T38.setTop (mkF m 107 #[.val (.long q0), .second, .val (.long q1), .second, .val (.long q2), .second, .val (.long q3), .second, .val (.int p4), .val (.int (p4 &&& (3 : Int32))), .val (.ref b1), .val (.long q1), .second, .unset, .unset] [])) t → Steps p.tables e below (s₁.setTop (entryFrame m #[(.long q0), (.long q1), (.long q2), (.long q3), (.int p4)] maxLocals)) t := fun t k => pre49 t (by
                show Steps p.tables e below (T38.setTop (mkF m 83 #[.val (.long q0), .second, .val (.long q1), .second, .val (.long q2), .second, .val (.long q3), .second, .val (.int p4), .val (.int (p4 &&& (3 : Int32))), .val (.ref b1), .val (.long (-9223372036854775808 : Int64)), .second, .unset, .unset] [(.int (lcmpW q1 (-9223372036854775808 : Int64)))])) _
                refine XS.ifNo X38.here hx rfl (hb hby at_83) rfl ((if0 _ _).trans (tlt ((lw_gt _ _).mpr hc83_50)).2.2.2) ?_
                show Steps p.tables e below (T38.setTop (mkF m 86 #[.val (.long q0), .second, .val (.long q1), .second, .val (.long q2), .second, .val (.long q3), .second, .val (.int p4), .val (.int (p4 &&& (3 : Int32))), .val (.ref b1), .val (.long (-9223372036854775808 : Int64)), .second, .unset, .unset] [])) _
                refine XS.lloadN X38.here hx rfl (hb hby at_86) rfl ?_
                show Steps p.tables e below (T38.setTop (mkF m 87 #[.val (.long q0), .second, .val (.long q1), .second, .val (.long q2), .second, .val (.long q3), .second, .val (.int p4), .val (.int (p4 &&& (3 : Int32))), .val (.ref b1), .val (.long (-9223372036854775808 : Int64)), .second, .unset, .unset] [(.long q1)])) _
                refine XS.lstore X38.here hx rfl (hb hby at_87) rfl (l' := #[.val (.long q0), .second, .val (.long q1), .second, .val (.long q2), .second, .val (.long q3), .second, .val (.int p4), .val (.int (p4 &&& (3 : Int32))), .val (.ref b1), .val (.long q1), .second, .unset, .unset]) rfl ?_
                show Steps p.tables e below (T38.setTop (mkF m 89 #[.val (.long q0), .second, .val (.long q1), .second, .val (.long q2), .second, .val (.long q3), .second, .val (.int p4), .val (.int (p4 &&& (3 : Int32))), .val (.ref b1), .val (.long q1), .second, .unset, .unset] [])) _
                refine XS.iload X38.here hx rfl (hb hby at_89) rfl ?_
                show Steps p.tables e below (T38.setTop (mkF m 91 #[.val (.long q0), .second, .val (.long q1), .second, .val (.long q2), .second, .val (.long q3), .second, .val (.int p4), .val (.int (p4 &&& (3 : Int32))), .val (.ref b1), .val (.long q1), .second, .unset, .unset] [(.int (p4 &&& (3 : Int32)))])) _
                refine XS.iconst X38.here hx rfl (hb hby at_91) ?_
                show Steps p.tables e below (T38.setTop (mkF m 92 #[.val (.long q0), .second, .val (.long q1), .second, .val (.long q2), .second, .val (.long q3), .second, .val (.int p4), .val (.int (p4 &&& (3 : Int32))), .val (.ref b1), .val (.long q1), .second, .unset, .unset] [(.int (3 : Int32)), (.int (p4 &&& (3 : Int32)))])) _
                refine XS.icmpYes X38.here hx rfl (pc0 := 92) (pc' := 107) rfl (hb hby at_92) rfl (tlt hc42_40).1 (by decide) (by decide) ?_
                exact k)
              exact ⟨q1, (own_eq (by simp only [own_max_toInt, Int64.lt_iff_toInt_lt, Int64.reduceToInt] at hc67_44 hc83_50 ⊢; have r0 := rng64 q0; have r1 := rng64 q1; have r2 := rng64 q2; omega)), pre51⟩
            · have pre52 : ∀ t, Steps p.tables e below (T38.setTop (mkF m 107 #[.val (.long q0), .second, .val (.long q1), .second, .val (.long q2), .second, .val (.long q3), .second, .val (.int p4), .val (.int (p4 &&& (3 : Int32))), .val (.ref b1), .val (.long (-9223372036854775808 : Int64)), .second, .unset, .unset] [])) t → Steps p.tables e below (s₁.setTop (entryFrame m #[(.long q0), (.long q1), (.long q2), (.long q3), (.int p4)] maxLocals)) t := fun t k => pre49 t (by
                show Steps p.tables e below (T38.setTop (mkF m 83 #[.val (.long q0), .second, .val (.long q1), .second, .val (.long q2), .second, .val (.long q3), .second, .val (.int p4), .val (.int (p4 &&& (3 : Int32))), .val (.ref b1), .val (.long (-9223372036854775808 : Int64)), .second, .unset, .unset] [(.int (lcmpW q1 (-9223372036854775808 : Int64)))])) _
                refine XS.ifYes X38.here hx rfl (pc0 := 83) (pc' := 89) rfl (hb hby at_83) rfl ((if0 _ _).trans (flt (fun q => hc83_50 ((lw_gt _ _).mp q))).2.2.2) (by decide) (by decide) ?_
                show Steps p.tables e below (T38.setTop (mkF m 89 #[.val (.long q0), .second, .val (.long q1), .second, .val (.long q2), .second, .val (.long q3), .second, .val (.int p4), .val (.int (p4 &&& (3 : Int32))), .val (.ref b1), .val (.long (-9223372036854775808 : Int64)), .second, .unset, .unset] [])) _
                refine XS.iload X38.here hx rfl (hb hby at_89) rfl ?_
                show Steps p.tables e below (T38.setTop (mkF m 91 #[.val (.long q0), .second, .val (.long q1), .second, .val (.long q2), .second, .val (.long q3), .second, .val (.int p4), .val (.int (p4 &&& (3 : Int32))), .val (.ref b1), .val (.long (-9223372036854775808 : Int64)), .second, .unset, .unset] [(.int (p4 &&& (3 : Int32)))])) _
                refine XS.iconst X38.here hx rfl (hb hby at_91) ?_
                show Steps p.tables e below (T38.setTop (mkF m 92 #[.val (.long q0), .second, .val (.long q1), .second, .val (.long q2), .second, .val (.long q3), .second, .val (.int p4), .val (.int (p4 &&& (3 : Int32))), .val (.ref b1), .val (.long (-9223372036854775808 : Int64)), .second, .unset, .unset] [(.int (3 : Int32)), (.int (p4 &&& (3 : Int32)))])) _
                refine XS.icmpYes X38.here hx rfl (pc0 := 92) (pc' := 107) rfl (hb hby at_92) rfl (tlt hc42_40).1 (by decide) (by decide) ?_
                exact k)
              exact ⟨(-9223372036854775808 : Int64), (own_eq (by simp only [own_max_toInt, Int64.lt_iff_toInt_lt, Int64.reduceToInt] at hc67_44 hc83_50 ⊢; have r0 := rng64 q0; have r1 := rng64 q1; have r2 := rng64 q2; omega)), pre52⟩
        subst hv42
        obtain ⟨v53_0, hv53, prem53⟩ : ∃ (v53_0 : Int32), v53_0 = (if (q3 < q0 ∨ q3 < q1) then (1 : Int32) else 0) ∧ ∀ t, Steps p.tables e below (T38.setTop (mkF m 152 #[.val (.long q0), .second, .val (.long q1), .second, .val (.long q2), .second, .val (.long q3), .second, .val (.int p4), .val (.int (p4 &&& (3 : Int32))), .val (.ref b1), .val (.long (own_max (own_max (-9223372036854775808 : Int64) q0) q1)), .second, .unset, .unset] [(.int v53_0)])) t → Steps p.tables e below (s₁.setTop (entryFrame m #[(.long q0), (.long q1), (.long q2), (.long q3), (.int p4)] maxLocals)) t := by
          have pre54 : ∀ t, Steps p.tables e below (T38.setTop (mkF m 117 #[.val (.long q0), .second, .val (.long q1), .second, .val (.long q2), .second, .val (.long q3), .second, .val (.int p4), .val (.int (p4 &&& (3 : Int32))), .val (.ref b1), .val (.long (own_max (own_max (-9223372036854775808 : Int64) q0) q1)), .second, .unset, .unset] [(.int (lcmpW q0 q3))])) t → Steps p.tables e below (s₁.setTop (entryFrame m #[(.long q0), (.long q1), (.long q2), (.long q3), (.int p4)] maxLocals)) t := fun t k => prem42 t (by
            show Steps p.tables e below (T38.setTop (mkF m 107 #[.val (.long q0), .second, .val (.long q1), .second, .val (.long q2), .second, .val (.long q3), .second, .val (.int p4), .val (.int (p4 &&& (3 : Int32))), .val (.ref b1), .val (.long (own_max (own_max (-9223372036854775808 : Int64) q0) q1)), .second, .unset, .unset] [])) _
            refine XS.iload X38.here hx rfl (hb hby at_107) rfl ?_
            show Steps p.tables e below (T38.setTop (mkF m 109 #[.val (.long q0), .second, .val (.long q1), .second, .val (.long q2), .second, .val (.long q3), .second, .val (.int p4), .val (.int (p4 &&& (3 : Int32))), .val (.ref b1), .val (.long (own_max (own_max (-9223372036854775808 : Int64) q0) q1)), .second, .unset, .unset] [(.int (p4 &&& (3 : Int32)))])) _
            refine XS.iconst X38.here hx rfl (hb hby at_109) ?_
            show Steps p.tables e below (T38.setTop (mkF m 110 #[.val (.long q0), .second, .val (.long q1), .second, .val (.long q2), .second, .val (.long q3), .second, .val (.int p4), .val (.int (p4 &&& (3 : Int32))), .val (.ref b1), .val (.long (own_max (own_max (-9223372036854775808 : Int64) q0) q1)), .second, .unset, .unset] [(.int (1 : Int32)), (.int (p4 &&& (3 : Int32)))])) _
            refine XS.icmpNo X38.here hx rfl (hb hby at_110) rfl (flt hc18_4).1 ?_
            show Steps p.tables e below (T38.setTop (mkF m 113 #[.val (.long q0), .second, .val (.long q1), .second, .val (.long q2), .second, .val (.long q3), .second, .val (.int p4), .val (.int (p4 &&& (3 : Int32))), .val (.ref b1), .val (.long (own_max (own_max (-9223372036854775808 : Int64) q0) q1)), .second, .unset, .unset] [])) _
            refine XS.lloadN X38.here hx rfl (hb hby at_113) rfl ?_
            show Steps p.tables e below (T38.setTop (mkF m 114 #[.val (.long q0), .second, .val (.long q1), .second, .val (.long q2), .second, .val (.long q3), .second, .val (.int p4), .val (.int (p4 &&& (3 : Int32))), .val (.ref b1), .val (.long (own_max (own_max (-9223372036854775808 : Int64) q0) q1)), .second, .unset, .unset] [(.long q0)])) _
            refine XS.lload X38.here hx rfl (hb hby at_114) rfl ?_
            show Steps p.tables e below (T38.setTop (mkF m 116 #[.val (.long q0), .second, .val (.long q1), .second, .val (.long q2), .second, .val (.long q3), .second, .val (.int p4), .val (.int (p4 &&& (3 : Int32))), .val (.ref b1), .val (.long (own_max (own_max (-9223372036854775808 : Int64) q0) q1)), .second, .unset, .unset] [(.long q3), (.long q0)])) _
            refine XS.lcmp X38.here hx rfl (hb hby at_116) rfl ?_
            exact k)
          by_cases hc117_55 : q3 < q0
          · have pre56 : ∀ t, Steps p.tables e below (T38.setTop (mkF m 152 #[.val (.long q0), .second, .val (.long q1), .second, .val (.long q2), .second, .val (.long q3), .second, .val (.int p4), .val (.int (p4 &&& (3 : Int32))), .val (.ref b1), .val (.long (own_max (own_max (-9223372036854775808 : Int64) q0) q1)), .second, .unset, .unset] [(.int (1 : Int32))])) t → Steps p.tables e below (s₁.setTop (entryFrame m #[(.long q0), (.long q1), (.long q2), (.long q3), (.int p4)] maxLocals)) t := fun t k => pre54 t (by
              show Steps p.tables e below (T38.setTop (mkF m 117 #[.val (.long q0), .second, .val (.long q1), .second, .val (.long q2), .second, .val (.long q3), .second, .val (.int p4), .val (.int (p4 &&& (3 : Int32))), .val (.ref b1), .val (.long (own_max (own_max (-9223372036854775808 : Int64) q0) q1)), .second, .unset, .unset] [(.int (lcmpW q0 q3))])) _
              refine XS.ifYes X38.here hx rfl (pc0 := 117) (pc' := 147) rfl (hb hby at_117) rfl ((if0 _ _).trans (tlt ((lw_gt _ _).mpr hc117_55)).2.2.1) (by decide) (by decide) ?_
              show Steps p.tables e below (T38.setTop (mkF m 147 #[.val (.long q0), .second, .val (.long q1), .second, .val (.long q2), .second, .val (.long q3), .second, .val (.int p4), .val (.int (p4 &&& (3 : Int32))), .val (.ref b1), .val (.long (own_max (own_max (-9223372036854775808 : Int64) q0) q1)), .second, .unset, .unset] [])) _
              refine XS.iconst X38.here hx rfl (hb hby at_147) ?_
              show Steps p.tables e below (T38.setTop (mkF m 148 #[.val (.long q0), .second, .val (.long q1), .second, .val (.long q2), .second, .val (.long q3), .second, .val (.int p4), .val (.int (p4 &&& (3 : Int32))), .val (.ref b1), .val (.long (own_max (own_max (-9223372036854775808 : Int64) q0) q1)), .second, .unset, .unset] [(.int (1 : Int32))])) _
              refine XS.goto X38.here hx rfl (pc0 := 148) (pc' := 152) rfl (hb hby at_148) (by decide) (by decide) ?_
              exact k)
            exact ⟨(1 : Int32), (own_p (by simp only [Int64.lt_iff_toInt_lt] at hc117_55 ⊢; omega)), pre56⟩
          · have pre57 : ∀ t, Steps p.tables e below (T38.setTop (mkF m 130 #[.val (.long q0), .second, .val (.long q1), .second, .val (.long q2), .second, .val (.long q3), .second, .val (.int p4), .val (.int (p4 &&& (3 : Int32))), .val (.ref b1), .val (.long (own_max (own_max (-9223372036854775808 : Int64) q0) q1)), .second, .unset, .unset] [(.int (lcmpW q1 q3))])) t → Steps p.tables e below (s₁.setTop (entryFrame m #[(.long q0), (.long q1), (.long q2), (.long q3), (.int p4)] maxLocals)) t := fun t k => pre54 t (by
              show Steps p.tables e below (T38.setTop (mkF m 117 #[.val (.long q0), .second, .val (.long q1), .second, .val (.long q2), .second, .val (.long q3), .second, .val (.int p4), .val (.int (p4 &&& (3 : Int32))), .val (.ref b1), .val (.long (own_max (own_max (-9223372036854775808 : Int64) q0) q1)), .second, .unset, .unset] [(.int (lcmpW q0 q3))])) _
              refine XS.ifNo X38.here hx rfl (hb hby at_117) rfl ((if0 _ _).trans (flt (fun q => hc117_55 ((lw_gt _ _).mp q))).2.2.1) ?_
              show Steps p.tables e below (T38.setTop (mkF m 120 #[.val (.long q0), .second, .val (.long q1), .second, .val (.long q2), .second, .val (.long q3), .second, .val (.int p4), .val (.int (p4 &&& (3 : Int32))), .val (.ref b1), .val (.long (own_max (own_max (-9223372036854775808 : Int64) q0) q1)), .second, .unset, .unset] [])) _
              refine XS.iload X38.here hx rfl (hb hby at_120) rfl ?_
              show Steps p.tables e below (T38.setTop (mkF m 122 #[.val (.long q0), .second, .val (.long q1), .second, .val (.long q2), .second, .val (.long q3), .second, .val (.int p4), .val (.int (p4 &&& (3 : Int32))), .val (.ref b1), .val (.long (own_max (own_max (-9223372036854775808 : Int64) q0) q1)), .second, .unset, .unset] [(.int (p4 &&& (3 : Int32)))])) _
              refine XS.iconst X38.here hx rfl (hb hby at_122) ?_
              show Steps p.tables e below (T38.setTop (mkF m 123 #[.val (.long q0), .second, .val (.long q1), .second, .val (.long q2), .second, .val (.long q3), .second, .val (.int p4), .val (.int (p4 &&& (3 : Int32))), .val (.ref b1), .val (.long (own_max (own_max (-9223372036854775808 : Int64) q0) q1)), .second, .unset, .unset] [(.int (2 : Int32)), (.int (p4 &&& (3 : Int32)))])) _
              refine XS.icmpNo X38.here hx rfl (hb hby at_123) rfl (flt hc30_20).1 ?_
              show Steps p.tables e below (T38.setTop (mkF m 126 #[.val (.long q0), .second, .val (.long q1), .second, .val (.long q2), .second, .val (.long q3), .second, .val (.int p4), .val (.int (p4 &&& (3 : Int32))), .val (.ref b1), .val (.long (own_max (own_max (-9223372036854775808 : Int64) q0) q1)), .second, .unset, .unset] [])) _
              refine XS.lloadN X38.here hx rfl (hb hby at_126) rfl ?_
              show Steps p.tables e below (T38.setTop (mkF m 127 #[.val (.long q0), .second, .val (.long q1), .second, .val (.long q2), .second, .val (.long q3), .second, .val (.int p4), .val (.int (p4 &&& (3 : Int32))), .val (.ref b1), .val (.long (own_max (own_max (-9223372036854775808 : Int64) q0) q1)), .second, .unset, .unset] [(.long q1)])) _
              refine XS.lload X38.here hx rfl (hb hby at_127) rfl ?_
              show Steps p.tables e below (T38.setTop (mkF m 129 #[.val (.long q0), .second, .val (.long q1), .second, .val (.long q2), .second, .val (.long q3), .second, .val (.int p4), .val (.int (p4 &&& (3 : Int32))), .val (.ref b1), .val (.long (own_max (own_max (-9223372036854775808 : Int64) q0) q1)), .second, .unset, .unset] [(.long q3), (.long q1)])) _
              refine XS.lcmp X38.here hx rfl (hb hby at_129) rfl ?_
              exact k)
            by_cases hc130_58 : q3 < q1
            · have pre59 : ∀ t, Steps p.tables e below (T38.setTop (mkF m 152 #[.val (.long q0), .second, .val (.long q1), .second, .val (.long q2), .second, .val (.long q3), .second, .val (.int p4), .val (.int (p4 &&& (3 : Int32))), .val (.ref b1), .val (.long (own_max (own_max (-9223372036854775808 : Int64) q0) q1)), .second, .unset, .unset] [(.int (1 : Int32))])) t → Steps p.tables e below (s₁.setTop (entryFrame m #[(.long q0), (.long q1), (.long q2), (.long q3), (.int p4)] maxLocals)) t := fun t k => pre57 t (by
                show Steps p.tables e below (T38.setTop (mkF m 130 #[.val (.long q0), .second, .val (.long q1), .second, .val (.long q2), .second, .val (.long q3), .second, .val (.int p4), .val (.int (p4 &&& (3 : Int32))), .val (.ref b1), .val (.long (own_max (own_max (-9223372036854775808 : Int64) q0) q1)), .second, .unset, .unset] [(.int (lcmpW q1 q3))])) _
                refine XS.ifYes X38.here hx rfl (pc0 := 130) (pc' := 147) rfl (hb hby at_130) rfl ((if0 _ _).trans (tlt ((lw_gt _ _).mpr hc130_58)).2.2.1) (by decide) (by decide) ?_
                show Steps p.tables e below (T38.setTop (mkF m 147 #[.val (.long q0), .second, .val (.long q1), .second, .val (.long q2), .second, .val (.long q3), .second, .val (.int p4), .val (.int (p4 &&& (3 : Int32))), .val (.ref b1), .val (.long (own_max (own_max (-9223372036854775808 : Int64) q0) q1)), .second, .unset, .unset] [])) _
                refine XS.iconst X38.here hx rfl (hb hby at_147) ?_
                show Steps p.tables e below (T38.setTop (mkF m 148 #[.val (.long q0), .second, .val (.long q1), .second, .val (.long q2), .second, .val (.long q3), .second, .val (.int p4), .val (.int (p4 &&& (3 : Int32))), .val (.ref b1), .val (.long (own_max (own_max (-9223372036854775808 : Int64) q0) q1)), .second, .unset, .unset] [(.int (1 : Int32))])) _
                refine XS.goto X38.here hx rfl (pc0 := 148) (pc' := 152) rfl (hb hby at_148) (by decide) (by decide) ?_
                exact k)
              exact ⟨(1 : Int32), (own_p (by simp only [Int64.lt_iff_toInt_lt] at hc117_55 hc130_58 ⊢; omega)), pre59⟩
            · have pre60 : ∀ t, Steps p.tables e below (T38.setTop (mkF m 152 #[.val (.long q0), .second, .val (.long q1), .second, .val (.long q2), .second, .val (.long q3), .second, .val (.int p4), .val (.int (p4 &&& (3 : Int32))), .val (.ref b1), .val (.long (own_max (own_max (-9223372036854775808 : Int64) q0) q1)), .second, .unset, .unset] [(.int (0 : Int32))])) t → Steps p.tables e below (s₁.setTop (entryFrame m #[(.long q0), (.long q1), (.long q2), (.long q3), (.int p4)] maxLocals)) t := fun t k => pre57 t (by
                show Steps p.tables e below (T38.setTop (mkF m 130 #[.val (.long q0), .second, .val (.long q1), .second, .val (.long q2), .second, .val (.long q3), .second, .val (.int p4), .val (.int (p4 &&& (3 : Int32))), .val (.ref b1), .val (.long (own_max (own_max (-9223372036854775808 : Int64) q0) q1)), .second, .unset, .unset] [(.int (lcmpW q1 q3))])) _
                refine XS.ifNo X38.here hx rfl (hb hby at_130) rfl ((if0 _ _).trans (flt (fun q => hc130_58 ((lw_gt _ _).mp q))).2.2.1) ?_
                show Steps p.tables e below (T38.setTop (mkF m 133 #[.val (.long q0), .second, .val (.long q1), .second, .val (.long q2), .second, .val (.long q3), .second, .val (.int p4), .val (.int (p4 &&& (3 : Int32))), .val (.ref b1), .val (.long (own_max (own_max (-9223372036854775808 : Int64) q0) q1)), .second, .unset, .unset] [])) _
                refine XS.iload X38.here hx rfl (hb hby at_133) rfl ?_
                show Steps p.tables e below (T38.setTop (mkF m 135 #[.val (.long q0), .second, .val (.long q1), .second, .val (.long q2), .second, .val (.long q3), .second, .val (.int p4), .val (.int (p4 &&& (3 : Int32))), .val (.ref b1), .val (.long (own_max (own_max (-9223372036854775808 : Int64) q0) q1)), .second, .unset, .unset] [(.int (p4 &&& (3 : Int32)))])) _
                refine XS.iconst X38.here hx rfl (hb hby at_135) ?_
                show Steps p.tables e below (T38.setTop (mkF m 136 #[.val (.long q0), .second, .val (.long q1), .second, .val (.long q2), .second, .val (.long q3), .second, .val (.int p4), .val (.int (p4 &&& (3 : Int32))), .val (.ref b1), .val (.long (own_max (own_max (-9223372036854775808 : Int64) q0) q1)), .second, .unset, .unset] [(.int (3 : Int32)), (.int (p4 &&& (3 : Int32)))])) _
                refine XS.icmpYes X38.here hx rfl (pc0 := 136) (pc' := 151) rfl (hb hby at_136) rfl (tlt hc42_40).1 (by decide) (by decide) ?_
                show Steps p.tables e below (T38.setTop (mkF m 151 #[.val (.long q0), .second, .val (.long q1), .second, .val (.long q2), .second, .val (.long q3), .second, .val (.int p4), .val (.int (p4 &&& (3 : Int32))), .val (.ref b1), .val (.long (own_max (own_max (-9223372036854775808 : Int64) q0) q1)), .second, .unset, .unset] [])) _
                refine XS.iconst X38.here hx rfl (hb hby at_151) ?_
                exact k)
              exact ⟨(0 : Int32), (own_n (by simp only [Int64.lt_iff_toInt_lt] at hc117_55 hc130_58 ⊢; omega)), pre60⟩
        subst hv53
        obtain ⟨cq61, kq61, q61a, q61b, q61c⟩ := isOf hZ rfl P38_0
        obtain ⟨_, _, ⟨T61, L61, k61, n61⟩, -, X61, ⟨Lc61, hQ61, l61, y61, z61⟩, st61⟩ := X38.virtualBack hx (y := (⟨"com/example/sensor_access_indicators/sensoraccessindicators/ShownAccesses", "isShownAt", "(J)Z"⟩ : MethodName)) (z := (⟨"com/example/sensor_access_indicators/sensoraccessindicators/ShownAccesses", "isShownAt", "(J)Z"⟩ : MethodName)) hown (mvT hZ (hw _ (List.mem_of_getElem? (i := 22) rfl))) (mvT hZ (hw _ (List.mem_of_getElem? (i := 23) rfl))) (notFace_of_selects (args := #[]) (mvT hZ (hw _ (List.mem_of_getElem? (i := 25) rfl)))) (mvT hZ (hw _ (List.mem_of_getElem? (i := 25) rfl))) (mvT hZ (hw _ (List.mem_of_getElem? (i := 24) rfl))) (by decide) (backOf (W := 0) (rm5 l Z a0 hw [] b1 q3 (own_max (own_max (-9223372036854775808 : Int64) q0) q1) (0 : Int32) T38.heap n0 (Nat.le_trans (Nat.le_trans (Nat.le_trans (Nat.le_trans Z0 E1.1) K2.1) K18.1) K38.1) P38_1 P38_2) hZ (hw _ (List.mem_of_getElem? (i := 26) rfl)) (hw _ (List.mem_of_getElem? (i := 2) rfl)) (by decide) (by decide)) q61a q61c (g := (mkF m 158 #[.val (.long q0), .second, .val (.long q1), .second, .val (.long q2), .second, .val (.long q3), .second, .val (.int p4), .val (.int (p4 &&& (3 : Int32))), .val (.ref b1), .val (.long (own_max (own_max (-9223372036854775808 : Int64) q0) q1)), .second, .val (.int (if (q3 < q0 ∨ q3 < q1) then (1 : Int32) else 0)), .unset] [(.long q3), (.ref b1)])) rfl (by rw [hml]; rfl) (Steps.refl _) (argsL := [(.long q3)]) (rest := []) (lenOf pd_2 rfl) rfl (by show 2 * 0 + _ ≤ _; exact Nat.le_of_eq rfl) (hb hby at_158) (fun _ _ => ⟨rfl, rfl, (by decide : 1 + 0 ≤ _), (by decide : 2 + 0 ≤ _)⟩)
        dsimp only [Pt.U, Pt.locs, Pt.cells, Pt.slots] at X61 l61 y61 z61 st61 hQ61
        subst l61 y61 z61
        obtain ⟨rfl, N61q, hh61⟩ := hQ61
        have N61 := Fr.app N38 N61q
        obtain ⟨T62, X62, e62, st62⟩ := getF X61 hx hZ hown (host := "") (Or.inl (hw _ (List.mem_of_getElem? (i := 29) rfl))) Via.refl hh61 P38_1 (g := (mkF m 165 #[.val (.long q0), .second, .val (.long q1), .second, .val (.long q2), .second, .val (.long q3), .second, .val (.int p4), .val (.int (p4 &&& (3 : Int32))), .val (.ref b1), .val (.long (own_max (own_max (-9223372036854775808 : Int64) q0) q1)), .second, .val (.int (if (q3 < q0 ∨ q3 < q1) then (1 : Int32) else 0)), .val (.int (if ((0 : Int32) < (0 : Int32) ∨ q3 < (own_max (own_max (-9223372036854775808 : Int64) q0) q1)) then (1 : Int32) else 0))] [(.ref b1)])) rfl rfl (hb hby at_165)
        obtain ⟨T63, X63, e63, st63⟩ := getF X62 hx hZ hown (host := "") (Or.inl (hw _ (List.mem_of_getElem? (i := 30) rfl))) Via.refl e62 P38_2 (g := (mkF m 176 #[.val (.long q0), .second, .val (.long q1), .second, .val (.long q2), .second, .val (.long q3), .second, .val (.int p4), .val (.int (p4 &&& (3 : Int32))), .val (.ref b1), .val (.long (own_max (own_max (-9223372036854775808 : Int64) q0) q1)), .second, .val (.int (if (q3 < q0 ∨ q3 < q1) then (1 : Int32) else 0)), .val (.int (if ((0 : Int32) < (0 : Int32) ∨ q3 < (own_max (own_max (-9223372036854775808 : Int64) q0) q1)) then (1 : Int32) else 0))] [(.ref b1)])) rfl rfl (hb hby at_176)
        have pre64 : ∀ t, Steps p.tables e below (T63.setTop (mkF m 194 #[.val (.long q0), .second, .val (.long q1), .second, .val (.long q2), .second, .val (.long q3), .second, .val (.int p4), .val (.int (p4 &&& (3 : Int32))), .val (.ref b1), .val (.long (own_max (own_max (-9223372036854775808 : Int64) q0) q1)), .second, .val (.int (if (q3 < q0 ∨ q3 < q1) then (1 : Int32) else 0)), .val (.int (if ((0 : Int32) < (0 : Int32) ∨ q3 < (own_max (own_max (-9223372036854775808 : Int64) q0) q1)) then (1 : Int32) else 0))] [(.int (1 : Int32))])) t → Steps p.tables e below (s₁.setTop (entryFrame m #[(.long q0), (.long q1), (.long q2), (.long q3), (.int p4)] maxLocals)) t := fun t k => prem53 t (by
          show Steps p.tables e below (T38.setTop (mkF m 152 #[.val (.long q0), .second, .val (.long q1), .second, .val (.long q2), .second, .val (.long q3), .second, .val (.int p4), .val (.int (p4 &&& (3 : Int32))), .val (.ref b1), .val (.long (own_max (own_max (-9223372036854775808 : Int64) q0) q1)), .second, .unset, .unset] [(.int (if (q3 < q0 ∨ q3 < q1) then (1 : Int32) else 0))])) _
          refine XS.istore X38.here hx rfl (hb hby at_152) rfl (l' := #[.val (.long q0), .second, .val (.long q1), .second, .val (.long q2), .second, .val (.long q3), .second, .val (.int p4), .val (.int (p4 &&& (3 : Int32))), .val (.ref b1), .val (.long (own_max (own_max (-9223372036854775808 : Int64) q0) q1)), .second, .val (.int (if (q3 < q0 ∨ q3 < q1) then (1 : Int32) else 0)), .unset]) rfl ?_
          show Steps p.tables e below (T38.setTop (mkF m 154 #[.val (.long q0), .second, .val (.long q1), .second, .val (.long q2), .second, .val (.long q3), .second, .val (.int p4), .val (.int (p4 &&& (3 : Int32))), .val (.ref b1), .val (.long (own_max (own_max (-9223372036854775808 : Int64) q0) q1)), .second, .val (.int (if (q3 < q0 ∨ q3 < q1) then (1 : Int32) else 0)), .unset] [])) _
          refine XS.aload X38.here hx rfl (hb hby at_154) rfl rfl ?_
          show Steps p.tables e below (T38.setTop (mkF m 156 #[.val (.long q0), .second, .val (.long q1), .second, .val (.long q2), .second, .val (.long q3), .second, .val (.int p4), .val (.int (p4 &&& (3 : Int32))), .val (.ref b1), .val (.long (own_max (own_max (-9223372036854775808 : Int64) q0) q1)), .second, .val (.int (if (q3 < q0 ∨ q3 < q1) then (1 : Int32) else 0)), .unset] [(.ref b1)])) _
          refine XS.lload X38.here hx rfl (hb hby at_156) rfl ?_
          show Steps p.tables e below (T38.setTop (mkF m 158 #[.val (.long q0), .second, .val (.long q1), .second, .val (.long q2), .second, .val (.long q3), .second, .val (.int p4), .val (.int (p4 &&& (3 : Int32))), .val (.ref b1), .val (.long (own_max (own_max (-9223372036854775808 : Int64) q0) q1)), .second, .val (.int (if (q3 < q0 ∨ q3 < q1) then (1 : Int32) else 0)), .unset] [(.long q3), (.ref b1)])) _
          refine st61.trans ?_
          show Steps p.tables e below (T61.setTop (mkF m 161 #[.val (.long q0), .second, .val (.long q1), .second, .val (.long q2), .second, .val (.long q3), .second, .val (.int p4), .val (.int (p4 &&& (3 : Int32))), .val (.ref b1), .val (.long (own_max (own_max (-9223372036854775808 : Int64) q0) q1)), .second, .val (.int (if (q3 < q0 ∨ q3 < q1) then (1 : Int32) else 0)), .unset] [(.int (if ((0 : Int32) < (0 : Int32) ∨ q3 < (own_max (own_max (-9223372036854775808 : Int64) q0) q1)) then (1 : Int32) else 0))])) _
          refine XS.istore X61.here hx rfl (hb hby at_161) rfl (l' := #[.val (.long q0), .second, .val (.long q1), .second, .val (.long q2), .second, .val (.long q3), .second, .val (.int p4), .val (.int (p4 &&& (3 : Int32))), .val (.ref b1), .val (.long (own_max (own_max (-9223372036854775808 : Int64) q0) q1)), .second, .val (.int (if (q3 < q0 ∨ q3 < q1) then (1 : Int32) else 0)), .val (.int (if ((0 : Int32) < (0 : Int32) ∨ q3 < (own_max (own_max (-9223372036854775808 : Int64) q0) q1)) then (1 : Int32) else 0))]) rfl ?_
          show Steps p.tables e below (T61.setTop (mkF m 163 #[.val (.long q0), .second, .val (.long q1), .second, .val (.long q2), .second, .val (.long q3), .second, .val (.int p4), .val (.int (p4 &&& (3 : Int32))), .val (.ref b1), .val (.long (own_max (own_max (-9223372036854775808 : Int64) q0) q1)), .second, .val (.int (if (q3 < q0 ∨ q3 < q1) then (1 : Int32) else 0)), .val (.int (if ((0 : Int32) < (0 : Int32) ∨ q3 < (own_max (own_max (-9223372036854775808 : Int64) q0) q1)) then (1 : Int32) else 0))] [])) _
          refine XS.aload X61.here hx rfl (hb hby at_163) rfl rfl ?_
          show Steps p.tables e below (T61.setTop (mkF m 165 #[.val (.long q0), .second, .val (.long q1), .second, .val (.long q2), .second, .val (.long q3), .second, .val (.int p4), .val (.int (p4 &&& (3 : Int32))), .val (.ref b1), .val (.long (own_max (own_max (-9223372036854775808 : Int64) q0) q1)), .second, .val (.int (if (q3 < q0 ∨ q3 < q1) then (1 : Int32) else 0)), .val (.int (if ((0 : Int32) < (0 : Int32) ∨ q3 < (own_max (own_max (-9223372036854775808 : Int64) q0) q1)) then (1 : Int32) else 0))] [(.ref b1)])) _
          refine st62 _ ?_
          show Steps p.tables e below (T62.setTop (mkF m 168 #[.val (.long q0), .second, .val (.long q1), .second, .val (.long q2), .second, .val (.long q3), .second, .val (.int p4), .val (.int (p4 &&& (3 : Int32))), .val (.ref b1), .val (.long (own_max (own_max (-9223372036854775808 : Int64) q0) q1)), .second, .val (.int (if (q3 < q0 ∨ q3 < q1) then (1 : Int32) else 0)), .val (.int (if ((0 : Int32) < (0 : Int32) ∨ q3 < (own_max (own_max (-9223372036854775808 : Int64) q0) q1)) then (1 : Int32) else 0))] [(.long (own_max (own_max (-9223372036854775808 : Int64) q0) q1))])) _
          refine XS.lload X62.here hx rfl (hb hby at_168) rfl ?_
          show Steps p.tables e below (T62.setTop (mkF m 170 #[.val (.long q0), .second, .val (.long q1), .second, .val (.long q2), .second, .val (.long q3), .second, .val (.int p4), .val (.int (p4 &&& (3 : Int32))), .val (.ref b1), .val (.long (own_max (own_max (-9223372036854775808 : Int64) q0) q1)), .second, .val (.int (if (q3 < q0 ∨ q3 < q1) then (1 : Int32) else 0)), .val (.int (if ((0 : Int32) < (0 : Int32) ∨ q3 < (own_max (own_max (-9223372036854775808 : Int64) q0) q1)) then (1 : Int32) else 0))] [(.long (own_max (own_max (-9223372036854775808 : Int64) q0) q1)), (.long (own_max (own_max (-9223372036854775808 : Int64) q0) q1))])) _
          refine XS.lcmp X62.here hx rfl (hb hby at_170) rfl ?_
          show Steps p.tables e below (T62.setTop (mkF m 171 #[.val (.long q0), .second, .val (.long q1), .second, .val (.long q2), .second, .val (.long q3), .second, .val (.int p4), .val (.int (p4 &&& (3 : Int32))), .val (.ref b1), .val (.long (own_max (own_max (-9223372036854775808 : Int64) q0) q1)), .second, .val (.int (if (q3 < q0 ∨ q3 < q1) then (1 : Int32) else 0)), .val (.int (if ((0 : Int32) < (0 : Int32) ∨ q3 < (own_max (own_max (-9223372036854775808 : Int64) q0) q1)) then (1 : Int32) else 0))] [(.int (lcmpW (own_max (own_max (-9223372036854775808 : Int64) q0) q1) (own_max (own_max (-9223372036854775808 : Int64) q0) q1)))])) _
          refine XS.ifNo X62.here hx rfl (hb hby at_171) rfl ((if0 _ _).trans (teq ((lw_eq _ _).mpr rfl)).2) ?_
          show Steps p.tables e below (T62.setTop (mkF m 174 #[.val (.long q0), .second, .val (.long q1), .second, .val (.long q2), .second, .val (.long q3), .second, .val (.int p4), .val (.int (p4 &&& (3 : Int32))), .val (.ref b1), .val (.long (own_max (own_max (-9223372036854775808 : Int64) q0) q1)), .second, .val (.int (if (q3 < q0 ∨ q3 < q1) then (1 : Int32) else 0)), .val (.int (if ((0 : Int32) < (0 : Int32) ∨ q3 < (own_max (own_max (-9223372036854775808 : Int64) q0) q1)) then (1 : Int32) else 0))] [])) _
          refine XS.aload X62.here hx rfl (hb hby at_174) rfl rfl ?_
          show Steps p.tables e below (T62.setTop (mkF m 176 #[.val (.long q0), .second, .val (.long q1), .second, .val (.long q2), .second, .val (.long q3), .second, .val (.int p4), .val (.int (p4 &&& (3 : Int32))), .val (.ref b1), .val (.long (own_max (own_max (-9223372036854775808 : Int64) q0) q1)), .second, .val (.int (if (q3 < q0 ∨ q3 < q1) then (1 : Int32) else 0)), .val (.int (if ((0 : Int32) < (0 : Int32) ∨ q3 < (own_max (own_max (-9223372036854775808 : Int64) q0) q1)) then (1 : Int32) else 0))] [(.ref b1)])) _
          refine st63 _ ?_
          show Steps p.tables e below (T63.setTop (mkF m 179 #[.val (.long q0), .second, .val (.long q1), .second, .val (.long q2), .second, .val (.long q3), .second, .val (.int p4), .val (.int (p4 &&& (3 : Int32))), .val (.ref b1), .val (.long (own_max (own_max (-9223372036854775808 : Int64) q0) q1)), .second, .val (.int (if (q3 < q0 ∨ q3 < q1) then (1 : Int32) else 0)), .val (.int (if ((0 : Int32) < (0 : Int32) ∨ q3 < (own_max (own_max (-9223372036854775808 : Int64) q0) q1)) then (1 : Int32) else 0))] [(.int (0 : Int32))])) _
          refine XS.ifNo X63.here hx rfl (hb hby at_179) rfl ((if0 _ _).trans (teq (by decide : (0 : Int32) = (0 : Int32))).2) ?_
          show Steps p.tables e below (T63.setTop (mkF m 182 #[.val (.long q0), .second, .val (.long q1), .second, .val (.long q2), .second, .val (.long q3), .second, .val (.int p4), .val (.int (p4 &&& (3 : Int32))), .val (.ref b1), .val (.long (own_max (own_max (-9223372036854775808 : Int64) q0) q1)), .second, .val (.int (if (q3 < q0 ∨ q3 < q1) then (1 : Int32) else 0)), .val (.int (if ((0 : Int32) < (0 : Int32) ∨ q3 < (own_max (own_max (-9223372036854775808 : Int64) q0) q1)) then (1 : Int32) else 0))] [])) _
          refine XS.iload X63.here hx rfl (hb hby at_182) rfl ?_
          show Steps p.tables e below (T63.setTop (mkF m 184 #[.val (.long q0), .second, .val (.long q1), .second, .val (.long q2), .second, .val (.long q3), .second, .val (.int p4), .val (.int (p4 &&& (3 : Int32))), .val (.ref b1), .val (.long (own_max (own_max (-9223372036854775808 : Int64) q0) q1)), .second, .val (.int (if (q3 < q0 ∨ q3 < q1) then (1 : Int32) else 0)), .val (.int (if ((0 : Int32) < (0 : Int32) ∨ q3 < (own_max (own_max (-9223372036854775808 : Int64) q0) q1)) then (1 : Int32) else 0))] [(.int (if ((0 : Int32) < (0 : Int32) ∨ q3 < (own_max (own_max (-9223372036854775808 : Int64) q0) q1)) then (1 : Int32) else 0))])) _
          refine XS.iload X63.here hx rfl (hb hby at_184) rfl ?_
          show Steps p.tables e below (T63.setTop (mkF m 186 #[.val (.long q0), .second, .val (.long q1), .second, .val (.long q2), .second, .val (.long q3), .second, .val (.int p4), .val (.int (p4 &&& (3 : Int32))), .val (.ref b1), .val (.long (own_max (own_max (-9223372036854775808 : Int64) q0) q1)), .second, .val (.int (if (q3 < q0 ∨ q3 < q1) then (1 : Int32) else 0)), .val (.int (if ((0 : Int32) < (0 : Int32) ∨ q3 < (own_max (own_max (-9223372036854775808 : Int64) q0) q1)) then (1 : Int32) else 0))] [(.int (if (q3 < q0 ∨ q3 < q1) then (1 : Int32) else 0)), (.int (if ((0 : Int32) < (0 : Int32) ∨ q3 < (own_max (own_max (-9223372036854775808 : Int64) q0) q1)) then (1 : Int32) else 0))])) _
          refine XS.icmpNo X63.here hx rfl (hb hby at_186) rfl (teq (own_bb (by simp only [own_max_toInt, Int32.lt_iff_toInt_lt, Int64.lt_iff_toInt_lt, Int32.reduceToInt, Int64.reduceToInt]; have r := rng64 q3; omega : (((0 : Int32) < (0 : Int32) ∨ q3 < (own_max (own_max (-9223372036854775808 : Int64) q0) q1)) ↔ (q3 < q0 ∨ q3 < q1))))).2 ?_
          show Steps p.tables e below (T63.setTop (mkF m 189 #[.val (.long q0), .second, .val (.long q1), .second, .val (.long q2), .second, .val (.long q3), .second, .val (.int p4), .val (.int (p4 &&& (3 : Int32))), .val (.ref b1), .val (.long (own_max (own_max (-9223372036854775808 : Int64) q0) q1)), .second, .val (.int (if (q3 < q0 ∨ q3 < q1) then (1 : Int32) else 0)), .val (.int (if ((0 : Int32) < (0 : Int32) ∨ q3 < (own_max (own_max (-9223372036854775808 : Int64) q0) q1)) then (1 : Int32) else 0))] [])) _
          refine XS.iconst X63.here hx rfl (hb hby at_189) ?_
          show Steps p.tables e below (T63.setTop (mkF m 190 #[.val (.long q0), .second, .val (.long q1), .second, .val (.long q2), .second, .val (.long q3), .second, .val (.int p4), .val (.int (p4 &&& (3 : Int32))), .val (.ref b1), .val (.long (own_max (own_max (-9223372036854775808 : Int64) q0) q1)), .second, .val (.int (if (q3 < q0 ∨ q3 < q1) then (1 : Int32) else 0)), .val (.int (if ((0 : Int32) < (0 : Int32) ∨ q3 < (own_max (own_max (-9223372036854775808 : Int64) q0) q1)) then (1 : Int32) else 0))] [(.int (1 : Int32))])) _
          refine XS.goto X63.here hx rfl (pc0 := 190) (pc' := 194) rfl (hb hby at_190) (by decide) (by decide) ?_
          exact k)
        obtain ⟨fs, hr, hrun, hended, hW, hsame⟩ := X63.leave (v := some (.int (1 : Int32))) (fun h => by rw [Bd.returns] at h; cases h)
        refine ⟨_, _, pre64 _ ?_, hrun, hended, _, _, rfl, ?_, ⟨_, rfl⟩, hW, hsame.mono (by decide) (by decide)⟩
        · exact retN X63 hx (t := .boolean) Bd.returns (by simp) (hb hby at_194) hr
        · show Q0 Z q0 q1 q2 q3 p4 h0 n0 _ T63.heap _
          rw [e63]
          exact ⟨rfl, N61⟩
      · obtain ⟨cq65, kq65, q65a, q65b, q65c⟩ := isOf hZ rfl P38_0
        obtain ⟨_, _, ⟨T65, L65, k65, n65⟩, -, X65, ⟨Lc65, hQ65, l65, y65, z65⟩, st65⟩ := X38.virtualBack hx (y := (⟨"com/example/sensor_access_indicators/sensoraccessindicators/ShownAccesses", "show", "(J)V"⟩ : MethodName)) (z := (⟨"com/example/sensor_access_indicators/sensoraccessindicators/ShownAccesses", "show", "(J)V"⟩ : MethodName)) hown (mvT hZ (hw _ (List.mem_of_getElem? (i := 12) rfl))) (mvT hZ (hw _ (List.mem_of_getElem? (i := 13) rfl))) (notFace_of_selects (args := #[]) (mvT hZ (hw _ (List.mem_of_getElem? (i := 15) rfl)))) (mvT hZ (hw _ (List.mem_of_getElem? (i := 15) rfl))) (mvT hZ (hw _ (List.mem_of_getElem? (i := 14) rfl))) (by decide) (backOf (W := 0) (rm3 l Z a0 hw [] b1 q2 (own_max (own_max (-9223372036854775808 : Int64) q0) q1) (0 : Int32) T38.heap n0 (Nat.le_trans (Nat.le_trans (Nat.le_trans (Nat.le_trans Z0 E1.1) K2.1) K18.1) K38.1) P38_1 P38_2 P38_0 g_b1) hZ (hw _ (List.mem_of_getElem? (i := 16) rfl)) (hw _ (List.mem_of_getElem? (i := 2) rfl)) (by decide) (by decide)) q65a q65c (g := (mkF m 49 #[.val (.long q0), .second, .val (.long q1), .second, .val (.long q2), .second, .val (.long q3), .second, .val (.int p4), .val (.int (p4 &&& (3 : Int32))), .val (.ref b1), .unset, .unset, .unset, .unset] [(.long q2), (.ref b1)])) rfl (by rw [hml]; rfl) (Steps.refl _) (argsL := [(.long q2)]) (rest := []) (lenOf pd_3 rfl) rfl (by show 2 * 0 + _ ≤ _; exact Nat.le_of_eq rfl) (hb hby at_49) (fun _ _ => ⟨rfl, rfl, (by decide : 1 + 0 ≤ _), (by decide : 2 + 0 ≤ _)⟩)
        dsimp only [Pt.U, Pt.locs, Pt.cells, Pt.slots] at X65 l65 y65 z65 st65 hQ65
        subst l65 y65 z65
        obtain ⟨rfl, N65q, K65, P65_0, P65_1, P65_2⟩ := hQ65
        have N65 := Fr.app N38 N65q
        have KK65 : Keep h0 T65.heap [] := KK38.trans K65 (allS (Or.inr sz_b1) all0)
        have pre66 : ∀ t, Steps p.tables e below (T65.setTop (mkF m 57 #[.val (.long q0), .second, .val (.long q1), .second, .val (.long q2), .second, .val (.long q3), .second, .val (.int p4), .val (.int (p4 &&& (3 : Int32))), .val (.ref b1), .val (.long (-9223372036854775808 : Int64)), .second, .unset, .unset] [])) t → Steps p.tables e below (s₁.setTop (entryFrame m #[(.long q0), (.long q1), (.long q2), (.long q3), (.int p4)] maxLocals)) t := fun t k => pre39 t (by
          show Steps p.tables e below (T38.setTop (mkF m 42 #[.val (.long q0), .second, .val (.long q1), .second, .val (.long q2), .second, .val (.long q3), .second, .val (.int p4), .val (.int (p4 &&& (3 : Int32))), .val (.ref b1), .unset, .unset, .unset, .unset] [(.int (3 : Int32)), (.int (p4 &&& (3 : Int32)))])) _
          refine XS.icmpNo X38.here hx rfl (hb hby at_42) rfl (flt hc42_40).1 ?_
          show Steps p.tables e below (T38.setTop (mkF m 45 #[.val (.long q0), .second, .val (.long q1), .second, .val (.long q2), .second, .val (.long q3), .second, .val (.int p4), .val (.int (p4 &&& (3 : Int32))), .val (.ref b1), .unset, .unset, .unset, .unset] [])) _
          refine XS.aload X38.here hx rfl (hb hby at_45) rfl rfl ?_
          show Steps p.tables e below (T38.setTop (mkF m 47 #[.val (.long q0), .second, .val (.long q1), .second, .val (.long q2), .second, .val (.long q3), .second, .val (.int p4), .val (.int (p4 &&& (3 : Int32))), .val (.ref b1), .unset, .unset, .unset, .unset] [(.ref b1)])) _
          refine XS.lload X38.here hx rfl (hb hby at_47) rfl ?_
          show Steps p.tables e below (T38.setTop (mkF m 49 #[.val (.long q0), .second, .val (.long q1), .second, .val (.long q2), .second, .val (.long q3), .second, .val (.int p4), .val (.int (p4 &&& (3 : Int32))), .val (.ref b1), .unset, .unset, .unset, .unset] [(.long q2), (.ref b1)])) _
          refine st65.trans ?_
          show Steps p.tables e below (T65.setTop (mkF m 52 #[.val (.long q0), .second, .val (.long q1), .second, .val (.long q2), .second, .val (.long q3), .second, .val (.int p4), .val (.int (p4 &&& (3 : Int32))), .val (.ref b1), .unset, .unset, .unset, .unset] [])) _
          refine X65.ldc2Long hx hown (mvT hZ (hw _ (List.mem_of_getElem? (i := 21) rfl))) (g := (mkF m 52 #[.val (.long q0), .second, .val (.long q1), .second, .val (.long q2), .second, .val (.long q3), .second, .val (.int p4), .val (.int (p4 &&& (3 : Int32))), .val (.ref b1), .unset, .unset, .unset, .unset] [])) rfl (hb hby at_52) _ ?_
          show Steps p.tables e below (T65.setTop (mkF m 55 #[.val (.long q0), .second, .val (.long q1), .second, .val (.long q2), .second, .val (.long q3), .second, .val (.int p4), .val (.int (p4 &&& (3 : Int32))), .val (.ref b1), .unset, .unset, .unset, .unset] [(.long (-9223372036854775808 : Int64))])) _
          refine XS.lstore X65.here hx rfl (hb hby at_55) rfl (l' := #[.val (.long q0), .second, .val (.long q1), .second, .val (.long q2), .second, .val (.long q3), .second, .val (.int p4), .val (.int (p4 &&& (3 : Int32))), .val (.ref b1), .val (.long (-9223372036854775808 : Int64)), .second, .unset, .unset]) rfl ?_
          exact k)
        obtain ⟨v67_0, hv67, prem67⟩ : ∃ (v67_0 : Int64), v67_0 = (own_max (own_max (own_max (-9223372036854775808 : Int64) q0) q1) q2) ∧ ∀ t, Steps p.tables e below (T65.setTop (mkF m 107 #[.val (.long q0), .second, .val (.long q1), .second, .val (.long q2), .second, .val (.long q3), .second, .val (.int p4), .val (.int (p4 &&& (3 : Int32))), .val (.ref b1), .val (.long v67_0), .second, .unset, .unset] [])) t → Steps p.tables e below (s₁.setTop (entryFrame m #[(.long q0), (.long q1), (.long q2), (.long q3), (.int p4)] maxLocals)) t := by
          have pre68 : ∀ t, Steps p.tables e below (T65.setTop (mkF m 67 #[.val (.long q0), .second, .val (.long q1), .second, .val (.long q2), .second, .val (.long q3), .second, .val (.int p4), .val (.int (p4 &&& (3 : Int32))), .val (.ref b1), .val (.long (-9223372036854775808 : Int64)), .second, .unset, .unset] [(.int (lcmpW q0 (-9223372036854775808 : Int64)))])) t → Steps p.tables e below (s₁.setTop (entryFrame m #[(.long q0), (.long q1), (.long q2), (.long q3), (.int p4)] maxLocals)) t := fun t k => pre66 t (by
            show Steps p.tables e below (T65.setTop (mkF m 57 #[.val (.long q0), .second, .val (.long q1), .second, .val (.long q2), .second, .val (.long q3), .second, .val (.int p4), .val (.int (p4 &&& (3 : Int32))), .val (.ref b1), .val (.long (-9223372036854775808 : Int64)), .second, .unset, .unset] [])) _
            refine XS.iload X65.here hx rfl (hb hby at_57) rfl ?_
            show Steps p.tables e below (T65.setTop (mkF m 59 #[.val (.long q0), .second, .val (.long q1), .second, .val (.long q2), .second, .val (.long q3), .second, .val (.int p4), .val (.int (p4 &&& (3 : Int32))), .val (.ref b1), .val (.long (-9223372036854775808 : Int64)), .second, .unset, .unset] [(.int (p4 &&& (3 : Int32)))])) _
            refine XS.iconst X65.here hx rfl (hb hby at_59) ?_
            show Steps p.tables e below (T65.setTop (mkF m 60 #[.val (.long q0), .second, .val (.long q1), .second, .val (.long q2), .second, .val (.long q3), .second, .val (.int p4), .val (.int (p4 &&& (3 : Int32))), .val (.ref b1), .val (.long (-9223372036854775808 : Int64)), .second, .unset, .unset] [(.int (1 : Int32)), (.int (p4 &&& (3 : Int32)))])) _
            refine XS.icmpNo X65.here hx rfl (hb hby at_60) rfl (flt hc18_4).1 ?_
            show Steps p.tables e below (T65.setTop (mkF m 63 #[.val (.long q0), .second, .val (.long q1), .second, .val (.long q2), .second, .val (.long q3), .second, .val (.int p4), .val (.int (p4 &&& (3 : Int32))), .val (.ref b1), .val (.long (-9223372036854775808 : Int64)), .second, .unset, .unset] [])) _
            refine XS.lloadN X65.here hx rfl (hb hby at_63) rfl ?_
            show Steps p.tables e below (T65.setTop (mkF m 64 #[.val (.long q0), .second, .val (.long q1), .second, .val (.long q2), .second, .val (.long q3), .second, .val (.int p4), .val (.int (p4 &&& (3 : Int32))), .val (.ref b1), .val (.long (-9223372036854775808 : Int64)), .second, .unset, .unset] [(.long q0)])) _
            refine XS.lload X65.here hx rfl (hb hby at_64) rfl ?_
            show Steps p.tables e below (T65.setTop (mkF m 66 #[.val (.long q0), .second, .val (.long q1), .second, .val (.long q2), .second, .val (.long q3), .second, .val (.int p4), .val (.int (p4 &&& (3 : Int32))), .val (.ref b1), .val (.long (-9223372036854775808 : Int64)), .second, .unset, .unset] [(.long (-9223372036854775808 : Int64)), (.long q0)])) _
            refine XS.lcmp X65.here hx rfl (hb hby at_66) rfl ?_
            exact k)
          by_cases hc67_69 : (-9223372036854775808 : Int64) < q0
          · have pre70 : ∀ t, Steps p.tables e below (T65.setTop (mkF m 83 #[.val (.long q0), .second, .val (.long q1), .second, .val (.long q2), .second, .val (.long q3), .second, .val (.int p4), .val (.int (p4 &&& (3 : Int32))), .val (.ref b1), .val (.long q0), .second, .unset, .unset] [(.int (lcmpW q1 q0))])) t → Steps p.tables e below (s₁.setTop (entryFrame m #[(.long q0), (.long q1), (.long q2), (.long q3), (.int p4)] maxLocals)) t := fun t k => pre68 t (by
              show Steps p.tables e below (T65.setTop (mkF m 67 #[.val (.long q0), .second, .val (.long q1), .second, .val (.long q2), .second, .val (.long q3), .second, .val (.int p4), .val (.int (p4 &&& (3 : Int32))), .val (.ref b1), .val (.long (-9223372036854775808 : Int64)), .second, .unset, .unset] [(.int (lcmpW q0 (-9223372036854775808 : Int64)))])) _
              refine XS.ifNo X65.here hx rfl (hb hby at_67) rfl ((if0 _ _).trans (tlt ((lw_gt _ _).mpr hc67_69)).2.2.2) ?_
              show Steps p.tables e below (T65.setTop (mkF m 70 #[.val (.long q0), .second, .val (.long q1), .second, .val (.long q2), .second, .val (.long q3), .second, .val (.int p4), .val (.int (p4 &&& (3 : Int32))), .val (.ref b1), .val (.long (-9223372036854775808 : Int64)), .second, .unset, .unset] [])) _
              refine XS.lloadN X65.here hx rfl (hb hby at_70) rfl ?_
              show Steps p.tables e below (T65.setTop (mkF m 71 #[.val (.long q0), .second, .val (.long q1), .second, .val (.long q2), .second, .val (.long q3), .second, .val (.int p4), .val (.int (p4 &&& (3 : Int32))), .val (.ref b1), .val (.long (-9223372036854775808 : Int64)), .second, .unset, .unset] [(.long q0)])) _
              refine XS.lstore X65.here hx rfl (hb hby at_71) rfl (l' := #[.val (.long q0), .second, .val (.long q1), .second, .val (.long q2), .second, .val (.long q3), .second, .val (.int p4), .val (.int (p4 &&& (3 : Int32))), .val (.ref b1), .val (.long q0), .second, .unset, .unset]) rfl ?_
              show Steps p.tables e below (T65.setTop (mkF m 73 #[.val (.long q0), .second, .val (.long q1), .second, .val (.long q2), .second, .val (.long q3), .second, .val (.int p4), .val (.int (p4 &&& (3 : Int32))), .val (.ref b1), .val (.long q0), .second, .unset, .unset] [])) _
              refine XS.iload X65.here hx rfl (hb hby at_73) rfl ?_
              show Steps p.tables e below (T65.setTop (mkF m 75 #[.val (.long q0), .second, .val (.long q1), .second, .val (.long q2), .second, .val (.long q3), .second, .val (.int p4), .val (.int (p4 &&& (3 : Int32))), .val (.ref b1), .val (.long q0), .second, .unset, .unset] [(.int (p4 &&& (3 : Int32)))])) _
              refine XS.iconst X65.here hx rfl (hb hby at_75) ?_
              show Steps p.tables e below (T65.setTop (mkF m 76 #[.val (.long q0), .second, .val (.long q1), .second, .val (.long q2), .second, .val (.long q3), .second, .val (.int p4), .val (.int (p4 &&& (3 : Int32))), .val (.ref b1), .val (.long q0), .second, .unset, .unset] [(.int (2 : Int32)), (.int (p4 &&& (3 : Int32)))])) _
              refine XS.icmpNo X65.here hx rfl (hb hby at_76) rfl (flt hc30_20).1 ?_
              show Steps p.tables e below (T65.setTop (mkF m 79 #[.val (.long q0), .second, .val (.long q1), .second, .val (.long q2), .second, .val (.long q3), .second, .val (.int p4), .val (.int (p4 &&& (3 : Int32))), .val (.ref b1), .val (.long q0), .second, .unset, .unset] [])) _
              refine XS.lloadN X65.here hx rfl (hb hby at_79) rfl ?_
              show Steps p.tables e below (T65.setTop (mkF m 80 #[.val (.long q0), .second, .val (.long q1), .second, .val (.long q2), .second, .val (.long q3), .second, .val (.int p4), .val (.int (p4 &&& (3 : Int32))), .val (.ref b1), .val (.long q0), .second, .unset, .unset] [(.long q1)])) _
              refine XS.lload X65.here hx rfl (hb hby at_80) rfl ?_
              show Steps p.tables e below (T65.setTop (mkF m 82 #[.val (.long q0), .second, .val (.long q1), .second, .val (.long q2), .second, .val (.long q3), .second, .val (.int p4), .val (.int (p4 &&& (3 : Int32))), .val (.ref b1), .val (.long q0), .second, .unset, .unset] [(.long q0), (.long q1)])) _
              refine XS.lcmp X65.here hx rfl (hb hby at_82) rfl ?_
              exact k)
            by_cases hc83_71 : q0 < q1
            · have pre72 : ∀ t, Steps p.tables e below (T65.setTop (mkF m 100 #[.val (.long q0), .second, .val (.long q1), .second, .val (.long q2), .second, .val (.long q3), .second, .val (.int p4), .val (.int (p4 &&& (3 : Int32))), .val (.ref b1), .val (.long q1), .second, .unset, .unset] [(.int (lcmpW q2 q1))])) t → Steps p.tables e below (s₁.setTop (entryFrame m #[(.long q0), (.long q1), (.long q2), (.long q3), (.int p4)] maxLocals)) t := fun t k => pre70 t (by
                show Steps p.tables e below (T65.setTop (mkF m 83 #[.val (.long q0), .second, .val (.long q1), .second, .val (.long q2), .second, .val (.long q3), .second, .val (.int p4), .val (.int (p4 &&& (3 : Int32))), .val (.ref b1), .val (.long q0), .second, .unset, .unset] [(.int (lcmpW q1 q0))])) _
                refine XS.ifNo X65.here hx rfl (hb hby at_83) rfl ((if0 _ _).trans (tlt ((lw_gt _ _).mpr hc83_71)).2.2.2) ?_
                show Steps p.tables e below (T65.setTop (mkF m 86 #[.val (.long q0), .second, .val (.long q1), .second, .val (.long q2), .second, .val (.long q3), .second, .val (.int p4), .val (.int (p4 &&& (3 : Int32))), .val (.ref b1), .val (.long q0), .second, .unset, .unset] [])) _
                refine XS.lloadN X65.here hx rfl (hb hby at_86) rfl ?_
                show Steps p.tables e below (T65.setTop (mkF m 87 #[.val (.long q0), .second, .val (.long q1), .second, .val (.long q2), .second, .val (.long q3), .second, .val (.int p4), .val (.int (p4 &&& (3 : Int32))), .val (.ref b1), .val (.long q0), .second, .unset, .unset] [(.long q1)])) _
                refine XS.lstore X65.here hx rfl (hb hby at_87) rfl (l' := #[.val (.long q0), .second, .val (.long q1), .second, .val (.long q2), .second, .val (.long q3), .second, .val (.int p4), .val (.int (p4 &&& (3 : Int32))), .val (.ref b1), .val (.long q1), .second, .unset, .unset]) rfl ?_
                show Steps p.tables e below (T65.setTop (mkF m 89 #[.val (.long q0), .second, .val (.long q1), .second, .val (.long q2), .second, .val (.long q3), .second, .val (.int p4), .val (.int (p4 &&& (3 : Int32))), .val (.ref b1), .val (.long q1), .second, .unset, .unset] [])) _
                refine XS.iload X65.here hx rfl (hb hby at_89) rfl ?_
                show Steps p.tables e below (T65.setTop (mkF m 91 #[.val (.long q0), .second, .val (.long q1), .second, .val (.long q2), .second, .val (.long q3), .second, .val (.int p4), .val (.int (p4 &&& (3 : Int32))), .val (.ref b1), .val (.long q1), .second, .unset, .unset] [(.int (p4 &&& (3 : Int32)))])) _
                refine XS.iconst X65.here hx rfl (hb hby at_91) ?_
                show Steps p.tables e below (T65.setTop (mkF m 92 #[.val (.long q0), .second, .val (.long q1), .second, .val (.long q2), .second, .val (.long q3), .second, .val (.int p4), .val (.int (p4 &&& (3 : Int32))), .val (.ref b1), .val (.long q1), .second, .unset, .unset] [(.int (3 : Int32)), (.int (p4 &&& (3 : Int32)))])) _
                refine XS.icmpNo X65.here hx rfl (hb hby at_92) rfl (flt hc42_40).1 ?_
                show Steps p.tables e below (T65.setTop (mkF m 95 #[.val (.long q0), .second, .val (.long q1), .second, .val (.long q2), .second, .val (.long q3), .second, .val (.int p4), .val (.int (p4 &&& (3 : Int32))), .val (.ref b1), .val (.long q1), .second, .unset, .unset] [])) _
                refine XS.lload X65.here hx rfl (hb hby at_95) rfl ?_
                show Steps p.tables e below (T65.setTop (mkF m 97 #[.val (.long q0), .second, .val (.long q1), .second, .val (.long q2), .second, .val (.long q3), .second, .val (.int p4), .val (.int (p4 &&& (3 : Int32))), .val (.ref b1), .val (.long q1), .second, .unset, .unset] [(.long q2)])) _
                refine XS.lload X65.here hx rfl (hb hby at_97) rfl ?_
                show Steps p.tables e below (T65.setTop (mkF m 99 #[.val (.long q0), .second, .val (.long q1), .second, .val (.long q2), .second, .val (.long q3), .second, .val (.int p4), .val (.int (p4 &&& (3 : Int32))), .val (.ref b1), .val (.long q1), .second, .unset, .unset] [(.long q1), (.long q2)])) _
                refine XS.lcmp X65.here hx rfl (hb hby at_99) rfl ?_
                exact k)
              by_cases hc100_73 : q1 < q2
              · have pre74 : ∀ t, Steps p.tables e below (T65.setTop (mkF m 107 #[.val (.long q0), .second, .val (.long q1), .second, .val (.long q2), .second, .val (.long q3), .second, .val (.int p4), .val (.int (p4 &&& (3 : Int32))), .val (.ref b1), .val (.long q2), .second, .unset, .unset] [])) t → Steps p.tables e below (s₁.setTop (entryFrame m #[(.long q0), (.long q1), (.long q2), (.long q3), (.int p4)] maxLocals)) t := fun t k => pre72 t (by
                  show Steps p.tables e below (T65.setTop (mkF m 100 #[.val (.long q0), .second, .val (.long q1), .second, .val (.long q2), .second, .val (.long q3), .second, .val (.int p4), .val (.int (p4 &&& (3 : Int32))), .val (.ref b1), .val (.long q1), .second, .unset, .unset] [(.int (lcmpW q2 q1))])) _
                  refine XS.ifNo X65.here hx rfl (hb hby at_100) rfl ((if0 _ _).trans (tlt ((lw_gt _ _).mpr hc100_73)).2.2.2) ?_
                  show Steps p.tables e below (T65.setTop (mkF m 103 #[.val (.long q0), .second, .val (.long q1), .second, .val (.long q2), .second, .val (.long q3), .second, .val (.int p4), .val (.int (p4 &&& (3 : Int32))), .val (.ref b1), .val (.long q1), .second, .unset, .unset] [])) _
                  refine XS.lload X65.here hx rfl (hb hby at_103) rfl ?_
                  show Steps p.tables e below (T65.setTop (mkF m 105 #[.val (.long q0), .second, .val (.long q1), .second, .val (.long q2), .second, .val (.long q3), .second, .val (.int p4), .val (.int (p4 &&& (3 : Int32))), .val (.ref b1), .val (.long q1), .second, .unset, .unset] [(.long q2)])) _
                  refine XS.lstore X65.here hx rfl (hb hby at_105) rfl (l' := #[.val (.long q0), .second, .val (.long q1), .second, .val (.long q2), .second, .val (.long q3), .second, .val (.int p4), .val (.int (p4 &&& (3 : Int32))), .val (.ref b1), .val (.long q2), .second, .unset, .unset]) rfl ?_
                  exact k)
                exact ⟨q2, (own_eq (by simp only [own_max_toInt, Int64.lt_iff_toInt_lt, Int64.reduceToInt] at hc67_69 hc83_71 hc100_73 ⊢; have r0 := rng64 q0; have r1 := rng64 q1; have r2 := rng64 q2; omega)), pre74⟩
              · have pre75 : ∀ t, Steps p.tables e below (T65.setTop (mkF m 107 #[.val (.long q0), .second, .val (.long q1), .second, .val (.long q2), .second, .val (.long q3), .second, .val (.int p4), .val (.int (p4 &&& (3 : Int32))), .val (.ref b1), .val (.long q1), .second, .unset, .unset] [])) t → Steps p.tables e below (s₁.setTop (entryFrame m #[(.long q0), (.long q1), (.long q2), (.long q3), (.int p4)] maxLocals)) t := fun t k => pre72 t (by
                  show Steps p.tables e below (T65.setTop (mkF m 100 #[.val (.long q0), .second, .val (.long q1), .second, .val (.long q2), .second, .val (.long q3), .second, .val (.int p4), .val (.int (p4 &&& (3 : Int32))), .val (.ref b1), .val (.long q1), .second, .unset, .unset] [(.int (lcmpW q2 q1))])) _
                  refine XS.ifYes X65.here hx rfl (pc0 := 100) (pc' := 107) rfl (hb hby at_100) rfl ((if0 _ _).trans (flt (fun q => hc100_73 ((lw_gt _ _).mp q))).2.2.2) (by decide) (by decide) ?_
                  exact k)
                exact ⟨q1, (own_eq (by simp only [own_max_toInt, Int64.lt_iff_toInt_lt, Int64.reduceToInt] at hc67_69 hc83_71 hc100_73 ⊢; have r0 := rng64 q0; have r1 := rng64 q1; have r2 := rng64 q2; omega)), pre75⟩
            · have pre76 : ∀ t, Steps p.tables e below (T65.setTop (mkF m 100 #[.val (.long q0), .second, .val (.long q1), .second, .val (.long q2), .second, .val (.long q3), .second, .val (.int p4), .val (.int (p4 &&& (3 : Int32))), .val (.ref b1), .val (.long q0), .second, .unset, .unset] [(.int (lcmpW q2 q0))])) t → Steps p.tables e below (s₁.setTop (entryFrame m #[(.long q0), (.long q1), (.long q2), (.long q3), (.int p4)] maxLocals)) t := fun t k => pre70 t (by
                show Steps p.tables e below (T65.setTop (mkF m 83 #[.val (.long q0), .second, .val (.long q1), .second, .val (.long q2), .second, .val (.long q3), .second, .val (.int p4), .val (.int (p4 &&& (3 : Int32))), .val (.ref b1), .val (.long q0), .second, .unset, .unset] [(.int (lcmpW q1 q0))])) _
                refine XS.ifYes X65.here hx rfl (pc0 := 83) (pc' := 89) rfl (hb hby at_83) rfl ((if0 _ _).trans (flt (fun q => hc83_71 ((lw_gt _ _).mp q))).2.2.2) (by decide) (by decide) ?_
                show Steps p.tables e below (T65.setTop (mkF m 89 #[.val (.long q0), .second, .val (.long q1), .second, .val (.long q2), .second, .val (.long q3), .second, .val (.int p4), .val (.int (p4 &&& (3 : Int32))), .val (.ref b1), .val (.long q0), .second, .unset, .unset] [])) _
                refine XS.iload X65.here hx rfl (hb hby at_89) rfl ?_
                show Steps p.tables e below (T65.setTop (mkF m 91 #[.val (.long q0), .second, .val (.long q1), .second, .val (.long q2), .second, .val (.long q3), .second, .val (.int p4), .val (.int (p4 &&& (3 : Int32))), .val (.ref b1), .val (.long q0), .second, .unset, .unset] [(.int (p4 &&& (3 : Int32)))])) _
                refine XS.iconst X65.here hx rfl (hb hby at_91) ?_
                show Steps p.tables e below (T65.setTop (mkF m 92 #[.val (.long q0), .second, .val (.long q1), .second, .val (.long q2), .second, .val (.long q3), .second, .val (.int p4), .val (.int (p4 &&& (3 : Int32))), .val (.ref b1), .val (.long q0), .second, .unset, .unset] [(.int (3 : Int32)), (.int (p4 &&& (3 : Int32)))])) _
                refine XS.icmpNo X65.here hx rfl (hb hby at_92) rfl (flt hc42_40).1 ?_
                show Steps p.tables e below (T65.setTop (mkF m 95 #[.val (.long q0), .second, .val (.long q1), .second, .val (.long q2), .second, .val (.long q3), .second, .val (.int p4), .val (.int (p4 &&& (3 : Int32))), .val (.ref b1), .val (.long q0), .second, .unset, .unset] [])) _
                refine XS.lload X65.here hx rfl (hb hby at_95) rfl ?_
                show Steps p.tables e below (T65.setTop (mkF m 97 #[.val (.long q0), .second, .val (.long q1), .second, .val (.long q2), .second, .val (.long q3), .second, .val (.int p4), .val (.int (p4 &&& (3 : Int32))), .val (.ref b1), .val (.long q0), .second, .unset, .unset] [(.long q2)])) _
                refine XS.lload X65.here hx rfl (hb hby at_97) rfl ?_
                show Steps p.tables e below (T65.setTop (mkF m 99 #[.val (.long q0), .second, .val (.long q1), .second, .val (.long q2), .second, .val (.long q3), .second, .val (.int p4), .val (.int (p4 &&& (3 : Int32))), .val (.ref b1), .val (.long q0), .second, .unset, .unset] [(.long q0), (.long q2)])) _
                refine XS.lcmp X65.here hx rfl (hb hby at_99) rfl ?_
                exact k)
              by_cases hc100_77 : q0 < q2
              · have pre78 : ∀ t, Steps p.tables e below (T65.setTop (mkF m 107 #[.val (.long q0), .second, .val (.long q1), .second, .val (.long q2), .second, .val (.long q3), .second, .val (.int p4), .val (.int (p4 &&& (3 : Int32))), .val (.ref b1), .val (.long q2), .second, .unset, .unset] [])) t → Steps p.tables e below (s₁.setTop (entryFrame m #[(.long q0), (.long q1), (.long q2), (.long q3), (.int p4)] maxLocals)) t := fun t k => pre76 t (by
                  show Steps p.tables e below (T65.setTop (mkF m 100 #[.val (.long q0), .second, .val (.long q1), .second, .val (.long q2), .second, .val (.long q3), .second, .val (.int p4), .val (.int (p4 &&& (3 : Int32))), .val (.ref b1), .val (.long q0), .second, .unset, .unset] [(.int (lcmpW q2 q0))])) _
                  refine XS.ifNo X65.here hx rfl (hb hby at_100) rfl ((if0 _ _).trans (tlt ((lw_gt _ _).mpr hc100_77)).2.2.2) ?_
                  show Steps p.tables e below (T65.setTop (mkF m 103 #[.val (.long q0), .second, .val (.long q1), .second, .val (.long q2), .second, .val (.long q3), .second, .val (.int p4), .val (.int (p4 &&& (3 : Int32))), .val (.ref b1), .val (.long q0), .second, .unset, .unset] [])) _
                  refine XS.lload X65.here hx rfl (hb hby at_103) rfl ?_
                  show Steps p.tables e below (T65.setTop (mkF m 105 #[.val (.long q0), .second, .val (.long q1), .second, .val (.long q2), .second, .val (.long q3), .second, .val (.int p4), .val (.int (p4 &&& (3 : Int32))), .val (.ref b1), .val (.long q0), .second, .unset, .unset] [(.long q2)])) _
                  refine XS.lstore X65.here hx rfl (hb hby at_105) rfl (l' := #[.val (.long q0), .second, .val (.long q1), .second, .val (.long q2), .second, .val (.long q3), .second, .val (.int p4), .val (.int (p4 &&& (3 : Int32))), .val (.ref b1), .val (.long q2), .second, .unset, .unset]) rfl ?_
                  exact k)
                exact ⟨q2, (own_eq (by simp only [own_max_toInt, Int64.lt_iff_toInt_lt, Int64.reduceToInt] at hc67_69 hc83_71 hc100_77 ⊢; have r0 := rng64 q0; have r1 := rng64 q1; have r2 := rng64 q2; omega)), pre78⟩
              · have pre79 : ∀ t, Steps p.tables e below (T65.setTop (mkF m 107 #[.val (.long q0), .second, .val (.long q1), .second, .val (.long q2), .second, .val (.long q3), .second, .val (.int p4), .val (.int (p4 &&& (3 : Int32))), .val (.ref b1), .val (.long q0), .second, .unset, .unset] [])) t → Steps p.tables e below (s₁.setTop (entryFrame m #[(.long q0), (.long q1), (.long q2), (.long q3), (.int p4)] maxLocals)) t := fun t k => pre76 t (by
                  show Steps p.tables e below (T65.setTop (mkF m 100 #[.val (.long q0), .second, .val (.long q1), .second, .val (.long q2), .second, .val (.long q3), .second, .val (.int p4), .val (.int (p4 &&& (3 : Int32))), .val (.ref b1), .val (.long q0), .second, .unset, .unset] [(.int (lcmpW q2 q0))])) _
                  refine XS.ifYes X65.here hx rfl (pc0 := 100) (pc' := 107) rfl (hb hby at_100) rfl ((if0 _ _).trans (flt (fun q => hc100_77 ((lw_gt _ _).mp q))).2.2.2) (by decide) (by decide) ?_
                  exact k)
                exact ⟨q0, (own_eq (by simp only [own_max_toInt, Int64.lt_iff_toInt_lt, Int64.reduceToInt] at hc67_69 hc83_71 hc100_77 ⊢; have r0 := rng64 q0; have r1 := rng64 q1; have r2 := rng64 q2; omega)), pre79⟩
          · have pre80 : ∀ t, Steps p.tables e below (T65.setTop (mkF m 83 #[.val (.long q0), .second, .val (.long q1), .second, .val (.long q2), .second, .val (.long q3), .second, .val (.int p4), .val (.int (p4 &&& (3 : Int32))), .val (.ref b1), .val (.long (-9223372036854775808 : Int64)), .second, .unset, .unset] [(.int (lcmpW q1 (-9223372036854775808 : Int64)))])) t → Steps p.tables e below (s₁.setTop (entryFrame m #[(.long q0), (.long q1), (.long q2), (.long q3), (.int p4)] maxLocals)) t := fun t k => pre68 t (by
              show Steps p.tables e below (T65.setTop (mkF m 67 #[.val (.long q0), .second, .val (.long q1), .second, .val (.long q2), .second, .val (.long q3), .second, .val (.int p4), .val (.int (p4 &&& (3 : Int32))), .val (.ref b1), .val (.long (-9223372036854775808 : Int64)), .second, .unset, .unset] [(.int (lcmpW q0 (-9223372036854775808 : Int64)))])) _
              refine XS.ifYes X65.here hx rfl (pc0 := 67) (pc' := 73) rfl (hb hby at_67) rfl ((if0 _ _).trans (flt (fun q => hc67_69 ((lw_gt _ _).mp q))).2.2.2) (by decide) (by decide) ?_
              show Steps p.tables e below (T65.setTop (mkF m 73 #[.val (.long q0), .second, .val (.long q1), .second, .val (.long q2), .second, .val (.long q3), .second, .val (.int p4), .val (.int (p4 &&& (3 : Int32))), .val (.ref b1), .val (.long (-9223372036854775808 : Int64)), .second, .unset, .unset] [])) _
              refine XS.iload X65.here hx rfl (hb hby at_73) rfl ?_
              show Steps p.tables e below (T65.setTop (mkF m 75 #[.val (.long q0), .second, .val (.long q1), .second, .val (.long q2), .second, .val (.long q3), .second, .val (.int p4), .val (.int (p4 &&& (3 : Int32))), .val (.ref b1), .val (.long (-9223372036854775808 : Int64)), .second, .unset, .unset] [(.int (p4 &&& (3 : Int32)))])) _
              refine XS.iconst X65.here hx rfl (hb hby at_75) ?_
              show Steps p.tables e below (T65.setTop (mkF m 76 #[.val (.long q0), .second, .val (.long q1), .second, .val (.long q2), .second, .val (.long q3), .second, .val (.int p4), .val (.int (p4 &&& (3 : Int32))), .val (.ref b1), .val (.long (-9223372036854775808 : Int64)), .second, .unset, .unset] [(.int (2 : Int32)), (.int (p4 &&& (3 : Int32)))])) _
              refine XS.icmpNo X65.here hx rfl (hb hby at_76) rfl (flt hc30_20).1 ?_
              show Steps p.tables e below (T65.setTop (mkF m 79 #[.val (.long q0), .second, .val (.long q1), .second, .val (.long q2), .second, .val (.long q3), .second, .val (.int p4), .val (.int (p4 &&& (3 : Int32))), .val (.ref b1), .val (.long (-9223372036854775808 : Int64)), .second, .unset, .unset] [])) _
              refine XS.lloadN X65.here hx rfl (hb hby at_79) rfl ?_
              show Steps p.tables e below (T65.setTop (mkF m 80 #[.val (.long q0), .second, .val (.long q1), .second, .val (.long q2), .second, .val (.long q3), .second, .val (.int p4), .val (.int (p4 &&& (3 : Int32))), .val (.ref b1), .val (.long (-9223372036854775808 : Int64)), .second, .unset, .unset] [(.long q1)])) _
              refine XS.lload X65.here hx rfl (hb hby at_80) rfl ?_
              show Steps p.tables e below (T65.setTop (mkF m 82 #[.val (.long q0), .second, .val (.long q1), .second, .val (.long q2), .second, .val (.long q3), .second, .val (.int p4), .val (.int (p4 &&& (3 : Int32))), .val (.ref b1), .val (.long (-9223372036854775808 : Int64)), .second, .unset, .unset] [(.long (-9223372036854775808 : Int64)), (.long q1)])) _
              refine XS.lcmp X65.here hx rfl (hb hby at_82) rfl ?_
              exact k)
            by_cases hc83_81 : (-9223372036854775808 : Int64) < q1
            · have pre82 : ∀ t, Steps p.tables e below (T65.setTop (mkF m 100 #[.val (.long q0), .second, .val (.long q1), .second, .val (.long q2), .second, .val (.long q3), .second, .val (.int p4), .val (.int (p4 &&& (3 : Int32))), .val (.ref b1), .val (.long q1), .second, .unset, .unset] [(.int (lcmpW q2 q1))])) t → Steps p.tables e below (s₁.setTop (entryFrame m #[(.long q0), (.long q1), (.long q2), (.long q3), (.int p4)] maxLocals)) t := fun t k => pre80 t (by
                show Steps p.tables e below (T65.setTop (mkF m 83 #[.val (.long q0), .second, .val (.long q1), .second, .val (.long q2), .second, .val (.long q3), .second, .val (.int p4), .val (.int (p4 &&& (3 : Int32))), .val (.ref b1), .val (.long (-9223372036854775808 : Int64)), .second, .unset, .unset] [(.int (lcmpW q1 (-9223372036854775808 : Int64)))])) _
                refine XS.ifNo X65.here hx rfl (hb hby at_83) rfl ((if0 _ _).trans (tlt ((lw_gt _ _).mpr hc83_81)).2.2.2) ?_
                show Steps p.tables e below (T65.setTop (mkF m 86 #[.val (.long q0), .second, .val (.long q1), .second, .val (.long q2), .second, .val (.long q3), .second, .val (.int p4), .val (.int (p4 &&& (3 : Int32))), .val (.ref b1), .val (.long (-9223372036854775808 : Int64)), .second, .unset, .unset] [])) _
                refine XS.lloadN X65.here hx rfl (hb hby at_86) rfl ?_
                show Steps p.tables e below (T65.setTop (mkF m 87 #[.val (.long q0), .second, .val (.long q1), .second, .val (.long q2), .second, .val (.long q3), .second, .val (.int p4), .val (.int (p4 &&& (3 : Int32))), .val (.ref b1), .val (.long (-9223372036854775808 : Int64)), .second, .unset, .unset] [(.long q1)])) _
                refine XS.lstore X65.here hx rfl (hb hby at_87) rfl (l' := #[.val (.long q0), .second, .val (.long q1), .second, .val (.long q2), .second, .val (.long q3), .second, .val (.int p4), .val (.int (p4 &&& (3 : Int32))), .val (.ref b1), .val (.long q1), .second, .unset, .unset]) rfl ?_
                show Steps p.tables e below (T65.setTop (mkF m 89 #[.val (.long q0), .second, .val (.long q1), .second, .val (.long q2), .second, .val (.long q3), .second, .val (.int p4), .val (.int (p4 &&& (3 : Int32))), .val (.ref b1), .val (.long q1), .second, .unset, .unset] [])) _
                refine XS.iload X65.here hx rfl (hb hby at_89) rfl ?_
                show Steps p.tables e below (T65.setTop (mkF m 91 #[.val (.long q0), .second, .val (.long q1), .second, .val (.long q2), .second, .val (.long q3), .second, .val (.int p4), .val (.int (p4 &&& (3 : Int32))), .val (.ref b1), .val (.long q1), .second, .unset, .unset] [(.int (p4 &&& (3 : Int32)))])) _
                refine XS.iconst X65.here hx rfl (hb hby at_91) ?_
                show Steps p.tables e below (T65.setTop (mkF m 92 #[.val (.long q0), .second, .val (.long q1), .second, .val (.long q2), .second, .val (.long q3), .second, .val (.int p4), .val (.int (p4 &&& (3 : Int32))), .val (.ref b1), .val (.long q1), .second, .unset, .unset] [(.int (3 : Int32)), (.int (p4 &&& (3 : Int32)))])) _
                refine XS.icmpNo X65.here hx rfl (hb hby at_92) rfl (flt hc42_40).1 ?_
                show Steps p.tables e below (T65.setTop (mkF m 95 #[.val (.long q0), .second, .val (.long q1), .second, .val (.long q2), .second, .val (.long q3), .second, .val (.int p4), .val (.int (p4 &&& (3 : Int32))), .val (.ref b1), .val (.long q1), .second, .unset, .unset] [])) _
                refine XS.lload X65.here hx rfl (hb hby at_95) rfl ?_
                show Steps p.tables e below (T65.setTop (mkF m 97 #[.val (.long q0), .second, .val (.long q1), .second, .val (.long q2), .second, .val (.long q3), .second, .val (.int p4), .val (.int (p4 &&& (3 : Int32))), .val (.ref b1), .val (.long q1), .second, .unset, .unset] [(.long q2)])) _
                refine XS.lload X65.here hx rfl (hb hby at_97) rfl ?_
                show Steps p.tables e below (T65.setTop (mkF m 99 #[.val (.long q0), .second, .val (.long q1), .second, .val (.long q2), .second, .val (.long q3), .second, .val (.int p4), .val (.int (p4 &&& (3 : Int32))), .val (.ref b1), .val (.long q1), .second, .unset, .unset] [(.long q1), (.long q2)])) _
                refine XS.lcmp X65.here hx rfl (hb hby at_99) rfl ?_
                exact k)
              by_cases hc100_83 : q1 < q2
              · have pre84 : ∀ t, Steps p.tables e below (T65.setTop (mkF m 107 #[.val (.long q0), .second, .val (.long q1), .second, .val (.long q2), .second, .val (.long q3), .second, .val (.int p4), .val (.int (p4 &&& (3 : Int32))), .val (.ref b1), .val (.long q2), .second, .unset, .unset] [])) t → Steps p.tables e below (s₁.setTop (entryFrame m #[(.long q0), (.long q1), (.long q2), (.long q3), (.int p4)] maxLocals)) t := fun t k => pre82 t (by
                  show Steps p.tables e below (T65.setTop (mkF m 100 #[.val (.long q0), .second, .val (.long q1), .second, .val (.long q2), .second, .val (.long q3), .second, .val (.int p4), .val (.int (p4 &&& (3 : Int32))), .val (.ref b1), .val (.long q1), .second, .unset, .unset] [(.int (lcmpW q2 q1))])) _
                  refine XS.ifNo X65.here hx rfl (hb hby at_100) rfl ((if0 _ _).trans (tlt ((lw_gt _ _).mpr hc100_83)).2.2.2) ?_
                  show Steps p.tables e below (T65.setTop (mkF m 103 #[.val (.long q0), .second, .val (.long q1), .second, .val (.long q2), .second, .val (.long q3), .second, .val (.int p4), .val (.int (p4 &&& (3 : Int32))), .val (.ref b1), .val (.long q1), .second, .unset, .unset] [])) _
                  refine XS.lload X65.here hx rfl (hb hby at_103) rfl ?_
                  show Steps p.tables e below (T65.setTop (mkF m 105 #[.val (.long q0), .second, .val (.long q1), .second, .val (.long q2), .second, .val (.long q3), .second, .val (.int p4), .val (.int (p4 &&& (3 : Int32))), .val (.ref b1), .val (.long q1), .second, .unset, .unset] [(.long q2)])) _
                  refine XS.lstore X65.here hx rfl (hb hby at_105) rfl (l' := #[.val (.long q0), .second, .val (.long q1), .second, .val (.long q2), .second, .val (.long q3), .second, .val (.int p4), .val (.int (p4 &&& (3 : Int32))), .val (.ref b1), .val (.long q2), .second, .unset, .unset]) rfl ?_
                  exact k)
                exact ⟨q2, (own_eq (by simp only [own_max_toInt, Int64.lt_iff_toInt_lt, Int64.reduceToInt] at hc67_69 hc83_81 hc100_83 ⊢; have r0 := rng64 q0; have r1 := rng64 q1; have r2 := rng64 q2; omega)), pre84⟩
              · have pre85 : ∀ t, Steps p.tables e below (T65.setTop (mkF m 107 #[.val (.long q0), .second, .val (.long q1), .second, .val (.long q2), .second, .val (.long q3), .second, .val (.int p4), .val (.int (p4 &&& (3 : Int32))), .val (.ref b1), .val (.long q1), .second, .unset, .unset] [])) t → Steps p.tables e below (s₁.setTop (entryFrame m #[(.long q0), (.long q1), (.long q2), (.long q3), (.int p4)] maxLocals)) t := fun t k => pre82 t (by
                  show Steps p.tables e below (T65.setTop (mkF m 100 #[.val (.long q0), .second, .val (.long q1), .second, .val (.long q2), .second, .val (.long q3), .second, .val (.int p4), .val (.int (p4 &&& (3 : Int32))), .val (.ref b1), .val (.long q1), .second, .unset, .unset] [(.int (lcmpW q2 q1))])) _
                  refine XS.ifYes X65.here hx rfl (pc0 := 100) (pc' := 107) rfl (hb hby at_100) rfl ((if0 _ _).trans (flt (fun q => hc100_83 ((lw_gt _ _).mp q))).2.2.2) (by decide) (by decide) ?_
                  exact k)
                exact ⟨q1, (own_eq (by simp only [own_max_toInt, Int64.lt_iff_toInt_lt, Int64.reduceToInt] at hc67_69 hc83_81 hc100_83 ⊢; have r0 := rng64 q0; have r1 := rng64 q1; have r2 := rng64 q2; omega)), pre85⟩
            · have pre86 : ∀ t, Steps p.tables e below (T65.setTop (mkF m 100 #[.val (.long q0), .second, .val (.long q1), .second, .val (.long q2), .second, .val (.long q3), .second, .val (.int p4), .val (.int (p4 &&& (3 : Int32))), .val (.ref b1), .val (.long (-9223372036854775808 : Int64)), .second, .unset, .unset] [(.int (lcmpW q2 (-9223372036854775808 : Int64)))])) t → Steps p.tables e below (s₁.setTop (entryFrame m #[(.long q0), (.long q1), (.long q2), (.long q3), (.int p4)] maxLocals)) t := fun t k => pre80 t (by
                show Steps p.tables e below (T65.setTop (mkF m 83 #[.val (.long q0), .second, .val (.long q1), .second, .val (.long q2), .second, .val (.long q3), .second, .val (.int p4), .val (.int (p4 &&& (3 : Int32))), .val (.ref b1), .val (.long (-9223372036854775808 : Int64)), .second, .unset, .unset] [(.int (lcmpW q1 (-9223372036854775808 : Int64)))])) _
                refine XS.ifYes X65.here hx rfl (pc0 := 83) (pc' := 89) rfl (hb hby at_83) rfl ((if0 _ _).trans (flt (fun q => hc83_81 ((lw_gt _ _).mp q))).2.2.2) (by decide) (by decide) ?_
                show Steps p.tables e below (T65.setTop (mkF m 89 #[.val (.long q0), .second, .val (.long q1), .second, .val (.long q2), .second, .val (.long q3), .second, .val (.int p4), .val (.int (p4 &&& (3 : Int32))), .val (.ref b1), .val (.long (-9223372036854775808 : Int64)), .second, .unset, .unset] [])) _
                refine XS.iload X65.here hx rfl (hb hby at_89) rfl ?_
                show Steps p.tables e below (T65.setTop (mkF m 91 #[.val (.long q0), .second, .val (.long q1), .second, .val (.long q2), .second, .val (.long q3), .second, .val (.int p4), .val (.int (p4 &&& (3 : Int32))), .val (.ref b1), .val (.long (-9223372036854775808 : Int64)), .second, .unset, .unset] [(.int (p4 &&& (3 : Int32)))])) _
                refine XS.iconst X65.here hx rfl (hb hby at_91) ?_
                show Steps p.tables e below (T65.setTop (mkF m 92 #[.val (.long q0), .second, .val (.long q1), .second, .val (.long q2), .second, .val (.long q3), .second, .val (.int p4), .val (.int (p4 &&& (3 : Int32))), .val (.ref b1), .val (.long (-9223372036854775808 : Int64)), .second, .unset, .unset] [(.int (3 : Int32)), (.int (p4 &&& (3 : Int32)))])) _
                refine XS.icmpNo X65.here hx rfl (hb hby at_92) rfl (flt hc42_40).1 ?_
                show Steps p.tables e below (T65.setTop (mkF m 95 #[.val (.long q0), .second, .val (.long q1), .second, .val (.long q2), .second, .val (.long q3), .second, .val (.int p4), .val (.int (p4 &&& (3 : Int32))), .val (.ref b1), .val (.long (-9223372036854775808 : Int64)), .second, .unset, .unset] [])) _
                refine XS.lload X65.here hx rfl (hb hby at_95) rfl ?_
                show Steps p.tables e below (T65.setTop (mkF m 97 #[.val (.long q0), .second, .val (.long q1), .second, .val (.long q2), .second, .val (.long q3), .second, .val (.int p4), .val (.int (p4 &&& (3 : Int32))), .val (.ref b1), .val (.long (-9223372036854775808 : Int64)), .second, .unset, .unset] [(.long q2)])) _
                refine XS.lload X65.here hx rfl (hb hby at_97) rfl ?_
                show Steps p.tables e below (T65.setTop (mkF m 99 #[.val (.long q0), .second, .val (.long q1), .second, .val (.long q2), .second, .val (.long q3), .second, .val (.int p4), .val (.int (p4 &&& (3 : Int32))), .val (.ref b1), .val (.long (-9223372036854775808 : Int64)), .second, .unset, .unset] [(.long (-9223372036854775808 : Int64)), (.long q2)])) _
                refine XS.lcmp X65.here hx rfl (hb hby at_99) rfl ?_
                exact k)
              by_cases hc100_87 : (-9223372036854775808 : Int64) < q2
              · have pre88 : ∀ t, Steps p.tables e below (T65.setTop (mkF m 107 #[.val (.long q0), .second, .val (.long q1), .second, .val (.long q2), .second, .val (.long q3), .second, .val (.int p4), .val (.int (p4 &&& (3 : Int32))), .val (.ref b1), .val (.long q2), .second, .unset, .unset] [])) t → Steps p.tables e below (s₁.setTop (entryFrame m #[(.long q0), (.long q1), (.long q2), (.long q3), (.int p4)] maxLocals)) t := fun t k => pre86 t (by
                  show Steps p.tables e below (T65.setTop (mkF m 100 #[.val (.long q0), .second, .val (.long q1), .second, .val (.long q2), .second, .val (.long q3), .second, .val (.int p4), .val (.int (p4 &&& (3 : Int32))), .val (.ref b1), .val (.long (-9223372036854775808 : Int64)), .second, .unset, .unset] [(.int (lcmpW q2 (-9223372036854775808 : Int64)))])) _
                  refine XS.ifNo X65.here hx rfl (hb hby at_100) rfl ((if0 _ _).trans (tlt ((lw_gt _ _).mpr hc100_87)).2.2.2) ?_
                  show Steps p.tables e below (T65.setTop (mkF m 103 #[.val (.long q0), .second, .val (.long q1), .second, .val (.long q2), .second, .val (.long q3), .second, .val (.int p4), .val (.int (p4 &&& (3 : Int32))), .val (.ref b1), .val (.long (-9223372036854775808 : Int64)), .second, .unset, .unset] [])) _
                  refine XS.lload X65.here hx rfl (hb hby at_103) rfl ?_
                  show Steps p.tables e below (T65.setTop (mkF m 105 #[.val (.long q0), .second, .val (.long q1), .second, .val (.long q2), .second, .val (.long q3), .second, .val (.int p4), .val (.int (p4 &&& (3 : Int32))), .val (.ref b1), .val (.long (-9223372036854775808 : Int64)), .second, .unset, .unset] [(.long q2)])) _
                  refine XS.lstore X65.here hx rfl (hb hby at_105) rfl (l' := #[.val (.long q0), .second, .val (.long q1), .second, .val (.long q2), .second, .val (.long q3), .second, .val (.int p4), .val (.int (p4 &&& (3 : Int32))), .val (.ref b1), .val (.long q2), .second, .unset, .unset]) rfl ?_
                  exact k)
                exact ⟨q2, (own_eq (by simp only [own_max_toInt, Int64.lt_iff_toInt_lt, Int64.reduceToInt] at hc67_69 hc83_81 hc100_87 ⊢; have r0 := rng64 q0; have r1 := rng64 q1; have r2 := rng64 q2; omega)), pre88⟩
              · have pre89 : ∀ t, Steps p.tables e below (T65.setTop (mkF m 107 #[.val (.long q0), .second, .val (.long q1), .second, .val (.long q2), .second, .val (.long q3), .second, .val (.int p4), .val (.int (p4 &&& (3 : Int32))), .val (.ref b1), .val (.long (-9223372036854775808 : Int64)), .second, .unset, .unset] [])) t → Steps p.tables e below (s₁.setTop (entryFrame m #[(.long q0), (.long q1), (.long q2), (.long q3), (.int p4)] maxLocals)) t := fun t k => pre86 t (by
                  show Steps p.tables e below (T65.setTop (mkF m 100 #[.val (.long q0), .second, .val (.long q1), .second, .val (.long q2), .second, .val (.long q3), .second, .val (.int p4), .val (.int (p4 &&& (3 : Int32))), .val (.ref b1), .val (.long (-9223372036854775808 : Int64)), .second, .unset, .unset] [(.int (lcmpW q2 (-9223372036854775808 : Int64)))])) _
                  refine XS.ifYes X65.here hx rfl (pc0 := 100) (pc' := 107) rfl (hb hby at_100) rfl ((if0 _ _).trans (flt (fun q => hc100_87 ((lw_gt _ _).mp q))).2.2.2) (by decide) (by decide) ?_
                  exact k)
                exact ⟨(-9223372036854775808 : Int64), (own_eq (by simp only [own_max_toInt, Int64.lt_iff_toInt_lt, Int64.reduceToInt] at hc67_69 hc83_81 hc100_87 ⊢; have r0 := rng64 q0; have r1 := rng64 q1; have r2 := rng64 q2; omega)), pre89⟩
        subst hv67
        obtain ⟨v90_0, hv90, prem90⟩ : ∃ (v90_0 : Int32), v90_0 = (if (q3 < q0 ∨ q3 < q1 ∨ q3 < q2) then (1 : Int32) else 0) ∧ ∀ t, Steps p.tables e below (T65.setTop (mkF m 152 #[.val (.long q0), .second, .val (.long q1), .second, .val (.long q2), .second, .val (.long q3), .second, .val (.int p4), .val (.int (p4 &&& (3 : Int32))), .val (.ref b1), .val (.long (own_max (own_max (own_max (-9223372036854775808 : Int64) q0) q1) q2)), .second, .unset, .unset] [(.int v90_0)])) t → Steps p.tables e below (s₁.setTop (entryFrame m #[(.long q0), (.long q1), (.long q2), (.long q3), (.int p4)] maxLocals)) t := by
          have pre91 : ∀ t, Steps p.tables e below (T65.setTop (mkF m 117 #[.val (.long q0), .second, .val (.long q1), .second, .val (.long q2), .second, .val (.long q3), .second, .val (.int p4), .val (.int (p4 &&& (3 : Int32))), .val (.ref b1), .val (.long (own_max (own_max (own_max (-9223372036854775808 : Int64) q0) q1) q2)), .second, .unset, .unset] [(.int (lcmpW q0 q3))])) t → Steps p.tables e below (s₁.setTop (entryFrame m #[(.long q0), (.long q1), (.long q2), (.long q3), (.int p4)] maxLocals)) t := fun t k => prem67 t (by
            show Steps p.tables e below (T65.setTop (mkF m 107 #[.val (.long q0), .second, .val (.long q1), .second, .val (.long q2), .second, .val (.long q3), .second, .val (.int p4), .val (.int (p4 &&& (3 : Int32))), .val (.ref b1), .val (.long (own_max (own_max (own_max (-9223372036854775808 : Int64) q0) q1) q2)), .second, .unset, .unset] [])) _
            refine XS.iload X65.here hx rfl (hb hby at_107) rfl ?_
            show Steps p.tables e below (T65.setTop (mkF m 109 #[.val (.long q0), .second, .val (.long q1), .second, .val (.long q2), .second, .val (.long q3), .second, .val (.int p4), .val (.int (p4 &&& (3 : Int32))), .val (.ref b1), .val (.long (own_max (own_max (own_max (-9223372036854775808 : Int64) q0) q1) q2)), .second, .unset, .unset] [(.int (p4 &&& (3 : Int32)))])) _
            refine XS.iconst X65.here hx rfl (hb hby at_109) ?_
            show Steps p.tables e below (T65.setTop (mkF m 110 #[.val (.long q0), .second, .val (.long q1), .second, .val (.long q2), .second, .val (.long q3), .second, .val (.int p4), .val (.int (p4 &&& (3 : Int32))), .val (.ref b1), .val (.long (own_max (own_max (own_max (-9223372036854775808 : Int64) q0) q1) q2)), .second, .unset, .unset] [(.int (1 : Int32)), (.int (p4 &&& (3 : Int32)))])) _
            refine XS.icmpNo X65.here hx rfl (hb hby at_110) rfl (flt hc18_4).1 ?_
            show Steps p.tables e below (T65.setTop (mkF m 113 #[.val (.long q0), .second, .val (.long q1), .second, .val (.long q2), .second, .val (.long q3), .second, .val (.int p4), .val (.int (p4 &&& (3 : Int32))), .val (.ref b1), .val (.long (own_max (own_max (own_max (-9223372036854775808 : Int64) q0) q1) q2)), .second, .unset, .unset] [])) _
            refine XS.lloadN X65.here hx rfl (hb hby at_113) rfl ?_
            show Steps p.tables e below (T65.setTop (mkF m 114 #[.val (.long q0), .second, .val (.long q1), .second, .val (.long q2), .second, .val (.long q3), .second, .val (.int p4), .val (.int (p4 &&& (3 : Int32))), .val (.ref b1), .val (.long (own_max (own_max (own_max (-9223372036854775808 : Int64) q0) q1) q2)), .second, .unset, .unset] [(.long q0)])) _
            refine XS.lload X65.here hx rfl (hb hby at_114) rfl ?_
            show Steps p.tables e below (T65.setTop (mkF m 116 #[.val (.long q0), .second, .val (.long q1), .second, .val (.long q2), .second, .val (.long q3), .second, .val (.int p4), .val (.int (p4 &&& (3 : Int32))), .val (.ref b1), .val (.long (own_max (own_max (own_max (-9223372036854775808 : Int64) q0) q1) q2)), .second, .unset, .unset] [(.long q3), (.long q0)])) _
            refine XS.lcmp X65.here hx rfl (hb hby at_116) rfl ?_
            exact k)
          by_cases hc117_92 : q3 < q0
          · have pre93 : ∀ t, Steps p.tables e below (T65.setTop (mkF m 152 #[.val (.long q0), .second, .val (.long q1), .second, .val (.long q2), .second, .val (.long q3), .second, .val (.int p4), .val (.int (p4 &&& (3 : Int32))), .val (.ref b1), .val (.long (own_max (own_max (own_max (-9223372036854775808 : Int64) q0) q1) q2)), .second, .unset, .unset] [(.int (1 : Int32))])) t → Steps p.tables e below (s₁.setTop (entryFrame m #[(.long q0), (.long q1), (.long q2), (.long q3), (.int p4)] maxLocals)) t := fun t k => pre91 t (by
              show Steps p.tables e below (T65.setTop (mkF m 117 #[.val (.long q0), .second, .val (.long q1), .second, .val (.long q2), .second, .val (.long q3), .second, .val (.int p4), .val (.int (p4 &&& (3 : Int32))), .val (.ref b1), .val (.long (own_max (own_max (own_max (-9223372036854775808 : Int64) q0) q1) q2)), .second, .unset, .unset] [(.int (lcmpW q0 q3))])) _
              refine XS.ifYes X65.here hx rfl (pc0 := 117) (pc' := 147) rfl (hb hby at_117) rfl ((if0 _ _).trans (tlt ((lw_gt _ _).mpr hc117_92)).2.2.1) (by decide) (by decide) ?_
              show Steps p.tables e below (T65.setTop (mkF m 147 #[.val (.long q0), .second, .val (.long q1), .second, .val (.long q2), .second, .val (.long q3), .second, .val (.int p4), .val (.int (p4 &&& (3 : Int32))), .val (.ref b1), .val (.long (own_max (own_max (own_max (-9223372036854775808 : Int64) q0) q1) q2)), .second, .unset, .unset] [])) _
              refine XS.iconst X65.here hx rfl (hb hby at_147) ?_
              show Steps p.tables e below (T65.setTop (mkF m 148 #[.val (.long q0), .second, .val (.long q1), .second, .val (.long q2), .second, .val (.long q3), .second, .val (.int p4), .val (.int (p4 &&& (3 : Int32))), .val (.ref b1), .val (.long (own_max (own_max (own_max (-9223372036854775808 : Int64) q0) q1) q2)), .second, .unset, .unset] [(.int (1 : Int32))])) _
              refine XS.goto X65.here hx rfl (pc0 := 148) (pc' := 152) rfl (hb hby at_148) (by decide) (by decide) ?_
              exact k)
            exact ⟨(1 : Int32), (own_p (by simp only [Int64.lt_iff_toInt_lt] at hc117_92 ⊢; omega)), pre93⟩
          · have pre94 : ∀ t, Steps p.tables e below (T65.setTop (mkF m 130 #[.val (.long q0), .second, .val (.long q1), .second, .val (.long q2), .second, .val (.long q3), .second, .val (.int p4), .val (.int (p4 &&& (3 : Int32))), .val (.ref b1), .val (.long (own_max (own_max (own_max (-9223372036854775808 : Int64) q0) q1) q2)), .second, .unset, .unset] [(.int (lcmpW q1 q3))])) t → Steps p.tables e below (s₁.setTop (entryFrame m #[(.long q0), (.long q1), (.long q2), (.long q3), (.int p4)] maxLocals)) t := fun t k => pre91 t (by
              show Steps p.tables e below (T65.setTop (mkF m 117 #[.val (.long q0), .second, .val (.long q1), .second, .val (.long q2), .second, .val (.long q3), .second, .val (.int p4), .val (.int (p4 &&& (3 : Int32))), .val (.ref b1), .val (.long (own_max (own_max (own_max (-9223372036854775808 : Int64) q0) q1) q2)), .second, .unset, .unset] [(.int (lcmpW q0 q3))])) _
              refine XS.ifNo X65.here hx rfl (hb hby at_117) rfl ((if0 _ _).trans (flt (fun q => hc117_92 ((lw_gt _ _).mp q))).2.2.1) ?_
              show Steps p.tables e below (T65.setTop (mkF m 120 #[.val (.long q0), .second, .val (.long q1), .second, .val (.long q2), .second, .val (.long q3), .second, .val (.int p4), .val (.int (p4 &&& (3 : Int32))), .val (.ref b1), .val (.long (own_max (own_max (own_max (-9223372036854775808 : Int64) q0) q1) q2)), .second, .unset, .unset] [])) _
              refine XS.iload X65.here hx rfl (hb hby at_120) rfl ?_
              show Steps p.tables e below (T65.setTop (mkF m 122 #[.val (.long q0), .second, .val (.long q1), .second, .val (.long q2), .second, .val (.long q3), .second, .val (.int p4), .val (.int (p4 &&& (3 : Int32))), .val (.ref b1), .val (.long (own_max (own_max (own_max (-9223372036854775808 : Int64) q0) q1) q2)), .second, .unset, .unset] [(.int (p4 &&& (3 : Int32)))])) _
              refine XS.iconst X65.here hx rfl (hb hby at_122) ?_
              show Steps p.tables e below (T65.setTop (mkF m 123 #[.val (.long q0), .second, .val (.long q1), .second, .val (.long q2), .second, .val (.long q3), .second, .val (.int p4), .val (.int (p4 &&& (3 : Int32))), .val (.ref b1), .val (.long (own_max (own_max (own_max (-9223372036854775808 : Int64) q0) q1) q2)), .second, .unset, .unset] [(.int (2 : Int32)), (.int (p4 &&& (3 : Int32)))])) _
              refine XS.icmpNo X65.here hx rfl (hb hby at_123) rfl (flt hc30_20).1 ?_
              show Steps p.tables e below (T65.setTop (mkF m 126 #[.val (.long q0), .second, .val (.long q1), .second, .val (.long q2), .second, .val (.long q3), .second, .val (.int p4), .val (.int (p4 &&& (3 : Int32))), .val (.ref b1), .val (.long (own_max (own_max (own_max (-9223372036854775808 : Int64) q0) q1) q2)), .second, .unset, .unset] [])) _
              refine XS.lloadN X65.here hx rfl (hb hby at_126) rfl ?_
              show Steps p.tables e below (T65.setTop (mkF m 127 #[.val (.long q0), .second, .val (.long q1), .second, .val (.long q2), .second, .val (.long q3), .second, .val (.int p4), .val (.int (p4 &&& (3 : Int32))), .val (.ref b1), .val (.long (own_max (own_max (own_max (-9223372036854775808 : Int64) q0) q1) q2)), .second, .unset, .unset] [(.long q1)])) _
              refine XS.lload X65.here hx rfl (hb hby at_127) rfl ?_
              show Steps p.tables e below (T65.setTop (mkF m 129 #[.val (.long q0), .second, .val (.long q1), .second, .val (.long q2), .second, .val (.long q3), .second, .val (.int p4), .val (.int (p4 &&& (3 : Int32))), .val (.ref b1), .val (.long (own_max (own_max (own_max (-9223372036854775808 : Int64) q0) q1) q2)), .second, .unset, .unset] [(.long q3), (.long q1)])) _
              refine XS.lcmp X65.here hx rfl (hb hby at_129) rfl ?_
              exact k)
            by_cases hc130_95 : q3 < q1
            · have pre96 : ∀ t, Steps p.tables e below (T65.setTop (mkF m 152 #[.val (.long q0), .second, .val (.long q1), .second, .val (.long q2), .second, .val (.long q3), .second, .val (.int p4), .val (.int (p4 &&& (3 : Int32))), .val (.ref b1), .val (.long (own_max (own_max (own_max (-9223372036854775808 : Int64) q0) q1) q2)), .second, .unset, .unset] [(.int (1 : Int32))])) t → Steps p.tables e below (s₁.setTop (entryFrame m #[(.long q0), (.long q1), (.long q2), (.long q3), (.int p4)] maxLocals)) t := fun t k => pre94 t (by
                show Steps p.tables e below (T65.setTop (mkF m 130 #[.val (.long q0), .second, .val (.long q1), .second, .val (.long q2), .second, .val (.long q3), .second, .val (.int p4), .val (.int (p4 &&& (3 : Int32))), .val (.ref b1), .val (.long (own_max (own_max (own_max (-9223372036854775808 : Int64) q0) q1) q2)), .second, .unset, .unset] [(.int (lcmpW q1 q3))])) _
                refine XS.ifYes X65.here hx rfl (pc0 := 130) (pc' := 147) rfl (hb hby at_130) rfl ((if0 _ _).trans (tlt ((lw_gt _ _).mpr hc130_95)).2.2.1) (by decide) (by decide) ?_
                show Steps p.tables e below (T65.setTop (mkF m 147 #[.val (.long q0), .second, .val (.long q1), .second, .val (.long q2), .second, .val (.long q3), .second, .val (.int p4), .val (.int (p4 &&& (3 : Int32))), .val (.ref b1), .val (.long (own_max (own_max (own_max (-9223372036854775808 : Int64) q0) q1) q2)), .second, .unset, .unset] [])) _
                refine XS.iconst X65.here hx rfl (hb hby at_147) ?_
                show Steps p.tables e below (T65.setTop (mkF m 148 #[.val (.long q0), .second, .val (.long q1), .second, .val (.long q2), .second, .val (.long q3), .second, .val (.int p4), .val (.int (p4 &&& (3 : Int32))), .val (.ref b1), .val (.long (own_max (own_max (own_max (-9223372036854775808 : Int64) q0) q1) q2)), .second, .unset, .unset] [(.int (1 : Int32))])) _
                refine XS.goto X65.here hx rfl (pc0 := 148) (pc' := 152) rfl (hb hby at_148) (by decide) (by decide) ?_
                exact k)
              exact ⟨(1 : Int32), (own_p (by simp only [Int64.lt_iff_toInt_lt] at hc117_92 hc130_95 ⊢; omega)), pre96⟩
            · have pre97 : ∀ t, Steps p.tables e below (T65.setTop (mkF m 144 #[.val (.long q0), .second, .val (.long q1), .second, .val (.long q2), .second, .val (.long q3), .second, .val (.int p4), .val (.int (p4 &&& (3 : Int32))), .val (.ref b1), .val (.long (own_max (own_max (own_max (-9223372036854775808 : Int64) q0) q1) q2)), .second, .unset, .unset] [(.int (lcmpW q2 q3))])) t → Steps p.tables e below (s₁.setTop (entryFrame m #[(.long q0), (.long q1), (.long q2), (.long q3), (.int p4)] maxLocals)) t := fun t k => pre94 t (by
                show Steps p.tables e below (T65.setTop (mkF m 130 #[.val (.long q0), .second, .val (.long q1), .second, .val (.long q2), .second, .val (.long q3), .second, .val (.int p4), .val (.int (p4 &&& (3 : Int32))), .val (.ref b1), .val (.long (own_max (own_max (own_max (-9223372036854775808 : Int64) q0) q1) q2)), .second, .unset, .unset] [(.int (lcmpW q1 q3))])) _
                refine XS.ifNo X65.here hx rfl (hb hby at_130) rfl ((if0 _ _).trans (flt (fun q => hc130_95 ((lw_gt _ _).mp q))).2.2.1) ?_
                show Steps p.tables e below (T65.setTop (mkF m 133 #[.val (.long q0), .second, .val (.long q1), .second, .val (.long q2), .second, .val (.long q3), .second, .val (.int p4), .val (.int (p4 &&& (3 : Int32))), .val (.ref b1), .val (.long (own_max (own_max (own_max (-9223372036854775808 : Int64) q0) q1) q2)), .second, .unset, .unset] [])) _
                refine XS.iload X65.here hx rfl (hb hby at_133) rfl ?_
                show Steps p.tables e below (T65.setTop (mkF m 135 #[.val (.long q0), .second, .val (.long q1), .second, .val (.long q2), .second, .val (.long q3), .second, .val (.int p4), .val (.int (p4 &&& (3 : Int32))), .val (.ref b1), .val (.long (own_max (own_max (own_max (-9223372036854775808 : Int64) q0) q1) q2)), .second, .unset, .unset] [(.int (p4 &&& (3 : Int32)))])) _
                refine XS.iconst X65.here hx rfl (hb hby at_135) ?_
                show Steps p.tables e below (T65.setTop (mkF m 136 #[.val (.long q0), .second, .val (.long q1), .second, .val (.long q2), .second, .val (.long q3), .second, .val (.int p4), .val (.int (p4 &&& (3 : Int32))), .val (.ref b1), .val (.long (own_max (own_max (own_max (-9223372036854775808 : Int64) q0) q1) q2)), .second, .unset, .unset] [(.int (3 : Int32)), (.int (p4 &&& (3 : Int32)))])) _
                refine XS.icmpNo X65.here hx rfl (hb hby at_136) rfl (flt hc42_40).1 ?_
                show Steps p.tables e below (T65.setTop (mkF m 139 #[.val (.long q0), .second, .val (.long q1), .second, .val (.long q2), .second, .val (.long q3), .second, .val (.int p4), .val (.int (p4 &&& (3 : Int32))), .val (.ref b1), .val (.long (own_max (own_max (own_max (-9223372036854775808 : Int64) q0) q1) q2)), .second, .unset, .unset] [])) _
                refine XS.lload X65.here hx rfl (hb hby at_139) rfl ?_
                show Steps p.tables e below (T65.setTop (mkF m 141 #[.val (.long q0), .second, .val (.long q1), .second, .val (.long q2), .second, .val (.long q3), .second, .val (.int p4), .val (.int (p4 &&& (3 : Int32))), .val (.ref b1), .val (.long (own_max (own_max (own_max (-9223372036854775808 : Int64) q0) q1) q2)), .second, .unset, .unset] [(.long q2)])) _
                refine XS.lload X65.here hx rfl (hb hby at_141) rfl ?_
                show Steps p.tables e below (T65.setTop (mkF m 143 #[.val (.long q0), .second, .val (.long q1), .second, .val (.long q2), .second, .val (.long q3), .second, .val (.int p4), .val (.int (p4 &&& (3 : Int32))), .val (.ref b1), .val (.long (own_max (own_max (own_max (-9223372036854775808 : Int64) q0) q1) q2)), .second, .unset, .unset] [(.long q3), (.long q2)])) _
                refine XS.lcmp X65.here hx rfl (hb hby at_143) rfl ?_
                exact k)
              by_cases hc144_98 : q3 < q2
              · have pre99 : ∀ t, Steps p.tables e below (T65.setTop (mkF m 152 #[.val (.long q0), .second, .val (.long q1), .second, .val (.long q2), .second, .val (.long q3), .second, .val (.int p4), .val (.int (p4 &&& (3 : Int32))), .val (.ref b1), .val (.long (own_max (own_max (own_max (-9223372036854775808 : Int64) q0) q1) q2)), .second, .unset, .unset] [(.int (1 : Int32))])) t → Steps p.tables e below (s₁.setTop (entryFrame m #[(.long q0), (.long q1), (.long q2), (.long q3), (.int p4)] maxLocals)) t := fun t k => pre97 t (by
                  show Steps p.tables e below (T65.setTop (mkF m 144 #[.val (.long q0), .second, .val (.long q1), .second, .val (.long q2), .second, .val (.long q3), .second, .val (.int p4), .val (.int (p4 &&& (3 : Int32))), .val (.ref b1), .val (.long (own_max (own_max (own_max (-9223372036854775808 : Int64) q0) q1) q2)), .second, .unset, .unset] [(.int (lcmpW q2 q3))])) _
                  refine XS.ifNo X65.here hx rfl (hb hby at_144) rfl ((if0 _ _).trans (tlt ((lw_gt _ _).mpr hc144_98)).2.2.2) ?_
                  show Steps p.tables e below (T65.setTop (mkF m 147 #[.val (.long q0), .second, .val (.long q1), .second, .val (.long q2), .second, .val (.long q3), .second, .val (.int p4), .val (.int (p4 &&& (3 : Int32))), .val (.ref b1), .val (.long (own_max (own_max (own_max (-9223372036854775808 : Int64) q0) q1) q2)), .second, .unset, .unset] [])) _
                  refine XS.iconst X65.here hx rfl (hb hby at_147) ?_
                  show Steps p.tables e below (T65.setTop (mkF m 148 #[.val (.long q0), .second, .val (.long q1), .second, .val (.long q2), .second, .val (.long q3), .second, .val (.int p4), .val (.int (p4 &&& (3 : Int32))), .val (.ref b1), .val (.long (own_max (own_max (own_max (-9223372036854775808 : Int64) q0) q1) q2)), .second, .unset, .unset] [(.int (1 : Int32))])) _
                  refine XS.goto X65.here hx rfl (pc0 := 148) (pc' := 152) rfl (hb hby at_148) (by decide) (by decide) ?_
                  exact k)
                exact ⟨(1 : Int32), (own_p (by simp only [Int64.lt_iff_toInt_lt] at hc117_92 hc130_95 hc144_98 ⊢; omega)), pre99⟩
              · have pre100 : ∀ t, Steps p.tables e below (T65.setTop (mkF m 152 #[.val (.long q0), .second, .val (.long q1), .second, .val (.long q2), .second, .val (.long q3), .second, .val (.int p4), .val (.int (p4 &&& (3 : Int32))), .val (.ref b1), .val (.long (own_max (own_max (own_max (-9223372036854775808 : Int64) q0) q1) q2)), .second, .unset, .unset] [(.int (0 : Int32))])) t → Steps p.tables e below (s₁.setTop (entryFrame m #[(.long q0), (.long q1), (.long q2), (.long q3), (.int p4)] maxLocals)) t := fun t k => pre97 t (by
                  show Steps p.tables e below (T65.setTop (mkF m 144 #[.val (.long q0), .second, .val (.long q1), .second, .val (.long q2), .second, .val (.long q3), .second, .val (.int p4), .val (.int (p4 &&& (3 : Int32))), .val (.ref b1), .val (.long (own_max (own_max (own_max (-9223372036854775808 : Int64) q0) q1) q2)), .second, .unset, .unset] [(.int (lcmpW q2 q3))])) _
                  refine XS.ifYes X65.here hx rfl (pc0 := 144) (pc' := 151) rfl (hb hby at_144) rfl ((if0 _ _).trans (flt (fun q => hc144_98 ((lw_gt _ _).mp q))).2.2.2) (by decide) (by decide) ?_
                  show Steps p.tables e below (T65.setTop (mkF m 151 #[.val (.long q0), .second, .val (.long q1), .second, .val (.long q2), .second, .val (.long q3), .second, .val (.int p4), .val (.int (p4 &&& (3 : Int32))), .val (.ref b1), .val (.long (own_max (own_max (own_max (-9223372036854775808 : Int64) q0) q1) q2)), .second, .unset, .unset] [])) _
                  refine XS.iconst X65.here hx rfl (hb hby at_151) ?_
                  exact k)
                exact ⟨(0 : Int32), (own_n (by simp only [Int64.lt_iff_toInt_lt] at hc117_92 hc130_95 hc144_98 ⊢; omega)), pre100⟩
        subst hv90
        obtain ⟨cq101, kq101, q101a, q101b, q101c⟩ := isOf hZ rfl P65_0
        obtain ⟨_, _, ⟨T101, L101, k101, n101⟩, -, X101, ⟨Lc101, hQ101, l101, y101, z101⟩, st101⟩ := X65.virtualBack hx (y := (⟨"com/example/sensor_access_indicators/sensoraccessindicators/ShownAccesses", "isShownAt", "(J)Z"⟩ : MethodName)) (z := (⟨"com/example/sensor_access_indicators/sensoraccessindicators/ShownAccesses", "isShownAt", "(J)Z"⟩ : MethodName)) hown (mvT hZ (hw _ (List.mem_of_getElem? (i := 22) rfl))) (mvT hZ (hw _ (List.mem_of_getElem? (i := 23) rfl))) (notFace_of_selects (args := #[]) (mvT hZ (hw _ (List.mem_of_getElem? (i := 25) rfl)))) (mvT hZ (hw _ (List.mem_of_getElem? (i := 25) rfl))) (mvT hZ (hw _ (List.mem_of_getElem? (i := 24) rfl))) (by decide) (backOf (W := 0) (rm5 l Z a0 hw [] b1 q3 (own_max (own_max (own_max (-9223372036854775808 : Int64) q0) q1) q2) (0 : Int32) T65.heap n0 (Nat.le_trans (Nat.le_trans (Nat.le_trans (Nat.le_trans (Nat.le_trans Z0 E1.1) K2.1) K18.1) K38.1) K65.1) P65_1 P65_2) hZ (hw _ (List.mem_of_getElem? (i := 26) rfl)) (hw _ (List.mem_of_getElem? (i := 2) rfl)) (by decide) (by decide)) q101a q101c (g := (mkF m 158 #[.val (.long q0), .second, .val (.long q1), .second, .val (.long q2), .second, .val (.long q3), .second, .val (.int p4), .val (.int (p4 &&& (3 : Int32))), .val (.ref b1), .val (.long (own_max (own_max (own_max (-9223372036854775808 : Int64) q0) q1) q2)), .second, .val (.int (if (q3 < q0 ∨ q3 < q1 ∨ q3 < q2) then (1 : Int32) else 0)), .unset] [(.long q3), (.ref b1)])) rfl (by rw [hml]; rfl) (Steps.refl _) (argsL := [(.long q3)]) (rest := []) (lenOf pd_2 rfl) rfl (by show 2 * 0 + _ ≤ _; exact Nat.le_of_eq rfl) (hb hby at_158) (fun _ _ => ⟨rfl, rfl, (by decide : 1 + 0 ≤ _), (by decide : 2 + 0 ≤ _)⟩)
        dsimp only [Pt.U, Pt.locs, Pt.cells, Pt.slots] at X101 l101 y101 z101 st101 hQ101
        subst l101 y101 z101
        obtain ⟨rfl, N101q, hh101⟩ := hQ101
        have N101 := Fr.app N65 N101q
        obtain ⟨T102, X102, e102, st102⟩ := getF X101 hx hZ hown (host := "") (Or.inl (hw _ (List.mem_of_getElem? (i := 29) rfl))) Via.refl hh101 P65_1 (g := (mkF m 165 #[.val (.long q0), .second, .val (.long q1), .second, .val (.long q2), .second, .val (.long q3), .second, .val (.int p4), .val (.int (p4 &&& (3 : Int32))), .val (.ref b1), .val (.long (own_max (own_max (own_max (-9223372036854775808 : Int64) q0) q1) q2)), .second, .val (.int (if (q3 < q0 ∨ q3 < q1 ∨ q3 < q2) then (1 : Int32) else 0)), .val (.int (if ((0 : Int32) < (0 : Int32) ∨ q3 < (own_max (own_max (own_max (-9223372036854775808 : Int64) q0) q1) q2)) then (1 : Int32) else 0))] [(.ref b1)])) rfl rfl (hb hby at_165)
        obtain ⟨T103, X103, e103, st103⟩ := getF X102 hx hZ hown (host := "") (Or.inl (hw _ (List.mem_of_getElem? (i := 30) rfl))) Via.refl e102 P65_2 (g := (mkF m 176 #[.val (.long q0), .second, .val (.long q1), .second, .val (.long q2), .second, .val (.long q3), .second, .val (.int p4), .val (.int (p4 &&& (3 : Int32))), .val (.ref b1), .val (.long (own_max (own_max (own_max (-9223372036854775808 : Int64) q0) q1) q2)), .second, .val (.int (if (q3 < q0 ∨ q3 < q1 ∨ q3 < q2) then (1 : Int32) else 0)), .val (.int (if ((0 : Int32) < (0 : Int32) ∨ q3 < (own_max (own_max (own_max (-9223372036854775808 : Int64) q0) q1) q2)) then (1 : Int32) else 0))] [(.ref b1)])) rfl rfl (hb hby at_176)
        have pre104 : ∀ t, Steps p.tables e below (T103.setTop (mkF m 194 #[.val (.long q0), .second, .val (.long q1), .second, .val (.long q2), .second, .val (.long q3), .second, .val (.int p4), .val (.int (p4 &&& (3 : Int32))), .val (.ref b1), .val (.long (own_max (own_max (own_max (-9223372036854775808 : Int64) q0) q1) q2)), .second, .val (.int (if (q3 < q0 ∨ q3 < q1 ∨ q3 < q2) then (1 : Int32) else 0)), .val (.int (if ((0 : Int32) < (0 : Int32) ∨ q3 < (own_max (own_max (own_max (-9223372036854775808 : Int64) q0) q1) q2)) then (1 : Int32) else 0))] [(.int (1 : Int32))])) t → Steps p.tables e below (s₁.setTop (entryFrame m #[(.long q0), (.long q1), (.long q2), (.long q3), (.int p4)] maxLocals)) t := fun t k => prem90 t (by
          show Steps p.tables e below (T65.setTop (mkF m 152 #[.val (.long q0), .second, .val (.long q1), .second, .val (.long q2), .second, .val (.long q3), .second, .val (.int p4), .val (.int (p4 &&& (3 : Int32))), .val (.ref b1), .val (.long (own_max (own_max (own_max (-9223372036854775808 : Int64) q0) q1) q2)), .second, .unset, .unset] [(.int (if (q3 < q0 ∨ q3 < q1 ∨ q3 < q2) then (1 : Int32) else 0))])) _
          refine XS.istore X65.here hx rfl (hb hby at_152) rfl (l' := #[.val (.long q0), .second, .val (.long q1), .second, .val (.long q2), .second, .val (.long q3), .second, .val (.int p4), .val (.int (p4 &&& (3 : Int32))), .val (.ref b1), .val (.long (own_max (own_max (own_max (-9223372036854775808 : Int64) q0) q1) q2)), .second, .val (.int (if (q3 < q0 ∨ q3 < q1 ∨ q3 < q2) then (1 : Int32) else 0)), .unset]) rfl ?_
          show Steps p.tables e below (T65.setTop (mkF m 154 #[.val (.long q0), .second, .val (.long q1), .second, .val (.long q2), .second, .val (.long q3), .second, .val (.int p4), .val (.int (p4 &&& (3 : Int32))), .val (.ref b1), .val (.long (own_max (own_max (own_max (-9223372036854775808 : Int64) q0) q1) q2)), .second, .val (.int (if (q3 < q0 ∨ q3 < q1 ∨ q3 < q2) then (1 : Int32) else 0)), .unset] [])) _
          refine XS.aload X65.here hx rfl (hb hby at_154) rfl rfl ?_
          show Steps p.tables e below (T65.setTop (mkF m 156 #[.val (.long q0), .second, .val (.long q1), .second, .val (.long q2), .second, .val (.long q3), .second, .val (.int p4), .val (.int (p4 &&& (3 : Int32))), .val (.ref b1), .val (.long (own_max (own_max (own_max (-9223372036854775808 : Int64) q0) q1) q2)), .second, .val (.int (if (q3 < q0 ∨ q3 < q1 ∨ q3 < q2) then (1 : Int32) else 0)), .unset] [(.ref b1)])) _
          refine XS.lload X65.here hx rfl (hb hby at_156) rfl ?_
          show Steps p.tables e below (T65.setTop (mkF m 158 #[.val (.long q0), .second, .val (.long q1), .second, .val (.long q2), .second, .val (.long q3), .second, .val (.int p4), .val (.int (p4 &&& (3 : Int32))), .val (.ref b1), .val (.long (own_max (own_max (own_max (-9223372036854775808 : Int64) q0) q1) q2)), .second, .val (.int (if (q3 < q0 ∨ q3 < q1 ∨ q3 < q2) then (1 : Int32) else 0)), .unset] [(.long q3), (.ref b1)])) _
          refine st101.trans ?_
          show Steps p.tables e below (T101.setTop (mkF m 161 #[.val (.long q0), .second, .val (.long q1), .second, .val (.long q2), .second, .val (.long q3), .second, .val (.int p4), .val (.int (p4 &&& (3 : Int32))), .val (.ref b1), .val (.long (own_max (own_max (own_max (-9223372036854775808 : Int64) q0) q1) q2)), .second, .val (.int (if (q3 < q0 ∨ q3 < q1 ∨ q3 < q2) then (1 : Int32) else 0)), .unset] [(.int (if ((0 : Int32) < (0 : Int32) ∨ q3 < (own_max (own_max (own_max (-9223372036854775808 : Int64) q0) q1) q2)) then (1 : Int32) else 0))])) _
          refine XS.istore X101.here hx rfl (hb hby at_161) rfl (l' := #[.val (.long q0), .second, .val (.long q1), .second, .val (.long q2), .second, .val (.long q3), .second, .val (.int p4), .val (.int (p4 &&& (3 : Int32))), .val (.ref b1), .val (.long (own_max (own_max (own_max (-9223372036854775808 : Int64) q0) q1) q2)), .second, .val (.int (if (q3 < q0 ∨ q3 < q1 ∨ q3 < q2) then (1 : Int32) else 0)), .val (.int (if ((0 : Int32) < (0 : Int32) ∨ q3 < (own_max (own_max (own_max (-9223372036854775808 : Int64) q0) q1) q2)) then (1 : Int32) else 0))]) rfl ?_
          show Steps p.tables e below (T101.setTop (mkF m 163 #[.val (.long q0), .second, .val (.long q1), .second, .val (.long q2), .second, .val (.long q3), .second, .val (.int p4), .val (.int (p4 &&& (3 : Int32))), .val (.ref b1), .val (.long (own_max (own_max (own_max (-9223372036854775808 : Int64) q0) q1) q2)), .second, .val (.int (if (q3 < q0 ∨ q3 < q1 ∨ q3 < q2) then (1 : Int32) else 0)), .val (.int (if ((0 : Int32) < (0 : Int32) ∨ q3 < (own_max (own_max (own_max (-9223372036854775808 : Int64) q0) q1) q2)) then (1 : Int32) else 0))] [])) _
          refine XS.aload X101.here hx rfl (hb hby at_163) rfl rfl ?_
          show Steps p.tables e below (T101.setTop (mkF m 165 #[.val (.long q0), .second, .val (.long q1), .second, .val (.long q2), .second, .val (.long q3), .second, .val (.int p4), .val (.int (p4 &&& (3 : Int32))), .val (.ref b1), .val (.long (own_max (own_max (own_max (-9223372036854775808 : Int64) q0) q1) q2)), .second, .val (.int (if (q3 < q0 ∨ q3 < q1 ∨ q3 < q2) then (1 : Int32) else 0)), .val (.int (if ((0 : Int32) < (0 : Int32) ∨ q3 < (own_max (own_max (own_max (-9223372036854775808 : Int64) q0) q1) q2)) then (1 : Int32) else 0))] [(.ref b1)])) _
          refine st102 _ ?_
          show Steps p.tables e below (T102.setTop (mkF m 168 #[.val (.long q0), .second, .val (.long q1), .second, .val (.long q2), .second, .val (.long q3), .second, .val (.int p4), .val (.int (p4 &&& (3 : Int32))), .val (.ref b1), .val (.long (own_max (own_max (own_max (-9223372036854775808 : Int64) q0) q1) q2)), .second, .val (.int (if (q3 < q0 ∨ q3 < q1 ∨ q3 < q2) then (1 : Int32) else 0)), .val (.int (if ((0 : Int32) < (0 : Int32) ∨ q3 < (own_max (own_max (own_max (-9223372036854775808 : Int64) q0) q1) q2)) then (1 : Int32) else 0))] [(.long (own_max (own_max (own_max (-9223372036854775808 : Int64) q0) q1) q2))])) _
          refine XS.lload X102.here hx rfl (hb hby at_168) rfl ?_
          show Steps p.tables e below (T102.setTop (mkF m 170 #[.val (.long q0), .second, .val (.long q1), .second, .val (.long q2), .second, .val (.long q3), .second, .val (.int p4), .val (.int (p4 &&& (3 : Int32))), .val (.ref b1), .val (.long (own_max (own_max (own_max (-9223372036854775808 : Int64) q0) q1) q2)), .second, .val (.int (if (q3 < q0 ∨ q3 < q1 ∨ q3 < q2) then (1 : Int32) else 0)), .val (.int (if ((0 : Int32) < (0 : Int32) ∨ q3 < (own_max (own_max (own_max (-9223372036854775808 : Int64) q0) q1) q2)) then (1 : Int32) else 0))] [(.long (own_max (own_max (own_max (-9223372036854775808 : Int64) q0) q1) q2)), (.long (own_max (own_max (own_max (-9223372036854775808 : Int64) q0) q1) q2))])) _
          refine XS.lcmp X102.here hx rfl (hb hby at_170) rfl ?_
          show Steps p.tables e below (T102.setTop (mkF m 171 #[.val (.long q0), .second, .val (.long q1), .second, .val (.long q2), .second, .val (.long q3), .second, .val (.int p4), .val (.int (p4 &&& (3 : Int32))), .val (.ref b1), .val (.long (own_max (own_max (own_max (-9223372036854775808 : Int64) q0) q1) q2)), .second, .val (.int (if (q3 < q0 ∨ q3 < q1 ∨ q3 < q2) then (1 : Int32) else 0)), .val (.int (if ((0 : Int32) < (0 : Int32) ∨ q3 < (own_max (own_max (own_max (-9223372036854775808 : Int64) q0) q1) q2)) then (1 : Int32) else 0))] [(.int (lcmpW (own_max (own_max (own_max (-9223372036854775808 : Int64) q0) q1) q2) (own_max (own_max (own_max (-9223372036854775808 : Int64) q0) q1) q2)))])) _
          refine XS.ifNo X102.here hx rfl (hb hby at_171) rfl ((if0 _ _).trans (teq ((lw_eq _ _).mpr rfl)).2) ?_
          show Steps p.tables e below (T102.setTop (mkF m 174 #[.val (.long q0), .second, .val (.long q1), .second, .val (.long q2), .second, .val (.long q3), .second, .val (.int p4), .val (.int (p4 &&& (3 : Int32))), .val (.ref b1), .val (.long (own_max (own_max (own_max (-9223372036854775808 : Int64) q0) q1) q2)), .second, .val (.int (if (q3 < q0 ∨ q3 < q1 ∨ q3 < q2) then (1 : Int32) else 0)), .val (.int (if ((0 : Int32) < (0 : Int32) ∨ q3 < (own_max (own_max (own_max (-9223372036854775808 : Int64) q0) q1) q2)) then (1 : Int32) else 0))] [])) _
          refine XS.aload X102.here hx rfl (hb hby at_174) rfl rfl ?_
          show Steps p.tables e below (T102.setTop (mkF m 176 #[.val (.long q0), .second, .val (.long q1), .second, .val (.long q2), .second, .val (.long q3), .second, .val (.int p4), .val (.int (p4 &&& (3 : Int32))), .val (.ref b1), .val (.long (own_max (own_max (own_max (-9223372036854775808 : Int64) q0) q1) q2)), .second, .val (.int (if (q3 < q0 ∨ q3 < q1 ∨ q3 < q2) then (1 : Int32) else 0)), .val (.int (if ((0 : Int32) < (0 : Int32) ∨ q3 < (own_max (own_max (own_max (-9223372036854775808 : Int64) q0) q1) q2)) then (1 : Int32) else 0))] [(.ref b1)])) _
          refine st103 _ ?_
          show Steps p.tables e below (T103.setTop (mkF m 179 #[.val (.long q0), .second, .val (.long q1), .second, .val (.long q2), .second, .val (.long q3), .second, .val (.int p4), .val (.int (p4 &&& (3 : Int32))), .val (.ref b1), .val (.long (own_max (own_max (own_max (-9223372036854775808 : Int64) q0) q1) q2)), .second, .val (.int (if (q3 < q0 ∨ q3 < q1 ∨ q3 < q2) then (1 : Int32) else 0)), .val (.int (if ((0 : Int32) < (0 : Int32) ∨ q3 < (own_max (own_max (own_max (-9223372036854775808 : Int64) q0) q1) q2)) then (1 : Int32) else 0))] [(.int (0 : Int32))])) _
          refine XS.ifNo X103.here hx rfl (hb hby at_179) rfl ((if0 _ _).trans (teq (by decide : (0 : Int32) = (0 : Int32))).2) ?_
          show Steps p.tables e below (T103.setTop (mkF m 182 #[.val (.long q0), .second, .val (.long q1), .second, .val (.long q2), .second, .val (.long q3), .second, .val (.int p4), .val (.int (p4 &&& (3 : Int32))), .val (.ref b1), .val (.long (own_max (own_max (own_max (-9223372036854775808 : Int64) q0) q1) q2)), .second, .val (.int (if (q3 < q0 ∨ q3 < q1 ∨ q3 < q2) then (1 : Int32) else 0)), .val (.int (if ((0 : Int32) < (0 : Int32) ∨ q3 < (own_max (own_max (own_max (-9223372036854775808 : Int64) q0) q1) q2)) then (1 : Int32) else 0))] [])) _
          refine XS.iload X103.here hx rfl (hb hby at_182) rfl ?_
          show Steps p.tables e below (T103.setTop (mkF m 184 #[.val (.long q0), .second, .val (.long q1), .second, .val (.long q2), .second, .val (.long q3), .second, .val (.int p4), .val (.int (p4 &&& (3 : Int32))), .val (.ref b1), .val (.long (own_max (own_max (own_max (-9223372036854775808 : Int64) q0) q1) q2)), .second, .val (.int (if (q3 < q0 ∨ q3 < q1 ∨ q3 < q2) then (1 : Int32) else 0)), .val (.int (if ((0 : Int32) < (0 : Int32) ∨ q3 < (own_max (own_max (own_max (-9223372036854775808 : Int64) q0) q1) q2)) then (1 : Int32) else 0))] [(.int (if ((0 : Int32) < (0 : Int32) ∨ q3 < (own_max (own_max (own_max (-9223372036854775808 : Int64) q0) q1) q2)) then (1 : Int32) else 0))])) _
          refine XS.iload X103.here hx rfl (hb hby at_184) rfl ?_
          show Steps p.tables e below (T103.setTop (mkF m 186 #[.val (.long q0), .second, .val (.long q1), .second, .val (.long q2), .second, .val (.long q3), .second, .val (.int p4), .val (.int (p4 &&& (3 : Int32))), .val (.ref b1), .val (.long (own_max (own_max (own_max (-9223372036854775808 : Int64) q0) q1) q2)), .second, .val (.int (if (q3 < q0 ∨ q3 < q1 ∨ q3 < q2) then (1 : Int32) else 0)), .val (.int (if ((0 : Int32) < (0 : Int32) ∨ q3 < (own_max (own_max (own_max (-9223372036854775808 : Int64) q0) q1) q2)) then (1 : Int32) else 0))] [(.int (if (q3 < q0 ∨ q3 < q1 ∨ q3 < q2) then (1 : Int32) else 0)), (.int (if ((0 : Int32) < (0 : Int32) ∨ q3 < (own_max (own_max (own_max (-9223372036854775808 : Int64) q0) q1) q2)) then (1 : Int32) else 0))])) _
          refine XS.icmpNo X103.here hx rfl (hb hby at_186) rfl (teq (own_bb (by simp only [own_max_toInt, Int32.lt_iff_toInt_lt, Int64.lt_iff_toInt_lt, Int32.reduceToInt, Int64.reduceToInt]; have r := rng64 q3; omega : (((0 : Int32) < (0 : Int32) ∨ q3 < (own_max (own_max (own_max (-9223372036854775808 : Int64) q0) q1) q2)) ↔ (q3 < q0 ∨ q3 < q1 ∨ q3 < q2))))).2 ?_
          show Steps p.tables e below (T103.setTop (mkF m 189 #[.val (.long q0), .second, .val (.long q1), .second, .val (.long q2), .second, .val (.long q3), .second, .val (.int p4), .val (.int (p4 &&& (3 : Int32))), .val (.ref b1), .val (.long (own_max (own_max (own_max (-9223372036854775808 : Int64) q0) q1) q2)), .second, .val (.int (if (q3 < q0 ∨ q3 < q1 ∨ q3 < q2) then (1 : Int32) else 0)), .val (.int (if ((0 : Int32) < (0 : Int32) ∨ q3 < (own_max (own_max (own_max (-9223372036854775808 : Int64) q0) q1) q2)) then (1 : Int32) else 0))] [])) _
          refine XS.iconst X103.here hx rfl (hb hby at_189) ?_
          show Steps p.tables e below (T103.setTop (mkF m 190 #[.val (.long q0), .second, .val (.long q1), .second, .val (.long q2), .second, .val (.long q3), .second, .val (.int p4), .val (.int (p4 &&& (3 : Int32))), .val (.ref b1), .val (.long (own_max (own_max (own_max (-9223372036854775808 : Int64) q0) q1) q2)), .second, .val (.int (if (q3 < q0 ∨ q3 < q1 ∨ q3 < q2) then (1 : Int32) else 0)), .val (.int (if ((0 : Int32) < (0 : Int32) ∨ q3 < (own_max (own_max (own_max (-9223372036854775808 : Int64) q0) q1) q2)) then (1 : Int32) else 0))] [(.int (1 : Int32))])) _
          refine XS.goto X103.here hx rfl (pc0 := 190) (pc' := 194) rfl (hb hby at_190) (by decide) (by decide) ?_
          exact k)
        obtain ⟨fs, hr, hrun, hended, hW, hsame⟩ := X103.leave (v := some (.int (1 : Int32))) (fun h => by rw [Bd.returns] at h; cases h)
        refine ⟨_, _, pre104 _ ?_, hrun, hended, _, _, rfl, ?_, ⟨_, rfl⟩, hW, hsame.mono (by decide) (by decide)⟩
        · exact retN X103 hx (t := .boolean) Bd.returns (by simp) (hb hby at_194) hr
        · show Q0 Z q0 q1 q2 q3 p4 h0 n0 _ T103.heap _
          rw [e103]
          exact ⟨rfl, N101⟩
set_option maxRecDepth 65536 in
set_option maxHeartbeats 40000000 in
theorem comes_1 {Post : Tables → Env → Array Value → State → Outcome → State → Prop} (hpost : ∀ tb e args s v u, (limb_1_1.after args s (.returned v) u = true ∧ limb_1_2.after args s (.returned v) u = true ∧ True) → FrameEnd s (.returned v) u (Jvm.fieldLocs frame_1_writes args s ++ Jvm.arrayLocs frame_1_arrays args s ++ Jvm.staticLocs frame_1_statics s) 16 128 → Post tb e args s (.returned v) u) :
    ArmFor flags0 classFile x code maxLocals ret World_1 tables_1 room_1 Calls_1 rest_1 Pre_1 Post := by
  intro l hfl _ _ p e ha hc hk s m args below hf hA hF happ hP
  obtain ⟨hcalls, hrest, hpre⟩ := hP
  obtain ⟨-, -, -, hnamed, -, -, -, hat⟩ := (Spec.applies_iff hf).mp happ
  obtain ⟨hg, hn⟩ := and_e (Cond.before_iff.mp (show (Jvm.Cond.and given_1 narrow_1).before args s = true from hpre))
  obtain ⟨g1, g2⟩ := and_e hg
  obtain ⟨g3, g4⟩ := and_e g2
  obtain ⟨g5, g6⟩ := and_e g4
  obtain ⟨g7, g8⟩ := and_e g6
  obtain ⟨g9, g10⟩ := and_e g8
  obtain ⟨w0, w1, w2, w3, w4, rfl⟩ : ∃ w0 w1 w2 w3 w4 : Value, args = #[w0, w1, w2, w3, w4] := by
    have hs : args.size = 5 := by simpa [Cond.value, given_1] using g1
    obtain ⟨L⟩ := args
    match L, hs with
    | [w0, w1, w2, w3, w4], _ => exact ⟨w0, w1, w2, w3, w4, rfl⟩
  have hw := fun d (hd : d ∈ tables_1) => atoms_spec (ws := Jvm.Cond.code x code maxLocals ret :: tables_1) hat d (List.mem_cons_of_mem _ hd)
  have hfit : Fit s := fun {y c} hc i hi => by
    obtain ⟨ha, rfl⟩ := Array.getElem?_eq_some_iff.mp hc
    have q := List.all_eq_true.mp ((Array.all_eq_true_iff_forall_mem.mp hF) _ (Array.getElem_mem ha)) i (List.mem_range.mpr hi)
    simpa [Array.getElem?_eq_getElem hi] using q
  obtain ⟨i0, ei0⟩ := isL_v g3
  obtain rfl : w0 = (.long i0) := Option.some.inj ei0
  obtain ⟨i1, ei1⟩ := isL_v g5
  obtain rfl : w1 = (.long i1) := Option.some.inj ei1
  obtain ⟨i2, ei2⟩ := isL_v g7
  obtain rfl : w2 = (.long i2) := Option.some.inj ei2
  obtain ⟨i3, ei3⟩ := isL_v g9
  obtain rfl : w3 = (.long i3) := Option.some.inj ei3
  obtain ⟨i4, ei4⟩ := is_v g10
  obtain rfl : w4 = (.int i4) := Option.some.inj ei4
  obtain ⟨n, o, h1, h2, h3, _, L, rfl, ⟨rfl, N⟩, hq⟩ := rm0 l s _ hw tables_1 i0 i1 i2 i3 i4 s.heap s.heap.size (Nat.le_refl _) p e ha hc hk s m _ below hf ((Spec.applies_iff_loose hf).mp happ).1 ⟨rfl, State.Warmed39.refl s, rfl⟩ trivial
  refine ⟨n, _, h1, h2, h3, hpost _ _ _ _ _ _ ⟨Cond.after_iff.mpr rfl, Cond.after_iff.mpr (eq_i res_at (Term.int_eval (1)) rfl), trivial⟩ ⟨hq.1, hq.2.1, (hq.2.2.sift fun y hy => Or.inr (N y hy)).mono (by decide) (by decide)⟩⟩
theorem main_1_1 : Claimed_1_1 := comes_1 fun _ _ _ _ _ _ h hF => ⟨h.1, hF⟩
theorem main_1_2 : Claimed_1_2 := comes_1 fun _ _ _ _ _ _ h hF => ⟨h.2.1, hF⟩
end Jvm.Pilot.@@N@@
namespace Jvm.Pilot.@@N@@
open Jvm Jvm.ClassFile Sem Op Lib Jvm.Free Jvm.Stand Jvm.Pilot.@@N@@.Jvm.D
/-! MADE BY PROGRAM (witnessworld.py) out of the Statement's table words and the real class files: 10 classes; the members and pool entries that the words name. The judged class is class 1, her method 1. -/
namespace start1
open Jvm.ClassFile
def u (s : String) : CpInfo := .utf8 (stringToUtf16 s)
/-- a pool by its gaps: so many unusable entries, then the entry; so many at the end -/
def gap : Nat → List CpInfo → List CpInfo
  | 0, r => r
  | n + 1, r => .unusable :: gap n r
def poolList (es : List (Nat × CpInfo)) (last : Nat) : List CpInfo := es.foldr (fun e r => gap e.1 (e.2 :: r)) (gap last [])
def pool (es : List (Nat × CpInfo)) (last : Nat) : Array CpInfo := ⟨poolList es last⟩
def fileOf (pool : Array CpInfo) (this : Nat) (attrs : Array Attribute := #[]) (ms : Array MethodInfo := #[]) (fl : Nat := 33) (sup : Nat := 0) (ifs : Array Nat := #[]) (fds : Array FieldInfo := #[]) : ClassFile where
  minorVersion := 0
  majorVersion := 65
  constantPool := pool
  accessFlags := fl
  thisClass := this
  superClass := sup
  interfaces := ifs
  fields := fds
  methods := ms
  attributes := attrs
def plain (name : String) (sup : Option ClassId) : Class where
  name := name
  kind := .ordinary
  loader := none
  accessFlags := 33
  super := sup
  interfaces := #[]
  cf := none
  fields := #[]
  methods := #[]
  instanceTypes := #[]
  staticTypes := #[]
  resolved := #[]
  callSites := []
  init := .initialized
  statics := none
  mirror := none

def pool0 : Array CpInfo := pool [(5, u "<init>"), (0, u "()V"), (1, .class_ 10), (1, u "java/lang/Object")] 113

def k0c0 : Code := { maxStack := 0, maxLocals := 1, code := object_method_1_code, exceptionTable := #[], attributes := #[] }
def k0m0 : Method := { name := "<init>", desc := "()V", sig := { parameters := [], returnType := none }, accessFlags := 1, code := some k0c0 }
/-- java/lang/Object -/
def k0 : Class := { plain "java/lang/Object" none with
  accessFlags := 33
  interfaces := #[]
  cf := some (fileOf pool0 8 #[] #[{ accessFlags := 1, nameIndex := 5, descriptorIndex := 6, attributes := #[] }] 33 0 #[] #[])
  fields := #[]
  methods := #[k0m0]
  instanceTypes := #[]
  staticTypes := #[]
  resolved := Array.replicate 124 none
  statics := none }

def pool1 : Array CpInfo := pool [(2, .class_ 4), (0, .nameAndType 5 6), (0, u "java/lang/Object"), (0, u "<init>"), (0, u "()V"), (0, .class_ 8), (0, u "com/example/sensor_access_indicators/sensoraccessindicators/ShownAccesses"), (0, .methodref 7 3), (0, .methodref 7 11), (0, .nameAndType 12 13), (0, u "show"), (0, u "(J)V"), (2, .long 9223372036854775808), (1, .methodref 7 19), (0, .nameAndType 20 21), (0, u "isShownAt"), (0, u "(J)Z"), (0, .fieldref 7 23), (0, .nameAndType 24 25), (0, u "shownUntil"), (0, u "J"), (0, .fieldref 7 27), (0, .nameAndType 28 29), (0, u "running"), (0, u "I"), (0, .class_ 31), (0, u "com/example/sensor_access_indicators/sensoraccessindicators/ShownAccessesShowPinLaw"), (2, u "law"), (0, u "(JJJJI)Z")] 3

def k1m0 : Method := { name := "<init>", desc := "()V", sig := { parameters := [], returnType := none }, accessFlags := 1, code := none }
def k1c1 : Code := { maxStack := 4, maxLocals := 15, code := code, exceptionTable := #[], attributes := #[] }
def k1m1 : Method := { name := "law", desc := "(JJJJI)Z", sig := { parameters := [.long, .long, .long, .long, .int], returnType := some .boolean }, accessFlags := 9, code := some k1c1 }
/-- com/example/sensor_access_indicators/sensoraccessindicators/ShownAccessesShowPinLaw -/
def k1 : Class := { plain "com/example/sensor_access_indicators/sensoraccessindicators/ShownAccessesShowPinLaw" (some 0) with
  accessFlags := 49
  interfaces := #[]
  cf := some (fileOf pool1 30 #[] #[{ accessFlags := 1, nameIndex := 5, descriptorIndex := 6, attributes := #[] }, { accessFlags := 9, nameIndex := 34, descriptorIndex := 35, attributes := #[] }] 49 2 #[] #[])
  fields := #[]
  methods := #[k1m0, k1m1]
  instanceTypes := #[]
  staticTypes := #[]
  resolved := Array.replicate 39 none
  statics := none }

def pool2 : Array CpInfo := pool [(1, .methodref 2 3), (0, .class_ 4), (0, .nameAndType 5 6), (0, u "java/lang/Object"), (0, u "<init>"), (0, u "()V"), (2, .long 9223372036854775808), (1, .fieldref 12 13), (0, .class_ 14), (0, .nameAndType 15 16), (0, u "com/example/sensor_access_indicators/sensoraccessindicators/ShownAccesses"), (0, u "shownUntil"), (0, u "J"), (0, .methodref 18 19), (0, .class_ 20), (0, .nameAndType 21 22), (0, u "java/lang/Math"), (0, u "max"), (0, u "(JJ)J"), (0, .fieldref 12 24), (0, .nameAndType 25 26), (0, u "running"), (0, u "I"), (23, u "show"), (0, u "(J)V"), (0, u "isShownAt"), (0, u "(J)Z")] 6

def k2c0 : Code := { maxStack := 3, maxLocals := 1, code := prog_35_method_1_code, exceptionTable := #[], attributes := #[] }
def k2m0 : Method := { name := "<init>", desc := "()V", sig := { parameters := [], returnType := none }, accessFlags := 0, code := some k2c0 }
def k2c1 : Code := { maxStack := 5, maxLocals := 3, code := prog_35_method_2_code, exceptionTable := #[], attributes := #[] }
def k2m1 : Method := { name := "show", desc := "(J)V", sig := { parameters := [.long], returnType := none }, accessFlags := 0, code := some k2c1 }
def k2c2 : Code := { maxStack := 4, maxLocals := 3, code := prog_35_method_3_code, exceptionTable := #[], attributes := #[] }
def k2m2 : Method := { name := "isShownAt", desc := "(J)Z", sig := { parameters := [.long], returnType := some .boolean }, accessFlags := 0, code := some k2c2 }
/-- com/example/sensor_access_indicators/sensoraccessindicators/ShownAccesses -/
def k2 : Class := { plain "com/example/sensor_access_indicators/sensoraccessindicators/ShownAccesses" (some 0) with
  accessFlags := 32
  interfaces := #[]
  cf := some (fileOf pool2 12 #[] #[{ accessFlags := 0, nameIndex := 5, descriptorIndex := 6, attributes := #[] }, { accessFlags := 0, nameIndex := 50, descriptorIndex := 51, attributes := #[] }, { accessFlags := 0, nameIndex := 52, descriptorIndex := 53, attributes := #[] }] 32 2 #[] #[{ accessFlags := 0, nameIndex := 25, descriptorIndex := 26, attributes := #[] }, { accessFlags := 0, nameIndex := 15, descriptorIndex := 16, attributes := #[] }])
  fields := #[{ name := "running", type := .int, accessFlags := 0, slot := 0, constantValue := 0 }, { name := "shownUntil", type := .long, accessFlags := 0, slot := 1, constantValue := 0 }]
  methods := #[k2m0, k2m1, k2m2]
  instanceTypes := #[.int, .long]
  staticTypes := #[]
  resolved := Array.replicate 60 none
  statics := none }

def pool3 : Array CpInfo := pool [(1, .class_ 2), (0, u "java/lang/Math"), (1, .class_ 6), (1, u "java/lang/Object"), (0, u "<init>"), (0, u "()V"), (89, .class_ 100), (1, u "java/lang/Math$RandomNumberGeneratorHolder"), (20, u "(JJ)J"), (50, u "negativeZeroFloatBits"), (0, u "J"), (2, u "negativeZeroDoubleBits"), (21, u "max"), (46, u "$assertionsDisabled"), (0, u "Z"), (91, u "twoToTheDoubleScaleDown"), (0, u "D"), (4, u "twoToTheDoubleScaleUp"), (9, u "E"), (3, u "PI"), (2, u "TAU"), (2, u "DEGREES_TO_RADIANS"), (0, u "RADIANS_TO_DEGREES")] 94

def k3m0 : Method := { name := "<init>", desc := "()V", sig := { parameters := [], returnType := none }, accessFlags := 2, code := none }
def k3c1 : Code := { maxStack := 4, maxLocals := 4, code := jdk_29_method_66_code, exceptionTable := #[], attributes := #[] }
def k3m1 : Method := { name := "max", desc := "(JJ)J", sig := { parameters := [.long, .long], returnType := some .long }, accessFlags := 9, code := some k3c1 }
/-- java/lang/Math -/
def k3 : Class := { plain "java/lang/Math" (some 0) with
  accessFlags := 49
  interfaces := #[]
  cf := some (fileOf pool3 1 #[.nestMembers #[98]] #[{ accessFlags := 2, nameIndex := 7, descriptorIndex := 8, attributes := #[] }, { accessFlags := 9, nameIndex := 198, descriptorIndex := 121, attributes := #[] }] 49 4 #[] #[{ accessFlags := 25, nameIndex := 354, descriptorIndex := 339, attributes := #[] }, { accessFlags := 25, nameIndex := 358, descriptorIndex := 339, attributes := #[] }, { accessFlags := 25, nameIndex := 361, descriptorIndex := 339, attributes := #[] }, { accessFlags := 26, nameIndex := 364, descriptorIndex := 339, attributes := #[] }, { accessFlags := 26, nameIndex := 365, descriptorIndex := 339, attributes := #[] }, { accessFlags := 26, nameIndex := 172, descriptorIndex := 173, attributes := #[] }, { accessFlags := 26, nameIndex := 176, descriptorIndex := 173, attributes := #[] }, { accessFlags := 8, nameIndex := 344, descriptorIndex := 339, attributes := #[] }, { accessFlags := 8, nameIndex := 338, descriptorIndex := 339, attributes := #[] }, { accessFlags := 4120, nameIndex := 245, descriptorIndex := 246, attributes := #[] }])
  fields := #[{ name := "E", type := .double, accessFlags := 25, slot := 0, constantValue := 0 }, { name := "PI", type := .double, accessFlags := 25, slot := 1, constantValue := 0 }, { name := "TAU", type := .double, accessFlags := 25, slot := 2, constantValue := 0 }, { name := "DEGREES_TO_RADIANS", type := .double, accessFlags := 26, slot := 3, constantValue := 0 }, { name := "RADIANS_TO_DEGREES", type := .double, accessFlags := 26, slot := 4, constantValue := 0 }, { name := "negativeZeroFloatBits", type := .long, accessFlags := 26, slot := 5, constantValue := 0 }, { name := "negativeZeroDoubleBits", type := .long, accessFlags := 26, slot := 6, constantValue := 0 }, { name := "twoToTheDoubleScaleUp", type := .double, accessFlags := 8, slot := 7, constantValue := 0 }, { name := "twoToTheDoubleScaleDown", type := .double, accessFlags := 8, slot := 8, constantValue := 0 }, { name := "$assertionsDisabled", type := .boolean, accessFlags := 4120, slot := 9, constantValue := 0 }]
  methods := #[k3m0, k3m1]
  instanceTypes := #[]
  staticTypes := #[.double, .double, .double, .double, .double, .long, .long, .double, .double, .boolean]
  resolved := Array.replicate 460 none
  statics := none }

def pool4 : Array CpInfo := pool [(1, u "java/lang/Cloneable"), (0, .class_ 1), (0, u "java/lang/Object"), (0, .class_ 3)] 3

/-- java/lang/Cloneable -/
def k4 : Class := { plain "java/lang/Cloneable" (some 0) with
  accessFlags := 1537
  interfaces := #[]
  cf := some (fileOf pool4 2 #[] #[] 1537 4 #[] #[])
  fields := #[]
  methods := #[]
  instanceTypes := #[]
  staticTypes := #[]
  resolved := Array.replicate 8 none
  statics := none }

def pool5 : Array CpInfo := pool [(1, u "java/io/Serializable"), (0, .class_ 1), (0, u "java/lang/Object"), (0, .class_ 3)] 3

/-- java/io/Serializable -/
def k5 : Class := { plain "java/io/Serializable" (some 0) with
  accessFlags := 1537
  interfaces := #[]
  cf := some (fileOf pool5 2 #[] #[] 1537 4 #[] #[])
  fields := #[]
  methods := #[]
  instanceTypes := #[]
  staticTypes := #[]
  resolved := Array.replicate 8 none
  statics := none }

/-- the primitive byte -/
def k6 : Class := { plain "byte" none with kind := .primitive 'B', accessFlags := 0x411 }
/-- [B -/
def k7 : Class := { plain "[B" (some 0) with kind := .array 6 .byte, interfaces := #[4, 5], accessFlags := 1041 }

/-- the primitive int -/
def k8 : Class := { plain "int" none with kind := .primitive 'I', accessFlags := 0x411 }
/-- [I -/
def k9 : Class := { plain "[I" (some 0) with kind := .array 8 .int, interfaces := #[4, 5], accessFlags := 1041 }

def heap : Heap := #[]
def classes : Array Class := #[k0, k1, k2, k3, k4, k5, k6, k7, k8, k9]
def interned : List (Array UInt16 × Addr) := []
def slotsUsed : Nat := 0
def theMethod : MethodId := ⟨1, 1⟩
def args0 : Array Value := #[.long 5, .long 3, .long 4, .long 2, .int 2]
def aboutOver (below : List Frame) : State where
  vm := { classes := classes, interned := interned.toArray }
  heap := heap
  slotsUsed := slotsUsed
  threads := #[{ frames := .invoking theMethod args0 :: below }]
def below0 : List Frame := [.native { method := ⟨0, 0⟩, args := #[] }]
def about1 : State := aboutOver below0
def p0 : Program := .bare "" "" ""
def e0 : Env := launch0.env 0 0 0
theorem w_frames : about1.frames = Frame.invoking theMethod args0 :: below0 := rfl
set_option maxRecDepth 65536 in
theorem w_args : argsFit about1.vm theMethod args0 = true := by decide +kernel
set_option maxRecDepth 65536 in
theorem w_heap : heapFits about1 = true := by decide +kernel
set_option maxRecDepth 65536 in
theorem w_runnable : about1.curStatus? = some .runnable := by decide +kernel
set_option maxRecDepth 65536 in
theorem w_alone : about1.alone = true := by decide +kernel
set_option maxRecDepth 65536 in
theorem w_named : about1.methodNamed? x = some theMethod := by decide +kernel
set_option maxRecDepth 65536 in
theorem w_hears : about1.hears theMethod below0 = true := by decide +kernel
set_option maxRecDepth 65536 in
theorem w_ripe : about1.ripe theMethod args0 below0 = true := by decide +kernel
theorem w_running : about1.status = .running := rfl
set_option maxRecDepth 65536 in
theorem w_room : about1.hasRoom e0.platform room_1 = true :=
  launch0.hasRoom_least _ room_1 (by decide +kernel) (by decide +kernel) (by decide +kernel) (by decide +kernel) (by decide +kernel) (by decide +kernel)
theorem allAtoms_all (ts : List Jvm.Cond) (a : Array Jvm.Value) (st : Jvm.State) : (allAtoms ts).before a st = ts.all (fun c => c.before a st) := by
  induction ts with
  | nil => rfl
  | cons c t ih =>
    show (Jvm.Cond.and c (allAtoms t)).before a st = _
    rw [Jvm.Cond.before_and, ih, List.all_cons]
def words1 : List Jvm.Cond := Jvm.Cond.code x code maxLocals ret :: tables_1
/-- a 'code' word, met by the world's own term for the bytes: nothing is compared byte by byte -/
theorem code_word {y : MethodName} {bytes : ByteArray} {mx : Nat} {rt : Option FieldType} {a : Array Value} {s : State} {m : MethodId} {meth : Method} {c : Code} (h1 : s.methodNamed? y = some m) (h2 : s.vm.method? m = some meth) (h3 : meth.code = some c) (h4 : c.code = bytes)
    (h5 : (c.maxLocals == mx && c.exceptionTable.isEmpty && decide (c.maxStack ≤ mostOperands) && decide (meth.sig.returnType = rt) && !meth.locks && decide (parseMethodDescriptor y.desc = some meth.sig)) = true) : (Jvm.Cond.code y bytes mx rt).before a s = true := by
  simp only [Bool.and_eq_true, beq_iff_eq, Bool.not_eq_true', decide_eq_true_eq] at h5
  obtain ⟨⟨⟨⟨⟨g1, g2⟩, g3⟩, g4⟩, g5⟩, g6⟩ := h5
  simp [Cond.before, Cond.holds, Cond.value, h1, h2, h3, h4, g1, g2, g3, g4, g5, g6]
def isCode : Jvm.Cond → Bool
  | .code _ _ _ _ => true
  | _ => false
theorem all_split {L : List Jvm.Cond} {P : Jvm.Cond → Bool} (h1 : L.all (fun c => isCode c || P c) = true) (h2 : ∀ c ∈ L.filter isCode, P c = true) : L.all P = true := by
  refine List.all_eq_true.mpr fun c hc => ?_
  have h := List.all_eq_true.mp h1 c hc
  rcases Bool.eq_false_or_eq_true (isCode c) with hi | hi
  · exact h2 c (List.mem_filter.mpr ⟨hc, hi⟩)
  · simpa [hi] using h
set_option maxRecDepth 65536 in
theorem w_c0 : (Jvm.Cond.code x code maxLocals ret).before args0 about1 = true := code_word (m := ⟨1, 1⟩) (meth := k1m1) (c := k1c1) (by decide +kernel) rfl rfl rfl (by decide +kernel)
set_option maxRecDepth 65536 in
theorem w_c1 : (Jvm.Cond.code ({ cls := "com/example/sensor_access_indicators/sensoraccessindicators/ShownAccesses", name := "<init>", desc := "()V" } : Jvm.MethodName) prog_35_method_1_code (1 : Nat) (Option.none : Option Jvm.ClassFile.FieldType)).before args0 about1 = true := code_word (m := ⟨2, 0⟩) (meth := k2m0) (c := k2c0) (by decide +kernel) rfl rfl rfl (by decide +kernel)
set_option maxRecDepth 65536 in
theorem w_c2 : (Jvm.Cond.code ({ cls := "java/lang/Object", name := "<init>", desc := "()V" } : Jvm.MethodName) object_method_1_code (1 : Nat) (Option.none : Option Jvm.ClassFile.FieldType)).before args0 about1 = true := code_word (m := ⟨0, 0⟩) (meth := k0m0) (c := k0c0) (by decide +kernel) rfl rfl rfl (by decide +kernel)
set_option maxRecDepth 65536 in
theorem w_c3 : (Jvm.Cond.code ({ cls := "com/example/sensor_access_indicators/sensoraccessindicators/ShownAccesses", name := "show", desc := "(J)V" } : Jvm.MethodName) prog_35_method_2_code (3 : Nat) (Option.none : Option Jvm.ClassFile.FieldType)).before args0 about1 = true := code_word (m := ⟨2, 1⟩) (meth := k2m1) (c := k2c1) (by decide +kernel) rfl rfl rfl (by decide +kernel)
set_option maxRecDepth 65536 in
theorem w_c4 : (Jvm.Cond.code ({ cls := "java/lang/Math", name := "max", desc := "(JJ)J" } : Jvm.MethodName) jdk_29_method_66_code (4 : Nat) (Option.some Jvm.ClassFile.FieldType.long)).before args0 about1 = true := code_word (m := ⟨3, 1⟩) (meth := k3m1) (c := k3c1) (by decide +kernel) rfl rfl rfl (by decide +kernel)
set_option maxRecDepth 65536 in
theorem w_c5 : (Jvm.Cond.code ({ cls := "com/example/sensor_access_indicators/sensoraccessindicators/ShownAccesses", name := "isShownAt", desc := "(J)Z" } : Jvm.MethodName) prog_35_method_3_code (3 : Nat) (Option.some Jvm.ClassFile.FieldType.boolean)).before args0 about1 = true := code_word (m := ⟨2, 2⟩) (meth := k2m2) (c := k2c2) (by decide +kernel) rfl rfl rfl (by decide +kernel)
def codes1 : List Jvm.Cond := [Jvm.Cond.code x code maxLocals ret, Jvm.Cond.code ({ cls := "com/example/sensor_access_indicators/sensoraccessindicators/ShownAccesses", name := "<init>", desc := "()V" } : Jvm.MethodName) prog_35_method_1_code (1 : Nat) (Option.none : Option Jvm.ClassFile.FieldType), Jvm.Cond.code ({ cls := "java/lang/Object", name := "<init>", desc := "()V" } : Jvm.MethodName) object_method_1_code (1 : Nat) (Option.none : Option Jvm.ClassFile.FieldType), Jvm.Cond.code ({ cls := "com/example/sensor_access_indicators/sensoraccessindicators/ShownAccesses", name := "show", desc := "(J)V" } : Jvm.MethodName) prog_35_method_2_code (3 : Nat) (Option.none : Option Jvm.ClassFile.FieldType), Jvm.Cond.code ({ cls := "java/lang/Math", name := "max", desc := "(JJ)J" } : Jvm.MethodName) jdk_29_method_66_code (4 : Nat) (Option.some Jvm.ClassFile.FieldType.long), Jvm.Cond.code ({ cls := "com/example/sensor_access_indicators/sensoraccessindicators/ShownAccesses", name := "isShownAt", desc := "(J)Z" } : Jvm.MethodName) prog_35_method_3_code (3 : Nat) (Option.some Jvm.ClassFile.FieldType.boolean)]
set_option maxRecDepth 65536 in
theorem codes_eq : words1.filter isCode = codes1 := rfl
theorem w_codes : ∀ c ∈ words1.filter isCode, c.before args0 about1 = true := by
  rw [codes_eq]
  intro c hc
  simp only [codes1, List.mem_cons, List.not_mem_nil, or_false] at hc
  rcases hc with rfl | rfl | rfl | rfl | rfl | rfl
  · exact w_c0
  · exact w_c1
  · exact w_c2
  · exact w_c3
  · exact w_c4
  · exact w_c5
set_option maxRecDepth 65536 in
theorem w_t1 : (words1.take 24).all (fun c => isCode c || c.before args0 about1) = true := by decide +kernel
set_option maxRecDepth 65536 in
theorem w_t2 : (words1.drop 24).all (fun c => isCode c || c.before args0 about1) = true := by decide +kernel
theorem w_tables : (allAtoms (Jvm.Cond.code x code maxLocals ret :: tables_1)).before args0 about1 = true := by
  rw [allAtoms_all]
  show words1.all (fun c => c.before args0 about1) = true
  refine all_split ?_ w_codes
  rw [← List.take_append_drop 24 words1, List.all_append, w_t1, w_t2]
  rfl
set_option maxRecDepth 65536 in
theorem w_case : (Jvm.Cond.and given_1 narrow_1).before args0 about1 = true := by decide +kernel
theorem w_applies : (headSpec (Jvm.Cond.code x code maxLocals ret :: tables_1) room_1).applies x e0.platform about1 = true :=
  (Spec.applies_iff w_frames).mpr ⟨w_running, w_runnable, w_alone, w_named, w_hears, w_ripe, w_room, w_tables⟩
theorem atStart : AtStart classFile x code maxLocals ret World_1 tables_1 room_1 Calls_1 rest_1 Pre_1 launch0 p0 e0 about1 theMethod args0 below0 :=
  ⟨lists_1, trivial, launch0.admits_env _ _ _, launch0.least_env, fairChoices_fair.cas, fairChoices_fair.clock, w_frames, w_args, w_heap, w_applies, trivial, trivial, w_case⟩
end start1
theorem witness_1 : WitnessClaimed_1 := ⟨start1.p0, start1.e0, start1.about1, start1.theMethod, start1.args0, start1.below0, start1.atStart⟩
end Jvm.Pilot.@@N@@
