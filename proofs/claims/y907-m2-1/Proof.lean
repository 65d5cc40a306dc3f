import JvmDerived
import JvmDerived.Pilot.@@N@@Statement
import JvmDerived.Pilot.@@N@@Code
set_option linter.unusedVariables false
set_option linter.unusedSimpArgs false
namespace Jvm.RoadKit
open Sem ClassFile Op Lib Jvm.Stand Jvm.Free Jvm.LawKit
section New
variable {p : Program} {l : Launch} {e : Env} {R : Room} {s : State} {m : MethodId} {args : Array Value} {below : List Frame} {meth : Method} {c : Code} {T : State} {locs : List Loc} {cells slots : Nat}
theorem retI (X : Stand p l e R s m args below meth c T locs cells slots) (hx : p.tables.exec = Jvm.exec) {pc : Nat} {Ls : Array Slot} {z : Int32} {rest : List Value} (hret : meth.sig.returnType = some .int) (hd : decode c.code pc = .ok (.ireturn, 1)) {fs : List Frame}
    (hl : ∀ (f : JFrame) (acts : List Action), f.method = m → f.locked = none → f.entered = [] → (doReturn e (T.setTop f) acts (some (.int z))).1 = T.setFrames fs) : Steps p.tables e below (T.setTop (mkF m pc Ls (.int z :: rest))) (T.setFrames fs) := by
  have hm' : T.vm.method? m = some meth := X.method'
  have hn : narrow .int (.int z) = .int z := rfl
  show Steps p.tables e below (T.setTop { method := m, pc := pc, locals := Ls, stack := _ :: rest, locked := none }) _
  jvm_step X.here [X.here.top, hx, hd, hm', hret, hn]
  first | (intro acts; rw [hl _ acts rfl rfl rfl]) | rw [hl _ _ rfl rfl rfl]
  exact Steps.refl _
theorem own_lrem {g : JFrame} {target : State} (X : Stand p l e R s m args below meth c T locs cells slots) (hx : p.tables.exec = Jvm.exec) (hg : g.method = m) {x y : Int64} {rest : List Value} (hd : decode c.code g.pc = .ok (.lrem, 1)) (hs : g.stack = .long y :: .long x :: rest) (hy : y ≠ 0)
    (hr : Steps p.tables e below (T.setTop { g with pc := g.pc + 1, stack := .long (x % y) :: rest }) target) : Steps p.tables e below (T.setTop g) target := by
  have q : x - (x / y) * y = x % y := lrem_mod x y
  exact XS.lrem X.here hx hg hd hs hy (by rw [q]; exact hr)
theorem own_b1 {P : Prop} [Decidable P] (h : P) : ¬ ((if P then (1 : Int32) else 0) = 0) := by rw [if_pos h]; decide
theorem own_b0 {P : Prop} [Decidable P] (h : ¬ P) : (if P then (1 : Int32) else 0) = 0 := if_neg h
theorem own_c1 {P : Prop} [Decidable P] (h : P) : (if P then (1 : Int32) else 0) = 1 := if_pos h
theorem own_c0 {P : Prop} [Decidable P] (h : ¬ P) : ¬ ((if P then (1 : Int32) else 0) = 1) := by rw [if_neg h]; decide
theorem own_bb {P Q : Prop} [Decidable P] [Decidable Q] (h : P ↔ Q) : (if P then (1 : Int32) else 0) = (if Q then (1 : Int32) else 0) := by
  by_cases p : P
  · rw [if_pos p, if_pos (h.mp p)]
  · rw [if_neg p, if_neg (fun q => p (h.mpr q))]
theorem own_bn {P Q : Prop} [Decidable P] [Decidable Q] (h : ¬ (P ↔ Q)) : ¬ ((if P then (1 : Int32) else 0) = (if Q then (1 : Int32) else 0)) := fun e => h (by
  by_cases p : P <;> by_cases q : Q
  · exact ⟨fun _ => q, fun _ => p⟩
  · rw [if_pos p, if_neg q] at e; exact absurd e (by decide)
  · rw [if_neg p, if_pos q] at e; exact absurd e (by decide)
  · exact ⟨fun a => absurd a p, fun a => absurd a q⟩)
theorem own_t {P : Prop} [Decidable P] (h : P) : some (Value.int 1) = some (Value.int (if P then (1 : Int32) else 0)) := by rw [if_pos h]
theorem own_f {P : Prop} [Decidable P] (h : ¬ P) : some (Value.int 0) = some (Value.int (if P then (1 : Int32) else 0)) := by rw [if_neg h]
end New
end Jvm.RoadKit
namespace Jvm.Pilot.@@N@@
open Jvm Jvm.ClassFile Sem Op Lib Jvm.Free Jvm.Stand Jvm.LawKit Jvm.RoadKit Bundle Jvm.Pilot.@@N@@.Jvm.D
def own_poll (r : Int64) : Int64 := if r = (0 : Int64) then 0 else if (1000 : Int64) < r then (if (5000 : Int64) < r then (if (10000 : Int64) < r then (if (100000 : Int64) < r then 60 else 30) else 10) else 5) else 1
theorem own_len {args : Array Value} {s : State} {t : Term} {a : Addr} {cl : Cell} {n : Int32} (ev : t.eval args s none [] s = some (.ref a)) (af : s.arrayAt? a = some cl) (h : (Term.length t).eval args s none [] s = some (.int n)) : cl.slots.size = n.toNatClampNeg := by
  by_cases q : cl.slots.size < 2 ^ 31
  · have e := (len_f ev af q).symm.trans h
    have e2 : cl.slots.size.toInt32 = n := by simpa using e
    rw [← e2]
    simp only [Int32.toNatClampNeg, len_toInt q]; rfl
  · simp [Term.eval, ev, af] at h
    omega
theorem pn_0 : plainName "java/lang/Record" = true := by first | (simp [plainName, overriddenIn]; done) | decide +kernel
theorem d2_0 : decode jdk_30_method_1_code 0 = .ok (.aload_n 0, 1) := by decide +kernel
theorem d2_1 : decode jdk_30_method_1_code 1 = .ok (.invokespecial 1, 3) := by decide +kernel
theorem d2_4 : decode jdk_30_method_1_code 4 = .ok (.return_, 1) := by decide +kernel
theorem ef_2 (m : MethodId) (x0 : Addr) : entryFrame m #[(.ref x0)] 1 = mkF m 0 #[.val (.ref x0)] [] := by first | (simp [entryFrame, mkF, argsToLocals, Value.category]; done) | rfl
def Q2 (Z : State) (o0 : Addr) (h0 : Heap) (n0 : Nat) (v : Option Value) (h : Heap) (L : List Loc) : Prop := v = none ∧ Fr n0 L ∧ h = h0
set_option maxRecDepth 65536 in
set_option maxHeartbeats 40000000 in
theorem rm2 (l : Launch) (Z : State) (a0 : Array Value) (hw : ∀ d ∈ tables_1, d.before a0 Z = true) (ws : List Jvm.Cond) (o0 : Addr) (h0 : Heap) (n0 : Nat) (Z0 : n0 ≤ h0.size) :
    MetFree l (⟨"java/lang/Record", "<init>", "()V"⟩ : MethodName) (head1 (Jvm.Cond.code (⟨"java/lang/Record", "<init>", "()V"⟩ : MethodName) jdk_30_method_1_code 1 none :: ws) ({ frames := 1, cells := 0, slots := 0, locals := 12 } : Room)) (fun a U => a = #[(.ref o0)] ∧ Z.Warmed39 U.vm ∧ U.heap = h0) (fun _ _ _ _ _ => True) (fun _ U o U' => ∃ v L, o = .returned v ∧ Q2 Z o0 h0 n0 v U'.heap L ∧ FrameEnd U o U' L ({ frames := 1, cells := 0, slots := 0, locals := 12 } : Room).cells ({ frames := 1, cells := 0, slots := 0, locals := 12 } : Room).slots) := by
  refine MetFree.of_bodySF (plainFor_of_name pn_0) hisR ?_
  intro p e s m args below meth c s₁ Bd hml0 hP hK
  obtain ⟨rfl, hZ, hh⟩ := hP
  have hx := Bd.exec
  have hby := Bd.bytes
  have hml : c.maxLocals = 1 := hml0
  have hown : s.vm.findClass "java/lang/Record" = some m.cls := findClass_of_methodNamed Bd.named
  have hnm := (name_of_methodNamed Bd.named Bd.method).1
  have X0 : Stand p l e ({ frames := 1, cells := 0, slots := 0, locals := 12 } : Room) s m #[(.ref o0)] below meth c s₁ [] 0 0 := Stand.of_body Bd
  have e0 : s₁.heap = h0 := by rw [← hh, Bd.state]; rfl
  have N0 := Fr.nil n0
  have pre0 : ∀ t, Steps p.tables e below (s₁.setTop (mkF m 0 #[.val (.ref o0)] [])) t → Steps p.tables e below (s₁.setTop (entryFrame m #[(.ref o0)] 1)) t := fun t k => castTop (ef_2 m o0) k
  obtain ⟨T1, X1, e1, st1⟩ := initO X0 hx hZ hown (hw _ (List.mem_of_getElem? (i := 12) rfl)) (hw _ (List.mem_of_getElem? (i := 13) rfl)) (hw _ (List.mem_of_getElem? (i := 14) rfl)) e0 (g := (mkF m 1 #[.val (.ref o0)] [(.ref o0)])) rfl (by rw [hml]; rfl) rfl (hb hby d2_1) (by decide) (W := 0) (by show 2 * 0 + _ ≤ _; exact Nat.le_of_eq rfl) (by decide)
  have pre2 : ∀ t, Steps p.tables e below (T1.setTop (mkF m 4 #[.val (.ref o0)] [])) t → Steps p.tables e below (s₁.setTop (entryFrame m #[(.ref o0)] 1)) t := fun t k => pre0 t (by
    show Steps p.tables e below (s₁.setTop (mkF m 0 #[.val (.ref o0)] [])) _
    refine XS.aloadN X0.here hx rfl (hb hby d2_0) rfl rfl ?_
    show Steps p.tables e below (s₁.setTop (mkF m 1 #[.val (.ref o0)] [(.ref o0)])) _
    refine st1 _ ?_
    exact k)
  obtain ⟨fs, hr, hrun, hended, hW, hsame⟩ := X1.leave (v := none) (fun _ => rfl)
  refine ⟨_, _, pre2 _ ?_, hrun, hended, _, _, rfl, ?_, ⟨_, rfl⟩, hW, hsame.mono (by decide) (by decide)⟩
  · exact X1.returnOut hx Bd.returns (hb hby d2_4) hr
  · show Q2 Z o0 h0 n0 _ T1.heap _
    rw [e1]
    exact ⟨rfl, N0, rfl⟩
theorem pn_1 : plainName "com/example/anteroom/anteroom/Place" = true := by first | (simp [plainName, overriddenIn]; done) | decide +kernel
theorem d1_0 : decode prog_7_method_1_code 0 = .ok (.aload_n 0, 1) := by decide +kernel
theorem pd_0 : parseMethodDescriptor "()V" = some ⟨[], none⟩ := by decide +kernel
theorem d1_1 : decode prog_7_method_1_code 1 = .ok (.invokespecial 1, 3) := by decide +kernel
theorem d1_4 : decode prog_7_method_1_code 4 = .ok (.aload_n 0, 1) := by decide +kernel
theorem d1_5 : decode prog_7_method_1_code 5 = .ok (.lload_n 1, 1) := by decide +kernel
theorem d1_6 : decode prog_7_method_1_code 6 = .ok (.putfield 7, 3) := by decide +kernel
theorem d1_9 : decode prog_7_method_1_code 9 = .ok (.aload_n 0, 1) := by decide +kernel
theorem d1_10 : decode prog_7_method_1_code 10 = .ok (.lload_n 3, 1) := by decide +kernel
theorem d1_11 : decode prog_7_method_1_code 11 = .ok (.putfield 13, 3) := by decide +kernel
theorem d1_14 : decode prog_7_method_1_code 14 = .ok (.aload_n 0, 1) := by decide +kernel
theorem d1_15 : decode prog_7_method_1_code 15 = .ok (.lload 5, 2) := by decide +kernel
theorem d1_17 : decode prog_7_method_1_code 17 = .ok (.putfield 16, 3) := by decide +kernel
theorem d1_20 : decode prog_7_method_1_code 20 = .ok (.aload_n 0, 1) := by decide +kernel
theorem d1_21 : decode prog_7_method_1_code 21 = .ok (.lload 7, 2) := by decide +kernel
theorem d1_23 : decode prog_7_method_1_code 23 = .ok (.putfield 19, 3) := by decide +kernel
theorem d1_26 : decode prog_7_method_1_code 26 = .ok (.aload_n 0, 1) := by decide +kernel
theorem d1_27 : decode prog_7_method_1_code 27 = .ok (.lload 9, 2) := by decide +kernel
theorem d1_29 : decode prog_7_method_1_code 29 = .ok (.putfield 22, 3) := by decide +kernel
theorem d1_32 : decode prog_7_method_1_code 32 = .ok (.return_, 1) := by decide +kernel
theorem ef_1 (m : MethodId) (x0 : Addr) (x1 : Int64) (x2 : Int64) (x3 : Int64) (x4 : Int64) (x5 : Int64) : entryFrame m #[(.ref x0), (.long x1), (.long x2), (.long x3), (.long x4), (.long x5)] 11 = mkF m 0 #[.val (.ref x0), .val (.long x1), .second, .val (.long x2), .second, .val (.long x3), .second, .val (.long x4), .second, .val (.long x5), .second] [] := by first | (simp [entryFrame, mkF, argsToLocals, Value.category]; done) | rfl
def Q1 (Z : State) (o0 : Addr) (q1 : Int64) (q2 : Int64) (q3 : Int64) (q4 : Int64) (q5 : Int64) (u0 : Value) (u1 : Value) (u2 : Value) (u3 : Value) (u4 : Value) (h0 : Heap) (n0 : Nat) (v : Option Value) (h : Heap) (L : List Loc) : Prop := v = none ∧ Fr n0 L ∧ Keep h0 h [o0] ∧ Exa Z h o0 "com/example/anteroom/anteroom/Place" ∧ Fld Z h o0 "com/example/anteroom/anteroom/Place" "ticket" "J" (.long q1) ∧ Fld Z h o0 "com/example/anteroom/anteroom/Place" "position" "J" (.long q2) ∧ Fld Z h o0 "com/example/anteroom/anteroom/Place" "secondsToOpening" "J" (.long q3) ∧ Fld Z h o0 "com/example/anteroom/anteroom/Place" "issuedAt" "J" (.long q4) ∧ Fld Z h o0 "com/example/anteroom/anteroom/Place" "expiresAt" "J" (.long q5)
set_option maxRecDepth 65536 in
set_option maxHeartbeats 40000000 in
theorem rm1 (l : Launch) (Z : State) (a0 : Array Value) (hw : ∀ d ∈ tables_1, d.before a0 Z = true) (ws : List Jvm.Cond) (o0 : Addr) (q1 : Int64) (q2 : Int64) (q3 : Int64) (q4 : Int64) (q5 : Int64) (u0 : Value) (u1 : Value) (u2 : Value) (u3 : Value) (u4 : Value) (h0 : Heap) (n0 : Nat) (Z0 : n0 ≤ h0.size) (F_ticket_o0 : Fld Z h0 o0 "com/example/anteroom/anteroom/Place" "ticket" "J" u0) (F_position_o0 : Fld Z h0 o0 "com/example/anteroom/anteroom/Place" "position" "J" u1) (F_secondsToOpening_o0 : Fld Z h0 o0 "com/example/anteroom/anteroom/Place" "secondsToOpening" "J" u2) (F_issuedAt_o0 : Fld Z h0 o0 "com/example/anteroom/anteroom/Place" "issuedAt" "J" u3) (F_expiresAt_o0 : Fld Z h0 o0 "com/example/anteroom/anteroom/Place" "expiresAt" "J" u4) (E_o0 : Exa Z h0 o0 "com/example/anteroom/anteroom/Place") (g_o0 : n0 ≤ o0) :
    MetFree l (⟨"com/example/anteroom/anteroom/Place", "<init>", "(JJJJJ)V"⟩ : MethodName) (head1 (Jvm.Cond.code (⟨"com/example/anteroom/anteroom/Place", "<init>", "(JJJJJ)V"⟩ : MethodName) prog_7_method_1_code 11 none :: ws) ({ frames := 2, cells := 0, slots := 0, locals := 24 } : Room)) (fun a U => a = #[(.ref o0), (.long q1), (.long q2), (.long q3), (.long q4), (.long q5)] ∧ Z.Warmed39 U.vm ∧ U.heap = h0) (fun _ _ _ _ _ => True) (fun _ U o U' => ∃ v L, o = .returned v ∧ Q1 Z o0 q1 q2 q3 q4 q5 u0 u1 u2 u3 u4 h0 n0 v U'.heap L ∧ FrameEnd U o U' L ({ frames := 2, cells := 0, slots := 0, locals := 24 } : Room).cells ({ frames := 2, cells := 0, slots := 0, locals := 24 } : Room).slots) := by
  refine MetFree.of_bodySF (plainFor_of_name pn_1) hisR ?_
  intro p e s m args below meth c s₁ Bd hml0 hP hK
  obtain ⟨rfl, hZ, hh⟩ := hP
  have hx := Bd.exec
  have hby := Bd.bytes
  have hml : c.maxLocals = 11 := hml0
  have hown : s.vm.findClass "com/example/anteroom/anteroom/Place" = some m.cls := findClass_of_methodNamed Bd.named
  have hnm := (name_of_methodNamed Bd.named Bd.method).1
  have X0 : Stand p l e ({ frames := 2, cells := 0, slots := 0, locals := 24 } : Room) s m #[(.ref o0), (.long q1), (.long q2), (.long q3), (.long q4), (.long q5)] below meth c s₁ [] 0 0 := Stand.of_body Bd
  have e0 : s₁.heap = h0 := by rw [← hh, Bd.state]; rfl
  have N0 := Fr.nil n0
  have pre0 : ∀ t, Steps p.tables e below (s₁.setTop (mkF m 0 #[.val (.ref o0), .val (.long q1), .second, .val (.long q2), .second, .val (.long q3), .second, .val (.long q4), .second, .val (.long q5), .second] [])) t → Steps p.tables e below (s₁.setTop (entryFrame m #[(.ref o0), (.long q1), (.long q2), (.long q3), (.long q4), (.long q5)] 11)) t := fun t k => castTop (ef_1 m o0 q1 q2 q3 q4 q5) k
  obtain ⟨_, _, ⟨T1, L1, k1, n1⟩, -, X1, ⟨Lc1, hQ1, l1, y1, z1⟩, st1⟩ := X0.specialBack hx (y := (⟨"java/lang/Record", "<init>", "()V"⟩ : MethodName)) rfl hown (mvT hZ (hw _ (List.mem_of_getElem? (i := 7) rfl))) (mvT hZ (hw _ (List.mem_of_getElem? (i := 8) rfl))) (mvT hZ (hw _ (List.mem_of_getElem? (i := 11) rfl))) (by decide) (backOf (W := 0) (rm2 l Z a0 hw [] o0 h0 n0 Z0 ) hZ (hw _ (List.mem_of_getElem? (i := 11) rfl)) (hw _ (List.mem_of_getElem? (i := 10) rfl)) (by decide) (by decide)) (g := (mkF m 1 #[.val (.ref o0), .val (.long q1), .second, .val (.long q2), .second, .val (.long q3), .second, .val (.long q4), .second, .val (.long q5), .second] [(.ref o0)])) rfl (by rw [hml]; rfl) (Steps.refl _) (a := o0) (argsL := []) (rest := []) (lenOf pd_0 rfl) rfl (by show 2 * 0 + _ ≤ _; exact Nat.le_of_eq rfl) (hb hby d1_1) (fun _ _ => ⟨rfl, e0, (by decide : 0 + 0 ≤ _), (by decide : 0 + 0 ≤ _)⟩)
  dsimp only [Pt.U, Pt.locs, Pt.cells, Pt.slots] at X1 l1 y1 z1 st1 hQ1
  subst l1 y1 z1
  obtain ⟨rfl, N1q, hh1⟩ := hQ1
  have N1 := Fr.app N0 N1q
  obtain ⟨T2, h2, X2, e2, W2, st2⟩ := putF X1 hx hZ hown (host := "") (Or.inl (hw _ (List.mem_of_getElem? (i := 15) rfl))) Via.refl hh1 F_ticket_o0 E_o0 (Or.inr ⟨(hw _ (List.mem_of_getElem? (i := 16) rfl)), rfl, hnm⟩) (hw _ (List.mem_of_getElem? (i := 2) rfl)) (ty := .long) (by decide) rfl rfl (g := (mkF m 6 #[.val (.ref o0), .val (.long q1), .second, .val (.long q2), .second, .val (.long q3), .second, .val (.long q4), .second, .val (.long q5), .second] [(.long q1), (.ref o0)])) rfl rfl (hb hby d1_6)
  have Fw2 := F_ticket_o0.same W2
  have KK2 : Keep h0 h2 [o0] := (Keep.refl h0 [o0]).wr W2 (Or.inl (List.mem_of_getElem? (i := 0) rfl))
  have N2 := Fr.snoc X2 N1 g_o0
  obtain ⟨T3, h3, X3, e3, W3, st3⟩ := putF X2 hx hZ hown (host := "") (Or.inl (hw _ (List.mem_of_getElem? (i := 17) rfl))) Via.refl e2 (F_position_o0.other W2 (Or.inr (slot_ne (Or.inr (hw _ (List.mem_of_getElem? (i := 18) rfl))) (Or.inr (hw _ (List.mem_of_getElem? (i := 16) rfl))) (by decide) (t := .long) (t' := .long) (by decide) (by decide)))) (E_o0.wr W2) (Or.inr ⟨(hw _ (List.mem_of_getElem? (i := 18) rfl)), rfl, hnm⟩) (hw _ (List.mem_of_getElem? (i := 2) rfl)) (ty := .long) (by decide) rfl rfl (g := (mkF m 11 #[.val (.ref o0), .val (.long q1), .second, .val (.long q2), .second, .val (.long q3), .second, .val (.long q4), .second, .val (.long q5), .second] [(.long q2), (.ref o0)])) rfl rfl (hb hby d1_11)
  have Fw3 := (F_position_o0.other W2 (Or.inr (slot_ne (Or.inr (hw _ (List.mem_of_getElem? (i := 18) rfl))) (Or.inr (hw _ (List.mem_of_getElem? (i := 16) rfl))) (by decide) (t := .long) (t' := .long) (by decide) (by decide)))).same W3
  have KK3 : Keep h0 h3 [o0] := KK2.wr W3 (Or.inl (List.mem_of_getElem? (i := 0) rfl))
  have N3 := Fr.snoc X3 N2 g_o0
  obtain ⟨T4, h4, X4, e4, W4, st4⟩ := putF X3 hx hZ hown (host := "") (Or.inl (hw _ (List.mem_of_getElem? (i := 19) rfl))) Via.refl e3 ((F_secondsToOpening_o0.other W2 (Or.inr (slot_ne (Or.inr (hw _ (List.mem_of_getElem? (i := 20) rfl))) (Or.inr (hw _ (List.mem_of_getElem? (i := 16) rfl))) (by decide) (t := .long) (t' := .long) (by decide) (by decide)))).other W3 (Or.inr (slot_ne (Or.inr (hw _ (List.mem_of_getElem? (i := 20) rfl))) (Or.inr (hw _ (List.mem_of_getElem? (i := 18) rfl))) (by decide) (t := .long) (t' := .long) (by decide) (by decide)))) ((E_o0.wr W2).wr W3) (Or.inr ⟨(hw _ (List.mem_of_getElem? (i := 20) rfl)), rfl, hnm⟩) (hw _ (List.mem_of_getElem? (i := 2) rfl)) (ty := .long) (by decide) rfl rfl (g := (mkF m 17 #[.val (.ref o0), .val (.long q1), .second, .val (.long q2), .second, .val (.long q3), .second, .val (.long q4), .second, .val (.long q5), .second] [(.long q3), (.ref o0)])) rfl rfl (hb hby d1_17)
  have Fw4 := ((F_secondsToOpening_o0.other W2 (Or.inr (slot_ne (Or.inr (hw _ (List.mem_of_getElem? (i := 20) rfl))) (Or.inr (hw _ (List.mem_of_getElem? (i := 16) rfl))) (by decide) (t := .long) (t' := .long) (by decide) (by decide)))).other W3 (Or.inr (slot_ne (Or.inr (hw _ (List.mem_of_getElem? (i := 20) rfl))) (Or.inr (hw _ (List.mem_of_getElem? (i := 18) rfl))) (by decide) (t := .long) (t' := .long) (by decide) (by decide)))).same W4
  have KK4 : Keep h0 h4 [o0] := KK3.wr W4 (Or.inl (List.mem_of_getElem? (i := 0) rfl))
  have N4 := Fr.snoc X4 N3 g_o0
  obtain ⟨T5, h5, X5, e5, W5, st5⟩ := putF X4 hx hZ hown (host := "") (Or.inl (hw _ (List.mem_of_getElem? (i := 21) rfl))) Via.refl e4 (((F_issuedAt_o0.other W2 (Or.inr (slot_ne (Or.inr (hw _ (List.mem_of_getElem? (i := 22) rfl))) (Or.inr (hw _ (List.mem_of_getElem? (i := 16) rfl))) (by decide) (t := .long) (t' := .long) (by decide) (by decide)))).other W3 (Or.inr (slot_ne (Or.inr (hw _ (List.mem_of_getElem? (i := 22) rfl))) (Or.inr (hw _ (List.mem_of_getElem? (i := 18) rfl))) (by decide) (t := .long) (t' := .long) (by decide) (by decide)))).other W4 (Or.inr (slot_ne (Or.inr (hw _ (List.mem_of_getElem? (i := 22) rfl))) (Or.inr (hw _ (List.mem_of_getElem? (i := 20) rfl))) (by decide) (t := .long) (t' := .long) (by decide) (by decide)))) (((E_o0.wr W2).wr W3).wr W4) (Or.inr ⟨(hw _ (List.mem_of_getElem? (i := 22) rfl)), rfl, hnm⟩) (hw _ (List.mem_of_getElem? (i := 2) rfl)) (ty := .long) (by decide) rfl rfl (g := (mkF m 23 #[.val (.ref o0), .val (.long q1), .second, .val (.long q2), .second, .val (.long q3), .second, .val (.long q4), .second, .val (.long q5), .second] [(.long q4), (.ref o0)])) rfl rfl (hb hby d1_23)
  have Fw5 := (((F_issuedAt_o0.other W2 (Or.inr (slot_ne (Or.inr (hw _ (List.mem_of_getElem? (i := 22) rfl))) (Or.inr (hw _ (List.mem_of_getElem? (i := 16) rfl))) (by decide) (t := .long) (t' := .long) (by decide) (by decide)))).other W3 (Or.inr (slot_ne (Or.inr (hw _ (List.mem_of_getElem? (i := 22) rfl))) (Or.inr (hw _ (List.mem_of_getElem? (i := 18) rfl))) (by decide) (t := .long) (t' := .long) (by decide) (by decide)))).other W4 (Or.inr (slot_ne (Or.inr (hw _ (List.mem_of_getElem? (i := 22) rfl))) (Or.inr (hw _ (List.mem_of_getElem? (i := 20) rfl))) (by decide) (t := .long) (t' := .long) (by decide) (by decide)))).same W5
  have KK5 : Keep h0 h5 [o0] := KK4.wr W5 (Or.inl (List.mem_of_getElem? (i := 0) rfl))
  have N5 := Fr.snoc X5 N4 g_o0
  obtain ⟨T6, h6, X6, e6, W6, st6⟩ := putF X5 hx hZ hown (host := "") (Or.inl (hw _ (List.mem_of_getElem? (i := 23) rfl))) Via.refl e5 ((((F_expiresAt_o0.other W2 (Or.inr (slot_ne (Or.inr (hw _ (List.mem_of_getElem? (i := 24) rfl))) (Or.inr (hw _ (List.mem_of_getElem? (i := 16) rfl))) (by decide) (t := .long) (t' := .long) (by decide) (by decide)))).other W3 (Or.inr (slot_ne (Or.inr (hw _ (List.mem_of_getElem? (i := 24) rfl))) (Or.inr (hw _ (List.mem_of_getElem? (i := 18) rfl))) (by decide) (t := .long) (t' := .long) (by decide) (by decide)))).other W4 (Or.inr (slot_ne (Or.inr (hw _ (List.mem_of_getElem? (i := 24) rfl))) (Or.inr (hw _ (List.mem_of_getElem? (i := 20) rfl))) (by decide) (t := .long) (t' := .long) (by decide) (by decide)))).other W5 (Or.inr (slot_ne (Or.inr (hw _ (List.mem_of_getElem? (i := 24) rfl))) (Or.inr (hw _ (List.mem_of_getElem? (i := 22) rfl))) (by decide) (t := .long) (t' := .long) (by decide) (by decide)))) ((((E_o0.wr W2).wr W3).wr W4).wr W5) (Or.inr ⟨(hw _ (List.mem_of_getElem? (i := 24) rfl)), rfl, hnm⟩) (hw _ (List.mem_of_getElem? (i := 2) rfl)) (ty := .long) (by decide) rfl rfl (g := (mkF m 29 #[.val (.ref o0), .val (.long q1), .second, .val (.long q2), .second, .val (.long q3), .second, .val (.long q4), .second, .val (.long q5), .second] [(.long q5), (.ref o0)])) rfl rfl (hb hby d1_29)
  have Fw6 := ((((F_expiresAt_o0.other W2 (Or.inr (slot_ne (Or.inr (hw _ (List.mem_of_getElem? (i := 24) rfl))) (Or.inr (hw _ (List.mem_of_getElem? (i := 16) rfl))) (by decide) (t := .long) (t' := .long) (by decide) (by decide)))).other W3 (Or.inr (slot_ne (Or.inr (hw _ (List.mem_of_getElem? (i := 24) rfl))) (Or.inr (hw _ (List.mem_of_getElem? (i := 18) rfl))) (by decide) (t := .long) (t' := .long) (by decide) (by decide)))).other W4 (Or.inr (slot_ne (Or.inr (hw _ (List.mem_of_getElem? (i := 24) rfl))) (Or.inr (hw _ (List.mem_of_getElem? (i := 20) rfl))) (by decide) (t := .long) (t' := .long) (by decide) (by decide)))).other W5 (Or.inr (slot_ne (Or.inr (hw _ (List.mem_of_getElem? (i := 24) rfl))) (Or.inr (hw _ (List.mem_of_getElem? (i := 22) rfl))) (by decide) (t := .long) (t' := .long) (by decide) (by decide)))).same W6
  have KK6 : Keep h0 h6 [o0] := KK5.wr W6 (Or.inl (List.mem_of_getElem? (i := 0) rfl))
  have N6 := Fr.snoc X6 N5 g_o0
  have pre7 : ∀ t, Steps p.tables e below (T6.setTop (mkF m 32 #[.val (.ref o0), .val (.long q1), .second, .val (.long q2), .second, .val (.long q3), .second, .val (.long q4), .second, .val (.long q5), .second] [])) t → Steps p.tables e below (s₁.setTop (entryFrame m #[(.ref o0), (.long q1), (.long q2), (.long q3), (.long q4), (.long q5)] 11)) t := fun t k => pre0 t (by
    show Steps p.tables e below (s₁.setTop (mkF m 0 #[.val (.ref o0), .val (.long q1), .second, .val (.long q2), .second, .val (.long q3), .second, .val (.long q4), .second, .val (.long q5), .second] [])) _
    refine XS.aloadN X0.here hx rfl (hb hby d1_0) rfl rfl ?_
    show Steps p.tables e below (s₁.setTop (mkF m 1 #[.val (.ref o0), .val (.long q1), .second, .val (.long q2), .second, .val (.long q3), .second, .val (.long q4), .second, .val (.long q5), .second] [(.ref o0)])) _
    refine st1.trans ?_
    show Steps p.tables e below (T1.setTop (mkF m 4 #[.val (.ref o0), .val (.long q1), .second, .val (.long q2), .second, .val (.long q3), .second, .val (.long q4), .second, .val (.long q5), .second] [])) _
    refine XS.aloadN X1.here hx rfl (hb hby d1_4) rfl rfl ?_
    show Steps p.tables e below (T1.setTop (mkF m 5 #[.val (.ref o0), .val (.long q1), .second, .val (.long q2), .second, .val (.long q3), .second, .val (.long q4), .second, .val (.long q5), .second] [(.ref o0)])) _
    refine XS.lloadN X1.here hx rfl (hb hby d1_5) rfl ?_
    show Steps p.tables e below (T1.setTop (mkF m 6 #[.val (.ref o0), .val (.long q1), .second, .val (.long q2), .second, .val (.long q3), .second, .val (.long q4), .second, .val (.long q5), .second] [(.long q1), (.ref o0)])) _
    refine st2 _ ?_
    show Steps p.tables e below (T2.setTop (mkF m 9 #[.val (.ref o0), .val (.long q1), .second, .val (.long q2), .second, .val (.long q3), .second, .val (.long q4), .second, .val (.long q5), .second] [])) _
    refine XS.aloadN X2.here hx rfl (hb hby d1_9) rfl rfl ?_
    show Steps p.tables e below (T2.setTop (mkF m 10 #[.val (.ref o0), .val (.long q1), .second, .val (.long q2), .second, .val (.long q3), .second, .val (.long q4), .second, .val (.long q5), .second] [(.ref o0)])) _
    refine XS.lloadN X2.here hx rfl (hb hby d1_10) rfl ?_
    show Steps p.tables e below (T2.setTop (mkF m 11 #[.val (.ref o0), .val (.long q1), .second, .val (.long q2), .second, .val (.long q3), .second, .val (.long q4), .second, .val (.long q5), .second] [(.long q2), (.ref o0)])) _
    refine st3 _ ?_
    show Steps p.tables e below (T3.setTop (mkF m 14 #[.val (.ref o0), .val (.long q1), .second, .val (.long q2), .second, .val (.long q3), .second, .val (.long q4), .second, .val (.long q5), .second] [])) _
    refine XS.aloadN X3.here hx rfl (hb hby d1_14) rfl rfl ?_
    show Steps p.tables e below (T3.setTop (mkF m 15 #[.val (.ref o0), .val (.long q1), .second, .val (.long q2), .second, .val (.long q3), .second, .val (.long q4), .second, .val (.long q5), .second] [(.ref o0)])) _
    refine XS.lload X3.here hx rfl (hb hby d1_15) rfl ?_
    show Steps p.tables e below (T3.setTop (mkF m 17 #[.val (.ref o0), .val (.long q1), .second, .val (.long q2), .second, .val (.long q3), .second, .val (.long q4), .second, .val (.long q5), .second] [(.long q3), (.ref o0)])) _
    refine st4 _ ?_
    show Steps p.tables e below (T4.setTop (mkF m 20 #[.val (.ref o0), .val (.long q1), .second, .val (.long q2), .second, .val (.long q3), .second, .val (.long q4), .second, .val (.long q5), .second] [])) _
    refine XS.aloadN X4.here hx rfl (hb hby d1_20) rfl rfl ?_
    show Steps p.tables e below (T4.setTop (mkF m 21 #[.val (.ref o0), .val (.long q1), .second, .val (.long q2), .second, .val (.long q3), .second, .val (.long q4), .second, .val (.long q5), .second] [(.ref o0)])) _
    refine XS.lload X4.here hx rfl (hb hby d1_21) rfl ?_
    show Steps p.tables e below (T4.setTop (mkF m 23 #[.val (.ref o0), .val (.long q1), .second, .val (.long q2), .second, .val (.long q3), .second, .val (.long q4), .second, .val (.long q5), .second] [(.long q4), (.ref o0)])) _
    refine st5 _ ?_
    show Steps p.tables e below (T5.setTop (mkF m 26 #[.val (.ref o0), .val (.long q1), .second, .val (.long q2), .second, .val (.long q3), .second, .val (.long q4), .second, .val (.long q5), .second] [])) _
    refine XS.aloadN X5.here hx rfl (hb hby d1_26) rfl rfl ?_
    show Steps p.tables e below (T5.setTop (mkF m 27 #[.val (.ref o0), .val (.long q1), .second, .val (.long q2), .second, .val (.long q3), .second, .val (.long q4), .second, .val (.long q5), .second] [(.ref o0)])) _
    refine XS.lload X5.here hx rfl (hb hby d1_27) rfl ?_
    show Steps p.tables e below (T5.setTop (mkF m 29 #[.val (.ref o0), .val (.long q1), .second, .val (.long q2), .second, .val (.long q3), .second, .val (.long q4), .second, .val (.long q5), .second] [(.long q5), (.ref o0)])) _
    refine st6 _ ?_
    exact k)
  obtain ⟨fs, hr, hrun, hended, hW, hsame⟩ := X6.leave (v := none) (fun _ => rfl)
  refine ⟨_, _, pre7 _ ?_, hrun, hended, _, _, rfl, ?_, ⟨_, rfl⟩, hW, hsame.mono (by decide) (by decide)⟩
  · exact X6.returnOut hx Bd.returns (hb hby d1_32) hr
  · show Q1 Z o0 q1 q2 q3 q4 q5 u0 u1 u2 u3 u4 h0 n0 _ T6.heap _
    rw [e6]
    exact ⟨rfl, N6, KK6, (((((E_o0.wr W2).wr W3).wr W4).wr W5).wr W6), ((((Fw2.other W3 (Or.inr (slot_ne (Or.inr (hw _ (List.mem_of_getElem? (i := 16) rfl))) (Or.inr (hw _ (List.mem_of_getElem? (i := 18) rfl))) (by decide) (t := .long) (t' := .long) (by decide) (by decide)))).other W4 (Or.inr (slot_ne (Or.inr (hw _ (List.mem_of_getElem? (i := 16) rfl))) (Or.inr (hw _ (List.mem_of_getElem? (i := 20) rfl))) (by decide) (t := .long) (t' := .long) (by decide) (by decide)))).other W5 (Or.inr (slot_ne (Or.inr (hw _ (List.mem_of_getElem? (i := 16) rfl))) (Or.inr (hw _ (List.mem_of_getElem? (i := 22) rfl))) (by decide) (t := .long) (t' := .long) (by decide) (by decide)))).other W6 (Or.inr (slot_ne (Or.inr (hw _ (List.mem_of_getElem? (i := 16) rfl))) (Or.inr (hw _ (List.mem_of_getElem? (i := 24) rfl))) (by decide) (t := .long) (t' := .long) (by decide) (by decide)))), (((Fw3.other W4 (Or.inr (slot_ne (Or.inr (hw _ (List.mem_of_getElem? (i := 18) rfl))) (Or.inr (hw _ (List.mem_of_getElem? (i := 20) rfl))) (by decide) (t := .long) (t' := .long) (by decide) (by decide)))).other W5 (Or.inr (slot_ne (Or.inr (hw _ (List.mem_of_getElem? (i := 18) rfl))) (Or.inr (hw _ (List.mem_of_getElem? (i := 22) rfl))) (by decide) (t := .long) (t' := .long) (by decide) (by decide)))).other W6 (Or.inr (slot_ne (Or.inr (hw _ (List.mem_of_getElem? (i := 18) rfl))) (Or.inr (hw _ (List.mem_of_getElem? (i := 24) rfl))) (by decide) (t := .long) (t' := .long) (by decide) (by decide)))), ((Fw4.other W5 (Or.inr (slot_ne (Or.inr (hw _ (List.mem_of_getElem? (i := 20) rfl))) (Or.inr (hw _ (List.mem_of_getElem? (i := 22) rfl))) (by decide) (t := .long) (t' := .long) (by decide) (by decide)))).other W6 (Or.inr (slot_ne (Or.inr (hw _ (List.mem_of_getElem? (i := 20) rfl))) (Or.inr (hw _ (List.mem_of_getElem? (i := 24) rfl))) (by decide) (t := .long) (t' := .long) (by decide) (by decide)))), (Fw5.other W6 (Or.inr (slot_ne (Or.inr (hw _ (List.mem_of_getElem? (i := 22) rfl))) (Or.inr (hw _ (List.mem_of_getElem? (i := 24) rfl))) (by decide) (t := .long) (t' := .long) (by decide) (by decide)))), Fw6⟩
theorem d5_0 : decode prog_7_method_4_code 0 = .ok (.aload_n 0, 1) := by decide +kernel
theorem d5_1 : decode prog_7_method_4_code 1 = .ok (.getfield 13, 3) := by decide +kernel
theorem d5_4 : decode prog_7_method_4_code 4 = .ok (.lconst 0, 1) := by decide +kernel
theorem d5_5 : decode prog_7_method_4_code 5 = .ok (.lcmp, 1) := by decide +kernel
theorem d5_6 : decode prog_7_method_4_code 6 = .ok (.ifCond .ne 7, 3) := by decide +kernel
theorem d5_9 : decode prog_7_method_4_code 9 = .ok (.iconst 1, 1) := by decide +kernel
theorem d5_10 : decode prog_7_method_4_code 10 = .ok (.goto 4, 3) := by decide +kernel
theorem d5_14 : decode prog_7_method_4_code 14 = .ok (.ireturn, 1) := by decide +kernel
theorem d5_13 : decode prog_7_method_4_code 13 = .ok (.iconst 0, 1) := by decide +kernel
theorem ef_5 (m : MethodId) (x0 : Addr) : entryFrame m #[(.ref x0)] 1 = mkF m 0 #[.val (.ref x0)] [] := by first | (simp [entryFrame, mkF, argsToLocals, Value.category]; done) | rfl
def Q5 (Z : State) (o0 : Addr) (r : Int64) (h0 : Heap) (n0 : Nat) (v : Option Value) (h : Heap) (L : List Loc) : Prop := v = some (.int (if r = (0 : Int64) then (1 : Int32) else 0)) ∧ Fr n0 L ∧ h = h0
set_option maxRecDepth 65536 in
set_option maxHeartbeats 40000000 in
theorem rm5 (l : Launch) (Z : State) (a0 : Array Value) (hw : ∀ d ∈ tables_1, d.before a0 Z = true) (ws : List Jvm.Cond) (o0 : Addr) (r : Int64) (h0 : Heap) (n0 : Nat) (Z0 : n0 ≤ h0.size) (F_position_o0 : Fld Z h0 o0 "com/example/anteroom/anteroom/Place" "position" "J" (.long r)) :
    MetFree l (⟨"com/example/anteroom/anteroom/Place", "isAdmitted", "()Z"⟩ : MethodName) (head1 (Jvm.Cond.code (⟨"com/example/anteroom/anteroom/Place", "isAdmitted", "()Z"⟩ : MethodName) prog_7_method_4_code 1 (some .boolean) :: ws) ({ frames := 0, cells := 0, slots := 0, locals := 0 } : Room)) (fun a U => a = #[(.ref o0)] ∧ Z.Warmed39 U.vm ∧ U.heap = h0) (fun _ _ _ _ _ => True) (fun _ U o U' => ∃ v L, o = .returned v ∧ Q5 Z o0 r h0 n0 v U'.heap L ∧ FrameEnd U o U' L ({ frames := 0, cells := 0, slots := 0, locals := 0 } : Room).cells ({ frames := 0, cells := 0, slots := 0, locals := 0 } : Room).slots) := by
  refine MetFree.of_bodySF (plainFor_of_name pn_1) hisR ?_
  intro p e s m args below meth c s₁ Bd hml0 hP hK
  obtain ⟨rfl, hZ, hh⟩ := hP
  have hx := Bd.exec
  have hby := Bd.bytes
  have hml : c.maxLocals = 1 := hml0
  have hown : s.vm.findClass "com/example/anteroom/anteroom/Place" = some m.cls := findClass_of_methodNamed Bd.named
  have hnm := (name_of_methodNamed Bd.named Bd.method).1
  have X0 : Stand p l e ({ frames := 0, cells := 0, slots := 0, locals := 0 } : Room) s m #[(.ref o0)] below meth c s₁ [] 0 0 := Stand.of_body Bd
  have e0 : s₁.heap = h0 := by rw [← hh, Bd.state]; rfl
  have N0 := Fr.nil n0
  have pre0 : ∀ t, Steps p.tables e below (s₁.setTop (mkF m 0 #[.val (.ref o0)] [])) t → Steps p.tables e below (s₁.setTop (entryFrame m #[(.ref o0)] 1)) t := fun t k => castTop (ef_5 m o0) k
  obtain ⟨T1, X1, e1, st1⟩ := getF X0 hx hZ hown (host := "") (Or.inl (hw _ (List.mem_of_getElem? (i := 17) rfl))) Via.refl e0 F_position_o0 (g := (mkF m 1 #[.val (.ref o0)] [(.ref o0)])) rfl rfl (hb hby d5_1)
  have pre2 : ∀ t, Steps p.tables e below (T1.setTop (mkF m 6 #[.val (.ref o0)] [(.int (lcmpW r (0 : Int64)))])) t → Steps p.tables e below (s₁.setTop (entryFrame m #[(.ref o0)] 1)) t := fun t k => pre0 t (by
    show Steps p.tables e below (s₁.setTop (mkF m 0 #[.val (.ref o0)] [])) _
    refine XS.aloadN X0.here hx rfl (hb hby d5_0) rfl rfl ?_
    show Steps p.tables e below (s₁.setTop (mkF m 1 #[.val (.ref o0)] [(.ref o0)])) _
    refine st1 _ ?_
    show Steps p.tables e below (T1.setTop (mkF m 4 #[.val (.ref o0)] [(.long r)])) _
    refine XS.lconst X1.here hx rfl (hb hby d5_4) ?_
    show Steps p.tables e below (T1.setTop (mkF m 5 #[.val (.ref o0)] [(.long (0 : Int64)), (.long r)])) _
    refine XS.lcmp X1.here hx rfl (hb hby d5_5) rfl ?_
    exact k)
  by_cases hc6_3 : r = (0 : Int64)
  · have pre4 : ∀ t, Steps p.tables e below (T1.setTop (mkF m 14 #[.val (.ref o0)] [(.int (1 : Int32))])) t → Steps p.tables e below (s₁.setTop (entryFrame m #[(.ref o0)] 1)) t := fun t k => pre2 t (by
      show Steps p.tables e below (T1.setTop (mkF m 6 #[.val (.ref o0)] [(.int (lcmpW r (0 : Int64)))])) _
      refine XS.ifNo X1.here hx rfl (hb hby d5_6) rfl ((if0 _ _).trans (teq ((lw_eq _ _).mpr hc6_3)).2) ?_
      show Steps p.tables e below (T1.setTop (mkF m 9 #[.val (.ref o0)] [])) _
      refine XS.iconst X1.here hx rfl (hb hby d5_9) ?_
      show Steps p.tables e below (T1.setTop (mkF m 10 #[.val (.ref o0)] [(.int (1 : Int32))])) _
      refine XS.goto X1.here hx rfl (pc0 := 10) (pc' := 14) rfl (hb hby d5_10) (by decide) (by decide) ?_
      exact k)
    obtain ⟨fs, hr, hrun, hended, hW, hsame⟩ := X1.leave (v := some (.int (1 : Int32))) (fun h => by rw [Bd.returns] at h; cases h)
    refine ⟨_, _, pre4 _ ?_, hrun, hended, _, _, rfl, ?_, ⟨_, rfl⟩, hW, hsame.mono (by decide) (by decide)⟩
    · exact retN X1 hx (t := .boolean) Bd.returns (by simp) (hb hby d5_14) hr
    · show Q5 Z o0 r h0 n0 _ T1.heap _
      rw [e1]
      exact ⟨own_t hc6_3, N0, rfl⟩
  · have pre5 : ∀ t, Steps p.tables e below (T1.setTop (mkF m 14 #[.val (.ref o0)] [(.int (0 : Int32))])) t → Steps p.tables e below (s₁.setTop (entryFrame m #[(.ref o0)] 1)) t := fun t k => pre2 t (by
      show Steps p.tables e below (T1.setTop (mkF m 6 #[.val (.ref o0)] [(.int (lcmpW r (0 : Int64)))])) _
      refine XS.ifYes X1.here hx rfl (pc0 := 6) (pc' := 13) rfl (hb hby d5_6) rfl ((if0 _ _).trans (feq (fun q => hc6_3 ((lw_eq _ _).mp q))).2) (by decide) (by decide) ?_
      show Steps p.tables e below (T1.setTop (mkF m 13 #[.val (.ref o0)] [])) _
      refine XS.iconst X1.here hx rfl (hb hby d5_13) ?_
      exact k)
    obtain ⟨fs, hr, hrun, hended, hW, hsame⟩ := X1.leave (v := some (.int (0 : Int32))) (fun h => by rw [Bd.returns] at h; cases h)
    refine ⟨_, _, pre5 _ ?_, hrun, hended, _, _, rfl, ?_, ⟨_, rfl⟩, hW, hsame.mono (by decide) (by decide)⟩
    · exact retN X1 hx (t := .boolean) Bd.returns (by simp) (hb hby d5_14) hr
    · show Q5 Z o0 r h0 n0 _ T1.heap _
      rw [e1]
      exact ⟨own_f hc6_3, N0, rfl⟩
theorem d4_0 : decode prog_7_method_8_code 0 = .ok (.aload_n 0, 1) := by decide +kernel
theorem pd_1 : parseMethodDescriptor "()Z" = some ⟨[], some .boolean⟩ := by decide +kernel
theorem d4_1 : decode prog_7_method_8_code 1 = .ok (.invokevirtual 28, 3) := by decide +kernel
theorem d4_4 : decode prog_7_method_8_code 4 = .ok (.ifCond .eq 5, 3) := by decide +kernel
theorem d4_7 : decode prog_7_method_8_code 7 = .ok (.lconst 0, 1) := by decide +kernel
theorem d4_8 : decode prog_7_method_8_code 8 = .ok (.lreturn, 1) := by decide +kernel
theorem d4_9 : decode prog_7_method_8_code 9 = .ok (.iconst 0, 1) := by decide +kernel
theorem d4_10 : decode prog_7_method_8_code 10 = .ok (.istore_n 1, 1) := by decide +kernel
theorem d4_11 : decode prog_7_method_8_code 11 = .ok (.iload_n 1, 1) := by decide +kernel
theorem d4_12 : decode prog_7_method_8_code 12 = .ok (.getstatic 49, 3) := by decide +kernel
theorem d4_15 : decode prog_7_method_8_code 15 = .ok (.arraylength, 1) := by decide +kernel
theorem d4_16 : decode prog_7_method_8_code 16 = .ok (.if_icmp .ge 28, 3) := by decide +kernel
theorem d4_19 : decode prog_7_method_8_code 19 = .ok (.aload_n 0, 1) := by decide +kernel
theorem d4_20 : decode prog_7_method_8_code 20 = .ok (.getfield 13, 3) := by decide +kernel
theorem d4_23 : decode prog_7_method_8_code 23 = .ok (.getstatic 49, 3) := by decide +kernel
theorem d4_26 : decode prog_7_method_8_code 26 = .ok (.iload_n 1, 1) := by decide +kernel
theorem d4_27 : decode prog_7_method_8_code 27 = .ok (.laload, 1) := by decide +kernel
theorem d4_28 : decode prog_7_method_8_code 28 = .ok (.lcmp, 1) := by decide +kernel
theorem d4_29 : decode prog_7_method_8_code 29 = .ok (.ifCond .gt 9, 3) := by decide +kernel
theorem d4_38 : decode prog_7_method_8_code 38 = .ok (.iinc 1 1, 3) := by decide +kernel
theorem d4_41 : decode prog_7_method_8_code 41 = .ok (.goto (-30), 3) := by decide +kernel
theorem d4_44 : decode prog_7_method_8_code 44 = .ok (.ldc2_w 56, 3) := by decide +kernel
theorem d4_47 : decode prog_7_method_8_code 47 = .ok (.lreturn, 1) := by decide +kernel
theorem d4_32 : decode prog_7_method_8_code 32 = .ok (.getstatic 53, 3) := by decide +kernel
theorem d4_35 : decode prog_7_method_8_code 35 = .ok (.iload_n 1, 1) := by decide +kernel
theorem d4_36 : decode prog_7_method_8_code 36 = .ok (.laload, 1) := by decide +kernel
theorem d4_37 : decode prog_7_method_8_code 37 = .ok (.lreturn, 1) := by decide +kernel
theorem ef_4 (m : MethodId) (x0 : Addr) : entryFrame m #[(.ref x0)] 2 = mkF m 0 #[.val (.ref x0), .unset] [] := by first | (simp [entryFrame, mkF, argsToLocals, Value.category]; done) | rfl
def Q4 (Z : State) (o0 : Addr) (r : Int64) (wU : Addr) (clU : Cell) (wS : Addr) (clS : Cell) (h0 : Heap) (n0 : Nat) (v : Option Value) (h : Heap) (L : List Loc) : Prop := v = some (.long (own_poll r)) ∧ Fr n0 L ∧ h = h0
set_option maxRecDepth 65536 in
set_option maxHeartbeats 40000000 in
theorem rm4 (l : Launch) (Z : State) (a0 : Array Value) (hw : ∀ d ∈ tables_1, d.before a0 Z = true) (ws : List Jvm.Cond) (o0 : Addr) (r : Int64) (wU : Addr) (clU : Cell) (wS : Addr) (clS : Cell) (h0 : Heap) (n0 : Nat) (Z0 : n0 ≤ h0.size) (F_position_o0 : Fld Z h0 o0 "com/example/anteroom/anteroom/Place" "position" "J" (.long r)) (E_o0 : Exa Z h0 o0 "com/example/anteroom/anteroom/Place") (S_U : Sta Z h0 "com/example/anteroom/anteroom/Place" "POLL_UP_TO" "[J" (.ref wU)) (ArU : Arr Z h0 wU clU .long) (SzU : clU.slots.size = (4 : Int32).toNatClampNeg) (eU0 : clU.slots[(0 : Int32).toNatClampNeg]? = some (.long (1000 : Int64))) (eU1 : clU.slots[(1 : Int32).toNatClampNeg]? = some (.long (5000 : Int64))) (eU2 : clU.slots[(2 : Int32).toNatClampNeg]? = some (.long (10000 : Int64))) (eU3 : clU.slots[(3 : Int32).toNatClampNeg]? = some (.long (100000 : Int64))) (S_S : Sta Z h0 "com/example/anteroom/anteroom/Place" "POLL_SECONDS" "[J" (.ref wS)) (ArS : Arr Z h0 wS clS .long) (SzS : clS.slots.size = (4 : Int32).toNatClampNeg) (eS0 : clS.slots[(0 : Int32).toNatClampNeg]? = some (.long (1 : Int64))) (eS1 : clS.slots[(1 : Int32).toNatClampNeg]? = some (.long (5 : Int64))) (eS2 : clS.slots[(2 : Int32).toNatClampNeg]? = some (.long (10 : Int64))) (eS3 : clS.slots[(3 : Int32).toNatClampNeg]? = some (.long (30 : Int64))) :
    MetFree l (⟨"com/example/anteroom/anteroom/Place", "nextPollSeconds", "()J"⟩ : MethodName) (head1 (Jvm.Cond.code (⟨"com/example/anteroom/anteroom/Place", "nextPollSeconds", "()J"⟩ : MethodName) prog_7_method_8_code 2 (some .long) :: ws) ({ frames := 1, cells := 0, slots := 0, locals := 12 } : Room)) (fun a U => a = #[(.ref o0)] ∧ Z.Warmed39 U.vm ∧ U.heap = h0) (fun _ _ _ _ _ => True) (fun _ U o U' => ∃ v L, o = .returned v ∧ Q4 Z o0 r wU clU wS clS h0 n0 v U'.heap L ∧ FrameEnd U o U' L ({ frames := 1, cells := 0, slots := 0, locals := 12 } : Room).cells ({ frames := 1, cells := 0, slots := 0, locals := 12 } : Room).slots) := by
  refine MetFree.of_bodySF (plainFor_of_name pn_1) hisR ?_
  intro p e s m args below meth c s₁ Bd hml0 hP hK
  obtain ⟨rfl, hZ, hh⟩ := hP
  have hx := Bd.exec
  have hby := Bd.bytes
  have hml : c.maxLocals = 2 := hml0
  have hown : s.vm.findClass "com/example/anteroom/anteroom/Place" = some m.cls := findClass_of_methodNamed Bd.named
  have hnm := (name_of_methodNamed Bd.named Bd.method).1
  have X0 : Stand p l e ({ frames := 1, cells := 0, slots := 0, locals := 12 } : Room) s m #[(.ref o0)] below meth c s₁ [] 0 0 := Stand.of_body Bd
  have e0 : s₁.heap = h0 := by rw [← hh, Bd.state]; rfl
  have N0 := Fr.nil n0
  have pre0 : ∀ t, Steps p.tables e below (s₁.setTop (mkF m 0 #[.val (.ref o0), .unset] [])) t → Steps p.tables e below (s₁.setTop (entryFrame m #[(.ref o0)] 2)) t := fun t k => castTop (ef_4 m o0) k
  obtain ⟨cq1, kq1, q1a, q1b, q1c⟩ := isOf hZ e0 E_o0
  obtain ⟨_, _, ⟨T1, L1, k1, n1⟩, -, X1, ⟨Lc1, hQ1, l1, y1, z1⟩, st1⟩ := X0.virtualBack hx (y := (⟨"com/example/anteroom/anteroom/Place", "isAdmitted", "()Z"⟩ : MethodName)) (z := (⟨"com/example/anteroom/anteroom/Place", "isAdmitted", "()Z"⟩ : MethodName)) hown (mvT hZ (hw _ (List.mem_of_getElem? (i := 30) rfl))) (mvT hZ (hw _ (List.mem_of_getElem? (i := 31) rfl))) (notFace_of_selects (args := #[]) (mvT hZ (hw _ (List.mem_of_getElem? (i := 33) rfl)))) (mvT hZ (hw _ (List.mem_of_getElem? (i := 33) rfl))) (mvT hZ (hw _ (List.mem_of_getElem? (i := 32) rfl))) (by decide) (backOf (W := 0) (rm5 l Z a0 hw [] o0 r h0 n0 Z0 F_position_o0) hZ (hw _ (List.mem_of_getElem? (i := 34) rfl)) (hw _ (List.mem_of_getElem? (i := 3) rfl)) (by decide) (by decide)) q1a q1c (g := (mkF m 1 #[.val (.ref o0), .unset] [(.ref o0)])) rfl (by rw [hml]; rfl) (Steps.refl _) (argsL := []) (rest := []) (lenOf pd_1 rfl) rfl (by show 2 * 0 + _ ≤ _; exact Nat.le_of_eq rfl) (hb hby d4_1) (fun _ _ => ⟨rfl, e0, (by decide : 0 + 0 ≤ _), (by decide : 0 + 0 ≤ _)⟩)
  dsimp only [Pt.U, Pt.locs, Pt.cells, Pt.slots] at X1 l1 y1 z1 st1 hQ1
  subst l1 y1 z1
  obtain ⟨rfl, N1q, hh1⟩ := hQ1
  have N1 := Fr.app N0 N1q
  have pre2 : ∀ t, Steps p.tables e below (T1.setTop (mkF m 4 #[.val (.ref o0), .unset] [(.int (if r = (0 : Int64) then (1 : Int32) else 0))])) t → Steps p.tables e below (s₁.setTop (entryFrame m #[(.ref o0)] 2)) t := fun t k => pre0 t (by
    show Steps p.tables e below (s₁.setTop (mkF m 0 #[.val (.ref o0), .unset] [])) _
    refine XS.aloadN X0.here hx rfl (hb hby d4_0) rfl rfl ?_
    show Steps p.tables e below (s₁.setTop (mkF m 1 #[.val (.ref o0), .unset] [(.ref o0)])) _
    refine st1.trans ?_
    exact k)
  by_cases hc4_3 : r = (0 : Int64)
  · have pre4 : ∀ t, Steps p.tables e below (T1.setTop (mkF m 8 #[.val (.ref o0), .unset] [(.long (0 : Int64))])) t → Steps p.tables e below (s₁.setTop (entryFrame m #[(.ref o0)] 2)) t := fun t k => pre2 t (by
      show Steps p.tables e below (T1.setTop (mkF m 4 #[.val (.ref o0), .unset] [(.int (if r = (0 : Int64) then (1 : Int32) else 0))])) _
      refine XS.ifNo X1.here hx rfl (hb hby d4_4) rfl ((if0 _ _).trans (feq (own_b1 hc4_3)).1) ?_
      show Steps p.tables e below (T1.setTop (mkF m 7 #[.val (.ref o0), .unset] [])) _
      refine XS.lconst X1.here hx rfl (hb hby d4_7) ?_
      exact k)
    obtain ⟨fs, hr, hrun, hended, hW, hsame⟩ := X1.leave (v := some (.long (0 : Int64))) (fun h => by rw [Bd.returns] at h; cases h)
    refine ⟨_, _, pre4 _ ?_, hrun, hended, _, _, rfl, ?_, ⟨_, rfl⟩, hW, hsame.mono (by decide) (by decide)⟩
    · show Steps p.tables e below (T1.setTop (mkF m 8 #[.val (.ref o0), .unset] [(.long (0 : Int64))])) _
      jvm_step X1.here [X1.here.top, hx, (hb hby d4_8), X1.method', Bd.returns, narrow]
      first | (intro acts; rw [hr _ acts rfl rfl rfl]) | rw [hr _ _ rfl rfl rfl]
      exact Steps.refl _
    · show Q4 Z o0 r wU clU wS clS h0 n0 _ T1.heap _
      rw [hh1]
      exact ⟨by unfold own_poll; simp only [hc4_3, if_true, if_false, reduceIte], N1, rfl⟩
  · obtain ⟨T5, X5, e5, st5⟩ := getS2 X1 hx hZ hown (host := "") (Or.inl (hw _ (List.mem_of_getElem? (i := 35) rfl))) Via.refl hh1 S_U (g := (mkF m 12 #[.val (.ref o0), .val (.int (0 : Int32))] [(.int (0 : Int32))])) rfl (hb hby d4_12)
    obtain ⟨T6, X6, e6, st6⟩ := getF X5 hx hZ hown (host := "") (Or.inl (hw _ (List.mem_of_getElem? (i := 17) rfl))) Via.refl e5 F_position_o0 (g := (mkF m 20 #[.val (.ref o0), .val (.int (0 : Int32))] [(.ref o0)])) rfl rfl (hb hby d4_20)
    obtain ⟨T7, X7, e7, st7⟩ := getS2 X6 hx hZ hown (host := "") (Or.inl (hw _ (List.mem_of_getElem? (i := 35) rfl))) Via.refl e6 S_U (g := (mkF m 23 #[.val (.ref o0), .val (.int (0 : Int32))] [(.long r)])) rfl (hb hby d4_23)
    have pre8 : ∀ t, Steps p.tables e below (T7.setTop (mkF m 29 #[.val (.ref o0), .val (.int (0 : Int32))] [(.int (lcmpW r (1000 : Int64)))])) t → Steps p.tables e below (s₁.setTop (entryFrame m #[(.ref o0)] 2)) t := fun t k => pre2 t (by
      show Steps p.tables e below (T1.setTop (mkF m 4 #[.val (.ref o0), .unset] [(.int (if r = (0 : Int64) then (1 : Int32) else 0))])) _
      refine XS.ifYes X1.here hx rfl (pc0 := 4) (pc' := 9) rfl (hb hby d4_4) rfl ((if0 _ _).trans (teq (own_b0 hc4_3)).1) (by decide) (by decide) ?_
      show Steps p.tables e below (T1.setTop (mkF m 9 #[.val (.ref o0), .unset] [])) _
      refine XS.iconst X1.here hx rfl (hb hby d4_9) ?_
      show Steps p.tables e below (T1.setTop (mkF m 10 #[.val (.ref o0), .unset] [(.int (0 : Int32))])) _
      refine XS.istoreN X1.here hx rfl (hb hby d4_10) rfl (l' := #[.val (.ref o0), .val (.int (0 : Int32))]) rfl ?_
      show Steps p.tables e below (T1.setTop (mkF m 11 #[.val (.ref o0), .val (.int (0 : Int32))] [])) _
      refine XS.iloadN X1.here hx rfl (hb hby d4_11) rfl ?_
      show Steps p.tables e below (T1.setTop (mkF m 12 #[.val (.ref o0), .val (.int (0 : Int32))] [(.int (0 : Int32))])) _
      refine st5 _ ?_
      show Steps p.tables e below (T5.setTop (mkF m 15 #[.val (.ref o0), .val (.int (0 : Int32))] [(.ref wU), (.int (0 : Int32))])) _
      refine X5.arraylength hx (by rw [e5]; exact ArU.1) (State.isArrayOf_alike hZ.alike ArU.2.1) (g := (mkF m 15 #[.val (.ref o0), .val (.int (0 : Int32))] [(.ref wU), (.int (0 : Int32))])) rfl rfl (hb hby d4_15) _ ?_
      rw [len_of SzU (by decide)]
      show Steps p.tables e below (T5.setTop (mkF m 16 #[.val (.ref o0), .val (.int (0 : Int32))] [(.int (4 : Int32)), (.int (0 : Int32))])) _
      refine XS.icmpNo X5.here hx rfl (hb hby d4_16) rfl (tlt (by decide : (0 : Int32) < (4 : Int32))).2.1 ?_
      show Steps p.tables e below (T5.setTop (mkF m 19 #[.val (.ref o0), .val (.int (0 : Int32))] [])) _
      refine XS.aloadN X5.here hx rfl (hb hby d4_19) rfl rfl ?_
      show Steps p.tables e below (T5.setTop (mkF m 20 #[.val (.ref o0), .val (.int (0 : Int32))] [(.ref o0)])) _
      refine st6 _ ?_
      show Steps p.tables e below (T6.setTop (mkF m 23 #[.val (.ref o0), .val (.int (0 : Int32))] [(.long r)])) _
      refine st7 _ ?_
      show Steps p.tables e below (T7.setTop (mkF m 26 #[.val (.ref o0), .val (.int (0 : Int32))] [(.ref wU), (.long r)])) _
      refine XS.iloadN X7.here hx rfl (hb hby d4_26) rfl ?_
      show Steps p.tables e below (T7.setTop (mkF m 27 #[.val (.ref o0), .val (.int (0 : Int32))] [(.int (0 : Int32)), (.ref wU), (.long r)])) _
      refine X7.laload hx (j := (0 : Int32)) (v := (.long (1000 : Int64))) (by rw [e7]; exact ArU.1) (State.isArrayOf_alike hZ.alike ArU.2.1) ArU.2.2 (inb_of SzU ⟨by decide, by decide⟩) eU0 (g := (mkF m 27 #[.val (.ref o0), .val (.int (0 : Int32))] [(.int (0 : Int32)), (.ref wU), (.long r)])) rfl rfl (hb hby d4_27) _ ?_
      show Steps p.tables e below (T7.setTop (mkF m 28 #[.val (.ref o0), .val (.int (0 : Int32))] [(.long (1000 : Int64)), (.long r)])) _
      refine XS.lcmp X7.here hx rfl (hb hby d4_28) rfl ?_
      exact k)
    by_cases hc29_9 : (1000 : Int64) < r
    · obtain ⟨T10, X10, e10, st10⟩ := getS2 X7 hx hZ hown (host := "") (Or.inl (hw _ (List.mem_of_getElem? (i := 35) rfl))) Via.refl e7 S_U (g := (mkF m 12 #[.val (.ref o0), .val (.int (1 : Int32))] [(.int (1 : Int32))])) rfl (hb hby d4_12)
      obtain ⟨T11, X11, e11, st11⟩ := getF X10 hx hZ hown (host := "") (Or.inl (hw _ (List.mem_of_getElem? (i := 17) rfl))) Via.refl e10 F_position_o0 (g := (mkF m 20 #[.val (.ref o0), .val (.int (1 : Int32))] [(.ref o0)])) rfl rfl (hb hby d4_20)
      obtain ⟨T12, X12, e12, st12⟩ := getS2 X11 hx hZ hown (host := "") (Or.inl (hw _ (List.mem_of_getElem? (i := 35) rfl))) Via.refl e11 S_U (g := (mkF m 23 #[.val (.ref o0), .val (.int (1 : Int32))] [(.long r)])) rfl (hb hby d4_23)
      have pre13 : ∀ t, Steps p.tables e below (T12.setTop (mkF m 29 #[.val (.ref o0), .val (.int (1 : Int32))] [(.int (lcmpW r (5000 : Int64)))])) t → Steps p.tables e below (s₁.setTop (entryFrame m #[(.ref o0)] 2)) t := fun t k => pre8 t (by
        show Steps p.tables e below (T7.setTop (mkF m 29 #[.val (.ref o0), .val (.int (0 : Int32))] [(.int (lcmpW r (1000 : Int64)))])) _
        refine XS.ifYes X7.here hx rfl (pc0 := 29) (pc' := 38) rfl (hb hby d4_29) rfl ((if0 _ _).trans (tlt ((lw_gt _ _).mpr hc29_9)).2.2.1) (by decide) (by decide) ?_
        show Steps p.tables e below (T7.setTop (mkF m 38 #[.val (.ref o0), .val (.int (0 : Int32))] [])) _
        refine XS.iinc X7.here hx rfl (hb hby d4_38) rfl (l' := #[.val (.ref o0), .val (.int (1 : Int32))]) rfl ?_
        show Steps p.tables e below (T7.setTop (mkF m 41 #[.val (.ref o0), .val (.int (1 : Int32))] [])) _
        refine XS.goto X7.here hx rfl (pc0 := 41) (pc' := 11) rfl (hb hby d4_41) (by decide) (by decide) ?_
        show Steps p.tables e below (T7.setTop (mkF m 11 #[.val (.ref o0), .val (.int (1 : Int32))] [])) _
        refine XS.iloadN X7.here hx rfl (hb hby d4_11) rfl ?_
        show Steps p.tables e below (T7.setTop (mkF m 12 #[.val (.ref o0), .val (.int (1 : Int32))] [(.int (1 : Int32))])) _
        refine st10 _ ?_
        show Steps p.tables e below (T10.setTop (mkF m 15 #[.val (.ref o0), .val (.int (1 : Int32))] [(.ref wU), (.int (1 : Int32))])) _
        refine X10.arraylength hx (by rw [e10]; exact ArU.1) (State.isArrayOf_alike hZ.alike ArU.2.1) (g := (mkF m 15 #[.val (.ref o0), .val (.int (1 : Int32))] [(.ref wU), (.int (1 : Int32))])) rfl rfl (hb hby d4_15) _ ?_
        rw [len_of SzU (by decide)]
        show Steps p.tables e below (T10.setTop (mkF m 16 #[.val (.ref o0), .val (.int (1 : Int32))] [(.int (4 : Int32)), (.int (1 : Int32))])) _
        refine XS.icmpNo X10.here hx rfl (hb hby d4_16) rfl (tlt (by decide : (1 : Int32) < (4 : Int32))).2.1 ?_
        show Steps p.tables e below (T10.setTop (mkF m 19 #[.val (.ref o0), .val (.int (1 : Int32))] [])) _
        refine XS.aloadN X10.here hx rfl (hb hby d4_19) rfl rfl ?_
        show Steps p.tables e below (T10.setTop (mkF m 20 #[.val (.ref o0), .val (.int (1 : Int32))] [(.ref o0)])) _
        refine st11 _ ?_
        show Steps p.tables e below (T11.setTop (mkF m 23 #[.val (.ref o0), .val (.int (1 : Int32))] [(.long r)])) _
        refine st12 _ ?_
        show Steps p.tables e below (T12.setTop (mkF m 26 #[.val (.ref o0), .val (.int (1 : Int32))] [(.ref wU), (.long r)])) _
        refine XS.iloadN X12.here hx rfl (hb hby d4_26) rfl ?_
        show Steps p.tables e below (T12.setTop (mkF m 27 #[.val (.ref o0), .val (.int (1 : Int32))] [(.int (1 : Int32)), (.ref wU), (.long r)])) _
        refine X12.laload hx (j := (1 : Int32)) (v := (.long (5000 : Int64))) (by rw [e12]; exact ArU.1) (State.isArrayOf_alike hZ.alike ArU.2.1) ArU.2.2 (inb_of SzU ⟨by decide, by decide⟩) eU1 (g := (mkF m 27 #[.val (.ref o0), .val (.int (1 : Int32))] [(.int (1 : Int32)), (.ref wU), (.long r)])) rfl rfl (hb hby d4_27) _ ?_
        show Steps p.tables e below (T12.setTop (mkF m 28 #[.val (.ref o0), .val (.int (1 : Int32))] [(.long (5000 : Int64)), (.long r)])) _
        refine XS.lcmp X12.here hx rfl (hb hby d4_28) rfl ?_
        exact k)
      by_cases hc29_14 : (5000 : Int64) < r
      · obtain ⟨T15, X15, e15, st15⟩ := getS2 X12 hx hZ hown (host := "") (Or.inl (hw _ (List.mem_of_getElem? (i := 35) rfl))) Via.refl e12 S_U (g := (mkF m 12 #[.val (.ref o0), .val (.int (2 : Int32))] [(.int (2 : Int32))])) rfl (hb hby d4_12)
        obtain ⟨T16, X16, e16, st16⟩ := getF X15 hx hZ hown (host := "") (Or.inl (hw _ (List.mem_of_getElem? (i := 17) rfl))) Via.refl e15 F_position_o0 (g := (mkF m 20 #[.val (.ref o0), .val (.int (2 : Int32))] [(.ref o0)])) rfl rfl (hb hby d4_20)
        obtain ⟨T17, X17, e17, st17⟩ := getS2 X16 hx hZ hown (host := "") (Or.inl (hw _ (List.mem_of_getElem? (i := 35) rfl))) Via.refl e16 S_U (g := (mkF m 23 #[.val (.ref o0), .val (.int (2 : Int32))] [(.long r)])) rfl (hb hby d4_23)
        have pre18 : ∀ t, Steps p.tables e below (T17.setTop (mkF m 29 #[.val (.ref o0), .val (.int (2 : Int32))] [(.int (lcmpW r (10000 : Int64)))])) t → Steps p.tables e below (s₁.setTop (entryFrame m #[(.ref o0)] 2)) t := fun t k => pre13 t (by
          show Steps p.tables e below (T12.setTop (mkF m 29 #[.val (.ref o0), .val (.int (1 : Int32))] [(.int (lcmpW r (5000 : Int64)))])) _
          refine XS.ifYes X12.here hx rfl (pc0 := 29) (pc' := 38) rfl (hb hby d4_29) rfl ((if0 _ _).trans (tlt ((lw_gt _ _).mpr hc29_14)).2.2.1) (by decide) (by decide) ?_
          show Steps p.tables e below (T12.setTop (mkF m 38 #[.val (.ref o0), .val (.int (1 : Int32))] [])) _
          refine XS.iinc X12.here hx rfl (hb hby d4_38) rfl (l' := #[.val (.ref o0), .val (.int (2 : Int32))]) rfl ?_
          show Steps p.tables e below (T12.setTop (mkF m 41 #[.val (.ref o0), .val (.int (2 : Int32))] [])) _
          refine XS.goto X12.here hx rfl (pc0 := 41) (pc' := 11) rfl (hb hby d4_41) (by decide) (by decide) ?_
          show Steps p.tables e below (T12.setTop (mkF m 11 #[.val (.ref o0), .val (.int (2 : Int32))] [])) _
          refine XS.iloadN X12.here hx rfl (hb hby d4_11) rfl ?_
          show Steps p.tables e below (T12.setTop (mkF m 12 #[.val (.ref o0), .val (.int (2 : Int32))] [(.int (2 : Int32))])) _
          refine st15 _ ?_
          show Steps p.tables e below (T15.setTop (mkF m 15 #[.val (.ref o0), .val (.int (2 : Int32))] [(.ref wU), (.int (2 : Int32))])) _
          refine X15.arraylength hx (by rw [e15]; exact ArU.1) (State.isArrayOf_alike hZ.alike ArU.2.1) (g := (mkF m 15 #[.val (.ref o0), .val (.int (2 : Int32))] [(.ref wU), (.int (2 : Int32))])) rfl rfl (hb hby d4_15) _ ?_
          rw [len_of SzU (by decide)]
          show Steps p.tables e below (T15.setTop (mkF m 16 #[.val (.ref o0), .val (.int (2 : Int32))] [(.int (4 : Int32)), (.int (2 : Int32))])) _
          refine XS.icmpNo X15.here hx rfl (hb hby d4_16) rfl (tlt (by decide : (2 : Int32) < (4 : Int32))).2.1 ?_
          show Steps p.tables e below (T15.setTop (mkF m 19 #[.val (.ref o0), .val (.int (2 : Int32))] [])) _
          refine XS.aloadN X15.here hx rfl (hb hby d4_19) rfl rfl ?_
          show Steps p.tables e below (T15.setTop (mkF m 20 #[.val (.ref o0), .val (.int (2 : Int32))] [(.ref o0)])) _
          refine st16 _ ?_
          show Steps p.tables e below (T16.setTop (mkF m 23 #[.val (.ref o0), .val (.int (2 : Int32))] [(.long r)])) _
          refine st17 _ ?_
          show Steps p.tables e below (T17.setTop (mkF m 26 #[.val (.ref o0), .val (.int (2 : Int32))] [(.ref wU), (.long r)])) _
          refine XS.iloadN X17.here hx rfl (hb hby d4_26) rfl ?_
          show Steps p.tables e below (T17.setTop (mkF m 27 #[.val (.ref o0), .val (.int (2 : Int32))] [(.int (2 : Int32)), (.ref wU), (.long r)])) _
          refine X17.laload hx (j := (2 : Int32)) (v := (.long (10000 : Int64))) (by rw [e17]; exact ArU.1) (State.isArrayOf_alike hZ.alike ArU.2.1) ArU.2.2 (inb_of SzU ⟨by decide, by decide⟩) eU2 (g := (mkF m 27 #[.val (.ref o0), .val (.int (2 : Int32))] [(.int (2 : Int32)), (.ref wU), (.long r)])) rfl rfl (hb hby d4_27) _ ?_
          show Steps p.tables e below (T17.setTop (mkF m 28 #[.val (.ref o0), .val (.int (2 : Int32))] [(.long (10000 : Int64)), (.long r)])) _
          refine XS.lcmp X17.here hx rfl (hb hby d4_28) rfl ?_
          exact k)
        by_cases hc29_19 : (10000 : Int64) < r
        · obtain ⟨T20, X20, e20, st20⟩ := getS2 X17 hx hZ hown (host := "") (Or.inl (hw _ (List.mem_of_getElem? (i := 35) rfl))) Via.refl e17 S_U (g := (mkF m 12 #[.val (.ref o0), .val (.int (3 : Int32))] [(.int (3 : Int32))])) rfl (hb hby d4_12)
          obtain ⟨T21, X21, e21, st21⟩ := getF X20 hx hZ hown (host := "") (Or.inl (hw _ (List.mem_of_getElem? (i := 17) rfl))) Via.refl e20 F_position_o0 (g := (mkF m 20 #[.val (.ref o0), .val (.int (3 : Int32))] [(.ref o0)])) rfl rfl (hb hby d4_20)
          obtain ⟨T22, X22, e22, st22⟩ := getS2 X21 hx hZ hown (host := "") (Or.inl (hw _ (List.mem_of_getElem? (i := 35) rfl))) Via.refl e21 S_U (g := (mkF m 23 #[.val (.ref o0), .val (.int (3 : Int32))] [(.long r)])) rfl (hb hby d4_23)
          have pre23 : ∀ t, Steps p.tables e below (T22.setTop (mkF m 29 #[.val (.ref o0), .val (.int (3 : Int32))] [(.int (lcmpW r (100000 : Int64)))])) t → Steps p.tables e below (s₁.setTop (entryFrame m #[(.ref o0)] 2)) t := fun t k => pre18 t (by
            show Steps p.tables e below (T17.setTop (mkF m 29 #[.val (.ref o0), .val (.int (2 : Int32))] [(.int (lcmpW r (10000 : Int64)))])) _
            refine XS.ifYes X17.here hx rfl (pc0 := 29) (pc' := 38) rfl (hb hby d4_29) rfl ((if0 _ _).trans (tlt ((lw_gt _ _).mpr hc29_19)).2.2.1) (by decide) (by decide) ?_
            show Steps p.tables e below (T17.setTop (mkF m 38 #[.val (.ref o0), .val (.int (2 : Int32))] [])) _
            refine XS.iinc X17.here hx rfl (hb hby d4_38) rfl (l' := #[.val (.ref o0), .val (.int (3 : Int32))]) rfl ?_
            show Steps p.tables e below (T17.setTop (mkF m 41 #[.val (.ref o0), .val (.int (3 : Int32))] [])) _
            refine XS.goto X17.here hx rfl (pc0 := 41) (pc' := 11) rfl (hb hby d4_41) (by decide) (by decide) ?_
            show Steps p.tables e below (T17.setTop (mkF m 11 #[.val (.ref o0), .val (.int (3 : Int32))] [])) _
            refine XS.iloadN X17.here hx rfl (hb hby d4_11) rfl ?_
            show Steps p.tables e below (T17.setTop (mkF m 12 #[.val (.ref o0), .val (.int (3 : Int32))] [(.int (3 : Int32))])) _
            refine st20 _ ?_
            show Steps p.tables e below (T20.setTop (mkF m 15 #[.val (.ref o0), .val (.int (3 : Int32))] [(.ref wU), (.int (3 : Int32))])) _
            refine X20.arraylength hx (by rw [e20]; exact ArU.1) (State.isArrayOf_alike hZ.alike ArU.2.1) (g := (mkF m 15 #[.val (.ref o0), .val (.int (3 : Int32))] [(.ref wU), (.int (3 : Int32))])) rfl rfl (hb hby d4_15) _ ?_
            rw [len_of SzU (by decide)]
            show Steps p.tables e below (T20.setTop (mkF m 16 #[.val (.ref o0), .val (.int (3 : Int32))] [(.int (4 : Int32)), (.int (3 : Int32))])) _
            refine XS.icmpNo X20.here hx rfl (hb hby d4_16) rfl (tlt (by decide : (3 : Int32) < (4 : Int32))).2.1 ?_
            show Steps p.tables e below (T20.setTop (mkF m 19 #[.val (.ref o0), .val (.int (3 : Int32))] [])) _
            refine XS.aloadN X20.here hx rfl (hb hby d4_19) rfl rfl ?_
            show Steps p.tables e below (T20.setTop (mkF m 20 #[.val (.ref o0), .val (.int (3 : Int32))] [(.ref o0)])) _
            refine st21 _ ?_
            show Steps p.tables e below (T21.setTop (mkF m 23 #[.val (.ref o0), .val (.int (3 : Int32))] [(.long r)])) _
            refine st22 _ ?_
            show Steps p.tables e below (T22.setTop (mkF m 26 #[.val (.ref o0), .val (.int (3 : Int32))] [(.ref wU), (.long r)])) _
            refine XS.iloadN X22.here hx rfl (hb hby d4_26) rfl ?_
            show Steps p.tables e below (T22.setTop (mkF m 27 #[.val (.ref o0), .val (.int (3 : Int32))] [(.int (3 : Int32)), (.ref wU), (.long r)])) _
            refine X22.laload hx (j := (3 : Int32)) (v := (.long (100000 : Int64))) (by rw [e22]; exact ArU.1) (State.isArrayOf_alike hZ.alike ArU.2.1) ArU.2.2 (inb_of SzU ⟨by decide, by decide⟩) eU3 (g := (mkF m 27 #[.val (.ref o0), .val (.int (3 : Int32))] [(.int (3 : Int32)), (.ref wU), (.long r)])) rfl rfl (hb hby d4_27) _ ?_
            show Steps p.tables e below (T22.setTop (mkF m 28 #[.val (.ref o0), .val (.int (3 : Int32))] [(.long (100000 : Int64)), (.long r)])) _
            refine XS.lcmp X22.here hx rfl (hb hby d4_28) rfl ?_
            exact k)
          by_cases hc29_24 : (100000 : Int64) < r
          · obtain ⟨T25, X25, e25, st25⟩ := getS2 X22 hx hZ hown (host := "") (Or.inl (hw _ (List.mem_of_getElem? (i := 35) rfl))) Via.refl e22 S_U (g := (mkF m 12 #[.val (.ref o0), .val (.int (4 : Int32))] [(.int (4 : Int32))])) rfl (hb hby d4_12)
            have pre26 : ∀ t, Steps p.tables e below (T25.setTop (mkF m 47 #[.val (.ref o0), .val (.int (4 : Int32))] [(.long (60 : Int64))])) t → Steps p.tables e below (s₁.setTop (entryFrame m #[(.ref o0)] 2)) t := fun t k => pre23 t (by
              show Steps p.tables e below (T22.setTop (mkF m 29 #[.val (.ref o0), .val (.int (3 : Int32))] [(.int (lcmpW r (100000 : Int64)))])) _
              refine XS.ifYes X22.here hx rfl (pc0 := 29) (pc' := 38) rfl (hb hby d4_29) rfl ((if0 _ _).trans (tlt ((lw_gt _ _).mpr hc29_24)).2.2.1) (by decide) (by decide) ?_
              show Steps p.tables e below (T22.setTop (mkF m 38 #[.val (.ref o0), .val (.int (3 : Int32))] [])) _
              refine XS.iinc X22.here hx rfl (hb hby d4_38) rfl (l' := #[.val (.ref o0), .val (.int (4 : Int32))]) rfl ?_
              show Steps p.tables e below (T22.setTop (mkF m 41 #[.val (.ref o0), .val (.int (4 : Int32))] [])) _
              refine XS.goto X22.here hx rfl (pc0 := 41) (pc' := 11) rfl (hb hby d4_41) (by decide) (by decide) ?_
              show Steps p.tables e below (T22.setTop (mkF m 11 #[.val (.ref o0), .val (.int (4 : Int32))] [])) _
              refine XS.iloadN X22.here hx rfl (hb hby d4_11) rfl ?_
              show Steps p.tables e below (T22.setTop (mkF m 12 #[.val (.ref o0), .val (.int (4 : Int32))] [(.int (4 : Int32))])) _
              refine st25 _ ?_
              show Steps p.tables e below (T25.setTop (mkF m 15 #[.val (.ref o0), .val (.int (4 : Int32))] [(.ref wU), (.int (4 : Int32))])) _
              refine X25.arraylength hx (by rw [e25]; exact ArU.1) (State.isArrayOf_alike hZ.alike ArU.2.1) (g := (mkF m 15 #[.val (.ref o0), .val (.int (4 : Int32))] [(.ref wU), (.int (4 : Int32))])) rfl rfl (hb hby d4_15) _ ?_
              rw [len_of SzU (by decide)]
              show Steps p.tables e below (T25.setTop (mkF m 16 #[.val (.ref o0), .val (.int (4 : Int32))] [(.int (4 : Int32)), (.int (4 : Int32))])) _
              refine XS.icmpYes X25.here hx rfl (pc0 := 16) (pc' := 44) rfl (hb hby d4_16) rfl (flt (by decide : ¬ ((4 : Int32) < (4 : Int32)))).2.1 (by decide) (by decide) ?_
              show Steps p.tables e below (T25.setTop (mkF m 44 #[.val (.ref o0), .val (.int (4 : Int32))] [])) _
              refine X25.ldc2Long hx hown (mvT hZ (hw _ (List.mem_of_getElem? (i := 44) rfl))) (g := (mkF m 44 #[.val (.ref o0), .val (.int (4 : Int32))] [])) rfl (hb hby d4_44) _ ?_
              exact k)
            obtain ⟨fs, hr, hrun, hended, hW, hsame⟩ := X25.leave (v := some (.long (60 : Int64))) (fun h => by rw [Bd.returns] at h; cases h)
            refine ⟨_, _, pre26 _ ?_, hrun, hended, _, _, rfl, ?_, ⟨_, rfl⟩, hW, hsame.mono (by decide) (by decide)⟩
            · show Steps p.tables e below (T25.setTop (mkF m 47 #[.val (.ref o0), .val (.int (4 : Int32))] [(.long (60 : Int64))])) _
              jvm_step X25.here [X25.here.top, hx, (hb hby d4_47), X25.method', Bd.returns, narrow]
              first | (intro acts; rw [hr _ acts rfl rfl rfl]) | rw [hr _ _ rfl rfl rfl]
              exact Steps.refl _
            · show Q4 Z o0 r wU clU wS clS h0 n0 _ T25.heap _
              rw [e25]
              exact ⟨by unfold own_poll; simp only [hc4_3, hc29_9, hc29_14, hc29_19, hc29_24, if_true, if_false, reduceIte], N1, rfl⟩
          · obtain ⟨T27, X27, e27, st27⟩ := getS2 X22 hx hZ hown (host := "") (Or.inl (hw _ (List.mem_of_getElem? (i := 37) rfl))) Via.refl e22 S_S (g := (mkF m 32 #[.val (.ref o0), .val (.int (3 : Int32))] [])) rfl (hb hby d4_32)
            have pre28 : ∀ t, Steps p.tables e below (T27.setTop (mkF m 37 #[.val (.ref o0), .val (.int (3 : Int32))] [(.long (30 : Int64))])) t → Steps p.tables e below (s₁.setTop (entryFrame m #[(.ref o0)] 2)) t := fun t k => pre23 t (by
              show Steps p.tables e below (T22.setTop (mkF m 29 #[.val (.ref o0), .val (.int (3 : Int32))] [(.int (lcmpW r (100000 : Int64)))])) _
              refine XS.ifNo X22.here hx rfl (hb hby d4_29) rfl ((if0 _ _).trans (flt (fun q => hc29_24 ((lw_gt _ _).mp q))).2.2.1) ?_
              show Steps p.tables e below (T22.setTop (mkF m 32 #[.val (.ref o0), .val (.int (3 : Int32))] [])) _
              refine st27 _ ?_
              show Steps p.tables e below (T27.setTop (mkF m 35 #[.val (.ref o0), .val (.int (3 : Int32))] [(.ref wS)])) _
              refine XS.iloadN X27.here hx rfl (hb hby d4_35) rfl ?_
              show Steps p.tables e below (T27.setTop (mkF m 36 #[.val (.ref o0), .val (.int (3 : Int32))] [(.int (3 : Int32)), (.ref wS)])) _
              refine X27.laload hx (j := (3 : Int32)) (v := (.long (30 : Int64))) (by rw [e27]; exact ArS.1) (State.isArrayOf_alike hZ.alike ArS.2.1) ArS.2.2 (inb_of SzS ⟨by decide, by decide⟩) eS3 (g := (mkF m 36 #[.val (.ref o0), .val (.int (3 : Int32))] [(.int (3 : Int32)), (.ref wS)])) rfl rfl (hb hby d4_36) _ ?_
              exact k)
            obtain ⟨fs, hr, hrun, hended, hW, hsame⟩ := X27.leave (v := some (.long (30 : Int64))) (fun h => by rw [Bd.returns] at h; cases h)
            refine ⟨_, _, pre28 _ ?_, hrun, hended, _, _, rfl, ?_, ⟨_, rfl⟩, hW, hsame.mono (by decide) (by decide)⟩
            · show Steps p.tables e below (T27.setTop (mkF m 37 #[.val (.ref o0), .val (.int (3 : Int32))] [(.long (30 : Int64))])) _
              jvm_step X27.here [X27.here.top, hx, (hb hby d4_37), X27.method', Bd.returns, narrow]
              first | (intro acts; rw [hr _ acts rfl rfl rfl]) | rw [hr _ _ rfl rfl rfl]
              exact Steps.refl _
            · show Q4 Z o0 r wU clU wS clS h0 n0 _ T27.heap _
              rw [e27]
              exact ⟨by unfold own_poll; simp only [hc4_3, hc29_9, hc29_14, hc29_19, hc29_24, if_true, if_false, reduceIte], N1, rfl⟩
        · obtain ⟨T29, X29, e29, st29⟩ := getS2 X17 hx hZ hown (host := "") (Or.inl (hw _ (List.mem_of_getElem? (i := 37) rfl))) Via.refl e17 S_S (g := (mkF m 32 #[.val (.ref o0), .val (.int (2 : Int32))] [])) rfl (hb hby d4_32)
          have pre30 : ∀ t, Steps p.tables e below (T29.setTop (mkF m 37 #[.val (.ref o0), .val (.int (2 : Int32))] [(.long (10 : Int64))])) t → Steps p.tables e below (s₁.setTop (entryFrame m #[(.ref o0)] 2)) t := fun t k => pre18 t (by
            show Steps p.tables e below (T17.setTop (mkF m 29 #[.val (.ref o0), .val (.int (2 : Int32))] [(.int (lcmpW r (10000 : Int64)))])) _
            refine XS.ifNo X17.here hx rfl (hb hby d4_29) rfl ((if0 _ _).trans (flt (fun q => hc29_19 ((lw_gt _ _).mp q))).2.2.1) ?_
            show Steps p.tables e below (T17.setTop (mkF m 32 #[.val (.ref o0), .val (.int (2 : Int32))] [])) _
            refine st29 _ ?_
            show Steps p.tables e below (T29.setTop (mkF m 35 #[.val (.ref o0), .val (.int (2 : Int32))] [(.ref wS)])) _
            refine XS.iloadN X29.here hx rfl (hb hby d4_35) rfl ?_
            show Steps p.tables e below (T29.setTop (mkF m 36 #[.val (.ref o0), .val (.int (2 : Int32))] [(.int (2 : Int32)), (.ref wS)])) _
            refine X29.laload hx (j := (2 : Int32)) (v := (.long (10 : Int64))) (by rw [e29]; exact ArS.1) (State.isArrayOf_alike hZ.alike ArS.2.1) ArS.2.2 (inb_of SzS ⟨by decide, by decide⟩) eS2 (g := (mkF m 36 #[.val (.ref o0), .val (.int (2 : Int32))] [(.int (2 : Int32)), (.ref wS)])) rfl rfl (hb hby d4_36) _ ?_
            exact k)
          obtain ⟨fs, hr, hrun, hended, hW, hsame⟩ := X29.leave (v := some (.long (10 : Int64))) (fun h => by rw [Bd.returns] at h; cases h)
          refine ⟨_, _, pre30 _ ?_, hrun, hended, _, _, rfl, ?_, ⟨_, rfl⟩, hW, hsame.mono (by decide) (by decide)⟩
          · show Steps p.tables e below (T29.setTop (mkF m 37 #[.val (.ref o0), .val (.int (2 : Int32))] [(.long (10 : Int64))])) _
            jvm_step X29.here [X29.here.top, hx, (hb hby d4_37), X29.method', Bd.returns, narrow]
            first | (intro acts; rw [hr _ acts rfl rfl rfl]) | rw [hr _ _ rfl rfl rfl]
            exact Steps.refl _
          · show Q4 Z o0 r wU clU wS clS h0 n0 _ T29.heap _
            rw [e29]
            exact ⟨by unfold own_poll; simp only [hc4_3, hc29_9, hc29_14, hc29_19, if_true, if_false, reduceIte], N1, rfl⟩
      · obtain ⟨T31, X31, e31, st31⟩ := getS2 X12 hx hZ hown (host := "") (Or.inl (hw _ (List.mem_of_getElem? (i := 37) rfl))) Via.refl e12 S_S (g := (mkF m 32 #[.val (.ref o0), .val (.int (1 : Int32))] [])) rfl (hb hby d4_32)
        have pre32 : ∀ t, Steps p.tables e below (T31.setTop (mkF m 37 #[.val (.ref o0), .val (.int (1 : Int32))] [(.long (5 : Int64))])) t → Steps p.tables e below (s₁.setTop (entryFrame m #[(.ref o0)] 2)) t := fun t k => pre13 t (by
          show Steps p.tables e below (T12.setTop (mkF m 29 #[.val (.ref o0), .val (.int (1 : Int32))] [(.int (lcmpW r (5000 : Int64)))])) _
          refine XS.ifNo X12.here hx rfl (hb hby d4_29) rfl ((if0 _ _).trans (flt (fun q => hc29_14 ((lw_gt _ _).mp q))).2.2.1) ?_
          show Steps p.tables e below (T12.setTop (mkF m 32 #[.val (.ref o0), .val (.int (1 : Int32))] [])) _
          refine st31 _ ?_
          show Steps p.tables e below (T31.setTop (mkF m 35 #[.val (.ref o0), .val (.int (1 : Int32))] [(.ref wS)])) _
          refine XS.iloadN X31.here hx rfl (hb hby d4_35) rfl ?_
          show Steps p.tables e below (T31.setTop (mkF m 36 #[.val (.ref o0), .val (.int (1 : Int32))] [(.int (1 : Int32)), (.ref wS)])) _
          refine X31.laload hx (j := (1 : Int32)) (v := (.long (5 : Int64))) (by rw [e31]; exact ArS.1) (State.isArrayOf_alike hZ.alike ArS.2.1) ArS.2.2 (inb_of SzS ⟨by decide, by decide⟩) eS1 (g := (mkF m 36 #[.val (.ref o0), .val (.int (1 : Int32))] [(.int (1 : Int32)), (.ref wS)])) rfl rfl (hb hby d4_36) _ ?_
          exact k)
        obtain ⟨fs, hr, hrun, hended, hW, hsame⟩ := X31.leave (v := some (.long (5 : Int64))) (fun h => by rw [Bd.returns] at h; cases h)
        refine ⟨_, _, pre32 _ ?_, hrun, hended, _, _, rfl, ?_, ⟨_, rfl⟩, hW, hsame.mono (by decide) (by decide)⟩
        · show Steps p.tables e below (T31.setTop (mkF m 37 #[.val (.ref o0), .val (.int (1 : Int32))] [(.long (5 : Int64))])) _
          jvm_step X31.here [X31.here.top, hx, (hb hby d4_37), X31.method', Bd.returns, narrow]
          first | (intro acts; rw [hr _ acts rfl rfl rfl]) | rw [hr _ _ rfl rfl rfl]
          exact Steps.refl _
        · show Q4 Z o0 r wU clU wS clS h0 n0 _ T31.heap _
          rw [e31]
          exact ⟨by unfold own_poll; simp only [hc4_3, hc29_9, hc29_14, if_true, if_false, reduceIte], N1, rfl⟩
    · obtain ⟨T33, X33, e33, st33⟩ := getS2 X7 hx hZ hown (host := "") (Or.inl (hw _ (List.mem_of_getElem? (i := 37) rfl))) Via.refl e7 S_S (g := (mkF m 32 #[.val (.ref o0), .val (.int (0 : Int32))] [])) rfl (hb hby d4_32)
      have pre34 : ∀ t, Steps p.tables e below (T33.setTop (mkF m 37 #[.val (.ref o0), .val (.int (0 : Int32))] [(.long (1 : Int64))])) t → Steps p.tables e below (s₁.setTop (entryFrame m #[(.ref o0)] 2)) t := fun t k => pre8 t (by
        show Steps p.tables e below (T7.setTop (mkF m 29 #[.val (.ref o0), .val (.int (0 : Int32))] [(.int (lcmpW r (1000 : Int64)))])) _
        refine XS.ifNo X7.here hx rfl (hb hby d4_29) rfl ((if0 _ _).trans (flt (fun q => hc29_9 ((lw_gt _ _).mp q))).2.2.1) ?_
        show Steps p.tables e below (T7.setTop (mkF m 32 #[.val (.ref o0), .val (.int (0 : Int32))] [])) _
        refine st33 _ ?_
        show Steps p.tables e below (T33.setTop (mkF m 35 #[.val (.ref o0), .val (.int (0 : Int32))] [(.ref wS)])) _
        refine XS.iloadN X33.here hx rfl (hb hby d4_35) rfl ?_
        show Steps p.tables e below (T33.setTop (mkF m 36 #[.val (.ref o0), .val (.int (0 : Int32))] [(.int (0 : Int32)), (.ref wS)])) _
        refine X33.laload hx (j := (0 : Int32)) (v := (.long (1 : Int64))) (by rw [e33]; exact ArS.1) (State.isArrayOf_alike hZ.alike ArS.2.1) ArS.2.2 (inb_of SzS ⟨by decide, by decide⟩) eS0 (g := (mkF m 36 #[.val (.ref o0), .val (.int (0 : Int32))] [(.int (0 : Int32)), (.ref wS)])) rfl rfl (hb hby d4_36) _ ?_
        exact k)
      obtain ⟨fs, hr, hrun, hended, hW, hsame⟩ := X33.leave (v := some (.long (1 : Int64))) (fun h => by rw [Bd.returns] at h; cases h)
      refine ⟨_, _, pre34 _ ?_, hrun, hended, _, _, rfl, ?_, ⟨_, rfl⟩, hW, hsame.mono (by decide) (by decide)⟩
      · show Steps p.tables e below (T33.setTop (mkF m 37 #[.val (.ref o0), .val (.int (0 : Int32))] [(.long (1 : Int64))])) _
        jvm_step X33.here [X33.here.top, hx, (hb hby d4_37), X33.method', Bd.returns, narrow]
        first | (intro acts; rw [hr _ acts rfl rfl rfl]) | rw [hr _ _ rfl rfl rfl]
        exact Steps.refl _
      · show Q4 Z o0 r wU clU wS clS h0 n0 _ T33.heap _
        rw [e33]
        exact ⟨by unfold own_poll; simp only [hc4_3, hc29_9, if_true, if_false, reduceIte], N1, rfl⟩
theorem pn_2 : plainName "com/example/anteroom/anteroom/PlaceNextPollSecondsPinLaw" = true := by first | (simp [plainName, overriddenIn]; done) | decide +kernel
theorem d6_0 : decode method_3_code 0 = .ok (.lload_n 0, 1) := by decide +kernel
theorem d6_1 : decode method_3_code 1 = .ok (.lconst 0, 1) := by decide +kernel
theorem d6_2 : decode method_3_code 2 = .ok (.lcmp, 1) := by decide +kernel
theorem d6_3 : decode method_3_code 3 = .ok (.ifCond .ne 5, 3) := by decide +kernel
theorem d6_6 : decode method_3_code 6 = .ok (.lconst 0, 1) := by decide +kernel
theorem d6_7 : decode method_3_code 7 = .ok (.lreturn, 1) := by decide +kernel
theorem d6_8 : decode method_3_code 8 = .ok (.lload_n 0, 1) := by decide +kernel
theorem d6_9 : decode method_3_code 9 = .ok (.ldc2_w 26, 3) := by decide +kernel
theorem d6_12 : decode method_3_code 12 = .ok (.lcmp, 1) := by decide +kernel
theorem d6_13 : decode method_3_code 13 = .ok (.ifCond .gt 5, 3) := by decide +kernel
theorem d6_18 : decode method_3_code 18 = .ok (.lload_n 0, 1) := by decide +kernel
theorem d6_19 : decode method_3_code 19 = .ok (.ldc2_w 28, 3) := by decide +kernel
theorem d6_22 : decode method_3_code 22 = .ok (.lcmp, 1) := by decide +kernel
theorem d6_23 : decode method_3_code 23 = .ok (.ifCond .gt 7, 3) := by decide +kernel
theorem d6_30 : decode method_3_code 30 = .ok (.lload_n 0, 1) := by decide +kernel
theorem d6_31 : decode method_3_code 31 = .ok (.ldc2_w 32, 3) := by decide +kernel
theorem d6_34 : decode method_3_code 34 = .ok (.lcmp, 1) := by decide +kernel
theorem d6_35 : decode method_3_code 35 = .ok (.ifCond .gt 7, 3) := by decide +kernel
theorem d6_42 : decode method_3_code 42 = .ok (.lload_n 0, 1) := by decide +kernel
theorem d6_43 : decode method_3_code 43 = .ok (.ldc2_w 36, 3) := by decide +kernel
theorem d6_46 : decode method_3_code 46 = .ok (.lcmp, 1) := by decide +kernel
theorem d6_47 : decode method_3_code 47 = .ok (.ifCond .gt 7, 3) := by decide +kernel
theorem d6_54 : decode method_3_code 54 = .ok (.ldc2_w 40, 3) := by decide +kernel
theorem d6_57 : decode method_3_code 57 = .ok (.lreturn, 1) := by decide +kernel
theorem d6_50 : decode method_3_code 50 = .ok (.ldc2_w 38, 3) := by decide +kernel
theorem d6_53 : decode method_3_code 53 = .ok (.lreturn, 1) := by decide +kernel
theorem d6_38 : decode method_3_code 38 = .ok (.ldc2_w 34, 3) := by decide +kernel
theorem d6_41 : decode method_3_code 41 = .ok (.lreturn, 1) := by decide +kernel
theorem d6_26 : decode method_3_code 26 = .ok (.ldc2_w 30, 3) := by decide +kernel
theorem d6_29 : decode method_3_code 29 = .ok (.lreturn, 1) := by decide +kernel
theorem d6_16 : decode method_3_code 16 = .ok (.lconst 1, 1) := by decide +kernel
theorem d6_17 : decode method_3_code 17 = .ok (.lreturn, 1) := by decide +kernel
theorem ef_6 (m : MethodId) (x0 : Int64) : entryFrame m #[(.long x0)] 2 = mkF m 0 #[.val (.long x0), .second] [] := by first | (simp [entryFrame, mkF, argsToLocals, Value.category]; done) | rfl
def Q6 (Z : State) (q0 : Int64) (h0 : Heap) (n0 : Nat) (v : Option Value) (h : Heap) (L : List Loc) : Prop := v = some (.long (own_poll q0)) ∧ Fr n0 L ∧ h = h0
set_option maxRecDepth 65536 in
set_option maxHeartbeats 40000000 in
theorem rm6 (l : Launch) (Z : State) (a0 : Array Value) (hw : ∀ d ∈ tables_1, d.before a0 Z = true) (ws : List Jvm.Cond) (q0 : Int64) (h0 : Heap) (n0 : Nat) (Z0 : n0 ≤ h0.size) :
    MetFree l (⟨"com/example/anteroom/anteroom/PlaceNextPollSecondsPinLaw", "expected", "(J)J"⟩ : MethodName) (head1 (Jvm.Cond.code (⟨"com/example/anteroom/anteroom/PlaceNextPollSecondsPinLaw", "expected", "(J)J"⟩ : MethodName) method_3_code 2 (some .long) :: ws) ({ frames := 0, cells := 0, slots := 0, locals := 0 } : Room)) (fun a U => a = #[(.long q0)] ∧ Z.Warmed39 U.vm ∧ U.heap = h0) (fun _ _ _ _ _ => True) (fun _ U o U' => ∃ v L, o = .returned v ∧ Q6 Z q0 h0 n0 v U'.heap L ∧ FrameEnd U o U' L ({ frames := 0, cells := 0, slots := 0, locals := 0 } : Room).cells ({ frames := 0, cells := 0, slots := 0, locals := 0 } : Room).slots) := by
  refine MetFree.of_bodySF (plainFor_of_name pn_2) hisR ?_
  intro p e s m args below meth c s₁ Bd hml0 hP hK
  obtain ⟨rfl, hZ, hh⟩ := hP
  have hx := Bd.exec
  have hby := Bd.bytes
  have hml : c.maxLocals = 2 := hml0
  have hown : s.vm.findClass "com/example/anteroom/anteroom/PlaceNextPollSecondsPinLaw" = some m.cls := findClass_of_methodNamed Bd.named
  have hnm := (name_of_methodNamed Bd.named Bd.method).1
  have X0 : Stand p l e ({ frames := 0, cells := 0, slots := 0, locals := 0 } : Room) s m #[(.long q0)] below meth c s₁ [] 0 0 := Stand.of_body Bd
  have e0 : s₁.heap = h0 := by rw [← hh, Bd.state]; rfl
  have N0 := Fr.nil n0
  have pre0 : ∀ t, Steps p.tables e below (s₁.setTop (mkF m 0 #[.val (.long q0), .second] [])) t → Steps p.tables e below (s₁.setTop (entryFrame m #[(.long q0)] 2)) t := fun t k => castTop (ef_6 m q0) k
  have pre1 : ∀ t, Steps p.tables e below (s₁.setTop (mkF m 3 #[.val (.long q0), .second] [(.int (lcmpW q0 (0 : Int64)))])) t → Steps p.tables e below (s₁.setTop (entryFrame m #[(.long q0)] 2)) t := fun t k => pre0 t (by
    show Steps p.tables e below (s₁.setTop (mkF m 0 #[.val (.long q0), .second] [])) _
    refine XS.lloadN X0.here hx rfl (hb hby d6_0) rfl ?_
    show Steps p.tables e below (s₁.setTop (mkF m 1 #[.val (.long q0), .second] [(.long q0)])) _
    refine XS.lconst X0.here hx rfl (hb hby d6_1) ?_
    show Steps p.tables e below (s₁.setTop (mkF m 2 #[.val (.long q0), .second] [(.long (0 : Int64)), (.long q0)])) _
    refine XS.lcmp X0.here hx rfl (hb hby d6_2) rfl ?_
    exact k)
  by_cases hc3_2 : q0 = (0 : Int64)
  · have pre3 : ∀ t, Steps p.tables e below (s₁.setTop (mkF m 7 #[.val (.long q0), .second] [(.long (0 : Int64))])) t → Steps p.tables e below (s₁.setTop (entryFrame m #[(.long q0)] 2)) t := fun t k => pre1 t (by
      show Steps p.tables e below (s₁.setTop (mkF m 3 #[.val (.long q0), .second] [(.int (lcmpW q0 (0 : Int64)))])) _
      refine XS.ifNo X0.here hx rfl (hb hby d6_3) rfl ((if0 _ _).trans (teq ((lw_eq _ _).mpr hc3_2)).2) ?_
      show Steps p.tables e below (s₁.setTop (mkF m 6 #[.val (.long q0), .second] [])) _
      refine XS.lconst X0.here hx rfl (hb hby d6_6) ?_
      exact k)
    obtain ⟨fs, hr, hrun, hended, hW, hsame⟩ := X0.leave (v := some (.long (0 : Int64))) (fun h => by rw [Bd.returns] at h; cases h)
    refine ⟨_, _, pre3 _ ?_, hrun, hended, _, _, rfl, ?_, ⟨_, rfl⟩, hW, hsame.mono (by decide) (by decide)⟩
    · show Steps p.tables e below (s₁.setTop (mkF m 7 #[.val (.long q0), .second] [(.long (0 : Int64))])) _
      jvm_step X0.here [X0.here.top, hx, (hb hby d6_7), X0.method', Bd.returns, narrow]
      first | (intro acts; rw [hr _ acts rfl rfl rfl]) | rw [hr _ _ rfl rfl rfl]
      exact Steps.refl _
    · show Q6 Z q0 h0 n0 _ s₁.heap _
      rw [e0]
      exact ⟨by unfold own_poll; simp only [hc3_2, if_true, if_false, reduceIte], N0, rfl⟩
  · have pre4 : ∀ t, Steps p.tables e below (s₁.setTop (mkF m 13 #[.val (.long q0), .second] [(.int (lcmpW q0 (1000 : Int64)))])) t → Steps p.tables e below (s₁.setTop (entryFrame m #[(.long q0)] 2)) t := fun t k => pre1 t (by
      show Steps p.tables e below (s₁.setTop (mkF m 3 #[.val (.long q0), .second] [(.int (lcmpW q0 (0 : Int64)))])) _
      refine XS.ifYes X0.here hx rfl (pc0 := 3) (pc' := 8) rfl (hb hby d6_3) rfl ((if0 _ _).trans (feq (fun q => hc3_2 ((lw_eq _ _).mp q))).2) (by decide) (by decide) ?_
      show Steps p.tables e below (s₁.setTop (mkF m 8 #[.val (.long q0), .second] [])) _
      refine XS.lloadN X0.here hx rfl (hb hby d6_8) rfl ?_
      show Steps p.tables e below (s₁.setTop (mkF m 9 #[.val (.long q0), .second] [(.long q0)])) _
      refine X0.ldc2Long hx hown (mvT hZ (hw _ (List.mem_of_getElem? (i := 43) rfl))) (g := (mkF m 9 #[.val (.long q0), .second] [(.long q0)])) rfl (hb hby d6_9) _ ?_
      show Steps p.tables e below (s₁.setTop (mkF m 12 #[.val (.long q0), .second] [(.long (1000 : Int64)), (.long q0)])) _
      refine XS.lcmp X0.here hx rfl (hb hby d6_12) rfl ?_
      exact k)
    by_cases hc13_5 : (1000 : Int64) < q0
    · have pre6 : ∀ t, Steps p.tables e below (s₁.setTop (mkF m 23 #[.val (.long q0), .second] [(.int (lcmpW q0 (5000 : Int64)))])) t → Steps p.tables e below (s₁.setTop (entryFrame m #[(.long q0)] 2)) t := fun t k => pre4 t (by
        show Steps p.tables e below (s₁.setTop (mkF m 13 #[.val (.long q0), .second] [(.int (lcmpW q0 (1000 : Int64)))])) _
        refine XS.ifYes X0.here hx rfl (pc0 := 13) (pc' := 18) rfl (hb hby d6_13) rfl ((if0 _ _).trans (tlt ((lw_gt _ _).mpr hc13_5)).2.2.1) (by decide) (by decide) ?_
        show Steps p.tables e below (s₁.setTop (mkF m 18 #[.val (.long q0), .second] [])) _
        refine XS.lloadN X0.here hx rfl (hb hby d6_18) rfl ?_
        show Steps p.tables e below (s₁.setTop (mkF m 19 #[.val (.long q0), .second] [(.long q0)])) _
        refine X0.ldc2Long hx hown (mvT hZ (hw _ (List.mem_of_getElem? (i := 45) rfl))) (g := (mkF m 19 #[.val (.long q0), .second] [(.long q0)])) rfl (hb hby d6_19) _ ?_
        show Steps p.tables e below (s₁.setTop (mkF m 22 #[.val (.long q0), .second] [(.long (5000 : Int64)), (.long q0)])) _
        refine XS.lcmp X0.here hx rfl (hb hby d6_22) rfl ?_
        exact k)
      by_cases hc23_7 : (5000 : Int64) < q0
      · have pre8 : ∀ t, Steps p.tables e below (s₁.setTop (mkF m 35 #[.val (.long q0), .second] [(.int (lcmpW q0 (10000 : Int64)))])) t → Steps p.tables e below (s₁.setTop (entryFrame m #[(.long q0)] 2)) t := fun t k => pre6 t (by
          show Steps p.tables e below (s₁.setTop (mkF m 23 #[.val (.long q0), .second] [(.int (lcmpW q0 (5000 : Int64)))])) _
          refine XS.ifYes X0.here hx rfl (pc0 := 23) (pc' := 30) rfl (hb hby d6_23) rfl ((if0 _ _).trans (tlt ((lw_gt _ _).mpr hc23_7)).2.2.1) (by decide) (by decide) ?_
          show Steps p.tables e below (s₁.setTop (mkF m 30 #[.val (.long q0), .second] [])) _
          refine XS.lloadN X0.here hx rfl (hb hby d6_30) rfl ?_
          show Steps p.tables e below (s₁.setTop (mkF m 31 #[.val (.long q0), .second] [(.long q0)])) _
          refine X0.ldc2Long hx hown (mvT hZ (hw _ (List.mem_of_getElem? (i := 46) rfl))) (g := (mkF m 31 #[.val (.long q0), .second] [(.long q0)])) rfl (hb hby d6_31) _ ?_
          show Steps p.tables e below (s₁.setTop (mkF m 34 #[.val (.long q0), .second] [(.long (10000 : Int64)), (.long q0)])) _
          refine XS.lcmp X0.here hx rfl (hb hby d6_34) rfl ?_
          exact k)
        by_cases hc35_9 : (10000 : Int64) < q0
        · have pre10 : ∀ t, Steps p.tables e below (s₁.setTop (mkF m 47 #[.val (.long q0), .second] [(.int (lcmpW q0 (100000 : Int64)))])) t → Steps p.tables e below (s₁.setTop (entryFrame m #[(.long q0)] 2)) t := fun t k => pre8 t (by
            show Steps p.tables e below (s₁.setTop (mkF m 35 #[.val (.long q0), .second] [(.int (lcmpW q0 (10000 : Int64)))])) _
            refine XS.ifYes X0.here hx rfl (pc0 := 35) (pc' := 42) rfl (hb hby d6_35) rfl ((if0 _ _).trans (tlt ((lw_gt _ _).mpr hc35_9)).2.2.1) (by decide) (by decide) ?_
            show Steps p.tables e below (s₁.setTop (mkF m 42 #[.val (.long q0), .second] [])) _
            refine XS.lloadN X0.here hx rfl (hb hby d6_42) rfl ?_
            show Steps p.tables e below (s₁.setTop (mkF m 43 #[.val (.long q0), .second] [(.long q0)])) _
            refine X0.ldc2Long hx hown (mvT hZ (hw _ (List.mem_of_getElem? (i := 47) rfl))) (g := (mkF m 43 #[.val (.long q0), .second] [(.long q0)])) rfl (hb hby d6_43) _ ?_
            show Steps p.tables e below (s₁.setTop (mkF m 46 #[.val (.long q0), .second] [(.long (100000 : Int64)), (.long q0)])) _
            refine XS.lcmp X0.here hx rfl (hb hby d6_46) rfl ?_
            exact k)
          by_cases hc47_11 : (100000 : Int64) < q0
          · have pre12 : ∀ t, Steps p.tables e below (s₁.setTop (mkF m 57 #[.val (.long q0), .second] [(.long (60 : Int64))])) t → Steps p.tables e below (s₁.setTop (entryFrame m #[(.long q0)] 2)) t := fun t k => pre10 t (by
              show Steps p.tables e below (s₁.setTop (mkF m 47 #[.val (.long q0), .second] [(.int (lcmpW q0 (100000 : Int64)))])) _
              refine XS.ifYes X0.here hx rfl (pc0 := 47) (pc' := 54) rfl (hb hby d6_47) rfl ((if0 _ _).trans (tlt ((lw_gt _ _).mpr hc47_11)).2.2.1) (by decide) (by decide) ?_
              show Steps p.tables e below (s₁.setTop (mkF m 54 #[.val (.long q0), .second] [])) _
              refine X0.ldc2Long hx hown (mvT hZ (hw _ (List.mem_of_getElem? (i := 48) rfl))) (g := (mkF m 54 #[.val (.long q0), .second] [])) rfl (hb hby d6_54) _ ?_
              exact k)
            obtain ⟨fs, hr, hrun, hended, hW, hsame⟩ := X0.leave (v := some (.long (60 : Int64))) (fun h => by rw [Bd.returns] at h; cases h)
            refine ⟨_, _, pre12 _ ?_, hrun, hended, _, _, rfl, ?_, ⟨_, rfl⟩, hW, hsame.mono (by decide) (by decide)⟩
            · show Steps p.tables e below (s₁.setTop (mkF m 57 #[.val (.long q0), .second] [(.long (60 : Int64))])) _
              jvm_step X0.here [X0.here.top, hx, (hb hby d6_57), X0.method', Bd.returns, narrow]
              first | (intro acts; rw [hr _ acts rfl rfl rfl]) | rw [hr _ _ rfl rfl rfl]
              exact Steps.refl _
            · show Q6 Z q0 h0 n0 _ s₁.heap _
              rw [e0]
              exact ⟨by unfold own_poll; simp only [hc3_2, hc13_5, hc23_7, hc35_9, hc47_11, if_true, if_false, reduceIte], N0, rfl⟩
          · have pre13 : ∀ t, Steps p.tables e below (s₁.setTop (mkF m 53 #[.val (.long q0), .second] [(.long (30 : Int64))])) t → Steps p.tables e below (s₁.setTop (entryFrame m #[(.long q0)] 2)) t := fun t k => pre10 t (by
              show Steps p.tables e below (s₁.setTop (mkF m 47 #[.val (.long q0), .second] [(.int (lcmpW q0 (100000 : Int64)))])) _
              refine XS.ifNo X0.here hx rfl (hb hby d6_47) rfl ((if0 _ _).trans (flt (fun q => hc47_11 ((lw_gt _ _).mp q))).2.2.1) ?_
              show Steps p.tables e below (s₁.setTop (mkF m 50 #[.val (.long q0), .second] [])) _
              refine X0.ldc2Long hx hown (mvT hZ (hw _ (List.mem_of_getElem? (i := 49) rfl))) (g := (mkF m 50 #[.val (.long q0), .second] [])) rfl (hb hby d6_50) _ ?_
              exact k)
            obtain ⟨fs, hr, hrun, hended, hW, hsame⟩ := X0.leave (v := some (.long (30 : Int64))) (fun h => by rw [Bd.returns] at h; cases h)
            refine ⟨_, _, pre13 _ ?_, hrun, hended, _, _, rfl, ?_, ⟨_, rfl⟩, hW, hsame.mono (by decide) (by decide)⟩
            · show Steps p.tables e below (s₁.setTop (mkF m 53 #[.val (.long q0), .second] [(.long (30 : Int64))])) _
              jvm_step X0.here [X0.here.top, hx, (hb hby d6_53), X0.method', Bd.returns, narrow]
              first | (intro acts; rw [hr _ acts rfl rfl rfl]) | rw [hr _ _ rfl rfl rfl]
              exact Steps.refl _
            · show Q6 Z q0 h0 n0 _ s₁.heap _
              rw [e0]
              exact ⟨by unfold own_poll; simp only [hc3_2, hc13_5, hc23_7, hc35_9, hc47_11, if_true, if_false, reduceIte], N0, rfl⟩
        · have pre14 : ∀ t, Steps p.tables e below (s₁.setTop (mkF m 41 #[.val (.long q0), .second] [(.long (10 : Int64))])) t → Steps p.tables e below (s₁.setTop (entryFrame m #[(.long q0)] 2)) t := fun t k => pre8 t (by
            show Steps p.tables e below (s₁.setTop (mkF m 35 #[.val (.long q0), .second] [(.int (lcmpW q0 (10000 : Int64)))])) _
            refine XS.ifNo X0.here hx rfl (hb hby d6_35) rfl ((if0 _ _).trans (flt (fun q => hc35_9 ((lw_gt _ _).mp q))).2.2.1) ?_
            show Steps p.tables e below (s₁.setTop (mkF m 38 #[.val (.long q0), .second] [])) _
            refine X0.ldc2Long hx hown (mvT hZ (hw _ (List.mem_of_getElem? (i := 51) rfl))) (g := (mkF m 38 #[.val (.long q0), .second] [])) rfl (hb hby d6_38) _ ?_
            exact k)
          obtain ⟨fs, hr, hrun, hended, hW, hsame⟩ := X0.leave (v := some (.long (10 : Int64))) (fun h => by rw [Bd.returns] at h; cases h)
          refine ⟨_, _, pre14 _ ?_, hrun, hended, _, _, rfl, ?_, ⟨_, rfl⟩, hW, hsame.mono (by decide) (by decide)⟩
          · show Steps p.tables e below (s₁.setTop (mkF m 41 #[.val (.long q0), .second] [(.long (10 : Int64))])) _
            jvm_step X0.here [X0.here.top, hx, (hb hby d6_41), X0.method', Bd.returns, narrow]
            first | (intro acts; rw [hr _ acts rfl rfl rfl]) | rw [hr _ _ rfl rfl rfl]
            exact Steps.refl _
          · show Q6 Z q0 h0 n0 _ s₁.heap _
            rw [e0]
            exact ⟨by unfold own_poll; simp only [hc3_2, hc13_5, hc23_7, hc35_9, if_true, if_false, reduceIte], N0, rfl⟩
      · have pre15 : ∀ t, Steps p.tables e below (s₁.setTop (mkF m 29 #[.val (.long q0), .second] [(.long (5 : Int64))])) t → Steps p.tables e below (s₁.setTop (entryFrame m #[(.long q0)] 2)) t := fun t k => pre6 t (by
          show Steps p.tables e below (s₁.setTop (mkF m 23 #[.val (.long q0), .second] [(.int (lcmpW q0 (5000 : Int64)))])) _
          refine XS.ifNo X0.here hx rfl (hb hby d6_23) rfl ((if0 _ _).trans (flt (fun q => hc23_7 ((lw_gt _ _).mp q))).2.2.1) ?_
          show Steps p.tables e below (s₁.setTop (mkF m 26 #[.val (.long q0), .second] [])) _
          refine X0.ldc2Long hx hown (mvT hZ (hw _ (List.mem_of_getElem? (i := 50) rfl))) (g := (mkF m 26 #[.val (.long q0), .second] [])) rfl (hb hby d6_26) _ ?_
          exact k)
        obtain ⟨fs, hr, hrun, hended, hW, hsame⟩ := X0.leave (v := some (.long (5 : Int64))) (fun h => by rw [Bd.returns] at h; cases h)
        refine ⟨_, _, pre15 _ ?_, hrun, hended, _, _, rfl, ?_, ⟨_, rfl⟩, hW, hsame.mono (by decide) (by decide)⟩
        · show Steps p.tables e below (s₁.setTop (mkF m 29 #[.val (.long q0), .second] [(.long (5 : Int64))])) _
          jvm_step X0.here [X0.here.top, hx, (hb hby d6_29), X0.method', Bd.returns, narrow]
          first | (intro acts; rw [hr _ acts rfl rfl rfl]) | rw [hr _ _ rfl rfl rfl]
          exact Steps.refl _
        · show Q6 Z q0 h0 n0 _ s₁.heap _
          rw [e0]
          exact ⟨by unfold own_poll; simp only [hc3_2, hc13_5, hc23_7, if_true, if_false, reduceIte], N0, rfl⟩
    · have pre16 : ∀ t, Steps p.tables e below (s₁.setTop (mkF m 17 #[.val (.long q0), .second] [(.long (1 : Int64))])) t → Steps p.tables e below (s₁.setTop (entryFrame m #[(.long q0)] 2)) t := fun t k => pre4 t (by
        show Steps p.tables e below (s₁.setTop (mkF m 13 #[.val (.long q0), .second] [(.int (lcmpW q0 (1000 : Int64)))])) _
        refine XS.ifNo X0.here hx rfl (hb hby d6_13) rfl ((if0 _ _).trans (flt (fun q => hc13_5 ((lw_gt _ _).mp q))).2.2.1) ?_
        show Steps p.tables e below (s₁.setTop (mkF m 16 #[.val (.long q0), .second] [])) _
        refine XS.lconst X0.here hx rfl (hb hby d6_16) ?_
        exact k)
      obtain ⟨fs, hr, hrun, hended, hW, hsame⟩ := X0.leave (v := some (.long (1 : Int64))) (fun h => by rw [Bd.returns] at h; cases h)
      refine ⟨_, _, pre16 _ ?_, hrun, hended, _, _, rfl, ?_, ⟨_, rfl⟩, hW, hsame.mono (by decide) (by decide)⟩
      · show Steps p.tables e below (s₁.setTop (mkF m 17 #[.val (.long q0), .second] [(.long (1 : Int64))])) _
        jvm_step X0.here [X0.here.top, hx, (hb hby d6_17), X0.method', Bd.returns, narrow]
        first | (intro acts; rw [hr _ acts rfl rfl rfl]) | rw [hr _ _ rfl rfl rfl]
        exact Steps.refl _
      · show Q6 Z q0 h0 n0 _ s₁.heap _
        rw [e0]
        exact ⟨by unfold own_poll; simp only [hc3_2, hc13_5, if_true, if_false, reduceIte], N0, rfl⟩
theorem pd_2 : parseMethodDescriptor "(JJJJJ)V" = some ⟨[.long, .long, .long, .long, .long], none⟩ := by decide +kernel
theorem pd_3 : parseMethodDescriptor "()J" = some ⟨[], some .long⟩ := by decide +kernel
theorem pd_4 : parseMethodDescriptor "(J)J" = some ⟨[.long], some .long⟩ := by decide +kernel
theorem ef_0 (m : MethodId) (x0 : Int64) (x1 : Int64) (x2 : Int64) (x3 : Int64) (x4 : Int64) : entryFrame m #[(.long x0), (.long x1), (.long x2), (.long x3), (.long x4)] maxLocals = mkF m 0 #[.val (.long x0), .second, .val (.long x1), .second, .val (.long x2), .second, .val (.long x3), .second, .val (.long x4), .second, .unset, .unset, .unset, .unset, .unset] [] := by first | (simp [entryFrame, mkF, argsToLocals, Value.category, maxLocals]; done) | rfl
def Q0 (Z : State) (q0 : Int64) (q1 : Int64) (q2 : Int64) (q3 : Int64) (q4 : Int64) (wU : Addr) (clU : Cell) (wS : Addr) (clS : Cell) (h0 : Heap) (n0 : Nat) (v : Option Value) (h : Heap) (L : List Loc) : Prop := v = some (.int 1) ∧ Fr n0 L
set_option maxRecDepth 65536 in
set_option maxHeartbeats 40000000 in
theorem rm0 (l : Launch) (Z : State) (a0 : Array Value) (hw : ∀ d ∈ tables_1, d.before a0 Z = true) (ws : List Jvm.Cond) (q0 : Int64) (q1 : Int64) (q2 : Int64) (q3 : Int64) (q4 : Int64) (wU : Addr) (clU : Cell) (wS : Addr) (clS : Cell) (h0 : Heap) (n0 : Nat) (Z0 : n0 ≤ h0.size) (O0 : Old Z n0 h0) (S_U : Sta Z Z.heap "com/example/anteroom/anteroom/Place" "POLL_UP_TO" "[J" (.ref wU)) (ArU : Arr Z Z.heap wU clU .long) (SzU : clU.slots.size = (4 : Int32).toNatClampNeg) (eU0 : clU.slots[(0 : Int32).toNatClampNeg]? = some (.long (1000 : Int64))) (eU1 : clU.slots[(1 : Int32).toNatClampNeg]? = some (.long (5000 : Int64))) (eU2 : clU.slots[(2 : Int32).toNatClampNeg]? = some (.long (10000 : Int64))) (eU3 : clU.slots[(3 : Int32).toNatClampNeg]? = some (.long (100000 : Int64))) (S_S : Sta Z Z.heap "com/example/anteroom/anteroom/Place" "POLL_SECONDS" "[J" (.ref wS)) (ArS : Arr Z Z.heap wS clS .long) (SzS : clS.slots.size = (4 : Int32).toNatClampNeg) (eS0 : clS.slots[(0 : Int32).toNatClampNeg]? = some (.long (1 : Int64))) (eS1 : clS.slots[(1 : Int32).toNatClampNeg]? = some (.long (5 : Int64))) (eS2 : clS.slots[(2 : Int32).toNatClampNeg]? = some (.long (10 : Int64))) (eS3 : clS.slots[(3 : Int32).toNatClampNeg]? = some (.long (30 : Int64))) :
    MetFree l x (head1 (Jvm.Cond.code x code maxLocals ret :: ws) room_1) (fun a U => a = #[(.long q0), (.long q1), (.long q2), (.long q3), (.long q4)] ∧ Z.Warmed39 U.vm ∧ U.heap = h0) (fun _ _ _ _ _ => True) (fun _ U o U' => ∃ v L, o = .returned v ∧ Q0 Z q0 q1 q2 q3 q4 wU clU wS clS h0 n0 v U'.heap L ∧ FrameEnd U o U' L room_1.cells room_1.slots) := by
  refine MetFree.of_bodySF (plainFor_of_name pn_2) hisR ?_
  intro p e s m args below meth c s₁ Bd hml0 hP hK
  obtain ⟨rfl, hZ, hh⟩ := hP
  have hx := Bd.exec
  have hby := Bd.bytes
  have hml : c.maxLocals = 15 := hml0
  have hown : s.vm.findClass "com/example/anteroom/anteroom/PlaceNextPollSecondsPinLaw" = some m.cls := findClass_of_methodNamed Bd.named
  have hnm := (name_of_methodNamed Bd.named Bd.method).1
  have X0 : Stand p l e room_1 s m #[(.long q0), (.long q1), (.long q2), (.long q3), (.long q4)] below meth c s₁ [] 0 0 := Stand.of_body Bd
  have e0 : s₁.heap = h0 := by rw [← hh, Bd.state]; rfl
  have N0 := Fr.nil n0
  have pre0 : ∀ t, Steps p.tables e below (s₁.setTop (mkF m 0 #[.val (.long q0), .second, .val (.long q1), .second, .val (.long q2), .second, .val (.long q3), .second, .val (.long q4), .second, .unset, .unset, .unset, .unset, .unset] [])) t → Steps p.tables e below (s₁.setTop (entryFrame m #[(.long q0), (.long q1), (.long q2), (.long q3), (.long q4)] maxLocals)) t := fun t k => castTop (ef_0 m q0 q1 q2 q3 q4) k
  obtain ⟨T1, h1, X1, e1, E1, A1, D1, -, st1⟩ := newO X0 hx hZ hown (hw _ (List.mem_of_getElem? (i := 1) rfl)) (hw _ (List.mem_of_getElem? (i := 2) rfl)) (hw _ (List.mem_of_getElem? (i := 3) rfl)) e0 (g := (mkF m 7 #[.val (.long q0), .second, .val (.long q1), .second, .val (.long q2), .second, .val (.long q3), .second, .val (.long q4), .second, .val (.long (q1 &&& (9223372036854775807 : Int64))), .second, .unset, .unset, .unset] [])) rfl (hb hby at_7) (by decide) (by decide)
  obtain ⟨b1, g1⟩ : ∃ z, z = h0.size := ⟨_, rfl⟩
  rw [← g1] at A1 D1 st1
  have F_ticket_b1 : Fld Z h1 b1 "com/example/anteroom/anteroom/Place" "ticket" "J" (.long (0 : Int64)) := D1 (Or.inr (hw _ (List.mem_of_getElem? (i := 16) rfl))) (ty := .long) (by decide)
  have F_position_b1 : Fld Z h1 b1 "com/example/anteroom/anteroom/Place" "position" "J" (.long (0 : Int64)) := D1 (Or.inr (hw _ (List.mem_of_getElem? (i := 18) rfl))) (ty := .long) (by decide)
  have F_secondsToOpening_b1 : Fld Z h1 b1 "com/example/anteroom/anteroom/Place" "secondsToOpening" "J" (.long (0 : Int64)) := D1 (Or.inr (hw _ (List.mem_of_getElem? (i := 20) rfl))) (ty := .long) (by decide)
  have F_issuedAt_b1 : Fld Z h1 b1 "com/example/anteroom/anteroom/Place" "issuedAt" "J" (.long (0 : Int64)) := D1 (Or.inr (hw _ (List.mem_of_getElem? (i := 22) rfl))) (ty := .long) (by decide)
  have F_expiresAt_b1 : Fld Z h1 b1 "com/example/anteroom/anteroom/Place" "expiresAt" "J" (.long (0 : Int64)) := D1 (Or.inr (hw _ (List.mem_of_getElem? (i := 24) rfl))) (ty := .long) (by decide)
  have g_b1 : n0 ≤ b1 := Nat.le_trans Z0 (Nat.le_of_eq g1.symm)
  have sz_b1 : h0.size ≤ b1 := Nat.le_trans (Keep.refl h0 []).1 (Nat.le_of_eq g1.symm)
  have KK1 : Keep h0 h1 [] := (Keep.refl h0 []).ext E1
  obtain ⟨_, _, ⟨T2, L2, k2, n2⟩, -, X2, ⟨Lc2, hQ2, l2, y2, z2⟩, st2⟩ := X1.specialBack hx (y := (⟨"com/example/anteroom/anteroom/Place", "<init>", "(JJJJJ)V"⟩ : MethodName)) rfl hown (mvT hZ (hw _ (List.mem_of_getElem? (i := 4) rfl))) (mvT hZ (hw _ (List.mem_of_getElem? (i := 5) rfl))) (mvT hZ (hw _ (List.mem_of_getElem? (i := 6) rfl))) (by decide) (backOf (W := 1) (rm1 l Z a0 hw [] b1 q0 (q1 &&& (9223372036854775807 : Int64)) q2 q3 q4 (.long (0 : Int64)) (.long (0 : Int64)) (.long (0 : Int64)) (.long (0 : Int64)) (.long (0 : Int64)) h1 n0 (Nat.le_trans Z0 E1.1) F_ticket_b1 F_position_b1 F_secondsToOpening_b1 F_issuedAt_b1 F_expiresAt_b1 A1 g_b1) hZ (hw _ (List.mem_of_getElem? (i := 6) rfl)) (hw _ (List.mem_of_getElem? (i := 3) rfl)) (by decide) (by decide)) (g := (mkF m 20 #[.val (.long q0), .second, .val (.long q1), .second, .val (.long q2), .second, .val (.long q3), .second, .val (.long q4), .second, .val (.long (q1 &&& (9223372036854775807 : Int64))), .second, .unset, .unset, .unset] [(.long q4), (.long q3), (.long q2), (.long (q1 &&& (9223372036854775807 : Int64))), (.long q0), (.ref b1), (.ref b1)])) rfl (by rw [hml]; rfl) (Steps.refl _) (a := b1) (argsL := [(.long q0), (.long (q1 &&& (9223372036854775807 : Int64))), (.long q2), (.long q3), (.long q4)]) (rest := [(.ref b1)]) (lenOf pd_2 rfl) rfl (by show 2 * 0 + _ ≤ _; exact Nat.le_of_eq rfl) (hb hby at_20) (fun _ _ => ⟨rfl, e1, (by decide : 1 + 0 ≤ _), (by decide : 5 + 0 ≤ _)⟩)
  dsimp only [Pt.U, Pt.locs, Pt.cells, Pt.slots] at X2 l2 y2 z2 st2 hQ2
  subst l2 y2 z2
  obtain ⟨rfl, N2q, K2, P2_0, P2_1, P2_2, P2_3, P2_4, P2_5⟩ := hQ2
  have N2 := Fr.app N0 N2q
  have KK2 : Keep h0 T2.heap [] := KK1.trans K2 (allS (Or.inr sz_b1) all0)
  obtain ⟨cq3, kq3, q3a, q3b, q3c⟩ := isOf hZ rfl P2_0
  obtain ⟨_, _, ⟨T3, L3, k3, n3⟩, -, X3, ⟨Lc3, hQ3, l3, y3, z3⟩, st3⟩ := X2.virtualBack hx (y := (⟨"com/example/anteroom/anteroom/Place", "nextPollSeconds", "()J"⟩ : MethodName)) (z := (⟨"com/example/anteroom/anteroom/Place", "nextPollSeconds", "()J"⟩ : MethodName)) hown (mvT hZ (hw _ (List.mem_of_getElem? (i := 25) rfl))) (mvT hZ (hw _ (List.mem_of_getElem? (i := 26) rfl))) (notFace_of_selects (args := #[]) (mvT hZ (hw _ (List.mem_of_getElem? (i := 28) rfl)))) (mvT hZ (hw _ (List.mem_of_getElem? (i := 28) rfl))) (mvT hZ (hw _ (List.mem_of_getElem? (i := 27) rfl))) (by decide) (backOf (W := 0) (rm4 l Z a0 hw [] b1 (q1 &&& (9223372036854775807 : Int64)) wU clU wS clS T2.heap n0 (Nat.le_trans (Nat.le_trans Z0 E1.1) K2.1) P2_2 P2_0 (Sta.ext ((O0.ext E1).keep K2 (allS g_b1 all0)).2 S_U) (Arr.ext ((O0.ext E1).keep K2 (allS g_b1 all0)).2 ArU) SzU eU0 eU1 eU2 eU3 (Sta.ext ((O0.ext E1).keep K2 (allS g_b1 all0)).2 S_S) (Arr.ext ((O0.ext E1).keep K2 (allS g_b1 all0)).2 ArS) SzS eS0 eS1 eS2 eS3) hZ (hw _ (List.mem_of_getElem? (i := 29) rfl)) (hw _ (List.mem_of_getElem? (i := 3) rfl)) (by decide) (by decide)) q3a q3c (g := (mkF m 27 #[.val (.long q0), .second, .val (.long q1), .second, .val (.long q2), .second, .val (.long q3), .second, .val (.long q4), .second, .val (.long (q1 &&& (9223372036854775807 : Int64))), .second, .val (.ref b1), .unset, .unset] [(.ref b1)])) rfl (by rw [hml]; rfl) (Steps.refl _) (argsL := []) (rest := []) (lenOf pd_3 rfl) rfl (by show 2 * 0 + _ ≤ _; exact Nat.le_of_eq rfl) (hb hby at_27) (fun _ _ => ⟨rfl, rfl, (by decide : 1 + 0 ≤ _), (by decide : 5 + 0 ≤ _)⟩)
  dsimp only [Pt.U, Pt.locs, Pt.cells, Pt.slots] at X3 l3 y3 z3 st3 hQ3
  subst l3 y3 z3
  obtain ⟨rfl, N3q, hh3⟩ := hQ3
  have N3 := Fr.app N2 N3q
  obtain ⟨_, _, ⟨T4, L4, k4, n4⟩, -, X4, ⟨Lc4, hQ4, l4, y4, z4⟩, st4⟩ := Jvm.LawKit.callS X3 hx (y := (⟨"com/example/anteroom/anteroom/PlaceNextPollSecondsPinLaw", "expected", "(J)J"⟩ : MethodName)) hown (mvT hZ (hw _ (List.mem_of_getElem? (i := 39) rfl))) (mvT hZ (hw _ (List.mem_of_getElem? (i := 40) rfl))) (mvT hZ (hw _ (List.mem_of_getElem? (i := 41) rfl))) (mvT hZ (hw _ (List.mem_of_getElem? (i := 42) rfl))) (by decide) (backOf (W := 2) (rm6 l Z a0 hw [] (q1 &&& (9223372036854775807 : Int64)) T2.heap n0 (Nat.le_trans (Nat.le_trans Z0 E1.1) K2.1) ) hZ (hw _ (List.mem_of_getElem? (i := 42) rfl)) (hw _ (List.mem_of_getElem? (i := 41) rfl)) (by decide) (by decide)) (g := (mkF m 36 #[.val (.long q0), .second, .val (.long q1), .second, .val (.long q2), .second, .val (.long q3), .second, .val (.long q4), .second, .val (.long (q1 &&& (9223372036854775807 : Int64))), .second, .val (.ref b1), .val (.long (own_poll (q1 &&& (9223372036854775807 : Int64)))), .second] [(.long (q1 &&& (9223372036854775807 : Int64))), (.long (own_poll (q1 &&& (9223372036854775807 : Int64))))])) rfl (by rw [hml]; rfl) (argsL := [(.long (q1 &&& (9223372036854775807 : Int64)))]) (rest := [(.long (own_poll (q1 &&& (9223372036854775807 : Int64))))]) (lenOf pd_4 rfl) rfl (by show 2 * 0 + _ ≤ _; exact Nat.le_of_eq rfl) (hb hby at_36) (fun _ _ => ⟨rfl, hh3, (by decide : 1 + 0 ≤ _), (by decide : 5 + 0 ≤ _)⟩)
  dsimp only [Pt.U, Pt.locs, Pt.cells, Pt.slots] at X4 l4 y4 z4 st4 hQ4
  subst l4 y4 z4
  obtain ⟨rfl, N4q, hh4⟩ := hQ4
  have N4 := Fr.app N3 N4q
  have pre5 : ∀ t, Steps p.tables e below (T4.setTop (mkF m 48 #[.val (.long q0), .second, .val (.long q1), .second, .val (.long q2), .second, .val (.long q3), .second, .val (.long q4), .second, .val (.long (q1 &&& (9223372036854775807 : Int64))), .second, .val (.ref b1), .val (.long (own_poll (q1 &&& (9223372036854775807 : Int64)))), .second] [(.int (1 : Int32))])) t → Steps p.tables e below (s₁.setTop (entryFrame m #[(.long q0), (.long q1), (.long q2), (.long q3), (.long q4)] maxLocals)) t := fun t k => pre0 t (by
    show Steps p.tables e below (s₁.setTop (mkF m 0 #[.val (.long q0), .second, .val (.long q1), .second, .val (.long q2), .second, .val (.long q3), .second, .val (.long q4), .second, .unset, .unset, .unset, .unset, .unset] [])) _
    refine XS.lloadN X0.here hx rfl (hb hby at_0) rfl ?_
    show Steps p.tables e below (s₁.setTop (mkF m 1 #[.val (.long q0), .second, .val (.long q1), .second, .val (.long q2), .second, .val (.long q3), .second, .val (.long q4), .second, .unset, .unset, .unset, .unset, .unset] [(.long q1)])) _
    refine X0.ldc2Long hx hown (mvT hZ (hw _ (List.mem_of_getElem? (i := 0) rfl))) (g := (mkF m 1 #[.val (.long q0), .second, .val (.long q1), .second, .val (.long q2), .second, .val (.long q3), .second, .val (.long q4), .second, .unset, .unset, .unset, .unset, .unset] [(.long q1)])) rfl (hb hby at_1) _ ?_
    show Steps p.tables e below (s₁.setTop (mkF m 4 #[.val (.long q0), .second, .val (.long q1), .second, .val (.long q2), .second, .val (.long q3), .second, .val (.long q4), .second, .unset, .unset, .unset, .unset, .unset] [(.long (9223372036854775807 : Int64)), (.long q1)])) _
    refine XS.land X0.here hx rfl (hb hby at_4) rfl ?_
    show Steps p.tables e below (s₁.setTop (mkF m 5 #[.val (.long q0), .second, .val (.long q1), .second, .val (.long q2), .second, .val (.long q3), .second, .val (.long q4), .second, .unset, .unset, .unset, .unset, .unset] [(.long (q1 &&& (9223372036854775807 : Int64)))])) _
    refine XS.lstore X0.here hx rfl (hb hby at_5) rfl (l' := #[.val (.long q0), .second, .val (.long q1), .second, .val (.long q2), .second, .val (.long q3), .second, .val (.long q4), .second, .val (.long (q1 &&& (9223372036854775807 : Int64))), .second, .unset, .unset, .unset]) rfl ?_
    show Steps p.tables e below (s₁.setTop (mkF m 7 #[.val (.long q0), .second, .val (.long q1), .second, .val (.long q2), .second, .val (.long q3), .second, .val (.long q4), .second, .val (.long (q1 &&& (9223372036854775807 : Int64))), .second, .unset, .unset, .unset] [])) _
    refine st1 _ ?_
    show Steps p.tables e below (T1.setTop (mkF m 10 #[.val (.long q0), .second, .val (.long q1), .second, .val (.long q2), .second, .val (.long q3), .second, .val (.long q4), .second, .val (.long (q1 &&& (9223372036854775807 : Int64))), .second, .unset, .unset, .unset] [(.ref b1)])) _
    refine XS.dup X1.here hx rfl (hb hby at_10) rfl rfl ?_
    show Steps p.tables e below (T1.setTop (mkF m 11 #[.val (.long q0), .second, .val (.long q1), .second, .val (.long q2), .second, .val (.long q3), .second, .val (.long q4), .second, .val (.long (q1 &&& (9223372036854775807 : Int64))), .second, .unset, .unset, .unset] [(.ref b1), (.ref b1)])) _
    refine XS.lloadN X1.here hx rfl (hb hby at_11) rfl ?_
    show Steps p.tables e below (T1.setTop (mkF m 12 #[.val (.long q0), .second, .val (.long q1), .second, .val (.long q2), .second, .val (.long q3), .second, .val (.long q4), .second, .val (.long (q1 &&& (9223372036854775807 : Int64))), .second, .unset, .unset, .unset] [(.long q0), (.ref b1), (.ref b1)])) _
    refine XS.lload X1.here hx rfl (hb hby at_12) rfl ?_
    show Steps p.tables e below (T1.setTop (mkF m 14 #[.val (.long q0), .second, .val (.long q1), .second, .val (.long q2), .second, .val (.long q3), .second, .val (.long q4), .second, .val (.long (q1 &&& (9223372036854775807 : Int64))), .second, .unset, .unset, .unset] [(.long (q1 &&& (9223372036854775807 : Int64))), (.long q0), (.ref b1), (.ref b1)])) _
    refine XS.lload X1.here hx rfl (hb hby at_14) rfl ?_
    show Steps p.tables e below (T1.setTop (mkF m 16 #[.val (.long q0), .second, .val (.long q1), .second, .val (.long q2), .second, .val (.long q3), .second, .val (.long q4), .second, .val (.long (q1 &&& (9223372036854775807 : Int64))), .second, .unset, .unset, .unset] [(.long q2), (.long (q1 &&& (9223372036854775807 : Int64))), (.long q0), (.ref b1), (.ref b1)])) _
    refine XS.lload X1.here hx rfl (hb hby at_16) rfl ?_
    show Steps p.tables e below (T1.setTop (mkF m 18 #[.val (.long q0), .second, .val (.long q1), .second, .val (.long q2), .second, .val (.long q3), .second, .val (.long q4), .second, .val (.long (q1 &&& (9223372036854775807 : Int64))), .second, .unset, .unset, .unset] [(.long q3), (.long q2), (.long (q1 &&& (9223372036854775807 : Int64))), (.long q0), (.ref b1), (.ref b1)])) _
    refine XS.lload X1.here hx rfl (hb hby at_18) rfl ?_
    show Steps p.tables e below (T1.setTop (mkF m 20 #[.val (.long q0), .second, .val (.long q1), .second, .val (.long q2), .second, .val (.long q3), .second, .val (.long q4), .second, .val (.long (q1 &&& (9223372036854775807 : Int64))), .second, .unset, .unset, .unset] [(.long q4), (.long q3), (.long q2), (.long (q1 &&& (9223372036854775807 : Int64))), (.long q0), (.ref b1), (.ref b1)])) _
    refine st2.trans ?_
    show Steps p.tables e below (T2.setTop (mkF m 23 #[.val (.long q0), .second, .val (.long q1), .second, .val (.long q2), .second, .val (.long q3), .second, .val (.long q4), .second, .val (.long (q1 &&& (9223372036854775807 : Int64))), .second, .unset, .unset, .unset] [(.ref b1)])) _
    refine XS.astore X2.here hx rfl (hb hby at_23) rfl rfl (l' := #[.val (.long q0), .second, .val (.long q1), .second, .val (.long q2), .second, .val (.long q3), .second, .val (.long q4), .second, .val (.long (q1 &&& (9223372036854775807 : Int64))), .second, .val (.ref b1), .unset, .unset]) rfl ?_
    show Steps p.tables e below (T2.setTop (mkF m 25 #[.val (.long q0), .second, .val (.long q1), .second, .val (.long q2), .second, .val (.long q3), .second, .val (.long q4), .second, .val (.long (q1 &&& (9223372036854775807 : Int64))), .second, .val (.ref b1), .unset, .unset] [])) _
    refine XS.aload X2.here hx rfl (hb hby at_25) rfl rfl ?_
    show Steps p.tables e below (T2.setTop (mkF m 27 #[.val (.long q0), .second, .val (.long q1), .second, .val (.long q2), .second, .val (.long q3), .second, .val (.long q4), .second, .val (.long (q1 &&& (9223372036854775807 : Int64))), .second, .val (.ref b1), .unset, .unset] [(.ref b1)])) _
    refine st3.trans ?_
    show Steps p.tables e below (T3.setTop (mkF m 30 #[.val (.long q0), .second, .val (.long q1), .second, .val (.long q2), .second, .val (.long q3), .second, .val (.long q4), .second, .val (.long (q1 &&& (9223372036854775807 : Int64))), .second, .val (.ref b1), .unset, .unset] [(.long (own_poll (q1 &&& (9223372036854775807 : Int64))))])) _
    refine XS.lstore X3.here hx rfl (hb hby at_30) rfl (l' := #[.val (.long q0), .second, .val (.long q1), .second, .val (.long q2), .second, .val (.long q3), .second, .val (.long q4), .second, .val (.long (q1 &&& (9223372036854775807 : Int64))), .second, .val (.ref b1), .val (.long (own_poll (q1 &&& (9223372036854775807 : Int64)))), .second]) rfl ?_
    show Steps p.tables e below (T3.setTop (mkF m 32 #[.val (.long q0), .second, .val (.long q1), .second, .val (.long q2), .second, .val (.long q3), .second, .val (.long q4), .second, .val (.long (q1 &&& (9223372036854775807 : Int64))), .second, .val (.ref b1), .val (.long (own_poll (q1 &&& (9223372036854775807 : Int64)))), .second] [])) _
    refine XS.lload X3.here hx rfl (hb hby at_32) rfl ?_
    show Steps p.tables e below (T3.setTop (mkF m 34 #[.val (.long q0), .second, .val (.long q1), .second, .val (.long q2), .second, .val (.long q3), .second, .val (.long q4), .second, .val (.long (q1 &&& (9223372036854775807 : Int64))), .second, .val (.ref b1), .val (.long (own_poll (q1 &&& (9223372036854775807 : Int64)))), .second] [(.long (own_poll (q1 &&& (9223372036854775807 : Int64))))])) _
    refine XS.lload X3.here hx rfl (hb hby at_34) rfl ?_
    show Steps p.tables e below (T3.setTop (mkF m 36 #[.val (.long q0), .second, .val (.long q1), .second, .val (.long q2), .second, .val (.long q3), .second, .val (.long q4), .second, .val (.long (q1 &&& (9223372036854775807 : Int64))), .second, .val (.ref b1), .val (.long (own_poll (q1 &&& (9223372036854775807 : Int64)))), .second] [(.long (q1 &&& (9223372036854775807 : Int64))), (.long (own_poll (q1 &&& (9223372036854775807 : Int64))))])) _
    refine st4 _ ?_
    show Steps p.tables e below (T4.setTop (mkF m 39 #[.val (.long q0), .second, .val (.long q1), .second, .val (.long q2), .second, .val (.long q3), .second, .val (.long q4), .second, .val (.long (q1 &&& (9223372036854775807 : Int64))), .second, .val (.ref b1), .val (.long (own_poll (q1 &&& (9223372036854775807 : Int64)))), .second] [(.long (own_poll (q1 &&& (9223372036854775807 : Int64)))), (.long (own_poll (q1 &&& (9223372036854775807 : Int64))))])) _
    refine XS.lcmp X4.here hx rfl (hb hby at_39) rfl ?_
    show Steps p.tables e below (T4.setTop (mkF m 40 #[.val (.long q0), .second, .val (.long q1), .second, .val (.long q2), .second, .val (.long q3), .second, .val (.long q4), .second, .val (.long (q1 &&& (9223372036854775807 : Int64))), .second, .val (.ref b1), .val (.long (own_poll (q1 &&& (9223372036854775807 : Int64)))), .second] [(.int (lcmpW (own_poll (q1 &&& (9223372036854775807 : Int64))) (own_poll (q1 &&& (9223372036854775807 : Int64)))))])) _
    refine XS.ifNo X4.here hx rfl (hb hby at_40) rfl ((if0 _ _).trans (teq ((lw_eq _ _).mpr rfl)).2) ?_
    show Steps p.tables e below (T4.setTop (mkF m 43 #[.val (.long q0), .second, .val (.long q1), .second, .val (.long q2), .second, .val (.long q3), .second, .val (.long q4), .second, .val (.long (q1 &&& (9223372036854775807 : Int64))), .second, .val (.ref b1), .val (.long (own_poll (q1 &&& (9223372036854775807 : Int64)))), .second] [])) _
    refine XS.iconst X4.here hx rfl (hb hby at_43) ?_
    show Steps p.tables e below (T4.setTop (mkF m 44 #[.val (.long q0), .second, .val (.long q1), .second, .val (.long q2), .second, .val (.long q3), .second, .val (.long q4), .second, .val (.long (q1 &&& (9223372036854775807 : Int64))), .second, .val (.ref b1), .val (.long (own_poll (q1 &&& (9223372036854775807 : Int64)))), .second] [(.int (1 : Int32))])) _
    refine XS.goto X4.here hx rfl (pc0 := 44) (pc' := 48) rfl (hb hby at_44) (by decide) (by decide) ?_
    exact k)
  obtain ⟨fs, hr, hrun, hended, hW, hsame⟩ := X4.leave (v := some (.int (1 : Int32))) (fun h => by rw [Bd.returns] at h; cases h)
  refine ⟨_, _, pre5 _ ?_, hrun, hended, _, _, rfl, ?_, ⟨_, rfl⟩, hW, hsame.mono (by decide) (by decide)⟩
  · exact retN X4 hx (t := .boolean) Bd.returns (by simp) (hb hby at_48) hr
  · show Q0 Z q0 q1 q2 q3 q4 wU clU wS clS h0 n0 _ T4.heap _
    rw [hh4]
    exact ⟨rfl, N4⟩
set_option maxRecDepth 65536 in
set_option maxHeartbeats 40000000 in
theorem comes_1 {Post : Tables → Env → Array Value → State → Outcome → State → Prop} (hpost : ∀ tb e args s v u, (limb_1_1.after args s (.returned v) u = true ∧ limb_1_2.after args s (.returned v) u = true ∧ True) → FrameEnd s (.returned v) u (Jvm.fieldLocs frame_1_writes args s ++ Jvm.arrayLocs frame_1_arrays args s ++ Jvm.staticLocs frame_1_statics s) 16 128 → Post tb e args s (.returned v) u) :
    ArmFor flags0 classFile x code maxLocals ret World_1 tables_1 room_1 Calls_1 rest_1 Pre_1 Post := by
  intro l hfl _ _ p e ha hc hk s m args below hf hA hF happ hP
  obtain ⟨hcalls, hrest, hpre⟩ := hP
  obtain ⟨-, -, -, hnamed, -, -, -, hat⟩ := (Spec.applies_iff hf).mp happ
  obtain ⟨hg, hn⟩ := and_e (Cond.before_iff.mp (show (Jvm.Cond.and given_1 narrow_1).before args s = true from hpre))
  obtain ⟨g1, g2⟩ := and_e hg
  obtain ⟨g3, g4⟩ := and_e g2
  obtain ⟨g5, g6⟩ := and_e g4
  obtain ⟨g7, g8⟩ := and_e g6
  obtain ⟨g9, g10⟩ := and_e g8
  obtain ⟨w0, w1, w2, w3, w4, rfl⟩ : ∃ w0 w1 w2 w3 w4 : Value, args = #[w0, w1, w2, w3, w4] := by
    have hs : args.size = 5 := by simpa [Cond.value, given_1] using g1
    obtain ⟨L⟩ := args
    match L, hs with
    | [w0, w1, w2, w3, w4], _ => exact ⟨w0, w1, w2, w3, w4, rfl⟩
  have hw := fun d (hd : d ∈ tables_1) => atoms_spec (ws := Jvm.Cond.code x code maxLocals ret :: tables_1) hat d (List.mem_cons_of_mem _ hd)
  have hfit : Fit s := fun {y c} hc i hi => by
    obtain ⟨ha, rfl⟩ := Array.getElem?_eq_some_iff.mp hc
    have q := List.all_eq_true.mp ((Array.all_eq_true_iff_forall_mem.mp hF) _ (Array.getElem_mem ha)) i (List.mem_range.mpr hi)
    simpa [Array.getElem?_eq_getElem hi] using q
  obtain ⟨i0, ei0⟩ := isL_v g3
  obtain rfl : w0 = (.long i0) := Option.some.inj ei0
  obtain ⟨i1, ei1⟩ := isL_v g5
  obtain rfl : w1 = (.long i1) := Option.some.inj ei1
  obtain ⟨i2, ei2⟩ := isL_v g7
  obtain rfl : w2 = (.long i2) := Option.some.inj ei2
  obtain ⟨i3, ei3⟩ := isL_v g9
  obtain rfl : w3 = (.long i3) := Option.some.inj ei3
  obtain ⟨i4, ei4⟩ := isL_v g10
  obtain rfl : w4 = (.long i4) := Option.some.inj ei4
  obtain ⟨m1a, m1b⟩ := and_e hn
  obtain ⟨m2a, m2b⟩ := and_e m1b
  obtain ⟨m3a, m3b⟩ := and_e m2b
  obtain ⟨m4a, m4b⟩ := and_e m3b
  obtain ⟨m5a, m5b⟩ := and_e m4b
  obtain ⟨m6a, m6b⟩ := and_e m5b
  obtain ⟨m7a, m7b⟩ := and_e m6b
  obtain ⟨m8a, m8b⟩ := and_e m7b
  obtain ⟨m9a, m9b⟩ := and_e m8b
  obtain ⟨m10a, m10b⟩ := and_e m9b
  obtain ⟨m11a, m11b⟩ := and_e m10b
  obtain ⟨wU, evU⟩ := arr_v m1a
  obtain ⟨clU, ArU⟩ := Arr.start evU m1a
  have S_U := Sta.start evU (Or.inr ⟨(hw _ (List.mem_of_getElem? (i := 3) rfl)), (hw _ (List.mem_of_getElem? (i := 36) rfl))⟩)
  have SzU : clU.slots.size = (4 : Int32).toNatClampNeg := own_len evU (ArU.fin (Vm.Alike.refl _)) (eqv_i (Term.int_eval 4) m2a)
  have eU0 : clU.slots[(0 : Int32).toNatClampNeg]? = some (.long (1000 : Int64)) := (elem_in (eqv_l (F := .long (1000 : Int64)) rfl m3a) evU (Term.int_eval 0) ArU.1).2
  have eU1 : clU.slots[(1 : Int32).toNatClampNeg]? = some (.long (5000 : Int64)) := (elem_in (eqv_l (F := .long (5000 : Int64)) rfl m7a) evU (Term.int_eval 1) ArU.1).2
  have eU2 : clU.slots[(2 : Int32).toNatClampNeg]? = some (.long (10000 : Int64)) := (elem_in (eqv_l (F := .long (10000 : Int64)) rfl m8a) evU (Term.int_eval 2) ArU.1).2
  have eU3 : clU.slots[(3 : Int32).toNatClampNeg]? = some (.long (100000 : Int64)) := (elem_in (eqv_l (F := .long (100000 : Int64)) rfl m9a) evU (Term.int_eval 3) ArU.1).2
  obtain ⟨wS, evS⟩ := arr_v m4a
  obtain ⟨clS, ArS⟩ := Arr.start evS m4a
  have S_S := Sta.start evS (Or.inr ⟨(hw _ (List.mem_of_getElem? (i := 3) rfl)), (hw _ (List.mem_of_getElem? (i := 38) rfl))⟩)
  have SzS : clS.slots.size = (4 : Int32).toNatClampNeg := own_len evS (ArS.fin (Vm.Alike.refl _)) (eqv_i (Term.int_eval 4) m5a)
  have eS0 : clS.slots[(0 : Int32).toNatClampNeg]? = some (.long (1 : Int64)) := (elem_in (eqv_l (F := .long (1 : Int64)) rfl m6a) evS (Term.int_eval 0) ArS.1).2
  have eS1 : clS.slots[(1 : Int32).toNatClampNeg]? = some (.long (5 : Int64)) := (elem_in (eqv_l (F := .long (5 : Int64)) rfl m11a) evS (Term.int_eval 1) ArS.1).2
  have eS2 : clS.slots[(2 : Int32).toNatClampNeg]? = some (.long (10 : Int64)) := (elem_in (eqv_l (F := .long (10 : Int64)) rfl m11b) evS (Term.int_eval 2) ArS.1).2
  have eS3 : clS.slots[(3 : Int32).toNatClampNeg]? = some (.long (30 : Int64)) := (elem_in (eqv_l (F := .long (30 : Int64)) rfl m10a) evS (Term.int_eval 3) ArS.1).2
  obtain ⟨n, o, h1, h2, h3, _, L, rfl, ⟨rfl, N⟩, hq⟩ := rm0 l s _ hw tables_1 i0 i1 i2 i3 i4 wU clU wS clS s.heap s.heap.size (Nat.le_refl _) (Old.start s) S_U ArU SzU eU0 eU1 eU2 eU3 S_S ArS SzS eS0 eS1 eS2 eS3 p e ha hc hk s m _ below hf ((Spec.applies_iff_loose hf).mp happ).1 ⟨rfl, State.Warmed39.refl s, rfl⟩ trivial
  refine ⟨n, _, h1, h2, h3, hpost _ _ _ _ _ _ ⟨Cond.after_iff.mpr rfl, Cond.after_iff.mpr (eq_i res_at (Term.int_eval (1)) rfl), trivial⟩ ⟨hq.1, hq.2.1, (hq.2.2.sift fun y hy => Or.inr (N y hy)).mono (by decide) (by decide)⟩⟩
theorem main_1_1 : Claimed_1_1 := comes_1 fun _ _ _ _ _ _ h hF => ⟨h.1, hF⟩
theorem main_1_2 : Claimed_1_2 := comes_1 fun _ _ _ _ _ _ h hF => ⟨h.2.1, hF⟩
end Jvm.Pilot.@@N@@
namespace Jvm.Pilot.@@N@@
open Jvm Jvm.ClassFile Sem Op Lib Jvm.Free Jvm.Stand Jvm.Pilot.@@N@@.Jvm.D
/-! MADE BY PROGRAM (witnessworld.py) out of the Statement's table words and the real class files: 12 classes; the members and pool entries that the words name. The judged class is class 1, her method 1. -/
namespace start1
open Jvm.ClassFile
def u (s : String) : CpInfo := .utf8 (stringToUtf16 s)
/-- a pool by its gaps: so many unusable entries, then the entry; so many at the end -/
def gap : Nat → List CpInfo → List CpInfo
  | 0, r => r
  | n + 1, r => .unusable :: gap n r
def poolList (es : List (Nat × CpInfo)) (last : Nat) : List CpInfo := es.foldr (fun e r => gap e.1 (e.2 :: r)) (gap last [])
def pool (es : List (Nat × CpInfo)) (last : Nat) : Array CpInfo := ⟨poolList es last⟩
def fileOf (pool : Array CpInfo) (this : Nat) (attrs : Array Attribute := #[]) (ms : Array MethodInfo := #[]) (fl : Nat := 33) (sup : Nat := 0) (ifs : Array Nat := #[]) (fds : Array FieldInfo := #[]) : ClassFile where
  minorVersion := 0
  majorVersion := 65
  constantPool := pool
  accessFlags := fl
  thisClass := this
  superClass := sup
  interfaces := ifs
  fields := fds
  methods := ms
  attributes := attrs
def plain (name : String) (sup : Option ClassId) : Class where
  name := name
  kind := .ordinary
  loader := none
  accessFlags := 33
  super := sup
  interfaces := #[]
  cf := none
  fields := #[]
  methods := #[]
  instanceTypes := #[]
  staticTypes := #[]
  resolved := #[]
  callSites := []
  init := .initialized
  statics := none
  mirror := none

def pool0 : Array CpInfo := pool [(5, u "<init>"), (0, u "()V"), (1, .class_ 10), (1, u "java/lang/Object")] 113

def k0c0 : Code := { maxStack := 0, maxLocals := 1, code := object_method_1_code, exceptionTable := #[], attributes := #[] }
def k0m0 : Method := { name := "<init>", desc := "()V", sig := { parameters := [], returnType := none }, accessFlags := 1, code := some k0c0 }
/-- java/lang/Object -/
def k0 : Class := { plain "java/lang/Object" none with
  accessFlags := 33
  interfaces := #[]
  cf := some (fileOf pool0 8 #[] #[{ accessFlags := 1, nameIndex := 5, descriptorIndex := 6, attributes := #[] }] 33 0 #[] #[])
  fields := #[]
  methods := #[k0m0]
  instanceTypes := #[]
  staticTypes := #[]
  resolved := Array.replicate 124 none
  statics := none }

def pool1 : Array CpInfo := pool [(2, .class_ 4), (1, u "java/lang/Object"), (0, u "<init>"), (0, u "()V"), (2, .long 9223372036854775807), (1, .class_ 12), (0, u "com/example/anteroom/anteroom/Place"), (0, .methodref 11 14), (0, .nameAndType 5 15), (0, u "(JJJJJ)V"), (0, .methodref 11 17), (0, .nameAndType 18 19), (0, u "nextPollSeconds"), (0, u "()J"), (0, .methodref 21 22), (0, .class_ 23), (0, .nameAndType 24 25), (0, u "com/example/anteroom/anteroom/PlaceNextPollSecondsPinLaw"), (0, u "expected"), (0, u "(J)J"), (0, .long 1000), (1, .long 5000), (1, .long 5), (1, .long 10000), (1, .long 10), (1, .long 100000), (1, .long 30), (1, .long 60), (3, u "law"), (0, u "(JJJJJ)Z")] 3

def k1m0 : Method := { name := "<init>", desc := "()V", sig := { parameters := [], returnType := none }, accessFlags := 1, code := none }
def k1c1 : Code := { maxStack := 12, maxLocals := 15, code := code, exceptionTable := #[], attributes := #[] }
def k1m1 : Method := { name := "law", desc := "(JJJJJ)Z", sig := { parameters := [.long, .long, .long, .long, .long], returnType := some .boolean }, accessFlags := 9, code := some k1c1 }
def k1c2 : Code := { maxStack := 4, maxLocals := 2, code := method_3_code, exceptionTable := #[], attributes := #[] }
def k1m2 : Method := { name := "expected", desc := "(J)J", sig := { parameters := [.long], returnType := some .long }, accessFlags := 10, code := some k1c2 }
/-- com/example/anteroom/anteroom/PlaceNextPollSecondsPinLaw -/
def k1 : Class := { plain "com/example/anteroom/anteroom/PlaceNextPollSecondsPinLaw" (some 0) with
  accessFlags := 49
  interfaces := #[]
  cf := some (fileOf pool1 21 #[] #[{ accessFlags := 1, nameIndex := 5, descriptorIndex := 6, attributes := #[] }, { accessFlags := 9, nameIndex := 44, descriptorIndex := 45, attributes := #[] }, { accessFlags := 10, nameIndex := 24, descriptorIndex := 25, attributes := #[] }] 49 2 #[] #[])
  fields := #[]
  methods := #[k1m0, k1m1, k1m2]
  instanceTypes := #[]
  staticTypes := #[]
  resolved := Array.replicate 49 none
  statics := none }

def pool2 : Array CpInfo := pool [(1, .methodref 2 3), (0, .class_ 4), (0, .nameAndType 5 6), (0, u "java/lang/Object"), (0, u "<init>"), (0, u "()V"), (0, .class_ 8), (0, u "java/lang/Record")] 13

def k2c0 : Code := { maxStack := 1, maxLocals := 1, code := jdk_30_method_1_code, exceptionTable := #[], attributes := #[] }
def k2m0 : Method := { name := "<init>", desc := "()V", sig := { parameters := [], returnType := none }, accessFlags := 4, code := some k2c0 }
/-- java/lang/Record -/
def k2 : Class := { plain "java/lang/Record" (some 0) with
  accessFlags := 1057
  interfaces := #[]
  cf := some (fileOf pool2 7 #[] #[{ accessFlags := 4, nameIndex := 5, descriptorIndex := 6, attributes := #[] }] 1057 2 #[] #[])
  fields := #[]
  methods := #[k2m0]
  instanceTypes := #[]
  staticTypes := #[]
  resolved := Array.replicate 22 none
  statics := none }

def pool3 : Array CpInfo := pool [(1, .methodref 2 3), (0, .class_ 4), (0, .nameAndType 5 6), (0, u "java/lang/Record"), (0, u "<init>"), (0, u "()V"), (0, .fieldref 8 9), (0, .class_ 10), (0, .nameAndType 11 12), (0, u "com/example/anteroom/anteroom/Place"), (0, u "ticket"), (0, u "J"), (0, .fieldref 8 14), (0, .nameAndType 15 12), (0, u "position"), (0, .fieldref 8 17), (0, .nameAndType 18 12), (0, u "secondsToOpening"), (0, .fieldref 8 20), (0, .nameAndType 21 12), (0, u "issuedAt"), (0, .fieldref 8 23), (0, .nameAndType 24 12), (0, u "expiresAt"), (2, u "(JJJJJ)V"), (0, .methodref 8 29), (0, .nameAndType 30 31), (0, u "isAdmitted"), (0, u "()Z"), (17, .fieldref 8 50), (0, .nameAndType 51 52), (0, u "POLL_UP_TO"), (0, u "[J"), (0, .fieldref 8 54), (0, .nameAndType 55 52), (0, u "POLL_SECONDS"), (0, .long 60), (27, u "FAR_POLL_SECONDS"), (9, u "()J"), (4, u "nextPollSeconds")] 28

def k3c0 : Code := { maxStack := 3, maxLocals := 11, code := prog_7_method_1_code, exceptionTable := #[], attributes := #[] }
def k3m0 : Method := { name := "<init>", desc := "(JJJJJ)V", sig := { parameters := [.long, .long, .long, .long, .long], returnType := none }, accessFlags := 1, code := some k3c0 }
def k3c1 : Code := { maxStack := 4, maxLocals := 1, code := prog_7_method_4_code, exceptionTable := #[], attributes := #[] }
def k3m1 : Method := { name := "isAdmitted", desc := "()Z", sig := { parameters := [], returnType := some .boolean }, accessFlags := 1, code := some k3c1 }
def k3c2 : Code := { maxStack := 4, maxLocals := 2, code := prog_7_method_8_code, exceptionTable := #[], attributes := #[] }
def k3m2 : Method := { name := "nextPollSeconds", desc := "()J", sig := { parameters := [], returnType := some .long }, accessFlags := 1, code := some k3c2 }
/-- com/example/anteroom/anteroom/Place -/
def k3 : Class := { plain "com/example/anteroom/anteroom/Place" (some 2) with
  accessFlags := 49
  interfaces := #[]
  cf := some (fileOf pool3 8 #[] #[{ accessFlags := 1, nameIndex := 5, descriptorIndex := 27, attributes := #[] }, { accessFlags := 1, nameIndex := 30, descriptorIndex := 31, attributes := #[] }, { accessFlags := 1, nameIndex := 99, descriptorIndex := 94, attributes := #[] }] 49 2 #[] #[{ accessFlags := 18, nameIndex := 11, descriptorIndex := 12, attributes := #[] }, { accessFlags := 18, nameIndex := 15, descriptorIndex := 12, attributes := #[] }, { accessFlags := 18, nameIndex := 18, descriptorIndex := 12, attributes := #[] }, { accessFlags := 18, nameIndex := 21, descriptorIndex := 12, attributes := #[] }, { accessFlags := 18, nameIndex := 24, descriptorIndex := 12, attributes := #[] }, { accessFlags := 26, nameIndex := 51, descriptorIndex := 52, attributes := #[] }, { accessFlags := 26, nameIndex := 55, descriptorIndex := 52, attributes := #[] }, { accessFlags := 26, nameIndex := 84, descriptorIndex := 12, attributes := #[] }])
  fields := #[{ name := "ticket", type := .long, accessFlags := 18, slot := 0, constantValue := 0 }, { name := "position", type := .long, accessFlags := 18, slot := 1, constantValue := 0 }, { name := "secondsToOpening", type := .long, accessFlags := 18, slot := 2, constantValue := 0 }, { name := "issuedAt", type := .long, accessFlags := 18, slot := 3, constantValue := 0 }, { name := "expiresAt", type := .long, accessFlags := 18, slot := 4, constantValue := 0 }, { name := "POLL_UP_TO", type := (.array .long), accessFlags := 26, slot := 0, constantValue := 0 }, { name := "POLL_SECONDS", type := (.array .long), accessFlags := 26, slot := 1, constantValue := 0 }, { name := "FAR_POLL_SECONDS", type := .long, accessFlags := 26, slot := 2, constantValue := 0 }]
  methods := #[k3m0, k3m1, k3m2]
  instanceTypes := #[.long, .long, .long, .long, .long]
  staticTypes := #[(.array .long), (.array .long), .long]
  resolved := Array.replicate 128 none
  statics := some 0 }

def pool4 : Array CpInfo := pool [(1, u "java/lang/Cloneable"), (0, .class_ 1), (0, u "java/lang/Object"), (0, .class_ 3)] 3

/-- java/lang/Cloneable -/
def k4 : Class := { plain "java/lang/Cloneable" (some 0) with
  accessFlags := 1537
  interfaces := #[]
  cf := some (fileOf pool4 2 #[] #[] 1537 4 #[] #[])
  fields := #[]
  methods := #[]
  instanceTypes := #[]
  staticTypes := #[]
  resolved := Array.replicate 8 none
  statics := none }

def pool5 : Array CpInfo := pool [(1, u "java/io/Serializable"), (0, .class_ 1), (0, u "java/lang/Object"), (0, .class_ 3)] 3

/-- java/io/Serializable -/
def k5 : Class := { plain "java/io/Serializable" (some 0) with
  accessFlags := 1537
  interfaces := #[]
  cf := some (fileOf pool5 2 #[] #[] 1537 4 #[] #[])
  fields := #[]
  methods := #[]
  instanceTypes := #[]
  staticTypes := #[]
  resolved := Array.replicate 8 none
  statics := none }

/-- the primitive byte -/
def k6 : Class := { plain "byte" none with kind := .primitive 'B', accessFlags := 0x411 }
/-- [B -/
def k7 : Class := { plain "[B" (some 0) with kind := .array 6 .byte, interfaces := #[4, 5], accessFlags := 1041 }

/-- the primitive int -/
def k8 : Class := { plain "int" none with kind := .primitive 'I', accessFlags := 0x411 }
/-- [I -/
def k9 : Class := { plain "[I" (some 0) with kind := .array 8 .int, interfaces := #[4, 5], accessFlags := 1041 }

/-- the primitive long -/
def k10 : Class := { plain "long" none with kind := .primitive 'J', accessFlags := 0x411 }
/-- [J -/
def k11 : Class := { plain "[J" (some 0) with kind := .array 10 .long, interfaces := #[4, 5], accessFlags := 1041 }

def heap : Heap := #[{ cls := 3, slots := #[.ref 1, .ref 2, .long 0], vm := .statics 3 },
  { cls := 11, slots := #[.long 1000, .long 5000, .long 10000, .long 100000], vm := .none },
  { cls := 11, slots := #[.long 1, .long 5, .long 10, .long 30], vm := .none }]
def classes : Array Class := #[k0, k1, k2, k3, k4, k5, k6, k7, k8, k9, k10, k11]
def interned : List (Array UInt16 × Addr) := []
def slotsUsed : Nat := 11
def theMethod : MethodId := ⟨1, 1⟩
def args0 : Array Value := #[.long 5, .long 3, .long 4, .long 2, .long 8]
def aboutOver (below : List Frame) : State where
  vm := { classes := classes, interned := interned.toArray }
  heap := heap
  slotsUsed := slotsUsed
  threads := #[{ frames := .invoking theMethod args0 :: below }]
def below0 : List Frame := [.native { method := ⟨0, 0⟩, args := #[] }]
def about1 : State := aboutOver below0
def p0 : Program := .bare "" "" ""
def e0 : Env := launch0.env 0 0 0
theorem w_frames : about1.frames = Frame.invoking theMethod args0 :: below0 := rfl
set_option maxRecDepth 65536 in
theorem w_args : argsFit about1.vm theMethod args0 = true := by decide +kernel
set_option maxRecDepth 65536 in
theorem w_heap : heapFits about1 = true := by decide +kernel
set_option maxRecDepth 65536 in
theorem w_runnable : about1.curStatus? = some .runnable := by decide +kernel
set_option maxRecDepth 65536 in
theorem w_alone : about1.alone = true := by decide +kernel
set_option maxRecDepth 65536 in
theorem w_named : about1.methodNamed? x = some theMethod := by decide +kernel
set_option maxRecDepth 65536 in
theorem w_hears : about1.hears theMethod below0 = true := by decide +kernel
set_option maxRecDepth 65536 in
theorem w_ripe : about1.ripe theMethod args0 below0 = true := by decide +kernel
theorem w_running : about1.status = .running := rfl
set_option maxRecDepth 65536 in
theorem w_room : about1.hasRoom e0.platform room_1 = true :=
  launch0.hasRoom_least _ room_1 (by decide +kernel) (by decide +kernel) (by decide +kernel) (by decide +kernel) (by decide +kernel) (by decide +kernel)
theorem allAtoms_all (ts : List Jvm.Cond) (a : Array Jvm.Value) (st : Jvm.State) : (allAtoms ts).before a st = ts.all (fun c => c.before a st) := by
  induction ts with
  | nil => rfl
  | cons c t ih =>
    show (Jvm.Cond.and c (allAtoms t)).before a st = _
    rw [Jvm.Cond.before_and, ih, List.all_cons]
def words1 : List Jvm.Cond := Jvm.Cond.code x code maxLocals ret :: tables_1
/-- a 'code' word, met by the world's own term for the bytes: nothing is compared byte by byte -/
theorem code_word {y : MethodName} {bytes : ByteArray} {mx : Nat} {rt : Option FieldType} {a : Array Value} {s : State} {m : MethodId} {meth : Method} {c : Code} (h1 : s.methodNamed? y = some m) (h2 : s.vm.method? m = some meth) (h3 : meth.code = some c) (h4 : c.code = bytes)
    (h5 : (c.maxLocals == mx && c.exceptionTable.isEmpty && decide (c.maxStack ≤ mostOperands) && decide (meth.sig.returnType = rt) && !meth.locks && decide (parseMethodDescriptor y.desc = some meth.sig)) = true) : (Jvm.Cond.code y bytes mx rt).before a s = true := by
  simp only [Bool.and_eq_true, beq_iff_eq, Bool.not_eq_true', decide_eq_true_eq] at h5
  obtain ⟨⟨⟨⟨⟨g1, g2⟩, g3⟩, g4⟩, g5⟩, g6⟩ := h5
  simp [Cond.before, Cond.holds, Cond.value, h1, h2, h3, h4, g1, g2, g3, g4, g5, g6]
def isCode : Jvm.Cond → Bool
  | .code _ _ _ _ => true
  | _ => false
theorem all_split {L : List Jvm.Cond} {P : Jvm.Cond → Bool} (h1 : L.all (fun c => isCode c || P c) = true) (h2 : ∀ c ∈ L.filter isCode, P c = true) : L.all P = true := by
  refine List.all_eq_true.mpr fun c hc => ?_
  have h := List.all_eq_true.mp h1 c hc
  rcases Bool.eq_false_or_eq_true (isCode c) with hi | hi
  · exact h2 c (List.mem_filter.mpr ⟨hc, hi⟩)
  · simpa [hi] using h
set_option maxRecDepth 65536 in
theorem w_c0 : (Jvm.Cond.code x code maxLocals ret).before args0 about1 = true := code_word (m := ⟨1, 1⟩) (meth := k1m1) (c := k1c1) (by decide +kernel) rfl rfl rfl (by decide +kernel)
set_option maxRecDepth 65536 in
theorem w_c1 : (Jvm.Cond.code ({ cls := "com/example/anteroom/anteroom/Place", name := "<init>", desc := "(JJJJJ)V" } : Jvm.MethodName) prog_7_method_1_code (11 : Nat) (Option.none : Option Jvm.ClassFile.FieldType)).before args0 about1 = true := code_word (m := ⟨3, 0⟩) (meth := k3m0) (c := k3c0) (by decide +kernel) rfl rfl rfl (by decide +kernel)
set_option maxRecDepth 65536 in
theorem w_c2 : (Jvm.Cond.code ({ cls := "java/lang/Record", name := "<init>", desc := "()V" } : Jvm.MethodName) jdk_30_method_1_code (1 : Nat) (Option.none : Option Jvm.ClassFile.FieldType)).before args0 about1 = true := code_word (m := ⟨2, 0⟩) (meth := k2m0) (c := k2c0) (by decide +kernel) rfl rfl rfl (by decide +kernel)
set_option maxRecDepth 65536 in
theorem w_c3 : (Jvm.Cond.code ({ cls := "java/lang/Object", name := "<init>", desc := "()V" } : Jvm.MethodName) object_method_1_code (1 : Nat) (Option.none : Option Jvm.ClassFile.FieldType)).before args0 about1 = true := code_word (m := ⟨0, 0⟩) (meth := k0m0) (c := k0c0) (by decide +kernel) rfl rfl rfl (by decide +kernel)
set_option maxRecDepth 65536 in
theorem w_c4 : (Jvm.Cond.code ({ cls := "com/example/anteroom/anteroom/Place", name := "nextPollSeconds", desc := "()J" } : Jvm.MethodName) prog_7_method_8_code (2 : Nat) (Option.some Jvm.ClassFile.FieldType.long)).before args0 about1 = true := code_word (m := ⟨3, 2⟩) (meth := k3m2) (c := k3c2) (by decide +kernel) rfl rfl rfl (by decide +kernel)
set_option maxRecDepth 65536 in
theorem w_c5 : (Jvm.Cond.code ({ cls := "com/example/anteroom/anteroom/Place", name := "isAdmitted", desc := "()Z" } : Jvm.MethodName) prog_7_method_4_code (1 : Nat) (Option.some Jvm.ClassFile.FieldType.boolean)).before args0 about1 = true := code_word (m := ⟨3, 1⟩) (meth := k3m1) (c := k3c1) (by decide +kernel) rfl rfl rfl (by decide +kernel)
set_option maxRecDepth 65536 in
theorem w_c6 : (Jvm.Cond.code ({ cls := "com/example/anteroom/anteroom/PlaceNextPollSecondsPinLaw", name := "expected", desc := "(J)J" } : Jvm.MethodName) method_3_code (2 : Nat) (Option.some Jvm.ClassFile.FieldType.long)).before args0 about1 = true := code_word (m := ⟨1, 2⟩) (meth := k1m2) (c := k1c2) (by decide +kernel) rfl rfl rfl (by decide +kernel)
def codes1 : List Jvm.Cond := [Jvm.Cond.code x code maxLocals ret, Jvm.Cond.code ({ cls := "com/example/anteroom/anteroom/Place", name := "<init>", desc := "(JJJJJ)V" } : Jvm.MethodName) prog_7_method_1_code (11 : Nat) (Option.none : Option Jvm.ClassFile.FieldType), Jvm.Cond.code ({ cls := "java/lang/Record", name := "<init>", desc := "()V" } : Jvm.MethodName) jdk_30_method_1_code (1 : Nat) (Option.none : Option Jvm.ClassFile.FieldType), Jvm.Cond.code ({ cls := "java/lang/Object", name := "<init>", desc := "()V" } : Jvm.MethodName) object_method_1_code (1 : Nat) (Option.none : Option Jvm.ClassFile.FieldType), Jvm.Cond.code ({ cls := "com/example/anteroom/anteroom/Place", name := "nextPollSeconds", desc := "()J" } : Jvm.MethodName) prog_7_method_8_code (2 : Nat) (Option.some Jvm.ClassFile.FieldType.long), Jvm.Cond.code ({ cls := "com/example/anteroom/anteroom/Place", name := "isAdmitted", desc := "()Z" } : Jvm.MethodName) prog_7_method_4_code (1 : Nat) (Option.some Jvm.ClassFile.FieldType.boolean), Jvm.Cond.code ({ cls := "com/example/anteroom/anteroom/PlaceNextPollSecondsPinLaw", name := "expected", desc := "(J)J" } : Jvm.MethodName) method_3_code (2 : Nat) (Option.some Jvm.ClassFile.FieldType.long)]
set_option maxRecDepth 65536 in
theorem codes_eq : words1.filter isCode = codes1 := rfl
theorem w_codes : ∀ c ∈ words1.filter isCode, c.before args0 about1 = true := by
  rw [codes_eq]
  intro c hc
  simp only [codes1, List.mem_cons, List.not_mem_nil, or_false] at hc
  rcases hc with rfl | rfl | rfl | rfl | rfl | rfl | rfl
  · exact w_c0
  · exact w_c1
  · exact w_c2
  · exact w_c3
  · exact w_c4
  · exact w_c5
  · exact w_c6
set_option maxRecDepth 65536 in
theorem w_t1 : (words1.take 24).all (fun c => isCode c || c.before args0 about1) = true := by decide +kernel
set_option maxRecDepth 65536 in
theorem w_t2 : ((words1.drop 24).take 24).all (fun c => isCode c || c.before args0 about1) = true := by decide +kernel
set_option maxRecDepth 65536 in
theorem w_t3 : ((words1.drop 24).drop 24).all (fun c => isCode c || c.before args0 about1) = true := by decide +kernel
theorem w_tables : (allAtoms (Jvm.Cond.code x code maxLocals ret :: tables_1)).before args0 about1 = true := by
  rw [allAtoms_all]
  show words1.all (fun c => c.before args0 about1) = true
  refine all_split ?_ w_codes
  rw [← List.take_append_drop 24 words1, List.all_append, w_t1, ← List.take_append_drop 24 (words1.drop 24), List.all_append, w_t2, w_t3]
  rfl
set_option maxRecDepth 65536 in
theorem w_case : (Jvm.Cond.and given_1 narrow_1).before args0 about1 = true := by decide +kernel
theorem w_applies : (headSpec (Jvm.Cond.code x code maxLocals ret :: tables_1) room_1).applies x e0.platform about1 = true :=
  (Spec.applies_iff w_frames).mpr ⟨w_running, w_runnable, w_alone, w_named, w_hears, w_ripe, w_room, w_tables⟩
theorem atStart : AtStart classFile x code maxLocals ret World_1 tables_1 room_1 Calls_1 rest_1 Pre_1 launch0 p0 e0 about1 theMethod args0 below0 :=
  ⟨lists_1, trivial, launch0.admits_env _ _ _, launch0.least_env, fairChoices_fair.cas, fairChoices_fair.clock, w_frames, w_args, w_heap, w_applies, trivial, trivial, w_case⟩
end start1
theorem witness_1 : WitnessClaimed_1 := ⟨start1.p0, start1.e0, start1.about1, start1.theMethod, start1.args0, start1.below0, start1.atStart⟩
end Jvm.Pilot.@@N@@
