import JvmDerived
import JvmDerived.Pilot.@@N@@Statement
import JvmDerived.Pilot.@@N@@Code
set_option linter.unusedVariables false
set_option linter.unusedSimpArgs false
namespace Jvm.RoadKit
open Sem ClassFile Op Lib Jvm.Stand Jvm.Free Jvm.LawKit
section New
variable {p : Program} {l : Launch} {e : Env} {R : Room} {s : State} {m : MethodId} {args : Array Value} {below : List Frame} {meth : Method} {c : Code} {T : State} {locs : List Loc} {cells slots : Nat}
theorem retI (X : Stand p l e R s m args below meth c T locs cells slots) (hx : p.tables.exec = Jvm.exec) {pc : Nat} {Ls : Array Slot} {z : Int32} {rest : List Value} (hret : meth.sig.returnType = some .int) (hd : decode c.code pc = .ok (.ireturn, 1)) {fs : List Frame}
    (hl : ∀ (f : JFrame) (acts : List Action), f.method = m → f.locked = none → f.entered = [] → (doReturn e (T.setTop f) acts (some (.int z))).1 = T.setFrames fs) : Steps p.tables e below (T.setTop (mkF m pc Ls (.int z :: rest))) (T.setFrames fs) := by
  have hm' : T.vm.method? m = some meth := X.method'
  have hn : narrow .int (.int z) = .int z := rfl
  show Steps p.tables e below (T.setTop { method := m, pc := pc, locals := Ls, stack := _ :: rest, locked := none }) _
  jvm_step X.here [X.here.top, hx, hd, hm', hret, hn]
  first | (intro acts; rw [hl _ acts rfl rfl rfl]) | rw [hl _ _ rfl rfl rfl]
  exact Steps.refl _
theorem own_lrem {g : JFrame} {target : State} (X : Stand p l e R s m args below meth c T locs cells slots) (hx : p.tables.exec = Jvm.exec) (hg : g.method = m) {x y : Int64} {rest : List Value} (hd : decode c.code g.pc = .ok (.lrem, 1)) (hs : g.stack = .long y :: .long x :: rest) (hy : y ≠ 0)
    (hr : Steps p.tables e below (T.setTop { g with pc := g.pc + 1, stack := .long (x % y) :: rest }) target) : Steps p.tables e below (T.setTop g) target := by
  have q : x - (x / y) * y = x % y := lrem_mod x y
  exact XS.lrem X.here hx hg hd hs hy (by rw [q]; exact hr)
theorem own_b1 {P : Prop} [Decidable P] (h : P) : ¬ ((if P then (1 : Int32) else 0) = 0) := by rw [if_pos h]; decide
theorem own_b0 {P : Prop} [Decidable P] (h : ¬ P) : (if P then (1 : Int32) else 0) = 0 := if_neg h
theorem own_c1 {P : Prop} [Decidable P] (h : P) : (if P then (1 : Int32) else 0) = 1 := if_pos h
theorem own_c0 {P : Prop} [Decidable P] (h : ¬ P) : ¬ ((if P then (1 : Int32) else 0) = 1) := by rw [if_neg h]; decide
theorem own_bb {P Q : Prop} [Decidable P] [Decidable Q] (h : P ↔ Q) : (if P then (1 : Int32) else 0) = (if Q then (1 : Int32) else 0) := by
  by_cases p : P
  · rw [if_pos p, if_pos (h.mp p)]
  · rw [if_neg p, if_neg (fun q => p (h.mpr q))]
theorem own_bn {P Q : Prop} [Decidable P] [Decidable Q] (h : ¬ (P ↔ Q)) : ¬ ((if P then (1 : Int32) else 0) = (if Q then (1 : Int32) else 0)) := fun e => h (by
  by_cases p : P <;> by_cases q : Q
  · exact ⟨fun _ => q, fun _ => p⟩
  · rw [if_pos p, if_neg q] at e; exact absurd e (by decide)
  · rw [if_neg p, if_pos q] at e; exact absurd e (by decide)
  · exact ⟨fun a => absurd a p, fun a => absurd a q⟩)
theorem own_t {P : Prop} [Decidable P] (h : P) : some (Value.int 1) = some (Value.int (if P then (1 : Int32) else 0)) := by rw [if_pos h]
theorem own_f {P : Prop} [Decidable P] (h : ¬ P) : some (Value.int 0) = some (Value.int (if P then (1 : Int32) else 0)) := by rw [if_neg h]
end New
end Jvm.RoadKit
namespace Jvm.Pilot.@@N@@
open Jvm Jvm.ClassFile Sem Op Lib Jvm.Free Jvm.Stand Jvm.LawKit Jvm.RoadKit Bundle Jvm.Pilot.@@N@@.Jvm.D
theorem own_nn (p m : Int32) (h : 0 ≤ m.toInt) : ¬ (p &&& m) < 0 := by
  have q := (c_and p m h).1
  simp only [Int32.lt_iff_toInt_lt, Int32.reduceToInt]; omega
theorem own_len {args : Array Value} {s : State} {t : Term} {a : Addr} {cl : Cell} {n : Int32} (ev : t.eval args s none [] s = some (.ref a)) (af : s.arrayAt? a = some cl) (h : (Term.length t).eval args s none [] s = some (.int n)) : cl.slots.size < 2 ^ 31 ∧ cl.slots.size.toInt32 = n := by
  by_cases q : cl.slots.size < 2 ^ 31
  · refine ⟨q, ?_⟩
    have e := (len_f ev af q).symm.trans h
    simpa using e
  · simp [Term.eval, ev, af] at h
    omega
theorem own_or3 {A B C : Prop} [Decidable A] [Decidable B] [Decidable C] {args : Array Value} {first s : State} {o : Option Outcome} {idx : List Nat} {c d e : Jvm.Cond} (h1 : c.value args first o s idx = some (decide A)) (h2 : d.value args first o s idx = some (decide B)) (h3 : e.value args first o s idx = some (decide C)) (h : (Jvm.Cond.or c (.or d e)).value args first o s idx = some true) : A ∨ B ∨ C := by
  by_cases a : A
  · exact Or.inl a
  · by_cases b : B
    · exact Or.inr (Or.inl b)
    · by_cases cc : C
      · exact Or.inr (Or.inr cc)
      · simp [Cond.value, h1, h2, h3, a, b, cc] at h
theorem own_sub {args : Array Value} {s : State} {a b : Term} {x y : Int32} {idx : List Nat} (ha : a.eval args s none idx s = some (.int x)) (hb : b.eval args s none idx s = some (.int y)) : (Term.sub a b).eval args s none idx s = some (.int (x - y)) := by simp [Term.eval, ha, hb]
theorem own_tab (j x : Int32) (h1 : ¬ j < 0) (h2 : j < (128 : Int32)) (a1 : (33 : Int32) ≤ j ∨ x = -1) (a2 : j < 33 ∨ (91 : Int32) ≤ j ∨ x = j - 33) (a3 : j < 91 ∨ (95 : Int32) ≤ j ∨ x = -1) (a4 : j < 97 ∨ (123 : Int32) ≤ j ∨ x = j - 38) (a5 : j < 123 ∨ x = -1) (e95 : j = 95 → x = 58) (e96 : j = 96 → x = -1) : ¬ x < 0 ↔ ((33 : Int32) ≤ j ∧ j ≤ (122 : Int32) ∧ ¬ ((91 : Int32) ≤ j ∧ j ≤ (94 : Int32)) ∧ ¬ j = (96 : Int32)) := by
  have s1 := c_isub j 33
  have s2 := c_isub j 38
  have r1 := rng32 (j - 33)
  have r2 := rng32 (j - 38)
  simp only [Int32.lt_iff_toInt_lt, Int32.le_iff_toInt_le, ← Int32.toInt_inj, Int32.reduceToInt] at *
  omega
theorem pn_0 : plainName "com/example/octatom/octatom/seven/SevenForm" = true := by first | (simp [plainName, overriddenIn]; done) | decide +kernel
theorem d1_0 : decode prog_52_method_3_code 0 = .ok (.iload_n 0, 1) := by decide +kernel
theorem d1_1 : decode prog_52_method_3_code 1 = .ok (.sipush 128, 3) := by decide +kernel
theorem d1_4 : decode prog_52_method_3_code 4 = .ok (.if_icmp .ge 15, 3) := by decide +kernel
theorem d1_7 : decode prog_52_method_3_code 7 = .ok (.getstatic 17, 3) := by decide +kernel
theorem d1_10 : decode prog_52_method_3_code 10 = .ok (.iload_n 0, 1) := by decide +kernel
theorem d1_11 : decode prog_52_method_3_code 11 = .ok (.baload, 1) := by decide +kernel
theorem d1_12 : decode prog_52_method_3_code 12 = .ok (.ifCond .lt 7, 3) := by decide +kernel
theorem d1_19 : decode prog_52_method_3_code 19 = .ok (.iconst 0, 1) := by decide +kernel
theorem d1_20 : decode prog_52_method_3_code 20 = .ok (.ireturn, 1) := by decide +kernel
theorem d1_15 : decode prog_52_method_3_code 15 = .ok (.iconst 1, 1) := by decide +kernel
theorem d1_16 : decode prog_52_method_3_code 16 = .ok (.goto 4, 3) := by decide +kernel
theorem ef_1 (m : MethodId) (x0 : Int32) : entryFrame m #[(.int x0)] 1 = mkF m 0 #[.val (.int x0)] [] := by first | (simp [entryFrame, mkF, argsToLocals, Value.category]; done) | rfl
def Q1 (Z : State) (p0 : Int32) (wD : Addr) (cl : Cell) (h0 : Heap) (n0 : Nat) (v : Option Value) (h : Heap) (L : List Loc) : Prop := v = some (.int (if ((33 : Int32) ≤ p0 ∧ p0 ≤ (122 : Int32) ∧ ¬ ((91 : Int32) ≤ p0 ∧ p0 ≤ (94 : Int32)) ∧ ¬ p0 = (96 : Int32)) then (1 : Int32) else 0)) ∧ Fr n0 L ∧ h = h0
set_option maxRecDepth 65536 in
set_option maxHeartbeats 40000000 in
theorem rm1 (l : Launch) (Z : State) (a0 : Array Value) (hw : ∀ d ∈ tables_1, d.before a0 Z = true) (ws : List Jvm.Cond) (p0 : Int32) (wD : Addr) (cl : Cell) (h0 : Heap) (n0 : Nat) (Z0 : n0 ≤ h0.size) (S_D : Sta Z h0 "com/example/octatom/octatom/seven/SevenForm" "DIGIT_VALUES" "[B" (.ref wD)) (Ar : Arr Z h0 wD cl .byte) (Sz : cl.slots.size = (128 : Int32).toNatClampNeg) (El : ∀ j : Int32, ¬ j < 0 → j < (128 : Int32) → cl.slots[j.toNatClampNeg]? = some (.int (atv cl j)) ∧ (¬ atv cl j < 0 ↔ ((33 : Int32) ≤ j ∧ j ≤ (122 : Int32) ∧ ¬ ((91 : Int32) ≤ j ∧ j ≤ (94 : Int32)) ∧ ¬ j = (96 : Int32)))) (hnn : ¬ p0 < 0) :
    MetFree l (⟨"com/example/octatom/octatom/seven/SevenForm", "inAlphabet", "(I)Z"⟩ : MethodName) (head1 (Jvm.Cond.code (⟨"com/example/octatom/octatom/seven/SevenForm", "inAlphabet", "(I)Z"⟩ : MethodName) prog_52_method_3_code 1 (some .boolean) :: ws) ({ frames := 0, cells := 0, slots := 0, locals := 0 } : Room)) (fun a U => a = #[(.int p0)] ∧ Z.Warmed39 U.vm ∧ U.heap = h0) (fun _ _ _ _ _ => True) (fun _ U o U' => ∃ v L, o = .returned v ∧ Q1 Z p0 wD cl h0 n0 v U'.heap L ∧ FrameEnd U o U' L ({ frames := 0, cells := 0, slots := 0, locals := 0 } : Room).cells ({ frames := 0, cells := 0, slots := 0, locals := 0 } : Room).slots) := by
  refine MetFree.of_bodySF (plainFor_of_name pn_0) hisR ?_
  intro p e s m args below meth c s₁ Bd hml0 hP hK
  obtain ⟨rfl, hZ, hh⟩ := hP
  have hx := Bd.exec
  have hby := Bd.bytes
  have hml : c.maxLocals = 1 := hml0
  have hown : s.vm.findClass "com/example/octatom/octatom/seven/SevenForm" = some m.cls := findClass_of_methodNamed Bd.named
  have hnm := (name_of_methodNamed Bd.named Bd.method).1
  have X0 : Stand p l e ({ frames := 0, cells := 0, slots := 0, locals := 0 } : Room) s m #[(.int p0)] below meth c s₁ [] 0 0 := Stand.of_body Bd
  have e0 : s₁.heap = h0 := by rw [← hh, Bd.state]; rfl
  have N0 := Fr.nil n0
  have pre0 : ∀ t, Steps p.tables e below (s₁.setTop (mkF m 0 #[.val (.int p0)] [])) t → Steps p.tables e below (s₁.setTop (entryFrame m #[(.int p0)] 1)) t := fun t k => castTop (ef_1 m p0) k
  have pre1 : ∀ t, Steps p.tables e below (s₁.setTop (mkF m 4 #[.val (.int p0)] [(.int (128 : Int32)), (.int p0)])) t → Steps p.tables e below (s₁.setTop (entryFrame m #[(.int p0)] 1)) t := fun t k => pre0 t (by
    show Steps p.tables e below (s₁.setTop (mkF m 0 #[.val (.int p0)] [])) _
    refine XS.iloadN X0.here hx rfl (hb hby d1_0) rfl ?_
    show Steps p.tables e below (s₁.setTop (mkF m 1 #[.val (.int p0)] [(.int p0)])) _
    refine XS.sipush X0.here hx rfl (hb hby d1_1) ?_
    exact k)
  by_cases hc4_2 : p0 < (128 : Int32)
  · obtain ⟨T3, X3, e3, st3⟩ := getS2 X0 hx hZ hown (host := "") (Or.inl (hw _ (List.mem_of_getElem? (i := 5) rfl))) Via.refl e0 S_D (g := (mkF m 7 #[.val (.int p0)] [])) rfl (hb hby d1_7)
    have pre4 : ∀ t, Steps p.tables e below (T3.setTop (mkF m 12 #[.val (.int p0)] [(.int (atv cl p0))])) t → Steps p.tables e below (s₁.setTop (entryFrame m #[(.int p0)] 1)) t := fun t k => pre1 t (by
      show Steps p.tables e below (s₁.setTop (mkF m 4 #[.val (.int p0)] [(.int (128 : Int32)), (.int p0)])) _
      refine XS.icmpNo X0.here hx rfl (hb hby d1_4) rfl (tlt hc4_2).2.1 ?_
      show Steps p.tables e below (s₁.setTop (mkF m 7 #[.val (.int p0)] [])) _
      refine st3 _ ?_
      show Steps p.tables e below (T3.setTop (mkF m 10 #[.val (.int p0)] [(.ref wD)])) _
      refine XS.iloadN X3.here hx rfl (hb hby d1_10) rfl ?_
      show Steps p.tables e below (T3.setTop (mkF m 11 #[.val (.int p0)] [(.int p0), (.ref wD)])) _
      refine X3.baloadBytes hx (j := p0) (v := (.int (atv cl p0))) (by rw [e3]; exact Ar.1) (State.isArrayOf_alike hZ.alike Ar.2.1) Ar.2.2 (inb_of Sz ⟨hnn, hc4_2⟩) (El _ hnn hc4_2).1 (g := (mkF m 11 #[.val (.int p0)] [(.int p0), (.ref wD)])) rfl rfl (hb hby d1_11) _ ?_
      exact k)
    by_cases hc12_5 : (atv cl p0) < (0 : Int32)
    · have pre6 : ∀ t, Steps p.tables e below (T3.setTop (mkF m 20 #[.val (.int p0)] [(.int (0 : Int32))])) t → Steps p.tables e below (s₁.setTop (entryFrame m #[(.int p0)] 1)) t := fun t k => pre4 t (by
        show Steps p.tables e below (T3.setTop (mkF m 12 #[.val (.int p0)] [(.int (atv cl p0))])) _
        refine XS.ifYes X3.here hx rfl (pc0 := 12) (pc' := 19) rfl (hb hby d1_12) rfl ((if0 _ _).trans (tlt hc12_5).1) (by decide) (by decide) ?_
        show Steps p.tables e below (T3.setTop (mkF m 19 #[.val (.int p0)] [])) _
        refine XS.iconst X3.here hx rfl (hb hby d1_19) ?_
        exact k)
      obtain ⟨fs, hr, hrun, hended, hW, hsame⟩ := X3.leave (v := some (.int (0 : Int32))) (fun h => by rw [Bd.returns] at h; cases h)
      refine ⟨_, _, pre6 _ ?_, hrun, hended, _, _, rfl, ?_, ⟨_, rfl⟩, hW, hsame.mono (by decide) (by decide)⟩
      · exact retN X3 hx (t := .boolean) Bd.returns (by simp) (hb hby d1_20) hr
      · show Q1 Z p0 wD cl h0 n0 _ T3.heap _
        rw [e3]
        exact ⟨own_f (fun q => (El _ hnn hc4_2).2.mpr q hc12_5), N0, rfl⟩
    · have pre7 : ∀ t, Steps p.tables e below (T3.setTop (mkF m 20 #[.val (.int p0)] [(.int (1 : Int32))])) t → Steps p.tables e below (s₁.setTop (entryFrame m #[(.int p0)] 1)) t := fun t k => pre4 t (by
        show Steps p.tables e below (T3.setTop (mkF m 12 #[.val (.int p0)] [(.int (atv cl p0))])) _
        refine XS.ifNo X3.here hx rfl (hb hby d1_12) rfl ((if0 _ _).trans (flt hc12_5).1) ?_
        show Steps p.tables e below (T3.setTop (mkF m 15 #[.val (.int p0)] [])) _
        refine XS.iconst X3.here hx rfl (hb hby d1_15) ?_
        show Steps p.tables e below (T3.setTop (mkF m 16 #[.val (.int p0)] [(.int (1 : Int32))])) _
        refine XS.goto X3.here hx rfl (pc0 := 16) (pc' := 20) rfl (hb hby d1_16) (by decide) (by decide) ?_
        exact k)
      obtain ⟨fs, hr, hrun, hended, hW, hsame⟩ := X3.leave (v := some (.int (1 : Int32))) (fun h => by rw [Bd.returns] at h; cases h)
      refine ⟨_, _, pre7 _ ?_, hrun, hended, _, _, rfl, ?_, ⟨_, rfl⟩, hW, hsame.mono (by decide) (by decide)⟩
      · exact retN X3 hx (t := .boolean) Bd.returns (by simp) (hb hby d1_20) hr
      · show Q1 Z p0 wD cl h0 n0 _ T3.heap _
        rw [e3]
        exact ⟨own_t ((El _ hnn hc4_2).2.mp hc12_5), N0, rfl⟩
  · have pre8 : ∀ t, Steps p.tables e below (s₁.setTop (mkF m 20 #[.val (.int p0)] [(.int (0 : Int32))])) t → Steps p.tables e below (s₁.setTop (entryFrame m #[(.int p0)] 1)) t := fun t k => pre1 t (by
      show Steps p.tables e below (s₁.setTop (mkF m 4 #[.val (.int p0)] [(.int (128 : Int32)), (.int p0)])) _
      refine XS.icmpYes X0.here hx rfl (pc0 := 4) (pc' := 19) rfl (hb hby d1_4) rfl (flt hc4_2).2.1 (by decide) (by decide) ?_
      show Steps p.tables e below (s₁.setTop (mkF m 19 #[.val (.int p0)] [])) _
      refine XS.iconst X0.here hx rfl (hb hby d1_19) ?_
      exact k)
    obtain ⟨fs, hr, hrun, hended, hW, hsame⟩ := X0.leave (v := some (.int (0 : Int32))) (fun h => by rw [Bd.returns] at h; cases h)
    refine ⟨_, _, pre8 _ ?_, hrun, hended, _, _, rfl, ?_, ⟨_, rfl⟩, hW, hsame.mono (by decide) (by decide)⟩
    · exact retN X0 hx (t := .boolean) Bd.returns (by simp) (hb hby d1_20) hr
    · show Q1 Z p0 wD cl h0 n0 _ s₁.heap _
      rw [e0]
      exact ⟨own_f (by simp only [Int32.lt_iff_toInt_lt, Int32.le_iff_toInt_le, ← Int32.toInt_inj, Int32.reduceToInt] at hc4_2 ⊢; omega), N0, rfl⟩
theorem pn_1 : plainName "com/example/octatom/octatom/seven/SevenFormInAlphabetPinLaw" = true := by first | (simp [plainName, overriddenIn]; done) | decide +kernel
theorem d2_0 : decode method_2_code 0 = .ok (.iload_n 0, 1) := by decide +kernel
theorem d2_1 : decode method_2_code 1 = .ok (.bipush 33, 2) := by decide +kernel
theorem d2_3 : decode method_2_code 3 = .ok (.if_icmp .ge 5, 3) := by decide +kernel
theorem d2_6 : decode method_2_code 6 = .ok (.iconst 0, 1) := by decide +kernel
theorem d2_7 : decode method_2_code 7 = .ok (.ireturn, 1) := by decide +kernel
theorem d2_8 : decode method_2_code 8 = .ok (.iload_n 0, 1) := by decide +kernel
theorem d2_9 : decode method_2_code 9 = .ok (.bipush 122, 2) := by decide +kernel
theorem d2_11 : decode method_2_code 11 = .ok (.if_icmp .le 5, 3) := by decide +kernel
theorem d2_14 : decode method_2_code 14 = .ok (.iconst 0, 1) := by decide +kernel
theorem d2_15 : decode method_2_code 15 = .ok (.ireturn, 1) := by decide +kernel
theorem d2_16 : decode method_2_code 16 = .ok (.iload_n 0, 1) := by decide +kernel
theorem d2_17 : decode method_2_code 17 = .ok (.bipush 91, 2) := by decide +kernel
theorem d2_19 : decode method_2_code 19 = .ok (.if_icmp .lt 11, 3) := by decide +kernel
theorem d2_30 : decode method_2_code 30 = .ok (.iload_n 0, 1) := by decide +kernel
theorem d2_31 : decode method_2_code 31 = .ok (.bipush 96, 2) := by decide +kernel
theorem d2_33 : decode method_2_code 33 = .ok (.if_icmp .ne 5, 3) := by decide +kernel
theorem d2_36 : decode method_2_code 36 = .ok (.iconst 0, 1) := by decide +kernel
theorem d2_37 : decode method_2_code 37 = .ok (.ireturn, 1) := by decide +kernel
theorem d2_38 : decode method_2_code 38 = .ok (.iconst 1, 1) := by decide +kernel
theorem d2_39 : decode method_2_code 39 = .ok (.ireturn, 1) := by decide +kernel
theorem d2_22 : decode method_2_code 22 = .ok (.iload_n 0, 1) := by decide +kernel
theorem d2_23 : decode method_2_code 23 = .ok (.bipush 94, 2) := by decide +kernel
theorem d2_25 : decode method_2_code 25 = .ok (.if_icmp .gt 5, 3) := by decide +kernel
theorem d2_28 : decode method_2_code 28 = .ok (.iconst 0, 1) := by decide +kernel
theorem d2_29 : decode method_2_code 29 = .ok (.ireturn, 1) := by decide +kernel
theorem ef_2 (m : MethodId) (x0 : Int32) : entryFrame m #[(.int x0)] 1 = mkF m 0 #[.val (.int x0)] [] := by first | (simp [entryFrame, mkF, argsToLocals, Value.category]; done) | rfl
def Q2 (Z : State) (p0 : Int32) (h0 : Heap) (n0 : Nat) (v : Option Value) (h : Heap) (L : List Loc) : Prop := v = some (.int (if ((33 : Int32) ≤ p0 ∧ p0 ≤ (122 : Int32) ∧ ¬ ((91 : Int32) ≤ p0 ∧ p0 ≤ (94 : Int32)) ∧ ¬ p0 = (96 : Int32)) then (1 : Int32) else 0)) ∧ Fr n0 L ∧ h = h0
set_option maxRecDepth 65536 in
set_option maxHeartbeats 40000000 in
theorem rm2 (l : Launch) (Z : State) (a0 : Array Value) (hw : ∀ d ∈ tables_1, d.before a0 Z = true) (ws : List Jvm.Cond) (p0 : Int32) (h0 : Heap) (n0 : Nat) (Z0 : n0 ≤ h0.size) :
    MetFree l (⟨"com/example/octatom/octatom/seven/SevenFormInAlphabetPinLaw", "expected", "(I)Z"⟩ : MethodName) (head1 (Jvm.Cond.code (⟨"com/example/octatom/octatom/seven/SevenFormInAlphabetPinLaw", "expected", "(I)Z"⟩ : MethodName) method_2_code 1 (some .boolean) :: ws) ({ frames := 0, cells := 0, slots := 0, locals := 0 } : Room)) (fun a U => a = #[(.int p0)] ∧ Z.Warmed39 U.vm ∧ U.heap = h0) (fun _ _ _ _ _ => True) (fun _ U o U' => ∃ v L, o = .returned v ∧ Q2 Z p0 h0 n0 v U'.heap L ∧ FrameEnd U o U' L ({ frames := 0, cells := 0, slots := 0, locals := 0 } : Room).cells ({ frames := 0, cells := 0, slots := 0, locals := 0 } : Room).slots) := by
  refine MetFree.of_bodySF (plainFor_of_name pn_1) hisR ?_
  intro p e s m args below meth c s₁ Bd hml0 hP hK
  obtain ⟨rfl, hZ, hh⟩ := hP
  have hx := Bd.exec
  have hby := Bd.bytes
  have hml : c.maxLocals = 1 := hml0
  have hown : s.vm.findClass "com/example/octatom/octatom/seven/SevenFormInAlphabetPinLaw" = some m.cls := findClass_of_methodNamed Bd.named
  have hnm := (name_of_methodNamed Bd.named Bd.method).1
  have X0 : Stand p l e ({ frames := 0, cells := 0, slots := 0, locals := 0 } : Room) s m #[(.int p0)] below meth c s₁ [] 0 0 := Stand.of_body Bd
  have e0 : s₁.heap = h0 := by rw [← hh, Bd.state]; rfl
  have N0 := Fr.nil n0
  have pre0 : ∀ t, Steps p.tables e below (s₁.setTop (mkF m 0 #[.val (.int p0)] [])) t → Steps p.tables e below (s₁.setTop (entryFrame m #[(.int p0)] 1)) t := fun t k => castTop (ef_2 m p0) k
  have pre1 : ∀ t, Steps p.tables e below (s₁.setTop (mkF m 3 #[.val (.int p0)] [(.int (33 : Int32)), (.int p0)])) t → Steps p.tables e below (s₁.setTop (entryFrame m #[(.int p0)] 1)) t := fun t k => pre0 t (by
    show Steps p.tables e below (s₁.setTop (mkF m 0 #[.val (.int p0)] [])) _
    refine XS.iloadN X0.here hx rfl (hb hby d2_0) rfl ?_
    show Steps p.tables e below (s₁.setTop (mkF m 1 #[.val (.int p0)] [(.int p0)])) _
    refine XS.bipush X0.here hx rfl (hb hby d2_1) ?_
    exact k)
  by_cases hc3_2 : p0 < (33 : Int32)
  · have pre3 : ∀ t, Steps p.tables e below (s₁.setTop (mkF m 7 #[.val (.int p0)] [(.int (0 : Int32))])) t → Steps p.tables e below (s₁.setTop (entryFrame m #[(.int p0)] 1)) t := fun t k => pre1 t (by
      show Steps p.tables e below (s₁.setTop (mkF m 3 #[.val (.int p0)] [(.int (33 : Int32)), (.int p0)])) _
      refine XS.icmpNo X0.here hx rfl (hb hby d2_3) rfl (tlt hc3_2).2.1 ?_
      show Steps p.tables e below (s₁.setTop (mkF m 6 #[.val (.int p0)] [])) _
      refine XS.iconst X0.here hx rfl (hb hby d2_6) ?_
      exact k)
    obtain ⟨fs, hr, hrun, hended, hW, hsame⟩ := X0.leave (v := some (.int (0 : Int32))) (fun h => by rw [Bd.returns] at h; cases h)
    refine ⟨_, _, pre3 _ ?_, hrun, hended, _, _, rfl, ?_, ⟨_, rfl⟩, hW, hsame.mono (by decide) (by decide)⟩
    · exact retN X0 hx (t := .boolean) Bd.returns (by simp) (hb hby d2_7) hr
    · show Q2 Z p0 h0 n0 _ s₁.heap _
      rw [e0]
      exact ⟨own_f (by simp only [Int32.lt_iff_toInt_lt, Int32.le_iff_toInt_le, ← Int32.toInt_inj, Int32.reduceToInt] at hc3_2 ⊢; omega), N0, rfl⟩
  · have pre4 : ∀ t, Steps p.tables e below (s₁.setTop (mkF m 11 #[.val (.int p0)] [(.int (122 : Int32)), (.int p0)])) t → Steps p.tables e below (s₁.setTop (entryFrame m #[(.int p0)] 1)) t := fun t k => pre1 t (by
      show Steps p.tables e below (s₁.setTop (mkF m 3 #[.val (.int p0)] [(.int (33 : Int32)), (.int p0)])) _
      refine XS.icmpYes X0.here hx rfl (pc0 := 3) (pc' := 8) rfl (hb hby d2_3) rfl (flt hc3_2).2.1 (by decide) (by decide) ?_
      show Steps p.tables e below (s₁.setTop (mkF m 8 #[.val (.int p0)] [])) _
      refine XS.iloadN X0.here hx rfl (hb hby d2_8) rfl ?_
      show Steps p.tables e below (s₁.setTop (mkF m 9 #[.val (.int p0)] [(.int p0)])) _
      refine XS.bipush X0.here hx rfl (hb hby d2_9) ?_
      exact k)
    by_cases hc11_5 : (122 : Int32) < p0
    · have pre6 : ∀ t, Steps p.tables e below (s₁.setTop (mkF m 15 #[.val (.int p0)] [(.int (0 : Int32))])) t → Steps p.tables e below (s₁.setTop (entryFrame m #[(.int p0)] 1)) t := fun t k => pre4 t (by
        show Steps p.tables e below (s₁.setTop (mkF m 11 #[.val (.int p0)] [(.int (122 : Int32)), (.int p0)])) _
        refine XS.icmpNo X0.here hx rfl (hb hby d2_11) rfl (tlt hc11_5).2.2.2 ?_
        show Steps p.tables e below (s₁.setTop (mkF m 14 #[.val (.int p0)] [])) _
        refine XS.iconst X0.here hx rfl (hb hby d2_14) ?_
        exact k)
      obtain ⟨fs, hr, hrun, hended, hW, hsame⟩ := X0.leave (v := some (.int (0 : Int32))) (fun h => by rw [Bd.returns] at h; cases h)
      refine ⟨_, _, pre6 _ ?_, hrun, hended, _, _, rfl, ?_, ⟨_, rfl⟩, hW, hsame.mono (by decide) (by decide)⟩
      · exact retN X0 hx (t := .boolean) Bd.returns (by simp) (hb hby d2_15) hr
      · show Q2 Z p0 h0 n0 _ s₁.heap _
        rw [e0]
        exact ⟨own_f (by simp only [Int32.lt_iff_toInt_lt, Int32.le_iff_toInt_le, ← Int32.toInt_inj, Int32.reduceToInt] at hc3_2 hc11_5 ⊢; omega), N0, rfl⟩
    · have pre7 : ∀ t, Steps p.tables e below (s₁.setTop (mkF m 19 #[.val (.int p0)] [(.int (91 : Int32)), (.int p0)])) t → Steps p.tables e below (s₁.setTop (entryFrame m #[(.int p0)] 1)) t := fun t k => pre4 t (by
        show Steps p.tables e below (s₁.setTop (mkF m 11 #[.val (.int p0)] [(.int (122 : Int32)), (.int p0)])) _
        refine XS.icmpYes X0.here hx rfl (pc0 := 11) (pc' := 16) rfl (hb hby d2_11) rfl (flt hc11_5).2.2.2 (by decide) (by decide) ?_
        show Steps p.tables e below (s₁.setTop (mkF m 16 #[.val (.int p0)] [])) _
        refine XS.iloadN X0.here hx rfl (hb hby d2_16) rfl ?_
        show Steps p.tables e below (s₁.setTop (mkF m 17 #[.val (.int p0)] [(.int p0)])) _
        refine XS.bipush X0.here hx rfl (hb hby d2_17) ?_
        exact k)
      by_cases hc19_8 : p0 < (91 : Int32)
      · have pre9 : ∀ t, Steps p.tables e below (s₁.setTop (mkF m 33 #[.val (.int p0)] [(.int (96 : Int32)), (.int p0)])) t → Steps p.tables e below (s₁.setTop (entryFrame m #[(.int p0)] 1)) t := fun t k => pre7 t (by
          show Steps p.tables e below (s₁.setTop (mkF m 19 #[.val (.int p0)] [(.int (91 : Int32)), (.int p0)])) _
          refine XS.icmpYes X0.here hx rfl (pc0 := 19) (pc' := 30) rfl (hb hby d2_19) rfl (tlt hc19_8).1 (by decide) (by decide) ?_
          show Steps p.tables e below (s₁.setTop (mkF m 30 #[.val (.int p0)] [])) _
          refine XS.iloadN X0.here hx rfl (hb hby d2_30) rfl ?_
          show Steps p.tables e below (s₁.setTop (mkF m 31 #[.val (.int p0)] [(.int p0)])) _
          refine XS.bipush X0.here hx rfl (hb hby d2_31) ?_
          exact k)
        by_cases hc33_10 : p0 = (96 : Int32)
        · have pre11 : ∀ t, Steps p.tables e below (s₁.setTop (mkF m 37 #[.val (.int p0)] [(.int (0 : Int32))])) t → Steps p.tables e below (s₁.setTop (entryFrame m #[(.int p0)] 1)) t := fun t k => pre9 t (by
            show Steps p.tables e below (s₁.setTop (mkF m 33 #[.val (.int p0)] [(.int (96 : Int32)), (.int p0)])) _
            refine XS.icmpNo X0.here hx rfl (hb hby d2_33) rfl (teq hc33_10).2 ?_
            show Steps p.tables e below (s₁.setTop (mkF m 36 #[.val (.int p0)] [])) _
            refine XS.iconst X0.here hx rfl (hb hby d2_36) ?_
            exact k)
          obtain ⟨fs, hr, hrun, hended, hW, hsame⟩ := X0.leave (v := some (.int (0 : Int32))) (fun h => by rw [Bd.returns] at h; cases h)
          refine ⟨_, _, pre11 _ ?_, hrun, hended, _, _, rfl, ?_, ⟨_, rfl⟩, hW, hsame.mono (by decide) (by decide)⟩
          · exact retN X0 hx (t := .boolean) Bd.returns (by simp) (hb hby d2_37) hr
          · show Q2 Z p0 h0 n0 _ s₁.heap _
            rw [e0]
            exact ⟨own_f (by simp only [Int32.lt_iff_toInt_lt, Int32.le_iff_toInt_le, ← Int32.toInt_inj, Int32.reduceToInt] at hc3_2 hc11_5 hc19_8 hc33_10 ⊢; omega), N0, rfl⟩
        · have pre12 : ∀ t, Steps p.tables e below (s₁.setTop (mkF m 39 #[.val (.int p0)] [(.int (1 : Int32))])) t → Steps p.tables e below (s₁.setTop (entryFrame m #[(.int p0)] 1)) t := fun t k => pre9 t (by
            show Steps p.tables e below (s₁.setTop (mkF m 33 #[.val (.int p0)] [(.int (96 : Int32)), (.int p0)])) _
            refine XS.icmpYes X0.here hx rfl (pc0 := 33) (pc' := 38) rfl (hb hby d2_33) rfl (feq hc33_10).2 (by decide) (by decide) ?_
            show Steps p.tables e below (s₁.setTop (mkF m 38 #[.val (.int p0)] [])) _
            refine XS.iconst X0.here hx rfl (hb hby d2_38) ?_
            exact k)
          obtain ⟨fs, hr, hrun, hended, hW, hsame⟩ := X0.leave (v := some (.int (1 : Int32))) (fun h => by rw [Bd.returns] at h; cases h)
          refine ⟨_, _, pre12 _ ?_, hrun, hended, _, _, rfl, ?_, ⟨_, rfl⟩, hW, hsame.mono (by decide) (by decide)⟩
          · exact retN X0 hx (t := .boolean) Bd.returns (by simp) (hb hby d2_39) hr
          · show Q2 Z p0 h0 n0 _ s₁.heap _
            rw [e0]
            exact ⟨own_t (by simp only [Int32.lt_iff_toInt_lt, Int32.le_iff_toInt_le, ← Int32.toInt_inj, Int32.reduceToInt] at hc3_2 hc11_5 hc19_8 hc33_10 ⊢; omega), N0, rfl⟩
      · have pre13 : ∀ t, Steps p.tables e below (s₁.setTop (mkF m 25 #[.val (.int p0)] [(.int (94 : Int32)), (.int p0)])) t → Steps p.tables e below (s₁.setTop (entryFrame m #[(.int p0)] 1)) t := fun t k => pre7 t (by
          show Steps p.tables e below (s₁.setTop (mkF m 19 #[.val (.int p0)] [(.int (91 : Int32)), (.int p0)])) _
          refine XS.icmpNo X0.here hx rfl (hb hby d2_19) rfl (flt hc19_8).1 ?_
          show Steps p.tables e below (s₁.setTop (mkF m 22 #[.val (.int p0)] [])) _
          refine XS.iloadN X0.here hx rfl (hb hby d2_22) rfl ?_
          show Steps p.tables e below (s₁.setTop (mkF m 23 #[.val (.int p0)] [(.int p0)])) _
          refine XS.bipush X0.here hx rfl (hb hby d2_23) ?_
          exact k)
        by_cases hc25_14 : (94 : Int32) < p0
        · have pre15 : ∀ t, Steps p.tables e below (s₁.setTop (mkF m 33 #[.val (.int p0)] [(.int (96 : Int32)), (.int p0)])) t → Steps p.tables e below (s₁.setTop (entryFrame m #[(.int p0)] 1)) t := fun t k => pre13 t (by
            show Steps p.tables e below (s₁.setTop (mkF m 25 #[.val (.int p0)] [(.int (94 : Int32)), (.int p0)])) _
            refine XS.icmpYes X0.here hx rfl (pc0 := 25) (pc' := 30) rfl (hb hby d2_25) rfl (tlt hc25_14).2.2.1 (by decide) (by decide) ?_
            show Steps p.tables e below (s₁.setTop (mkF m 30 #[.val (.int p0)] [])) _
            refine XS.iloadN X0.here hx rfl (hb hby d2_30) rfl ?_
            show Steps p.tables e below (s₁.setTop (mkF m 31 #[.val (.int p0)] [(.int p0)])) _
            refine XS.bipush X0.here hx rfl (hb hby d2_31) ?_
            exact k)
          by_cases hc33_16 : p0 = (96 : Int32)
          · have pre17 : ∀ t, Steps p.tables e below (s₁.setTop (mkF m 37 #[.val (.int p0)] [(.int (0 : Int32))])) t → Steps p.tables e below (s₁.setTop (entryFrame m #[(.int p0)] 1)) t := fun t k => pre15 t (by
              show Steps p.tables e below (s₁.setTop (mkF m 33 #[.val (.int p0)] [(.int (96 : Int32)), (.int p0)])) _
              refine XS.icmpNo X0.here hx rfl (hb hby d2_33) rfl (teq hc33_16).2 ?_
              show Steps p.tables e below (s₁.setTop (mkF m 36 #[.val (.int p0)] [])) _
              refine XS.iconst X0.here hx rfl (hb hby d2_36) ?_
              exact k)
            obtain ⟨fs, hr, hrun, hended, hW, hsame⟩ := X0.leave (v := some (.int (0 : Int32))) (fun h => by rw [Bd.returns] at h; cases h)
            refine ⟨_, _, pre17 _ ?_, hrun, hended, _, _, rfl, ?_, ⟨_, rfl⟩, hW, hsame.mono (by decide) (by decide)⟩
            · exact retN X0 hx (t := .boolean) Bd.returns (by simp) (hb hby d2_37) hr
            · show Q2 Z p0 h0 n0 _ s₁.heap _
              rw [e0]
              exact ⟨own_f (by simp only [Int32.lt_iff_toInt_lt, Int32.le_iff_toInt_le, ← Int32.toInt_inj, Int32.reduceToInt] at hc3_2 hc11_5 hc19_8 hc25_14 hc33_16 ⊢; omega), N0, rfl⟩
          · have pre18 : ∀ t, Steps p.tables e below (s₁.setTop (mkF m 39 #[.val (.int p0)] [(.int (1 : Int32))])) t → Steps p.tables e below (s₁.setTop (entryFrame m #[(.int p0)] 1)) t := fun t k => pre15 t (by
              show Steps p.tables e below (s₁.setTop (mkF m 33 #[.val (.int p0)] [(.int (96 : Int32)), (.int p0)])) _
              refine XS.icmpYes X0.here hx rfl (pc0 := 33) (pc' := 38) rfl (hb hby d2_33) rfl (feq hc33_16).2 (by decide) (by decide) ?_
              show Steps p.tables e below (s₁.setTop (mkF m 38 #[.val (.int p0)] [])) _
              refine XS.iconst X0.here hx rfl (hb hby d2_38) ?_
              exact k)
            obtain ⟨fs, hr, hrun, hended, hW, hsame⟩ := X0.leave (v := some (.int (1 : Int32))) (fun h => by rw [Bd.returns] at h; cases h)
            refine ⟨_, _, pre18 _ ?_, hrun, hended, _, _, rfl, ?_, ⟨_, rfl⟩, hW, hsame.mono (by decide) (by decide)⟩
            · exact retN X0 hx (t := .boolean) Bd.returns (by simp) (hb hby d2_39) hr
            · show Q2 Z p0 h0 n0 _ s₁.heap _
              rw [e0]
              exact ⟨own_t (by simp only [Int32.lt_iff_toInt_lt, Int32.le_iff_toInt_le, ← Int32.toInt_inj, Int32.reduceToInt] at hc3_2 hc11_5 hc19_8 hc25_14 hc33_16 ⊢; omega), N0, rfl⟩
        · have pre19 : ∀ t, Steps p.tables e below (s₁.setTop (mkF m 29 #[.val (.int p0)] [(.int (0 : Int32))])) t → Steps p.tables e below (s₁.setTop (entryFrame m #[(.int p0)] 1)) t := fun t k => pre13 t (by
            show Steps p.tables e below (s₁.setTop (mkF m 25 #[.val (.int p0)] [(.int (94 : Int32)), (.int p0)])) _
            refine XS.icmpNo X0.here hx rfl (hb hby d2_25) rfl (flt hc25_14).2.2.1 ?_
            show Steps p.tables e below (s₁.setTop (mkF m 28 #[.val (.int p0)] [])) _
            refine XS.iconst X0.here hx rfl (hb hby d2_28) ?_
            exact k)
          obtain ⟨fs, hr, hrun, hended, hW, hsame⟩ := X0.leave (v := some (.int (0 : Int32))) (fun h => by rw [Bd.returns] at h; cases h)
          refine ⟨_, _, pre19 _ ?_, hrun, hended, _, _, rfl, ?_, ⟨_, rfl⟩, hW, hsame.mono (by decide) (by decide)⟩
          · exact retN X0 hx (t := .boolean) Bd.returns (by simp) (hb hby d2_29) hr
          · show Q2 Z p0 h0 n0 _ s₁.heap _
            rw [e0]
            exact ⟨own_f (by simp only [Int32.lt_iff_toInt_lt, Int32.le_iff_toInt_le, ← Int32.toInt_inj, Int32.reduceToInt] at hc3_2 hc11_5 hc19_8 hc25_14 ⊢; omega), N0, rfl⟩
theorem pd_0 : parseMethodDescriptor "(I)Z" = some ⟨[.int], some .boolean⟩ := by decide +kernel
theorem ef_0 (m : MethodId) (x0 : Int32) (x1 : Int32) : entryFrame m #[(.int x0), (.int x1)] maxLocals = mkF m 0 #[.val (.int x0), .val (.int x1), .unset, .unset] [] := by first | (simp [entryFrame, mkF, argsToLocals, Value.category, maxLocals]; done) | rfl
def Q0 (Z : State) (p0 : Int32) (p1 : Int32) (wD : Addr) (cl : Cell) (h0 : Heap) (n0 : Nat) (v : Option Value) (h : Heap) (L : List Loc) : Prop := v = some (.int 1) ∧ Fr n0 L
set_option maxRecDepth 65536 in
set_option maxHeartbeats 40000000 in
theorem rm0 (l : Launch) (Z : State) (a0 : Array Value) (hw : ∀ d ∈ tables_1, d.before a0 Z = true) (ws : List Jvm.Cond) (p0 : Int32) (p1 : Int32) (wD : Addr) (cl : Cell) (h0 : Heap) (n0 : Nat) (Z0 : n0 ≤ h0.size) (S_D : Sta Z h0 "com/example/octatom/octatom/seven/SevenForm" "DIGIT_VALUES" "[B" (.ref wD)) (Ar : Arr Z h0 wD cl .byte) (Sz : cl.slots.size = (128 : Int32).toNatClampNeg) (El : ∀ j : Int32, ¬ j < 0 → j < (128 : Int32) → cl.slots[j.toNatClampNeg]? = some (.int (atv cl j)) ∧ (¬ atv cl j < 0 ↔ ((33 : Int32) ≤ j ∧ j ≤ (122 : Int32) ∧ ¬ ((91 : Int32) ≤ j ∧ j ≤ (94 : Int32)) ∧ ¬ j = (96 : Int32)))) :
    MetFree l x (head1 (Jvm.Cond.code x code maxLocals ret :: ws) room_1) (fun a U => a = #[(.int p0), (.int p1)] ∧ Z.Warmed39 U.vm ∧ U.heap = h0) (fun _ _ _ _ _ => True) (fun _ U o U' => ∃ v L, o = .returned v ∧ Q0 Z p0 p1 wD cl h0 n0 v U'.heap L ∧ FrameEnd U o U' L room_1.cells room_1.slots) := by
  refine MetFree.of_bodySF (plainFor_of_name pn_1) hisR ?_
  intro p e s m args below meth c s₁ Bd hml0 hP hK
  obtain ⟨rfl, hZ, hh⟩ := hP
  have hx := Bd.exec
  have hby := Bd.bytes
  have hml : c.maxLocals = 4 := hml0
  have hown : s.vm.findClass "com/example/octatom/octatom/seven/SevenFormInAlphabetPinLaw" = some m.cls := findClass_of_methodNamed Bd.named
  have hnm := (name_of_methodNamed Bd.named Bd.method).1
  have X0 : Stand p l e room_1 s m #[(.int p0), (.int p1)] below meth c s₁ [] 0 0 := Stand.of_body Bd
  have e0 : s₁.heap = h0 := by rw [← hh, Bd.state]; rfl
  have N0 := Fr.nil n0
  have pre0 : ∀ t, Steps p.tables e below (s₁.setTop (mkF m 0 #[.val (.int p0), .val (.int p1), .unset, .unset] [])) t → Steps p.tables e below (s₁.setTop (entryFrame m #[(.int p0), (.int p1)] maxLocals)) t := fun t k => castTop (ef_0 m p0 p1) k
  have pre1 : ∀ t, Steps p.tables e below (s₁.setTop (mkF m 4 #[.val (.int p0), .val (.int p1), .val (.int (p1 &&& (3 : Int32))), .unset] [])) t → Steps p.tables e below (s₁.setTop (entryFrame m #[(.int p0), (.int p1)] maxLocals)) t := fun t k => pre0 t (by
    show Steps p.tables e below (s₁.setTop (mkF m 0 #[.val (.int p0), .val (.int p1), .unset, .unset] [])) _
    refine XS.iloadN X0.here hx rfl (hb hby at_0) rfl ?_
    show Steps p.tables e below (s₁.setTop (mkF m 1 #[.val (.int p0), .val (.int p1), .unset, .unset] [(.int p1)])) _
    refine XS.iconst X0.here hx rfl (hb hby at_1) ?_
    show Steps p.tables e below (s₁.setTop (mkF m 2 #[.val (.int p0), .val (.int p1), .unset, .unset] [(.int (3 : Int32)), (.int p1)])) _
    refine XS.iand X0.here hx rfl (hb hby at_2) rfl ?_
    show Steps p.tables e below (s₁.setTop (mkF m 3 #[.val (.int p0), .val (.int p1), .unset, .unset] [(.int (p1 &&& (3 : Int32)))])) _
    refine XS.istoreN X0.here hx rfl (hb hby at_3) rfl (l' := #[.val (.int p0), .val (.int p1), .val (.int (p1 &&& (3 : Int32))), .unset]) rfl ?_
    exact k)
  obtain ⟨v2_0, hv2, prem2⟩ : ∃ (v2_0 : Int32), ¬ v2_0 < 0 ∧ ∀ t, Steps p.tables e below (s₁.setTop (mkF m 48 #[.val (.int p0), .val (.int p1), .val (.int (p1 &&& (3 : Int32))), .val (.int v2_0)] [])) t → Steps p.tables e below (s₁.setTop (entryFrame m #[(.int p0), (.int p1)] maxLocals)) t := by
    have pre3 : ∀ t, Steps p.tables e below (s₁.setTop (mkF m 5 #[.val (.int p0), .val (.int p1), .val (.int (p1 &&& (3 : Int32))), .unset] [(.int (p1 &&& (3 : Int32)))])) t → Steps p.tables e below (s₁.setTop (entryFrame m #[(.int p0), (.int p1)] maxLocals)) t := fun t k => pre1 t (by
      show Steps p.tables e below (s₁.setTop (mkF m 4 #[.val (.int p0), .val (.int p1), .val (.int (p1 &&& (3 : Int32))), .unset] [])) _
      refine XS.iloadN X0.here hx rfl (hb hby at_4) rfl ?_
      exact k)
    by_cases hc5_4 : (p1 &&& (3 : Int32)) = (0 : Int32)
    · have pre5 : ∀ t, Steps p.tables e below (s₁.setTop (mkF m 48 #[.val (.int p0), .val (.int p1), .val (.int (p1 &&& (3 : Int32))), .val (.int (p0 &&& (127 : Int32)))] [])) t → Steps p.tables e below (s₁.setTop (entryFrame m #[(.int p0), (.int p1)] maxLocals)) t := fun t k => pre3 t (by
        show Steps p.tables e below (s₁.setTop (mkF m 5 #[.val (.int p0), .val (.int p1), .val (.int (p1 &&& (3 : Int32))), .unset] [(.int (p1 &&& (3 : Int32)))])) _
        refine XS.ifNo X0.here hx rfl (hb hby at_5) rfl ((if0 _ _).trans (teq hc5_4).2) ?_
        show Steps p.tables e below (s₁.setTop (mkF m 8 #[.val (.int p0), .val (.int p1), .val (.int (p1 &&& (3 : Int32))), .unset] [])) _
        refine XS.iloadN X0.here hx rfl (hb hby at_8) rfl ?_
        show Steps p.tables e below (s₁.setTop (mkF m 9 #[.val (.int p0), .val (.int p1), .val (.int (p1 &&& (3 : Int32))), .unset] [(.int p0)])) _
        refine XS.bipush X0.here hx rfl (hb hby at_9) ?_
        show Steps p.tables e below (s₁.setTop (mkF m 11 #[.val (.int p0), .val (.int p1), .val (.int (p1 &&& (3 : Int32))), .unset] [(.int (127 : Int32)), (.int p0)])) _
        refine XS.iand X0.here hx rfl (hb hby at_11) rfl ?_
        show Steps p.tables e below (s₁.setTop (mkF m 12 #[.val (.int p0), .val (.int p1), .val (.int (p1 &&& (3 : Int32))), .unset] [(.int (p0 &&& (127 : Int32)))])) _
        refine XS.istoreN X0.here hx rfl (hb hby at_12) rfl (l' := #[.val (.int p0), .val (.int p1), .val (.int (p1 &&& (3 : Int32))), .val (.int (p0 &&& (127 : Int32)))]) rfl ?_
        show Steps p.tables e below (s₁.setTop (mkF m 13 #[.val (.int p0), .val (.int p1), .val (.int (p1 &&& (3 : Int32))), .val (.int (p0 &&& (127 : Int32)))] [])) _
        refine XS.goto X0.here hx rfl (pc0 := 13) (pc' := 48) rfl (hb hby at_13) (by decide) (by decide) ?_
        exact k)
      exact ⟨(p0 &&& (127 : Int32)), (own_nn p0 _ (by decide)), pre5⟩
    · have pre6 : ∀ t, Steps p.tables e below (s₁.setTop (mkF m 18 #[.val (.int p0), .val (.int p1), .val (.int (p1 &&& (3 : Int32))), .unset] [(.int (1 : Int32)), (.int (p1 &&& (3 : Int32)))])) t → Steps p.tables e below (s₁.setTop (entryFrame m #[(.int p0), (.int p1)] maxLocals)) t := fun t k => pre3 t (by
        show Steps p.tables e below (s₁.setTop (mkF m 5 #[.val (.int p0), .val (.int p1), .val (.int (p1 &&& (3 : Int32))), .unset] [(.int (p1 &&& (3 : Int32)))])) _
        refine XS.ifYes X0.here hx rfl (pc0 := 5) (pc' := 16) rfl (hb hby at_5) rfl ((if0 _ _).trans (feq hc5_4).2) (by decide) (by decide) ?_
        show Steps p.tables e below (s₁.setTop (mkF m 16 #[.val (.int p0), .val (.int p1), .val (.int (p1 &&& (3 : Int32))), .unset] [])) _
        refine XS.iloadN X0.here hx rfl (hb hby at_16) rfl ?_
        show Steps p.tables e below (s₁.setTop (mkF m 17 #[.val (.int p0), .val (.int p1), .val (.int (p1 &&& (3 : Int32))), .unset] [(.int (p1 &&& (3 : Int32)))])) _
        refine XS.iconst X0.here hx rfl (hb hby at_17) ?_
        exact k)
      by_cases hc18_7 : (p1 &&& (3 : Int32)) = (1 : Int32)
      · have pre8 : ∀ t, Steps p.tables e below (s₁.setTop (mkF m 48 #[.val (.int p0), .val (.int p1), .val (.int (p1 &&& (3 : Int32))), .val (.int (p0 &&& (255 : Int32)))] [])) t → Steps p.tables e below (s₁.setTop (entryFrame m #[(.int p0), (.int p1)] maxLocals)) t := fun t k => pre6 t (by
          show Steps p.tables e below (s₁.setTop (mkF m 18 #[.val (.int p0), .val (.int p1), .val (.int (p1 &&& (3 : Int32))), .unset] [(.int (1 : Int32)), (.int (p1 &&& (3 : Int32)))])) _
          refine XS.icmpNo X0.here hx rfl (hb hby at_18) rfl (teq hc18_7).2 ?_
          show Steps p.tables e below (s₁.setTop (mkF m 21 #[.val (.int p0), .val (.int p1), .val (.int (p1 &&& (3 : Int32))), .unset] [])) _
          refine XS.iloadN X0.here hx rfl (hb hby at_21) rfl ?_
          show Steps p.tables e below (s₁.setTop (mkF m 22 #[.val (.int p0), .val (.int p1), .val (.int (p1 &&& (3 : Int32))), .unset] [(.int p0)])) _
          refine XS.sipush X0.here hx rfl (hb hby at_22) ?_
          show Steps p.tables e below (s₁.setTop (mkF m 25 #[.val (.int p0), .val (.int p1), .val (.int (p1 &&& (3 : Int32))), .unset] [(.int (255 : Int32)), (.int p0)])) _
          refine XS.iand X0.here hx rfl (hb hby at_25) rfl ?_
          show Steps p.tables e below (s₁.setTop (mkF m 26 #[.val (.int p0), .val (.int p1), .val (.int (p1 &&& (3 : Int32))), .unset] [(.int (p0 &&& (255 : Int32)))])) _
          refine XS.istoreN X0.here hx rfl (hb hby at_26) rfl (l' := #[.val (.int p0), .val (.int p1), .val (.int (p1 &&& (3 : Int32))), .val (.int (p0 &&& (255 : Int32)))]) rfl ?_
          show Steps p.tables e below (s₁.setTop (mkF m 27 #[.val (.int p0), .val (.int p1), .val (.int (p1 &&& (3 : Int32))), .val (.int (p0 &&& (255 : Int32)))] [])) _
          refine XS.goto X0.here hx rfl (pc0 := 27) (pc' := 48) rfl (hb hby at_27) (by decide) (by decide) ?_
          exact k)
        exact ⟨(p0 &&& (255 : Int32)), (own_nn p0 _ (by decide)), pre8⟩
      · have pre9 : ∀ t, Steps p.tables e below (s₁.setTop (mkF m 32 #[.val (.int p0), .val (.int p1), .val (.int (p1 &&& (3 : Int32))), .unset] [(.int (2 : Int32)), (.int (p1 &&& (3 : Int32)))])) t → Steps p.tables e below (s₁.setTop (entryFrame m #[(.int p0), (.int p1)] maxLocals)) t := fun t k => pre6 t (by
          show Steps p.tables e below (s₁.setTop (mkF m 18 #[.val (.int p0), .val (.int p1), .val (.int (p1 &&& (3 : Int32))), .unset] [(.int (1 : Int32)), (.int (p1 &&& (3 : Int32)))])) _
          refine XS.icmpYes X0.here hx rfl (pc0 := 18) (pc' := 30) rfl (hb hby at_18) rfl (feq hc18_7).2 (by decide) (by decide) ?_
          show Steps p.tables e below (s₁.setTop (mkF m 30 #[.val (.int p0), .val (.int p1), .val (.int (p1 &&& (3 : Int32))), .unset] [])) _
          refine XS.iloadN X0.here hx rfl (hb hby at_30) rfl ?_
          show Steps p.tables e below (s₁.setTop (mkF m 31 #[.val (.int p0), .val (.int p1), .val (.int (p1 &&& (3 : Int32))), .unset] [(.int (p1 &&& (3 : Int32)))])) _
          refine XS.iconst X0.here hx rfl (hb hby at_31) ?_
          exact k)
        by_cases hc32_10 : (p1 &&& (3 : Int32)) = (2 : Int32)
        · have pre11 : ∀ t, Steps p.tables e below (s₁.setTop (mkF m 48 #[.val (.int p0), .val (.int p1), .val (.int (p1 &&& (3 : Int32))), .val (.int (p0 &&& (65535 : Int32)))] [])) t → Steps p.tables e below (s₁.setTop (entryFrame m #[(.int p0), (.int p1)] maxLocals)) t := fun t k => pre9 t (by
            show Steps p.tables e below (s₁.setTop (mkF m 32 #[.val (.int p0), .val (.int p1), .val (.int (p1 &&& (3 : Int32))), .unset] [(.int (2 : Int32)), (.int (p1 &&& (3 : Int32)))])) _
            refine XS.icmpNo X0.here hx rfl (hb hby at_32) rfl (teq hc32_10).2 ?_
            show Steps p.tables e below (s₁.setTop (mkF m 35 #[.val (.int p0), .val (.int p1), .val (.int (p1 &&& (3 : Int32))), .unset] [])) _
            refine XS.iloadN X0.here hx rfl (hb hby at_35) rfl ?_
            show Steps p.tables e below (s₁.setTop (mkF m 36 #[.val (.int p0), .val (.int p1), .val (.int (p1 &&& (3 : Int32))), .unset] [(.int p0)])) _
            refine X0.ldcInt hx hown (mvT hZ (hw _ (List.mem_of_getElem? (i := 11) rfl))) (g := (mkF m 36 #[.val (.int p0), .val (.int p1), .val (.int (p1 &&& (3 : Int32))), .unset] [(.int p0)])) rfl (hb hby at_36) _ ?_
            show Steps p.tables e below (s₁.setTop (mkF m 38 #[.val (.int p0), .val (.int p1), .val (.int (p1 &&& (3 : Int32))), .unset] [(.int (65535 : Int32)), (.int p0)])) _
            refine XS.iand X0.here hx rfl (hb hby at_38) rfl ?_
            show Steps p.tables e below (s₁.setTop (mkF m 39 #[.val (.int p0), .val (.int p1), .val (.int (p1 &&& (3 : Int32))), .unset] [(.int (p0 &&& (65535 : Int32)))])) _
            refine XS.istoreN X0.here hx rfl (hb hby at_39) rfl (l' := #[.val (.int p0), .val (.int p1), .val (.int (p1 &&& (3 : Int32))), .val (.int (p0 &&& (65535 : Int32)))]) rfl ?_
            show Steps p.tables e below (s₁.setTop (mkF m 40 #[.val (.int p0), .val (.int p1), .val (.int (p1 &&& (3 : Int32))), .val (.int (p0 &&& (65535 : Int32)))] [])) _
            refine XS.goto X0.here hx rfl (pc0 := 40) (pc' := 48) rfl (hb hby at_40) (by decide) (by decide) ?_
            exact k)
          exact ⟨(p0 &&& (65535 : Int32)), (own_nn p0 _ (by decide)), pre11⟩
        · have pre12 : ∀ t, Steps p.tables e below (s₁.setTop (mkF m 48 #[.val (.int p0), .val (.int p1), .val (.int (p1 &&& (3 : Int32))), .val (.int (p0 &&& (2147483647 : Int32)))] [])) t → Steps p.tables e below (s₁.setTop (entryFrame m #[(.int p0), (.int p1)] maxLocals)) t := fun t k => pre9 t (by
            show Steps p.tables e below (s₁.setTop (mkF m 32 #[.val (.int p0), .val (.int p1), .val (.int (p1 &&& (3 : Int32))), .unset] [(.int (2 : Int32)), (.int (p1 &&& (3 : Int32)))])) _
            refine XS.icmpYes X0.here hx rfl (pc0 := 32) (pc' := 43) rfl (hb hby at_32) rfl (feq hc32_10).2 (by decide) (by decide) ?_
            show Steps p.tables e below (s₁.setTop (mkF m 43 #[.val (.int p0), .val (.int p1), .val (.int (p1 &&& (3 : Int32))), .unset] [])) _
            refine XS.iloadN X0.here hx rfl (hb hby at_43) rfl ?_
            show Steps p.tables e below (s₁.setTop (mkF m 44 #[.val (.int p0), .val (.int p1), .val (.int (p1 &&& (3 : Int32))), .unset] [(.int p0)])) _
            refine X0.ldcInt hx hown (mvT hZ (hw _ (List.mem_of_getElem? (i := 0) rfl))) (g := (mkF m 44 #[.val (.int p0), .val (.int p1), .val (.int (p1 &&& (3 : Int32))), .unset] [(.int p0)])) rfl (hb hby at_44) _ ?_
            show Steps p.tables e below (s₁.setTop (mkF m 46 #[.val (.int p0), .val (.int p1), .val (.int (p1 &&& (3 : Int32))), .unset] [(.int (2147483647 : Int32)), (.int p0)])) _
            refine XS.iand X0.here hx rfl (hb hby at_46) rfl ?_
            show Steps p.tables e below (s₁.setTop (mkF m 47 #[.val (.int p0), .val (.int p1), .val (.int (p1 &&& (3 : Int32))), .unset] [(.int (p0 &&& (2147483647 : Int32)))])) _
            refine XS.istoreN X0.here hx rfl (hb hby at_47) rfl (l' := #[.val (.int p0), .val (.int p1), .val (.int (p1 &&& (3 : Int32))), .val (.int (p0 &&& (2147483647 : Int32)))]) rfl ?_
            exact k)
          exact ⟨(p0 &&& (2147483647 : Int32)), (own_nn p0 _ (by decide)), pre12⟩
  obtain ⟨_, _, ⟨T13, L13, k13, n13⟩, -, X13, ⟨Lc13, hQ13, l13, y13, z13⟩, st13⟩ := Jvm.LawKit.callS X0 hx (y := (⟨"com/example/octatom/octatom/seven/SevenForm", "inAlphabet", "(I)Z"⟩ : MethodName)) hown (mvT hZ (hw _ (List.mem_of_getElem? (i := 1) rfl))) (mvT hZ (hw _ (List.mem_of_getElem? (i := 2) rfl))) (mvT hZ (hw _ (List.mem_of_getElem? (i := 3) rfl))) (mvT hZ (hw _ (List.mem_of_getElem? (i := 4) rfl))) (by decide) (backOf (W := 0) (rm1 l Z a0 hw [] v2_0 wD cl h0 n0 Z0 S_D Ar Sz El hv2) hZ (hw _ (List.mem_of_getElem? (i := 4) rfl)) (hw _ (List.mem_of_getElem? (i := 3) rfl)) (by decide) (by decide)) (g := (mkF m 49 #[.val (.int p0), .val (.int p1), .val (.int (p1 &&& (3 : Int32))), .val (.int v2_0)] [(.int v2_0)])) rfl (by rw [hml]; rfl) (argsL := [(.int v2_0)]) (rest := []) (lenOf pd_0 rfl) rfl (by show 2 * 0 + _ ≤ _; exact Nat.le_of_eq rfl) (hb hby at_49) (fun _ _ => ⟨rfl, e0, (by decide : 0 + 0 ≤ _), (by decide : 0 + 0 ≤ _)⟩)
  dsimp only [Pt.U, Pt.locs, Pt.cells, Pt.slots] at X13 l13 y13 z13 st13 hQ13
  subst l13 y13 z13
  obtain ⟨rfl, N13q, hh13⟩ := hQ13
  have N13 := Fr.app N0 N13q
  obtain ⟨_, _, ⟨T14, L14, k14, n14⟩, -, X14, ⟨Lc14, hQ14, l14, y14, z14⟩, st14⟩ := Jvm.LawKit.callS X13 hx (y := (⟨"com/example/octatom/octatom/seven/SevenFormInAlphabetPinLaw", "expected", "(I)Z"⟩ : MethodName)) hown (mvT hZ (hw _ (List.mem_of_getElem? (i := 7) rfl))) (mvT hZ (hw _ (List.mem_of_getElem? (i := 8) rfl))) (mvT hZ (hw _ (List.mem_of_getElem? (i := 9) rfl))) (mvT hZ (hw _ (List.mem_of_getElem? (i := 10) rfl))) (by decide) (backOf (W := 1) (rm2 l Z a0 hw [] v2_0 h0 n0 Z0 ) hZ (hw _ (List.mem_of_getElem? (i := 10) rfl)) (hw _ (List.mem_of_getElem? (i := 9) rfl)) (by decide) (by decide)) (g := (mkF m 53 #[.val (.int p0), .val (.int p1), .val (.int (p1 &&& (3 : Int32))), .val (.int v2_0)] [(.int v2_0), (.int (if ((33 : Int32) ≤ v2_0 ∧ v2_0 ≤ (122 : Int32) ∧ ¬ ((91 : Int32) ≤ v2_0 ∧ v2_0 ≤ (94 : Int32)) ∧ ¬ v2_0 = (96 : Int32)) then (1 : Int32) else 0))])) rfl (by rw [hml]; rfl) (argsL := [(.int v2_0)]) (rest := [(.int (if ((33 : Int32) ≤ v2_0 ∧ v2_0 ≤ (122 : Int32) ∧ ¬ ((91 : Int32) ≤ v2_0 ∧ v2_0 ≤ (94 : Int32)) ∧ ¬ v2_0 = (96 : Int32)) then (1 : Int32) else 0))]) (lenOf pd_0 rfl) rfl (by show 2 * 0 + _ ≤ _; exact Nat.le_of_eq rfl) (hb hby at_53) (fun _ _ => ⟨rfl, hh13, (by decide : 0 + 0 ≤ _), (by decide : 0 + 0 ≤ _)⟩)
  dsimp only [Pt.U, Pt.locs, Pt.cells, Pt.slots] at X14 l14 y14 z14 st14 hQ14
  subst l14 y14 z14
  obtain ⟨rfl, N14q, hh14⟩ := hQ14
  have N14 := Fr.app N13 N14q
  have pre15 : ∀ t, Steps p.tables e below (T14.setTop (mkF m 64 #[.val (.int p0), .val (.int p1), .val (.int (p1 &&& (3 : Int32))), .val (.int v2_0)] [(.int (1 : Int32))])) t → Steps p.tables e below (s₁.setTop (entryFrame m #[(.int p0), (.int p1)] maxLocals)) t := fun t k => prem2 t (by
    show Steps p.tables e below (s₁.setTop (mkF m 48 #[.val (.int p0), .val (.int p1), .val (.int (p1 &&& (3 : Int32))), .val (.int v2_0)] [])) _
    refine XS.iloadN X0.here hx rfl (hb hby at_48) rfl ?_
    show Steps p.tables e below (s₁.setTop (mkF m 49 #[.val (.int p0), .val (.int p1), .val (.int (p1 &&& (3 : Int32))), .val (.int v2_0)] [(.int v2_0)])) _
    refine st13 _ ?_
    show Steps p.tables e below (T13.setTop (mkF m 52 #[.val (.int p0), .val (.int p1), .val (.int (p1 &&& (3 : Int32))), .val (.int v2_0)] [(.int (if ((33 : Int32) ≤ v2_0 ∧ v2_0 ≤ (122 : Int32) ∧ ¬ ((91 : Int32) ≤ v2_0 ∧ v2_0 ≤ (94 : Int32)) ∧ ¬ v2_0 = (96 : Int32)) then (1 : Int32) else 0))])) _
    refine XS.iloadN X13.here hx rfl (hb hby at_52) rfl ?_
    show Steps p.tables e below (T13.setTop (mkF m 53 #[.val (.int p0), .val (.int p1), .val (.int (p1 &&& (3 : Int32))), .val (.int v2_0)] [(.int v2_0), (.int (if ((33 : Int32) ≤ v2_0 ∧ v2_0 ≤ (122 : Int32) ∧ ¬ ((91 : Int32) ≤ v2_0 ∧ v2_0 ≤ (94 : Int32)) ∧ ¬ v2_0 = (96 : Int32)) then (1 : Int32) else 0))])) _
    refine st14 _ ?_
    show Steps p.tables e below (T14.setTop (mkF m 56 #[.val (.int p0), .val (.int p1), .val (.int (p1 &&& (3 : Int32))), .val (.int v2_0)] [(.int (if ((33 : Int32) ≤ v2_0 ∧ v2_0 ≤ (122 : Int32) ∧ ¬ ((91 : Int32) ≤ v2_0 ∧ v2_0 ≤ (94 : Int32)) ∧ ¬ v2_0 = (96 : Int32)) then (1 : Int32) else 0)), (.int (if ((33 : Int32) ≤ v2_0 ∧ v2_0 ≤ (122 : Int32) ∧ ¬ ((91 : Int32) ≤ v2_0 ∧ v2_0 ≤ (94 : Int32)) ∧ ¬ v2_0 = (96 : Int32)) then (1 : Int32) else 0))])) _
    refine XS.icmpNo X14.here hx rfl (hb hby at_56) rfl (teq (own_bb Iff.rfl)).2 ?_
    show Steps p.tables e below (T14.setTop (mkF m 59 #[.val (.int p0), .val (.int p1), .val (.int (p1 &&& (3 : Int32))), .val (.int v2_0)] [])) _
    refine XS.iconst X14.here hx rfl (hb hby at_59) ?_
    show Steps p.tables e below (T14.setTop (mkF m 60 #[.val (.int p0), .val (.int p1), .val (.int (p1 &&& (3 : Int32))), .val (.int v2_0)] [(.int (1 : Int32))])) _
    refine XS.goto X14.here hx rfl (pc0 := 60) (pc' := 64) rfl (hb hby at_60) (by decide) (by decide) ?_
    exact k)
  obtain ⟨fs, hr, hrun, hended, hW, hsame⟩ := X14.leave (v := some (.int (1 : Int32))) (fun h => by rw [Bd.returns] at h; cases h)
  refine ⟨_, _, pre15 _ ?_, hrun, hended, _, _, rfl, ?_, ⟨_, rfl⟩, hW, hsame.mono (by decide) (by decide)⟩
  · exact retN X14 hx (t := .boolean) Bd.returns (by simp) (hb hby at_64) hr
  · show Q0 Z p0 p1 wD cl h0 n0 _ T14.heap _
    rw [hh14]
    exact ⟨rfl, N14⟩
set_option maxRecDepth 65536 in
set_option maxHeartbeats 40000000 in
theorem comes_1 {Post : Tables → Env → Array Value → State → Outcome → State → Prop} (hpost : ∀ tb e args s v u, (limb_1_1.after args s (.returned v) u = true ∧ limb_1_2.after args s (.returned v) u = true ∧ True) → FrameEnd s (.returned v) u (Jvm.fieldLocs frame_1_writes args s ++ Jvm.arrayLocs frame_1_arrays args s ++ Jvm.staticLocs frame_1_statics s) 0 0 → Post tb e args s (.returned v) u) :
    ArmFor flags0 classFile x code maxLocals ret World_1 tables_1 room_1 Calls_1 rest_1 Pre_1 Post := by
  intro l hfl _ _ p e ha hc hk s m args below hf hA hF happ hP
  obtain ⟨hcalls, hrest, hpre⟩ := hP
  obtain ⟨-, -, -, hnamed, -, -, -, hat⟩ := (Spec.applies_iff hf).mp happ
  obtain ⟨hg, hn⟩ := and_e (Cond.before_iff.mp (show (Jvm.Cond.and given_1 narrow_1).before args s = true from hpre))
  obtain ⟨g1, g2⟩ := and_e hg
  obtain ⟨g3, g4⟩ := and_e g2
  obtain ⟨w0, w1, rfl⟩ : ∃ w0 w1 : Value, args = #[w0, w1] := by
    have hs : args.size = 2 := by simpa [Cond.value, given_1] using g1
    obtain ⟨L⟩ := args
    match L, hs with
    | [w0, w1], _ => exact ⟨w0, w1, rfl⟩
  have hw := fun d (hd : d ∈ tables_1) => atoms_spec (ws := Jvm.Cond.code x code maxLocals ret :: tables_1) hat d (List.mem_cons_of_mem _ hd)
  have hfit : Fit s := fun {y c} hc i hi => by
    obtain ⟨ha, rfl⟩ := Array.getElem?_eq_some_iff.mp hc
    have q := List.all_eq_true.mp ((Array.all_eq_true_iff_forall_mem.mp hF) _ (Array.getElem_mem ha)) i (List.mem_range.mpr hi)
    simpa [Array.getElem?_eq_getElem hi] using q
  obtain ⟨i0, ei0⟩ := is_v g3
  obtain rfl : w0 = (.int i0) := Option.some.inj ei0
  obtain ⟨i1, ei1⟩ := is_v g4
  obtain rfl : w1 = (.int i1) := Option.some.inj ei1
  obtain ⟨m1a, m1b⟩ := and_e hn
  obtain ⟨m2a, m2b⟩ := and_e m1b
  obtain ⟨m3a, m3b⟩ := and_e m2b
  obtain ⟨m4a, m4b⟩ := and_e m3b
  obtain ⟨m5a, m5b⟩ := and_e m4b
  obtain ⟨m6a, m6b⟩ := and_e m5b
  obtain ⟨m7a, m7b⟩ := and_e m6b
  obtain ⟨m8a, m8b⟩ := and_e m7b
  obtain ⟨wD, ev⟩ := arr_v m1a
  obtain ⟨cl, Ar⟩ := Arr.start ev m1a
  have af := Ar.fin (Vm.Alike.refl _)
  have S_D := Sta.start ev (Or.inr ⟨(hw _ (List.mem_of_getElem? (i := 3) rfl)), (hw _ (List.mem_of_getElem? (i := 6) rfl))⟩)
  have el := eqv_i (Term.int_eval 128) m2a
  obtain ⟨hlt, hsz⟩ : cl.slots.size < 2 ^ 31 ∧ cl.slots.size.toInt32 = (128 : Int32) := own_len ev af el
  have Tb := Tab.start hfit Ar (Or.inr (Or.inr (Or.inl rfl))) hlt hsz (by decide)
  have Sz := Tb.2.1
  have evj : ∀ idx, (Term.static "com/example/octatom/octatom/seven/SevenForm" "DIGIT_VALUES" "[B").eval #[.int i0, .int i1] s none idx s = some (.ref wD) := fun _ => ev
  have ea : ∀ j : Int32, ¬ j < 0 → j < (128 : Int32) → (Term.elem (Term.static "com/example/octatom/octatom/seven/SevenForm" "DIGIT_VALUES" "[B") (.index 0)).eval #[.int i0, .int i1] s none [j.toNatClampNeg] s = some (.int (atv cl j)) := fun j h1 h2 => (elem_f (evj _) (idx_at h1) af h1).trans (Tb.2.2.2 j (inb_of Sz ⟨h1, h2⟩))
  have ec : ∀ (j : Int32) (h1 : ¬ j < 0) (h2 : j < (128 : Int32)), j.toNatClampNeg < cl.slots.size := fun j h1 h2 => Nat.lt_of_not_le fun q => inb_of Sz ⟨h1, h2⟩ (Or.inr q)
  have e95 : atv cl 95 = 58 := atv_of ((elem_in (eqv_i (Term.int_eval 58) m6a) ev (Term.int_eval 95) Ar.1).2)
  have e96 : atv cl 96 = -1 := atv_of ((elem_in (eqv_i (Term.int_eval (-1)) m7a) ev (Term.int_eval 96) Ar.1).2)
  have El : ∀ j : Int32, ¬ j < 0 → j < (128 : Int32) → cl.slots[j.toNatClampNeg]? = some (.int (atv cl j)) ∧ (¬ atv cl j < 0 ↔ ((33 : Int32) ≤ j ∧ j ≤ (122 : Int32) ∧ ¬ ((91 : Int32) ≤ j ∧ j ≤ (94 : Int32)) ∧ ¬ j = (96 : Int32))) := fun j h1 h2 => by
    refine ⟨Tb.2.2.2 j (inb_of Sz ⟨h1, h2⟩), ?_⟩
    have a1 := or_e2 (Cond.le_ints (Term.int_eval 33) (idx_at h1)) (Cond.eq_ints (ea j h1 h2) (Term.int_eval (-1))) (Cond.all_elim ev af m3a _ (ec j h1 h2))
    have a2 := own_or3 (Cond.lt_ints (idx_at h1) (Term.int_eval 33)) (Cond.le_ints (Term.int_eval 91) (idx_at h1)) (Cond.eq_ints (ea j h1 h2) (own_sub (idx_at h1) (Term.int_eval 33))) (Cond.all_elim ev af m4a _ (ec j h1 h2))
    have a3 := own_or3 (Cond.lt_ints (idx_at h1) (Term.int_eval 91)) (Cond.le_ints (Term.int_eval 95) (idx_at h1)) (Cond.eq_ints (ea j h1 h2) (Term.int_eval (-1))) (Cond.all_elim ev af m5a _ (ec j h1 h2))
    have a4 := own_or3 (Cond.lt_ints (idx_at h1) (Term.int_eval 97)) (Cond.le_ints (Term.int_eval 123) (idx_at h1)) (Cond.eq_ints (ea j h1 h2) (own_sub (idx_at h1) (Term.int_eval 38))) (Cond.all_elim ev af m8a _ (ec j h1 h2))
    have a5 := or_e2 (Cond.lt_ints (idx_at h1) (Term.int_eval 123)) (Cond.eq_ints (ea j h1 h2) (Term.int_eval (-1))) (Cond.all_elim ev af m8b _ (ec j h1 h2))
    exact own_tab j (atv cl j) h1 h2 a1 a2 a3 a4 a5 (fun q => by rw [q]; exact e95) (fun q => by rw [q]; exact e96)
  obtain ⟨n, o, h1, h2, h3, _, L, rfl, ⟨rfl, N⟩, hq⟩ := rm0 l s _ hw tables_1 i0 i1 wD cl s.heap s.heap.size (Nat.le_refl _) S_D Ar Sz El p e ha hc hk s m _ below hf ((Spec.applies_iff_loose hf).mp happ).1 ⟨rfl, State.Warmed39.refl s, rfl⟩ trivial
  refine ⟨n, _, h1, h2, h3, hpost _ _ _ _ _ _ ⟨Cond.after_iff.mpr rfl, Cond.after_iff.mpr (eq_i res_at (Term.int_eval (1)) rfl), trivial⟩ ⟨hq.1, hq.2.1, (hq.2.2.sift fun y hy => Or.inr (N y hy)).mono (by decide) (by decide)⟩⟩
theorem main_1_1 : Claimed_1_1 := comes_1 fun _ _ _ _ _ _ h hF => ⟨h.1, hF⟩
theorem main_1_2 : Claimed_1_2 := comes_1 fun _ _ _ _ _ _ h hF => ⟨h.2.1, hF⟩
end Jvm.Pilot.@@N@@
namespace Jvm.Pilot.@@N@@
open Jvm Jvm.ClassFile Sem Op Lib Jvm.Free Jvm.Stand Jvm.Pilot.@@N@@.Jvm.D
/-! MADE BY PROGRAM (witnessworld.py) out of the Statement's table words and the real class files: 9 classes; the members and pool entries that the words name. The judged class is class 1, her method 2. -/
namespace start1
open Jvm.ClassFile
def u (s : String) : CpInfo := .utf8 (stringToUtf16 s)
/-- a pool by its gaps: so many unusable entries, then the entry; so many at the end -/
def gap : Nat → List CpInfo → List CpInfo
  | 0, r => r
  | n + 1, r => .unusable :: gap n r
def poolList (es : List (Nat × CpInfo)) (last : Nat) : List CpInfo := es.foldr (fun e r => gap e.1 (e.2 :: r)) (gap last [])
def pool (es : List (Nat × CpInfo)) (last : Nat) : Array CpInfo := ⟨poolList es last⟩
def fileOf (pool : Array CpInfo) (this : Nat) (attrs : Array Attribute := #[]) (ms : Array MethodInfo := #[]) (fl : Nat := 33) (sup : Nat := 0) (ifs : Array Nat := #[]) (fds : Array FieldInfo := #[]) : ClassFile where
  minorVersion := 0
  majorVersion := 65
  constantPool := pool
  accessFlags := fl
  thisClass := this
  superClass := sup
  interfaces := ifs
  fields := fds
  methods := ms
  attributes := attrs
def plain (name : String) (sup : Option ClassId) : Class where
  name := name
  kind := .ordinary
  loader := none
  accessFlags := 33
  super := sup
  interfaces := #[]
  cf := none
  fields := #[]
  methods := #[]
  instanceTypes := #[]
  staticTypes := #[]
  resolved := #[]
  callSites := []
  init := .initialized
  statics := none
  mirror := none

def pool0 : Array CpInfo := pool [(5, u "<init>"), (0, u "()V"), (1, .class_ 10), (1, u "java/lang/Object")] 113

def k0m0 : Method := { name := "<init>", desc := "()V", sig := { parameters := [], returnType := none }, accessFlags := 1, code := none }
/-- java/lang/Object -/
def k0 : Class := { plain "java/lang/Object" none with
  accessFlags := 33
  interfaces := #[]
  cf := some (fileOf pool0 8 #[] #[{ accessFlags := 1, nameIndex := 5, descriptorIndex := 6, attributes := #[] }] 33 0 #[] #[])
  fields := #[]
  methods := #[k0m0]
  instanceTypes := #[]
  staticTypes := #[]
  resolved := Array.replicate 124 none
  statics := none }

def pool1 : Array CpInfo := pool [(2, .class_ 4), (1, u "java/lang/Object"), (0, u "<init>"), (0, u "()V"), (0, .integer 65535), (0, .integer 2147483647), (0, .methodref 10 11), (0, .class_ 12), (0, .nameAndType 13 14), (0, u "com/example/octatom/octatom/seven/SevenForm"), (0, u "inAlphabet"), (0, u "(I)Z"), (0, .methodref 16 17), (0, .class_ 18), (0, .nameAndType 19 14), (0, u "com/example/octatom/octatom/seven/SevenFormInAlphabetPinLaw"), (0, u "expected"), (3, u "law"), (0, u "(II)Z")] 2

def k1m0 : Method := { name := "<init>", desc := "()V", sig := { parameters := [], returnType := none }, accessFlags := 2, code := none }
def k1c1 : Code := { maxStack := 2, maxLocals := 1, code := method_2_code, exceptionTable := #[], attributes := #[] }
def k1m1 : Method := { name := "expected", desc := "(I)Z", sig := { parameters := [.int], returnType := some .boolean }, accessFlags := 10, code := some k1c1 }
def k1c2 : Code := { maxStack := 2, maxLocals := 4, code := code, exceptionTable := #[], attributes := #[] }
def k1m2 : Method := { name := "law", desc := "(II)Z", sig := { parameters := [.int, .int], returnType := some .boolean }, accessFlags := 9, code := some k1c2 }
/-- com/example/octatom/octatom/seven/SevenFormInAlphabetPinLaw -/
def k1 : Class := { plain "com/example/octatom/octatom/seven/SevenFormInAlphabetPinLaw" (some 0) with
  accessFlags := 49
  interfaces := #[]
  cf := some (fileOf pool1 16 #[] #[{ accessFlags := 2, nameIndex := 5, descriptorIndex := 6, attributes := #[] }, { accessFlags := 10, nameIndex := 19, descriptorIndex := 14, attributes := #[] }, { accessFlags := 9, nameIndex := 23, descriptorIndex := 24, attributes := #[] }] 49 2 #[] #[])
  fields := #[]
  methods := #[k1m0, k1m1, k1m2]
  instanceTypes := #[]
  staticTypes := #[]
  resolved := Array.replicate 27 none
  statics := none }

def pool2 : Array CpInfo := pool [(1, .class_ 2), (0, u "com/example/octatom/octatom/seven/SevenForm"), (1, .class_ 6), (1, u "java/lang/Object"), (0, u "<init>"), (0, u "()V"), (2, u "SELECTORS"), (0, u "[C"), (2, u "ESCAPED"), (0, u "[I"), (0, .fieldref 1 18), (0, .nameAndType 19 20), (0, u "DIGIT_VALUES"), (0, u "[B"), (2, u "WINDOW_INDEXES"), (2, u "WINDOW_CHARACTERS"), (53, u "CHECKED_ITEM_START"), (0, u "I"), (21, u "ALPHABET"), (0, u "Ljava/lang/String;"), (1, u "BASE"), (1, u "MAX_DIGITS"), (1, u "SMALL_ZERO"), (0, u "C"), (1, u "SMALL_TEN"), (1, u "SMALL_MINUS_ONE"), (1, u "SMALL_LIMIT"), (1, u "POSITIVE"), (1, u "NEGATIVE"), (1, u "ARRAY_OPEN"), (1, u "ARRAY_CLOSE"), (1, u "MAP_OPEN"), (1, u "ANY_MAP_OPEN"), (1, u "MAP_CLOSE"), (1, u "TAG"), (1, u "BYTES"), (1, u "SIMPLE"), (1, u "FLOAT_DECIMAL"), (1, u "FLOAT_HALF"), (1, u "FLOAT_SINGLE"), (1, u "FLOAT_DOUBLE"), (1, u "HALF_DIGITS"), (1, u "SINGLE_DIGITS"), (1, u "DOUBLE_DIGITS"), (0, u "FLOAT_FRACTION"), (1, u "MAX_FRACTION_DIGITS"), (0, u "FRACTION_SIGNIFICAND_SHIFT"), (0, u "NAMED_SIMPLE"), (2, u "FIRST_NAMED_SIMPLE"), (1, u "GROUP_BYTES"), (1, u "UNDERSCORE_QUOTE"), (1, u "QUOTE"), (1, u "BLANK"), (0, u "ESCAPE"), (1, u "OTHER_BLANK"), (0, u "ESCAPED_PAIRS"), (0, u "LITERALS"), (0, u "WINDOW_FIRST"), (0, u "WINDOW_LAST"), (1, u "WINDOW_ANYWHERE"), (0, u "REOPEN"), (1, u "WIDE"), (0, u "LETTERS"), (1, u "CODE_POINT"), (0, u "WINDOW_SIZE"), (1, u "WINDOW_STEP"), (0, u "NO_WINDOW"), (1, u "SHORT_WINDOW_LIMIT"), (1, u "WINDOW_ANYWHERE_DIGITS"), (0, u "WIDE_LENGTH"), (0, u "WIDE_LIMIT"), (1, u "CODE_POINT_DIGITS"), (0, u "CODE_POINT_LIMIT"), (1, u "CHECK_MARK"), (0, u "CHECK_DIGITS"), (0, u "CHECKED_MIN_LENGTH"), (1, u "FILL"), (1, u "ASCII"), (1, u "NONE"), (3, u "inAlphabet"), (0, u "(I)Z"), (16, .class_ 228), (0, u "com/example/octatom/octatom/seven/SevenForm$TextMode")] 2

def k2m0 : Method := { name := "<init>", desc := "()V", sig := { parameters := [], returnType := none }, accessFlags := 2, code := none }
def k2c1 : Code := { maxStack := 2, maxLocals := 1, code := prog_52_method_3_code, exceptionTable := #[], attributes := #[] }
def k2m1 : Method := { name := "inAlphabet", desc := "(I)Z", sig := { parameters := [.int], returnType := some .boolean }, accessFlags := 8, code := some k2c1 }
/-- com/example/octatom/octatom/seven/SevenForm -/
def k2 : Class := { plain "com/example/octatom/octatom/seven/SevenForm" (some 0) with
  accessFlags := 48
  interfaces := #[]
  cf := some (fileOf pool2 1 #[.nestMembers #[227]] #[{ accessFlags := 2, nameIndex := 7, descriptorIndex := 8, attributes := #[] }, { accessFlags := 8, nameIndex := 209, descriptorIndex := 210, attributes := #[] }] 48 4 #[] #[{ accessFlags := 24, nameIndex := 103, descriptorIndex := 104, attributes := #[] }, { accessFlags := 24, nameIndex := 106, descriptorIndex := 81, attributes := #[] }, { accessFlags := 24, nameIndex := 108, descriptorIndex := 81, attributes := #[] }, { accessFlags := 24, nameIndex := 110, descriptorIndex := 111, attributes := #[] }, { accessFlags := 24, nameIndex := 113, descriptorIndex := 111, attributes := #[] }, { accessFlags := 24, nameIndex := 115, descriptorIndex := 111, attributes := #[] }, { accessFlags := 24, nameIndex := 117, descriptorIndex := 81, attributes := #[] }, { accessFlags := 24, nameIndex := 119, descriptorIndex := 111, attributes := #[] }, { accessFlags := 24, nameIndex := 121, descriptorIndex := 111, attributes := #[] }, { accessFlags := 24, nameIndex := 123, descriptorIndex := 111, attributes := #[] }, { accessFlags := 24, nameIndex := 125, descriptorIndex := 111, attributes := #[] }, { accessFlags := 24, nameIndex := 127, descriptorIndex := 111, attributes := #[] }, { accessFlags := 24, nameIndex := 129, descriptorIndex := 111, attributes := #[] }, { accessFlags := 24, nameIndex := 131, descriptorIndex := 111, attributes := #[] }, { accessFlags := 24, nameIndex := 133, descriptorIndex := 111, attributes := #[] }, { accessFlags := 24, nameIndex := 135, descriptorIndex := 111, attributes := #[] }, { accessFlags := 24, nameIndex := 137, descriptorIndex := 111, attributes := #[] }, { accessFlags := 24, nameIndex := 139, descriptorIndex := 111, attributes := #[] }, { accessFlags := 24, nameIndex := 141, descriptorIndex := 111, attributes := #[] }, { accessFlags := 24, nameIndex := 143, descriptorIndex := 111, attributes := #[] }, { accessFlags := 24, nameIndex := 145, descriptorIndex := 111, attributes := #[] }, { accessFlags := 24, nameIndex := 147, descriptorIndex := 81, attributes := #[] }, { accessFlags := 24, nameIndex := 149, descriptorIndex := 81, attributes := #[] }, { accessFlags := 24, nameIndex := 151, descriptorIndex := 81, attributes := #[] }, { accessFlags := 24, nameIndex := 152, descriptorIndex := 111, attributes := #[] }, { accessFlags := 24, nameIndex := 154, descriptorIndex := 81, attributes := #[] }, { accessFlags := 24, nameIndex := 155, descriptorIndex := 81, attributes := #[] }, { accessFlags := 24, nameIndex := 156, descriptorIndex := 104, attributes := #[] }, { accessFlags := 24, nameIndex := 159, descriptorIndex := 81, attributes := #[] }, { accessFlags := 24, nameIndex := 161, descriptorIndex := 81, attributes := #[] }, { accessFlags := 24, nameIndex := 163, descriptorIndex := 111, attributes := #[] }, { accessFlags := 24, nameIndex := 165, descriptorIndex := 111, attributes := #[] }, { accessFlags := 24, nameIndex := 167, descriptorIndex := 111, attributes := #[] }, { accessFlags := 24, nameIndex := 168, descriptorIndex := 111, attributes := #[] }, { accessFlags := 24, nameIndex := 170, descriptorIndex := 111, attributes := #[] }, { accessFlags := 26, nameIndex := 171, descriptorIndex := 104, attributes := #[] }, { accessFlags := 24, nameIndex := 172, descriptorIndex := 104, attributes := #[] }, { accessFlags := 24, nameIndex := 173, descriptorIndex := 111, attributes := #[] }, { accessFlags := 24, nameIndex := 174, descriptorIndex := 111, attributes := #[] }, { accessFlags := 24, nameIndex := 176, descriptorIndex := 111, attributes := #[] }, { accessFlags := 24, nameIndex := 177, descriptorIndex := 111, attributes := #[] }, { accessFlags := 24, nameIndex := 179, descriptorIndex := 111, attributes := #[] }, { accessFlags := 24, nameIndex := 180, descriptorIndex := 111, attributes := #[] }, { accessFlags := 24, nameIndex := 182, descriptorIndex := 111, attributes := #[] }, { accessFlags := 24, nameIndex := 183, descriptorIndex := 81, attributes := #[] }, { accessFlags := 24, nameIndex := 185, descriptorIndex := 81, attributes := #[] }, { accessFlags := 24, nameIndex := 186, descriptorIndex := 81, attributes := #[] }, { accessFlags := 24, nameIndex := 188, descriptorIndex := 81, attributes := #[] }, { accessFlags := 24, nameIndex := 190, descriptorIndex := 81, attributes := #[] }, { accessFlags := 24, nameIndex := 191, descriptorIndex := 81, attributes := #[] }, { accessFlags := 24, nameIndex := 192, descriptorIndex := 81, attributes := #[] }, { accessFlags := 24, nameIndex := 194, descriptorIndex := 81, attributes := #[] }, { accessFlags := 24, nameIndex := 195, descriptorIndex := 81, attributes := #[] }, { accessFlags := 24, nameIndex := 197, descriptorIndex := 104, attributes := #[] }, { accessFlags := 24, nameIndex := 198, descriptorIndex := 81, attributes := #[] }, { accessFlags := 24, nameIndex := 80, descriptorIndex := 81, attributes := #[] }, { accessFlags := 24, nameIndex := 199, descriptorIndex := 81, attributes := #[] }, { accessFlags := 24, nameIndex := 201, descriptorIndex := 111, attributes := #[] }, { accessFlags := 26, nameIndex := 203, descriptorIndex := 81, attributes := #[] }, { accessFlags := 26, nameIndex := 205, descriptorIndex := 111, attributes := #[] }, { accessFlags := 26, nameIndex := 19, descriptorIndex := 20, attributes := #[] }, { accessFlags := 26, nameIndex := 11, descriptorIndex := 12, attributes := #[] }, { accessFlags := 26, nameIndex := 15, descriptorIndex := 16, attributes := #[] }, { accessFlags := 26, nameIndex := 26, descriptorIndex := 12, attributes := #[] }, { accessFlags := 26, nameIndex := 23, descriptorIndex := 20, attributes := #[] }])
  fields := #[{ name := "ALPHABET", type := (.object "java/lang/String"), accessFlags := 24, slot := 0, constantValue := 0 }, { name := "BASE", type := .int, accessFlags := 24, slot := 1, constantValue := 0 }, { name := "MAX_DIGITS", type := .int, accessFlags := 24, slot := 2, constantValue := 0 }, { name := "SMALL_ZERO", type := .char, accessFlags := 24, slot := 3, constantValue := 0 }, { name := "SMALL_TEN", type := .char, accessFlags := 24, slot := 4, constantValue := 0 }, { name := "SMALL_MINUS_ONE", type := .char, accessFlags := 24, slot := 5, constantValue := 0 }, { name := "SMALL_LIMIT", type := .int, accessFlags := 24, slot := 6, constantValue := 0 }, { name := "POSITIVE", type := .char, accessFlags := 24, slot := 7, constantValue := 0 }, { name := "NEGATIVE", type := .char, accessFlags := 24, slot := 8, constantValue := 0 }, { name := "ARRAY_OPEN", type := .char, accessFlags := 24, slot := 9, constantValue := 0 }, { name := "ARRAY_CLOSE", type := .char, accessFlags := 24, slot := 10, constantValue := 0 }, { name := "MAP_OPEN", type := .char, accessFlags := 24, slot := 11, constantValue := 0 }, { name := "ANY_MAP_OPEN", type := .char, accessFlags := 24, slot := 12, constantValue := 0 }, { name := "MAP_CLOSE", type := .char, accessFlags := 24, slot := 13, constantValue := 0 }, { name := "TAG", type := .char, accessFlags := 24, slot := 14, constantValue := 0 }, { name := "BYTES", type := .char, accessFlags := 24, slot := 15, constantValue := 0 }, { name := "SIMPLE", type := .char, accessFlags := 24, slot := 16, constantValue := 0 }, { name := "FLOAT_DECIMAL", type := .char, accessFlags := 24, slot := 17, constantValue := 0 }, { name := "FLOAT_HALF", type := .char, accessFlags := 24, slot := 18, constantValue := 0 }, { name := "FLOAT_SINGLE", type := .char, accessFlags := 24, slot := 19, constantValue := 0 }, { name := "FLOAT_DOUBLE", type := .char, accessFlags := 24, slot := 20, constantValue := 0 }, { name := "HALF_DIGITS", type := .int, accessFlags := 24, slot := 21, constantValue := 0 }, { name := "SINGLE_DIGITS", type := .int, accessFlags := 24, slot := 22, constantValue := 0 }, { name := "DOUBLE_DIGITS", type := .int, accessFlags := 24, slot := 23, constantValue := 0 }, { name := "FLOAT_FRACTION", type := .char, accessFlags := 24, slot := 24, constantValue := 0 }, { name := "MAX_FRACTION_DIGITS", type := .int, accessFlags := 24, slot := 25, constantValue := 0 }, { name := "FRACTION_SIGNIFICAND_SHIFT", type := .int, accessFlags := 24, slot := 26, constantValue := 0 }, { name := "NAMED_SIMPLE", type := (.object "java/lang/String"), accessFlags := 24, slot := 27, constantValue := 0 }, { name := "FIRST_NAMED_SIMPLE", type := .int, accessFlags := 24, slot := 28, constantValue := 0 }, { name := "GROUP_BYTES", type := .int, accessFlags := 24, slot := 29, constantValue := 0 }, { name := "UNDERSCORE_QUOTE", type := .char, accessFlags := 24, slot := 30, constantValue := 0 }, { name := "QUOTE", type := .char, accessFlags := 24, slot := 31, constantValue := 0 }, { name := "BLANK", type := .char, accessFlags := 24, slot := 32, constantValue := 0 }, { name := "ESCAPE", type := .char, accessFlags := 24, slot := 33, constantValue := 0 }, { name := "OTHER_BLANK", type := .char, accessFlags := 24, slot := 34, constantValue := 0 }, { name := "ESCAPED_PAIRS", type := (.object "java/lang/String"), accessFlags := 26, slot := 35, constantValue := 0 }, { name := "LITERALS", type := (.object "java/lang/String"), accessFlags := 24, slot := 36, constantValue := 0 }, { name := "WINDOW_FIRST", type := .char, accessFlags := 24, slot := 37, constantValue := 0 }, { name := "WINDOW_LAST", type := .char, accessFlags := 24, slot := 38, constantValue := 0 }, { name := "WINDOW_ANYWHERE", type := .char, accessFlags := 24, slot := 39, constantValue := 0 }, { name := "REOPEN", type := .char, accessFlags := 24, slot := 40, constantValue := 0 }, { name := "WIDE", type := .char, accessFlags := 24, slot := 41, constantValue := 0 }, { name := "LETTERS", type := .char, accessFlags := 24, slot := 42, constantValue := 0 }, { name := "CODE_POINT", type := .char, accessFlags := 24, slot := 43, constantValue := 0 }, { name := "WINDOW_SIZE", type := .int, accessFlags := 24, slot := 44, constantValue := 0 }, { name := "WINDOW_STEP", type := .int, accessFlags := 24, slot := 45, constantValue := 0 }, { name := "NO_WINDOW", type := .int, accessFlags := 24, slot := 46, constantValue := 0 }, { name := "SHORT_WINDOW_LIMIT", type := .int, accessFlags := 24, slot := 47, constantValue := 0 }, { name := "WINDOW_ANYWHERE_DIGITS", type := .int, accessFlags := 24, slot := 48, constantValue := 0 }, { name := "WIDE_LENGTH", type := .int, accessFlags := 24, slot := 49, constantValue := 0 }, { name := "WIDE_LIMIT", type := .int, accessFlags := 24, slot := 50, constantValue := 0 }, { name := "CODE_POINT_DIGITS", type := .int, accessFlags := 24, slot := 51, constantValue := 0 }, { name := "CODE_POINT_LIMIT", type := .int, accessFlags := 24, slot := 52, constantValue := 0 }, { name := "CHECK_MARK", type := (.object "java/lang/String"), accessFlags := 24, slot := 53, constantValue := 0 }, { name := "CHECK_DIGITS", type := .int, accessFlags := 24, slot := 54, constantValue := 0 }, { name := "CHECKED_ITEM_START", type := .int, accessFlags := 24, slot := 55, constantValue := 0 }, { name := "CHECKED_MIN_LENGTH", type := .int, accessFlags := 24, slot := 56, constantValue := 0 }, { name := "FILL", type := .char, accessFlags := 24, slot := 57, constantValue := 0 }, { name := "ASCII", type := .int, accessFlags := 26, slot := 58, constantValue := 0 }, { name := "NONE", type := .char, accessFlags := 26, slot := 59, constantValue := 0 }, { name := "DIGIT_VALUES", type := (.array .byte), accessFlags := 26, slot := 60, constantValue := 0 }, { name := "SELECTORS", type := (.array .char), accessFlags := 26, slot := 61, constantValue := 0 }, { name := "ESCAPED", type := (.array .int), accessFlags := 26, slot := 62, constantValue := 0 }, { name := "WINDOW_CHARACTERS", type := (.array .char), accessFlags := 26, slot := 63, constantValue := 0 }, { name := "WINDOW_INDEXES", type := (.array .byte), accessFlags := 26, slot := 64, constantValue := 0 }]
  methods := #[k2m0, k2m1]
  instanceTypes := #[]
  staticTypes := #[(.object "java/lang/String"), .int, .int, .char, .char, .char, .int, .char, .char, .char, .char, .char, .char, .char, .char, .char, .char, .char, .char, .char, .char, .int, .int, .int, .char, .int, .int, (.object "java/lang/String"), .int, .int, .char, .char, .char, .char, .char, (.object "java/lang/String"), (.object "java/lang/String"), .char, .char, .char, .char, .char, .char, .char, .int, .int, .int, .int, .int, .int, .int, .int, .int, (.object "java/lang/String"), .int, .int, .int, .char, .int, .char, (.array .byte), (.array .char), (.array .int), (.array .char), (.array .byte)]
  resolved := Array.replicate 231 none
  statics := some 0 }

def pool3 : Array CpInfo := pool [(1, u "java/lang/Cloneable"), (0, .class_ 1), (0, u "java/lang/Object"), (0, .class_ 3)] 3

/-- java/lang/Cloneable -/
def k3 : Class := { plain "java/lang/Cloneable" (some 0) with
  accessFlags := 1537
  interfaces := #[]
  cf := some (fileOf pool3 2 #[] #[] 1537 4 #[] #[])
  fields := #[]
  methods := #[]
  instanceTypes := #[]
  staticTypes := #[]
  resolved := Array.replicate 8 none
  statics := none }

def pool4 : Array CpInfo := pool [(1, u "java/io/Serializable"), (0, .class_ 1), (0, u "java/lang/Object"), (0, .class_ 3)] 3

/-- java/io/Serializable -/
def k4 : Class := { plain "java/io/Serializable" (some 0) with
  accessFlags := 1537
  interfaces := #[]
  cf := some (fileOf pool4 2 #[] #[] 1537 4 #[] #[])
  fields := #[]
  methods := #[]
  instanceTypes := #[]
  staticTypes := #[]
  resolved := Array.replicate 8 none
  statics := none }

/-- the primitive byte -/
def k5 : Class := { plain "byte" none with kind := .primitive 'B', accessFlags := 0x411 }
/-- [B -/
def k6 : Class := { plain "[B" (some 0) with kind := .array 5 .byte, interfaces := #[3, 4], accessFlags := 1041 }

/-- the primitive int -/
def k7 : Class := { plain "int" none with kind := .primitive 'I', accessFlags := 0x411 }
/-- [I -/
def k8 : Class := { plain "[I" (some 0) with kind := .array 7 .int, interfaces := #[3, 4], accessFlags := 1041 }

def heap : Heap := #[{ cls := 2, slots := #[.null, .int 0, .int 0, .int 0, .int 0, .int 0, .int 0, .int 0, .int 0, .int 0, .int 0, .int 0, .int 0, .int 0, .int 0, .int 0, .int 0, .int 0, .int 0, .int 0, .int 0, .int 0, .int 0, .int 0, .int 0, .int 0, .int 0, .null, .int 0, .int 0, .int 0, .int 0, .int 0, .int 0, .int 0, .null, .null, .int 0, .int 0, .int 0, .int 0, .int 0, .int 0, .int 0, .int 0, .int 0, .int 0, .int 0, .int 0, .int 0, .int 0, .int 0, .int 0, .null, .int 0, .int 0, .int 0, .int 0, .int 0, .int 0, .ref 1, .null, .null, .null, .null], vm := .statics 2 },
  { cls := 6, slots := #[.int (-1), .int (-1), .int (-1), .int (-1), .int (-1), .int (-1), .int (-1), .int (-1), .int (-1), .int (-1), .int (-1), .int (-1), .int (-1), .int (-1), .int (-1), .int (-1), .int (-1), .int (-1), .int (-1), .int (-1), .int (-1), .int (-1), .int (-1), .int (-1), .int (-1), .int (-1), .int (-1), .int (-1), .int (-1), .int (-1), .int (-1), .int (-1), .int (-1), .int 0, .int 1, .int 2, .int 3, .int 4, .int 5, .int 6, .int 7, .int 8, .int 9, .int 10, .int 11, .int 12, .int 13, .int 14, .int 15, .int 16, .int 17, .int 18, .int 19, .int 20, .int 21, .int 22, .int 23, .int 24, .int 25, .int 26, .int 27, .int 28, .int 29, .int 30, .int 31, .int 32, .int 33, .int 34, .int 35, .int 36, .int 37, .int 38, .int 39, .int 40, .int 41, .int 42, .int 43, .int 44, .int 45, .int 46, .int 47, .int 48, .int 49, .int 50, .int 51, .int 52, .int 53, .int 54, .int 55, .int 56, .int 57, .int (-1), .int (-1), .int (-1), .int (-1), .int 58, .int (-1), .int 59, .int 60, .int 61, .int 62, .int 63, .int 64, .int 65, .int 66, .int 67, .int 68, .int 69, .int 70, .int 71, .int 72, .int 73, .int 74, .int 75, .int 76, .int 77, .int 78, .int 79, .int 80, .int 81, .int 82, .int 83, .int 84, .int (-1), .int (-1), .int (-1), .int (-1), .int (-1)], vm := .none }]
def classes : Array Class := #[k0, k1, k2, k3, k4, k5, k6, k7, k8]
def interned : List (Array UInt16 × Addr) := []
def slotsUsed : Nat := 193
def theMethod : MethodId := ⟨1, 2⟩
def args0 : Array Value := #[.int 5, .int 1]
def aboutOver (below : List Frame) : State where
  vm := { classes := classes, interned := interned.toArray }
  heap := heap
  slotsUsed := slotsUsed
  threads := #[{ frames := .invoking theMethod args0 :: below }]
def below0 : List Frame := [.native { method := ⟨0, 0⟩, args := #[] }]
def about1 : State := aboutOver below0
def p0 : Program := .bare "" "" ""
def e0 : Env := launch0.env 0 0 0
theorem w_frames : about1.frames = Frame.invoking theMethod args0 :: below0 := rfl
set_option maxRecDepth 65536 in
theorem w_args : argsFit about1.vm theMethod args0 = true := by decide +kernel
set_option maxRecDepth 65536 in
theorem w_heap : heapFits about1 = true := by decide +kernel
set_option maxRecDepth 65536 in
theorem w_runnable : about1.curStatus? = some .runnable := by decide +kernel
set_option maxRecDepth 65536 in
theorem w_alone : about1.alone = true := by decide +kernel
set_option maxRecDepth 65536 in
theorem w_named : about1.methodNamed? x = some theMethod := by decide +kernel
set_option maxRecDepth 65536 in
theorem w_hears : about1.hears theMethod below0 = true := by decide +kernel
set_option maxRecDepth 65536 in
theorem w_ripe : about1.ripe theMethod args0 below0 = true := by decide +kernel
theorem w_running : about1.status = .running := rfl
set_option maxRecDepth 65536 in
theorem w_room : about1.hasRoom e0.platform room_1 = true :=
  launch0.hasRoom_least _ room_1 (by decide +kernel) (by decide +kernel) (by decide +kernel) (by decide +kernel) (by decide +kernel) (by decide +kernel)
theorem allAtoms_all (ts : List Jvm.Cond) (a : Array Jvm.Value) (st : Jvm.State) : (allAtoms ts).before a st = ts.all (fun c => c.before a st) := by
  induction ts with
  | nil => rfl
  | cons c t ih =>
    show (Jvm.Cond.and c (allAtoms t)).before a st = _
    rw [Jvm.Cond.before_and, ih, List.all_cons]
def words1 : List Jvm.Cond := Jvm.Cond.code x code maxLocals ret :: tables_1
/-- a 'code' word, met by the world's own term for the bytes: nothing is compared byte by byte -/
theorem code_word {y : MethodName} {bytes : ByteArray} {mx : Nat} {rt : Option FieldType} {a : Array Value} {s : State} {m : MethodId} {meth : Method} {c : Code} (h1 : s.methodNamed? y = some m) (h2 : s.vm.method? m = some meth) (h3 : meth.code = some c) (h4 : c.code = bytes)
    (h5 : (c.maxLocals == mx && c.exceptionTable.isEmpty && decide (c.maxStack ≤ mostOperands) && decide (meth.sig.returnType = rt) && !meth.locks && decide (parseMethodDescriptor y.desc = some meth.sig)) = true) : (Jvm.Cond.code y bytes mx rt).before a s = true := by
  simp only [Bool.and_eq_true, beq_iff_eq, Bool.not_eq_true', decide_eq_true_eq] at h5
  obtain ⟨⟨⟨⟨⟨g1, g2⟩, g3⟩, g4⟩, g5⟩, g6⟩ := h5
  simp [Cond.before, Cond.holds, Cond.value, h1, h2, h3, h4, g1, g2, g3, g4, g5, g6]
def isCode : Jvm.Cond → Bool
  | .code _ _ _ _ => true
  | _ => false
theorem all_split {L : List Jvm.Cond} {P : Jvm.Cond → Bool} (h1 : L.all (fun c => isCode c || P c) = true) (h2 : ∀ c ∈ L.filter isCode, P c = true) : L.all P = true := by
  refine List.all_eq_true.mpr fun c hc => ?_
  have h := List.all_eq_true.mp h1 c hc
  rcases Bool.eq_false_or_eq_true (isCode c) with hi | hi
  · exact h2 c (List.mem_filter.mpr ⟨hc, hi⟩)
  · simpa [hi] using h
set_option maxRecDepth 65536 in
theorem w_c0 : (Jvm.Cond.code x code maxLocals ret).before args0 about1 = true := code_word (m := ⟨1, 2⟩) (meth := k1m2) (c := k1c2) (by decide +kernel) rfl rfl rfl (by decide +kernel)
set_option maxRecDepth 65536 in
theorem w_c1 : (Jvm.Cond.code ({ cls := "com/example/octatom/octatom/seven/SevenForm", name := "inAlphabet", desc := "(I)Z" } : Jvm.MethodName) prog_52_method_3_code (1 : Nat) (Option.some Jvm.ClassFile.FieldType.boolean)).before args0 about1 = true := code_word (m := ⟨2, 1⟩) (meth := k2m1) (c := k2c1) (by decide +kernel) rfl rfl rfl (by decide +kernel)
set_option maxRecDepth 65536 in
theorem w_c2 : (Jvm.Cond.code ({ cls := "com/example/octatom/octatom/seven/SevenFormInAlphabetPinLaw", name := "expected", desc := "(I)Z" } : Jvm.MethodName) method_2_code (1 : Nat) (Option.some Jvm.ClassFile.FieldType.boolean)).before args0 about1 = true := code_word (m := ⟨1, 1⟩) (meth := k1m1) (c := k1c1) (by decide +kernel) rfl rfl rfl (by decide +kernel)
def codes1 : List Jvm.Cond := [Jvm.Cond.code x code maxLocals ret, Jvm.Cond.code ({ cls := "com/example/octatom/octatom/seven/SevenForm", name := "inAlphabet", desc := "(I)Z" } : Jvm.MethodName) prog_52_method_3_code (1 : Nat) (Option.some Jvm.ClassFile.FieldType.boolean), Jvm.Cond.code ({ cls := "com/example/octatom/octatom/seven/SevenFormInAlphabetPinLaw", name := "expected", desc := "(I)Z" } : Jvm.MethodName) method_2_code (1 : Nat) (Option.some Jvm.ClassFile.FieldType.boolean)]
set_option maxRecDepth 65536 in
theorem codes_eq : words1.filter isCode = codes1 := rfl
theorem w_codes : ∀ c ∈ words1.filter isCode, c.before args0 about1 = true := by
  rw [codes_eq]
  intro c hc
  simp only [codes1, List.mem_cons, List.not_mem_nil, or_false] at hc
  rcases hc with rfl | rfl | rfl
  · exact w_c0
  · exact w_c1
  · exact w_c2
set_option maxRecDepth 65536 in
theorem w_t1 : words1.all (fun c => isCode c || c.before args0 about1) = true := by decide +kernel
theorem w_tables : (allAtoms (Jvm.Cond.code x code maxLocals ret :: tables_1)).before args0 about1 = true := by
  rw [allAtoms_all]
  show words1.all (fun c => c.before args0 about1) = true
  refine all_split ?_ w_codes
  rw [w_t1]
set_option maxRecDepth 65536 in
theorem w_case : (Jvm.Cond.and given_1 narrow_1).before args0 about1 = true := by decide +kernel
theorem w_applies : (headSpec (Jvm.Cond.code x code maxLocals ret :: tables_1) room_1).applies x e0.platform about1 = true :=
  (Spec.applies_iff w_frames).mpr ⟨w_running, w_runnable, w_alone, w_named, w_hears, w_ripe, w_room, w_tables⟩
theorem atStart : AtStart classFile x code maxLocals ret World_1 tables_1 room_1 Calls_1 rest_1 Pre_1 launch0 p0 e0 about1 theMethod args0 below0 :=
  ⟨lists_1, trivial, launch0.admits_env _ _ _, launch0.least_env, fairChoices_fair.cas, fairChoices_fair.clock, w_frames, w_args, w_heap, w_applies, trivial, trivial, w_case⟩
end start1
theorem witness_1 : WitnessClaimed_1 := ⟨start1.p0, start1.e0, start1.about1, start1.theMethod, start1.args0, start1.below0, start1.atStart⟩
end Jvm.Pilot.@@N@@
