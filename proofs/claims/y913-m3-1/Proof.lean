import JvmDerived
import JvmDerived.Pilot.@@N@@Statement
import JvmDerived.Pilot.@@N@@Code
set_option linter.unusedVariables false
set_option linter.unusedSimpArgs false
namespace Jvm.RoadKit
open Sem ClassFile Op Lib Jvm.Stand Jvm.Free Jvm.LawKit
section New
variable {p : Program} {l : Launch} {e : Env} {R : Room} {s : State} {m : MethodId} {args : Array Value} {below : List Frame} {meth : Method} {c : Code} {T : State} {locs : List Loc} {cells slots : Nat}
theorem retI (X : Stand p l e R s m args below meth c T locs cells slots) (hx : p.tables.exec = Jvm.exec) {pc : Nat} {Ls : Array Slot} {z : Int32} {rest : List Value} (hret : meth.sig.returnType = some .int) (hd : decode c.code pc = .ok (.ireturn, 1)) {fs : List Frame}
    (hl : ∀ (f : JFrame) (acts : List Action), f.method = m → f.locked = none → f.entered = [] → (doReturn e (T.setTop f) acts (some (.int z))).1 = T.setFrames fs) : Steps p.tables e below (T.setTop (mkF m pc Ls (.int z :: rest))) (T.setFrames fs) := by
  have hm' : T.vm.method? m = some meth := X.method'
  have hn : narrow .int (.int z) = .int z := rfl
  show Steps p.tables e below (T.setTop { method := m, pc := pc, locals := Ls, stack := _ :: rest, locked := none }) _
  jvm_step X.here [X.here.top, hx, hd, hm', hret, hn]
  first | (intro acts; rw [hl _ acts rfl rfl rfl]) | rw [hl _ _ rfl rfl rfl]
  exact Steps.refl _
theorem own_lrem {g : JFrame} {target : State} (X : Stand p l e R s m args below meth c T locs cells slots) (hx : p.tables.exec = Jvm.exec) (hg : g.method = m) {x y : Int64} {rest : List Value} (hd : decode c.code g.pc = .ok (.lrem, 1)) (hs : g.stack = .long y :: .long x :: rest) (hy : y ≠ 0)
    (hr : Steps p.tables e below (T.setTop { g with pc := g.pc + 1, stack := .long (x % y) :: rest }) target) : Steps p.tables e below (T.setTop g) target := by
  have q : x - (x / y) * y = x % y := lrem_mod x y
  exact XS.lrem X.here hx hg hd hs hy (by rw [q]; exact hr)
theorem own_b1 {P : Prop} [Decidable P] (h : P) : ¬ ((if P then (1 : Int32) else 0) = 0) := by rw [if_pos h]; decide
theorem own_b0 {P : Prop} [Decidable P] (h : ¬ P) : (if P then (1 : Int32) else 0) = 0 := if_neg h
theorem own_c1 {P : Prop} [Decidable P] (h : P) : (if P then (1 : Int32) else 0) = 1 := if_pos h
theorem own_c0 {P : Prop} [Decidable P] (h : ¬ P) : ¬ ((if P then (1 : Int32) else 0) = 1) := by rw [if_neg h]; decide
theorem own_bb {P Q : Prop} [Decidable P] [Decidable Q] (h : P ↔ Q) : (if P then (1 : Int32) else 0) = (if Q then (1 : Int32) else 0) := by
  by_cases p : P
  · rw [if_pos p, if_pos (h.mp p)]
  · rw [if_neg p, if_neg (fun q => p (h.mpr q))]
theorem own_bn {P Q : Prop} [Decidable P] [Decidable Q] (h : ¬ (P ↔ Q)) : ¬ ((if P then (1 : Int32) else 0) = (if Q then (1 : Int32) else 0)) := fun e => h (by
  by_cases p : P <;> by_cases q : Q
  · exact ⟨fun _ => q, fun _ => p⟩
  · rw [if_pos p, if_neg q] at e; exact absurd e (by decide)
  · rw [if_neg p, if_pos q] at e; exact absurd e (by decide)
  · exact ⟨fun a => absurd a p, fun a => absurd a q⟩)
theorem own_t {P : Prop} [Decidable P] (h : P) : some (Value.int 1) = some (Value.int (if P then (1 : Int32) else 0)) := by rw [if_pos h]
theorem own_f {P : Prop} [Decidable P] (h : ¬ P) : some (Value.int 0) = some (Value.int (if P then (1 : Int32) else 0)) := by rw [if_neg h]
end New
end Jvm.RoadKit
namespace Jvm.Pilot.@@N@@
open Jvm Jvm.ClassFile Sem Op Lib Jvm.Free Jvm.Stand Jvm.LawKit Jvm.RoadKit Bundle Jvm.Pilot.@@N@@.Jvm.D
theorem own_fo {args : Array Value} {s : State} {t : Term} {a : Addr} {C n d : String} {z : Int32} (ev : t.eval args s none [] s = some (.ref a)) (h : (Jvm.Cond.eq (Jvm.Term.field t C n d) (Jvm.Term.int z)).value args s none s [] = some true) : s.fieldOf? a C n d = some (.int z) := by
  obtain ⟨x, y, h1, h2, h3, h4⟩ := cmp_v (Or.inl h)
  have e2 : y = .int z := by simpa [Term.eval] using h2.symm
  subst e2
  obtain ⟨w, rfl⟩ := h4
  have e3 := gotT (Cond.eq_ints h1 (Term.int_eval z)) h
  subst e3
  rw [← h1]; exact (fld_at ev).symm
theorem own_six (k : Int32) : (k &&& (2147483647 : Int32)) % (6 : Int32) = (0 : Int32) ∨ (k &&& (2147483647 : Int32)) % (6 : Int32) = (1 : Int32) ∨ (k &&& (2147483647 : Int32)) % (6 : Int32) = (2 : Int32) ∨ (k &&& (2147483647 : Int32)) % (6 : Int32) = (3 : Int32) ∨ (k &&& (2147483647 : Int32)) % (6 : Int32) = (4 : Int32) ∨ (k &&& (2147483647 : Int32)) % (6 : Int32) = (5 : Int32) := by
  have e := c_mask k (2147483647 : Int32) 31 (by decide) (by decide)
  have q := (c_irem (k &&& (2147483647 : Int32)) (6 : Int32) 6 (by decide)).1 (by rw [e]; omega)
  simp only [← Int32.toInt_inj, Int32.reduceToInt]
  rw [q]
  omega
theorem pn_0 : plainName "com/example/covering/covering/model/Operation$Kind" = true := by first | (simp [plainName, overriddenIn]; done) | decide +kernel
theorem d1_0 : decode prog_10_method_8_code 0 = .ok (.aload_n 0, 1) := by decide +kernel
theorem d1_1 : decode prog_10_method_8_code 1 = .ok (.getfield 45, 3) := by decide +kernel
theorem d1_4 : decode prog_10_method_8_code 4 = .ok (.ifCond .ne 7, 3) := by decide +kernel
theorem d1_7 : decode prog_10_method_8_code 7 = .ok (.iconst 1, 1) := by decide +kernel
theorem d1_8 : decode prog_10_method_8_code 8 = .ok (.goto 4, 3) := by decide +kernel
theorem d1_12 : decode prog_10_method_8_code 12 = .ok (.ireturn, 1) := by decide +kernel
theorem d1_11 : decode prog_10_method_8_code 11 = .ok (.iconst 0, 1) := by decide +kernel
theorem ef_1 (m : MethodId) (x0 : Addr) : entryFrame m #[(.ref x0)] 1 = mkF m 0 #[.val (.ref x0)] [] := by first | (simp [entryFrame, mkF, argsToLocals, Value.category]; done) | rfl
def Q1 (Z : State) (o0 : Addr) (r : Int32) (h0 : Heap) (n0 : Nat) (v : Option Value) (h : Heap) (L : List Loc) : Prop := v = some (.int (if r = (0 : Int32) then (1 : Int32) else 0)) ∧ Fr n0 L ∧ h = h0
set_option maxRecDepth 65536 in
set_option maxHeartbeats 40000000 in
theorem rm1 (l : Launch) (Z : State) (a0 : Array Value) (hw : ∀ d ∈ tables_1, d.before a0 Z = true) (ws : List Jvm.Cond) (o0 : Addr) (r : Int32) (h0 : Heap) (n0 : Nat) (Z0 : n0 ≤ h0.size) (F_insertsWhenAbsent_o0 : Fld Z h0 o0 "com/example/covering/covering/model/Operation$Kind" "insertsWhenAbsent" "Z" (.int r)) :
    MetFree l (⟨"com/example/covering/covering/model/Operation$Kind", "takesETag", "()Z"⟩ : MethodName) (head1 (Jvm.Cond.code (⟨"com/example/covering/covering/model/Operation$Kind", "takesETag", "()Z"⟩ : MethodName) prog_10_method_8_code 1 (some .boolean) :: ws) ({ frames := 0, cells := 0, slots := 0, locals := 0 } : Room)) (fun a U => a = #[(.ref o0)] ∧ Z.Warmed39 U.vm ∧ U.heap = h0) (fun _ _ _ _ _ => True) (fun _ U o U' => ∃ v L, o = .returned v ∧ Q1 Z o0 r h0 n0 v U'.heap L ∧ FrameEnd U o U' L ({ frames := 0, cells := 0, slots := 0, locals := 0 } : Room).cells ({ frames := 0, cells := 0, slots := 0, locals := 0 } : Room).slots) := by
  refine MetFree.of_bodySF (plainFor_of_name pn_0) hisR ?_
  intro p e s m args below meth c s₁ Bd hml0 hP hK
  obtain ⟨rfl, hZ, hh⟩ := hP
  have hx := Bd.exec
  have hby := Bd.bytes
  have hml : c.maxLocals = 1 := hml0
  have hown : s.vm.findClass "com/example/covering/covering/model/Operation$Kind" = some m.cls := findClass_of_methodNamed Bd.named
  have hnm := (name_of_methodNamed Bd.named Bd.method).1
  have X0 : Stand p l e ({ frames := 0, cells := 0, slots := 0, locals := 0 } : Room) s m #[(.ref o0)] below meth c s₁ [] 0 0 := Stand.of_body Bd
  have e0 : s₁.heap = h0 := by rw [← hh, Bd.state]; rfl
  have N0 := Fr.nil n0
  have pre0 : ∀ t, Steps p.tables e below (s₁.setTop (mkF m 0 #[.val (.ref o0)] [])) t → Steps p.tables e below (s₁.setTop (entryFrame m #[(.ref o0)] 1)) t := fun t k => castTop (ef_1 m o0) k
  obtain ⟨T1, X1, e1, st1⟩ := getF X0 hx hZ hown (host := "") (Or.inl (hw _ (List.mem_of_getElem? (i := 9) rfl))) Via.refl e0 F_insertsWhenAbsent_o0 (g := (mkF m 1 #[.val (.ref o0)] [(.ref o0)])) rfl rfl (hb hby d1_1)
  have pre2 : ∀ t, Steps p.tables e below (T1.setTop (mkF m 4 #[.val (.ref o0)] [(.int r)])) t → Steps p.tables e below (s₁.setTop (entryFrame m #[(.ref o0)] 1)) t := fun t k => pre0 t (by
    show Steps p.tables e below (s₁.setTop (mkF m 0 #[.val (.ref o0)] [])) _
    refine XS.aloadN X0.here hx rfl (hb hby d1_0) rfl rfl ?_
    show Steps p.tables e below (s₁.setTop (mkF m 1 #[.val (.ref o0)] [(.ref o0)])) _
    refine st1 _ ?_
    exact k)
  by_cases hc4_3 : r = (0 : Int32)
  · have pre4 : ∀ t, Steps p.tables e below (T1.setTop (mkF m 12 #[.val (.ref o0)] [(.int (1 : Int32))])) t → Steps p.tables e below (s₁.setTop (entryFrame m #[(.ref o0)] 1)) t := fun t k => pre2 t (by
      show Steps p.tables e below (T1.setTop (mkF m 4 #[.val (.ref o0)] [(.int r)])) _
      refine XS.ifNo X1.here hx rfl (hb hby d1_4) rfl ((if0 _ _).trans (teq hc4_3).2) ?_
      show Steps p.tables e below (T1.setTop (mkF m 7 #[.val (.ref o0)] [])) _
      refine XS.iconst X1.here hx rfl (hb hby d1_7) ?_
      show Steps p.tables e below (T1.setTop (mkF m 8 #[.val (.ref o0)] [(.int (1 : Int32))])) _
      refine XS.goto X1.here hx rfl (pc0 := 8) (pc' := 12) rfl (hb hby d1_8) (by decide) (by decide) ?_
      exact k)
    obtain ⟨fs, hr, hrun, hended, hW, hsame⟩ := X1.leave (v := some (.int (1 : Int32))) (fun h => by rw [Bd.returns] at h; cases h)
    refine ⟨_, _, pre4 _ ?_, hrun, hended, _, _, rfl, ?_, ⟨_, rfl⟩, hW, hsame.mono (by decide) (by decide)⟩
    · exact retN X1 hx (t := .boolean) Bd.returns (by simp) (hb hby d1_12) hr
    · show Q1 Z o0 r h0 n0 _ T1.heap _
      rw [e1]
      exact ⟨own_t hc4_3, N0, rfl⟩
  · have pre5 : ∀ t, Steps p.tables e below (T1.setTop (mkF m 12 #[.val (.ref o0)] [(.int (0 : Int32))])) t → Steps p.tables e below (s₁.setTop (entryFrame m #[(.ref o0)] 1)) t := fun t k => pre2 t (by
      show Steps p.tables e below (T1.setTop (mkF m 4 #[.val (.ref o0)] [(.int r)])) _
      refine XS.ifYes X1.here hx rfl (pc0 := 4) (pc' := 11) rfl (hb hby d1_4) rfl ((if0 _ _).trans (feq hc4_3).2) (by decide) (by decide) ?_
      show Steps p.tables e below (T1.setTop (mkF m 11 #[.val (.ref o0)] [])) _
      refine XS.iconst X1.here hx rfl (hb hby d1_11) ?_
      exact k)
    obtain ⟨fs, hr, hrun, hended, hW, hsame⟩ := X1.leave (v := some (.int (0 : Int32))) (fun h => by rw [Bd.returns] at h; cases h)
    refine ⟨_, _, pre5 _ ?_, hrun, hended, _, _, rfl, ?_, ⟨_, rfl⟩, hW, hsame.mono (by decide) (by decide)⟩
    · exact retN X1 hx (t := .boolean) Bd.returns (by simp) (hb hby d1_12) hr
    · show Q1 Z o0 r h0 n0 _ T1.heap _
      rw [e1]
      exact ⟨own_f hc4_3, N0, rfl⟩
theorem pn_1 : plainName "com/example/covering/covering/model/KindTakesETagPinLaw" = true := by first | (simp [plainName, overriddenIn]; done) | decide +kernel
theorem pd_0 : parseMethodDescriptor "()Z" = some ⟨[], some .boolean⟩ := by decide +kernel
theorem ef_0 (m : MethodId) (x0 : Int32) : entryFrame m #[(.int x0)] maxLocals = mkF m 0 #[.val (.int x0), .unset, .unset, .unset] [] := by first | (simp [entryFrame, mkF, argsToLocals, Value.category, maxLocals]; done) | rfl
def Q0 (Z : State) (p0 : Int32) (wINSERT : Addr) (wREPLACE : Addr) (wMERGE : Addr) (wDELETE : Addr) (wINSERT_OR_REPLACE : Addr) (wINSERT_OR_MERGE : Addr) (h0 : Heap) (n0 : Nat) (v : Option Value) (h : Heap) (L : List Loc) : Prop := v = some (.int 1) ∧ Fr n0 L
set_option maxRecDepth 65536 in
set_option maxHeartbeats 40000000 in
theorem rm0 (l : Launch) (Z : State) (a0 : Array Value) (hw : ∀ d ∈ tables_1, d.before a0 Z = true) (ws : List Jvm.Cond) (p0 : Int32) (wINSERT : Addr) (wREPLACE : Addr) (wMERGE : Addr) (wDELETE : Addr) (wINSERT_OR_REPLACE : Addr) (wINSERT_OR_MERGE : Addr) (h0 : Heap) (n0 : Nat) (Z0 : n0 ≤ h0.size) (S_INSERT : Sta Z h0 "com/example/covering/covering/model/Operation$Kind" "INSERT" "Lcom/example/covering/covering/model/Operation$Kind;" (.ref wINSERT)) (S_REPLACE : Sta Z h0 "com/example/covering/covering/model/Operation$Kind" "REPLACE" "Lcom/example/covering/covering/model/Operation$Kind;" (.ref wREPLACE)) (S_MERGE : Sta Z h0 "com/example/covering/covering/model/Operation$Kind" "MERGE" "Lcom/example/covering/covering/model/Operation$Kind;" (.ref wMERGE)) (S_DELETE : Sta Z h0 "com/example/covering/covering/model/Operation$Kind" "DELETE" "Lcom/example/covering/covering/model/Operation$Kind;" (.ref wDELETE)) (S_INSERT_OR_REPLACE : Sta Z h0 "com/example/covering/covering/model/Operation$Kind" "INSERT_OR_REPLACE" "Lcom/example/covering/covering/model/Operation$Kind;" (.ref wINSERT_OR_REPLACE)) (S_INSERT_OR_MERGE : Sta Z h0 "com/example/covering/covering/model/Operation$Kind" "INSERT_OR_MERGE" "Lcom/example/covering/covering/model/Operation$Kind;" (.ref wINSERT_OR_MERGE)) (E_wINSERT : Exa Z h0 wINSERT "com/example/covering/covering/model/Operation$Kind") (E_wREPLACE : Exa Z h0 wREPLACE "com/example/covering/covering/model/Operation$Kind") (E_wMERGE : Exa Z h0 wMERGE "com/example/covering/covering/model/Operation$Kind") (E_wDELETE : Exa Z h0 wDELETE "com/example/covering/covering/model/Operation$Kind") (E_wINSERT_OR_REPLACE : Exa Z h0 wINSERT_OR_REPLACE "com/example/covering/covering/model/Operation$Kind") (E_wINSERT_OR_MERGE : Exa Z h0 wINSERT_OR_MERGE "com/example/covering/covering/model/Operation$Kind") (F_insertsWhenAbsent_wINSERT : Fld Z h0 wINSERT "com/example/covering/covering/model/Operation$Kind" "insertsWhenAbsent" "Z" (.int (1 : Int32))) (F_insertsWhenAbsent_wREPLACE : Fld Z h0 wREPLACE "com/example/covering/covering/model/Operation$Kind" "insertsWhenAbsent" "Z" (.int (0 : Int32))) (F_insertsWhenAbsent_wMERGE : Fld Z h0 wMERGE "com/example/covering/covering/model/Operation$Kind" "insertsWhenAbsent" "Z" (.int (0 : Int32))) (F_insertsWhenAbsent_wDELETE : Fld Z h0 wDELETE "com/example/covering/covering/model/Operation$Kind" "insertsWhenAbsent" "Z" (.int (0 : Int32))) (F_insertsWhenAbsent_wINSERT_OR_REPLACE : Fld Z h0 wINSERT_OR_REPLACE "com/example/covering/covering/model/Operation$Kind" "insertsWhenAbsent" "Z" (.int (1 : Int32))) (F_insertsWhenAbsent_wINSERT_OR_MERGE : Fld Z h0 wINSERT_OR_MERGE "com/example/covering/covering/model/Operation$Kind" "insertsWhenAbsent" "Z" (.int (1 : Int32))) :
    MetFree l x (head1 (Jvm.Cond.code x code maxLocals ret :: ws) room_1) (fun a U => a = #[(.int p0)] ∧ Z.Warmed39 U.vm ∧ U.heap = h0) (fun _ _ _ _ _ => True) (fun _ U o U' => ∃ v L, o = .returned v ∧ Q0 Z p0 wINSERT wREPLACE wMERGE wDELETE wINSERT_OR_REPLACE wINSERT_OR_MERGE h0 n0 v U'.heap L ∧ FrameEnd U o U' L room_1.cells room_1.slots) := by
  refine MetFree.of_bodySF (plainFor_of_name pn_1) hisR ?_
  intro p e s m args below meth c s₁ Bd hml0 hP hK
  obtain ⟨rfl, hZ, hh⟩ := hP
  have hx := Bd.exec
  have hby := Bd.bytes
  have hml : c.maxLocals = 4 := hml0
  have hown : s.vm.findClass "com/example/covering/covering/model/KindTakesETagPinLaw" = some m.cls := findClass_of_methodNamed Bd.named
  have hnm := (name_of_methodNamed Bd.named Bd.method).1
  have X0 : Stand p l e room_1 s m #[(.int p0)] below meth c s₁ [] 0 0 := Stand.of_body Bd
  have e0 : s₁.heap = h0 := by rw [← hh, Bd.state]; rfl
  have N0 := Fr.nil n0
  have pre0 : ∀ t, Steps p.tables e below (s₁.setTop (mkF m 0 #[.val (.int p0), .unset, .unset, .unset] [])) t → Steps p.tables e below (s₁.setTop (entryFrame m #[(.int p0)] maxLocals)) t := fun t k => castTop (ef_0 m p0) k
  obtain ⟨v1_0, hv1, prem1⟩ : ∃ (v1_0 : Int32), (v1_0 = (0 : Int32) ∨ v1_0 = (1 : Int32) ∨ v1_0 = (2 : Int32) ∨ v1_0 = (3 : Int32) ∨ v1_0 = (4 : Int32) ∨ v1_0 = (5 : Int32)) ∧ ∀ t, Steps p.tables e below (s₁.setTop (mkF m 7 #[.val (.int p0), .unset, .unset, .unset] [(.int v1_0)])) t → Steps p.tables e below (s₁.setTop (entryFrame m #[(.int p0)] maxLocals)) t := by
    have pre2 : ∀ t, Steps p.tables e below (s₁.setTop (mkF m 7 #[.val (.int p0), .unset, .unset, .unset] [(.int ((p0 &&& (2147483647 : Int32)) % (6 : Int32)))])) t → Steps p.tables e below (s₁.setTop (entryFrame m #[(.int p0)] maxLocals)) t := fun t k => pre0 t (by
      show Steps p.tables e below (s₁.setTop (mkF m 0 #[.val (.int p0), .unset, .unset, .unset] [])) _
      refine XS.iloadN X0.here hx rfl (hb hby at_0) rfl ?_
      show Steps p.tables e below (s₁.setTop (mkF m 1 #[.val (.int p0), .unset, .unset, .unset] [(.int p0)])) _
      refine X0.ldcInt hx hown (mvT hZ (hw _ (List.mem_of_getElem? (i := 0) rfl))) (g := (mkF m 1 #[.val (.int p0), .unset, .unset, .unset] [(.int p0)])) rfl (hb hby at_1) _ ?_
      show Steps p.tables e below (s₁.setTop (mkF m 3 #[.val (.int p0), .unset, .unset, .unset] [(.int (2147483647 : Int32)), (.int p0)])) _
      refine XS.iand X0.here hx rfl (hb hby at_3) rfl ?_
      show Steps p.tables e below (s₁.setTop (mkF m 4 #[.val (.int p0), .unset, .unset, .unset] [(.int (p0 &&& (2147483647 : Int32)))])) _
      refine XS.bipush X0.here hx rfl (hb hby at_4) ?_
      show Steps p.tables e below (s₁.setTop (mkF m 6 #[.val (.int p0), .unset, .unset, .unset] [(.int (6 : Int32)), (.int (p0 &&& (2147483647 : Int32)))])) _
      refine iremM X0 hx rfl (hb hby at_6) rfl (by decide) ?_
      exact k)
    exact ⟨((p0 &&& (2147483647 : Int32)) % (6 : Int32)), (own_six p0), pre2⟩
  have pre3 : ∀ t, Steps p.tables e below (s₁.setTop (mkF m 8 #[.val (.int p0), .val (.int v1_0), .unset, .unset] [])) t → Steps p.tables e below (s₁.setTop (entryFrame m #[(.int p0)] maxLocals)) t := fun t k => prem1 t (by
    show Steps p.tables e below (s₁.setTop (mkF m 7 #[.val (.int p0), .unset, .unset, .unset] [(.int v1_0)])) _
    refine XS.istoreN X0.here hx rfl (hb hby at_7) rfl (l' := #[.val (.int p0), .val (.int v1_0), .unset, .unset]) rfl ?_
    exact k)
  rcases hv1 with rfl | rfl | rfl | rfl | rfl | rfl
  · obtain ⟨T4, X4, e4, st4⟩ := getS2 X0 hx hZ hown (host := "") (Or.inl (hw _ (List.mem_of_getElem? (i := 1) rfl))) Via.refl e0 S_INSERT (g := (mkF m 12 #[.val (.int p0), .val (.int (0 : Int32)), .unset, .unset] [])) rfl (hb hby at_12)
    obtain ⟨cq5, kq5, q5a, q5b, q5c⟩ := isOf hZ e4 E_wINSERT
    obtain ⟨_, _, ⟨T5, L5, k5, n5⟩, -, X5, ⟨Lc5, hQ5, l5, y5, z5⟩, st5⟩ := X4.virtualBack hx (y := (⟨"com/example/covering/covering/model/Operation$Kind", "takesETag", "()Z"⟩ : MethodName)) (z := (⟨"com/example/covering/covering/model/Operation$Kind", "takesETag", "()Z"⟩ : MethodName)) hown (mvT hZ (hw _ (List.mem_of_getElem? (i := 4) rfl))) (mvT hZ (hw _ (List.mem_of_getElem? (i := 5) rfl))) (notFace_of_selects (args := #[]) (mvT hZ (hw _ (List.mem_of_getElem? (i := 7) rfl)))) (mvT hZ (hw _ (List.mem_of_getElem? (i := 7) rfl))) (mvT hZ (hw _ (List.mem_of_getElem? (i := 6) rfl))) (by decide) (backOf (W := 0) (rm1 l Z a0 hw [] wINSERT (1 : Int32) h0 n0 Z0 F_insertsWhenAbsent_wINSERT) hZ (hw _ (List.mem_of_getElem? (i := 8) rfl)) (hw _ (List.mem_of_getElem? (i := 2) rfl)) (by decide) (by decide)) q5a q5c (g := (mkF m 84 #[.val (.int p0), .val (.int (0 : Int32)), .val (.ref wINSERT), .val (.int (0 : Int32))] [(.ref wINSERT)])) rfl (by rw [hml]; rfl) (Steps.refl _) (argsL := []) (rest := []) (lenOf pd_0 rfl) rfl (by show 2 * 0 + _ ≤ _; exact Nat.le_of_eq rfl) (hb hby at_84) (fun _ _ => ⟨rfl, e4, (by decide : 0 + 0 ≤ _), (by decide : 0 + 0 ≤ _)⟩)
    dsimp only [Pt.U, Pt.locs, Pt.cells, Pt.slots] at X5 l5 y5 z5 st5 hQ5
    subst l5 y5 z5
    obtain ⟨rfl, N5q, hh5⟩ := hQ5
    have N5 := Fr.app N0 N5q
    have pre6 : ∀ t, Steps p.tables e below (T5.setTop (mkF m 96 #[.val (.int p0), .val (.int (0 : Int32)), .val (.ref wINSERT), .val (.int (0 : Int32))] [(.int (1 : Int32))])) t → Steps p.tables e below (s₁.setTop (entryFrame m #[(.int p0)] maxLocals)) t := fun t k => pre3 t (by
      show Steps p.tables e below (s₁.setTop (mkF m 8 #[.val (.int p0), .val (.int (0 : Int32)), .unset, .unset] [])) _
      refine XS.iloadN X0.here hx rfl (hb hby at_8) rfl ?_
      show Steps p.tables e below (s₁.setTop (mkF m 9 #[.val (.int p0), .val (.int (0 : Int32)), .unset, .unset] [(.int (0 : Int32))])) _
      refine XS.ifNo X0.here hx rfl (hb hby at_9) rfl ((if0 _ _).trans (teq (by decide : (0 : Int32) = (0 : Int32))).2) ?_
      show Steps p.tables e below (s₁.setTop (mkF m 12 #[.val (.int p0), .val (.int (0 : Int32)), .unset, .unset] [])) _
      refine st4 _ ?_
      show Steps p.tables e below (T4.setTop (mkF m 15 #[.val (.int p0), .val (.int (0 : Int32)), .unset, .unset] [(.ref wINSERT)])) _
      refine XS.astoreN X4.here hx rfl (hb hby at_15) rfl rfl (l' := #[.val (.int p0), .val (.int (0 : Int32)), .val (.ref wINSERT), .unset]) rfl ?_
      show Steps p.tables e below (T4.setTop (mkF m 16 #[.val (.int p0), .val (.int (0 : Int32)), .val (.ref wINSERT), .unset] [])) _
      refine XS.iconst X4.here hx rfl (hb hby at_16) ?_
      show Steps p.tables e below (T4.setTop (mkF m 17 #[.val (.int p0), .val (.int (0 : Int32)), .val (.ref wINSERT), .unset] [(.int (0 : Int32))])) _
      refine XS.istoreN X4.here hx rfl (hb hby at_17) rfl (l' := #[.val (.int p0), .val (.int (0 : Int32)), .val (.ref wINSERT), .val (.int (0 : Int32))]) rfl ?_
      show Steps p.tables e below (T4.setTop (mkF m 18 #[.val (.int p0), .val (.int (0 : Int32)), .val (.ref wINSERT), .val (.int (0 : Int32))] [])) _
      refine XS.goto X4.here hx rfl (pc0 := 18) (pc' := 83) rfl (hb hby at_18) (by decide) (by decide) ?_
      show Steps p.tables e below (T4.setTop (mkF m 83 #[.val (.int p0), .val (.int (0 : Int32)), .val (.ref wINSERT), .val (.int (0 : Int32))] [])) _
      refine XS.aloadN X4.here hx rfl (hb hby at_83) rfl rfl ?_
      show Steps p.tables e below (T4.setTop (mkF m 84 #[.val (.int p0), .val (.int (0 : Int32)), .val (.ref wINSERT), .val (.int (0 : Int32))] [(.ref wINSERT)])) _
      refine st5.trans ?_
      show Steps p.tables e below (T5.setTop (mkF m 87 #[.val (.int p0), .val (.int (0 : Int32)), .val (.ref wINSERT), .val (.int (0 : Int32))] [(.int (if (1 : Int32) = (0 : Int32) then (1 : Int32) else 0))])) _
      refine XS.iloadN X5.here hx rfl (hb hby at_87) rfl ?_
      show Steps p.tables e below (T5.setTop (mkF m 88 #[.val (.int p0), .val (.int (0 : Int32)), .val (.ref wINSERT), .val (.int (0 : Int32))] [(.int (0 : Int32)), (.int (if (1 : Int32) = (0 : Int32) then (1 : Int32) else 0))])) _
      refine XS.icmpNo X5.here hx rfl (hb hby at_88) rfl (teq (own_b0 (by decide : ¬ (1 : Int32) = (0 : Int32)))).2 ?_
      show Steps p.tables e below (T5.setTop (mkF m 91 #[.val (.int p0), .val (.int (0 : Int32)), .val (.ref wINSERT), .val (.int (0 : Int32))] [])) _
      refine XS.iconst X5.here hx rfl (hb hby at_91) ?_
      show Steps p.tables e below (T5.setTop (mkF m 92 #[.val (.int p0), .val (.int (0 : Int32)), .val (.ref wINSERT), .val (.int (0 : Int32))] [(.int (1 : Int32))])) _
      refine XS.goto X5.here hx rfl (pc0 := 92) (pc' := 96) rfl (hb hby at_92) (by decide) (by decide) ?_
      exact k)
    obtain ⟨fs, hr, hrun, hended, hW, hsame⟩ := X5.leave (v := some (.int (1 : Int32))) (fun h => by rw [Bd.returns] at h; cases h)
    refine ⟨_, _, pre6 _ ?_, hrun, hended, _, _, rfl, ?_, ⟨_, rfl⟩, hW, hsame.mono (by decide) (by decide)⟩
    · exact retN X5 hx (t := .boolean) Bd.returns (by simp) (hb hby at_96) hr
    · show Q0 Z p0 wINSERT wREPLACE wMERGE wDELETE wINSERT_OR_REPLACE wINSERT_OR_MERGE h0 n0 _ T5.heap _
      rw [hh5]
      exact ⟨rfl, N5⟩
  · obtain ⟨T7, X7, e7, st7⟩ := getS2 X0 hx hZ hown (host := "") (Or.inl (hw _ (List.mem_of_getElem? (i := 15) rfl))) Via.refl e0 S_REPLACE (g := (mkF m 26 #[.val (.int p0), .val (.int (1 : Int32)), .unset, .unset] [])) rfl (hb hby at_26)
    obtain ⟨cq8, kq8, q8a, q8b, q8c⟩ := isOf hZ e7 E_wREPLACE
    obtain ⟨_, _, ⟨T8, L8, k8, n8⟩, -, X8, ⟨Lc8, hQ8, l8, y8, z8⟩, st8⟩ := X7.virtualBack hx (y := (⟨"com/example/covering/covering/model/Operation$Kind", "takesETag", "()Z"⟩ : MethodName)) (z := (⟨"com/example/covering/covering/model/Operation$Kind", "takesETag", "()Z"⟩ : MethodName)) hown (mvT hZ (hw _ (List.mem_of_getElem? (i := 4) rfl))) (mvT hZ (hw _ (List.mem_of_getElem? (i := 5) rfl))) (notFace_of_selects (args := #[]) (mvT hZ (hw _ (List.mem_of_getElem? (i := 7) rfl)))) (mvT hZ (hw _ (List.mem_of_getElem? (i := 7) rfl))) (mvT hZ (hw _ (List.mem_of_getElem? (i := 6) rfl))) (by decide) (backOf (W := 0) (rm1 l Z a0 hw [] wREPLACE (0 : Int32) h0 n0 Z0 F_insertsWhenAbsent_wREPLACE) hZ (hw _ (List.mem_of_getElem? (i := 8) rfl)) (hw _ (List.mem_of_getElem? (i := 2) rfl)) (by decide) (by decide)) q8a q8c (g := (mkF m 84 #[.val (.int p0), .val (.int (1 : Int32)), .val (.ref wREPLACE), .val (.int (1 : Int32))] [(.ref wREPLACE)])) rfl (by rw [hml]; rfl) (Steps.refl _) (argsL := []) (rest := []) (lenOf pd_0 rfl) rfl (by show 2 * 0 + _ ≤ _; exact Nat.le_of_eq rfl) (hb hby at_84) (fun _ _ => ⟨rfl, e7, (by decide : 0 + 0 ≤ _), (by decide : 0 + 0 ≤ _)⟩)
    dsimp only [Pt.U, Pt.locs, Pt.cells, Pt.slots] at X8 l8 y8 z8 st8 hQ8
    subst l8 y8 z8
    obtain ⟨rfl, N8q, hh8⟩ := hQ8
    have N8 := Fr.app N0 N8q
    have pre9 : ∀ t, Steps p.tables e below (T8.setTop (mkF m 96 #[.val (.int p0), .val (.int (1 : Int32)), .val (.ref wREPLACE), .val (.int (1 : Int32))] [(.int (1 : Int32))])) t → Steps p.tables e below (s₁.setTop (entryFrame m #[(.int p0)] maxLocals)) t := fun t k => pre3 t (by
      show Steps p.tables e below (s₁.setTop (mkF m 8 #[.val (.int p0), .val (.int (1 : Int32)), .unset, .unset] [])) _
      refine XS.iloadN X0.here hx rfl (hb hby at_8) rfl ?_
      show Steps p.tables e below (s₁.setTop (mkF m 9 #[.val (.int p0), .val (.int (1 : Int32)), .unset, .unset] [(.int (1 : Int32))])) _
      refine XS.ifYes X0.here hx rfl (pc0 := 9) (pc' := 21) rfl (hb hby at_9) rfl ((if0 _ _).trans (feq (by decide : ¬ ((1 : Int32) = (0 : Int32)))).2) (by decide) (by decide) ?_
      show Steps p.tables e below (s₁.setTop (mkF m 21 #[.val (.int p0), .val (.int (1 : Int32)), .unset, .unset] [])) _
      refine XS.iloadN X0.here hx rfl (hb hby at_21) rfl ?_
      show Steps p.tables e below (s₁.setTop (mkF m 22 #[.val (.int p0), .val (.int (1 : Int32)), .unset, .unset] [(.int (1 : Int32))])) _
      refine XS.iconst X0.here hx rfl (hb hby at_22) ?_
      show Steps p.tables e below (s₁.setTop (mkF m 23 #[.val (.int p0), .val (.int (1 : Int32)), .unset, .unset] [(.int (1 : Int32)), (.int (1 : Int32))])) _
      refine XS.icmpNo X0.here hx rfl (hb hby at_23) rfl (teq (by decide : (1 : Int32) = (1 : Int32))).2 ?_
      show Steps p.tables e below (s₁.setTop (mkF m 26 #[.val (.int p0), .val (.int (1 : Int32)), .unset, .unset] [])) _
      refine st7 _ ?_
      show Steps p.tables e below (T7.setTop (mkF m 29 #[.val (.int p0), .val (.int (1 : Int32)), .unset, .unset] [(.ref wREPLACE)])) _
      refine XS.astoreN X7.here hx rfl (hb hby at_29) rfl rfl (l' := #[.val (.int p0), .val (.int (1 : Int32)), .val (.ref wREPLACE), .unset]) rfl ?_
      show Steps p.tables e below (T7.setTop (mkF m 30 #[.val (.int p0), .val (.int (1 : Int32)), .val (.ref wREPLACE), .unset] [])) _
      refine XS.iconst X7.here hx rfl (hb hby at_30) ?_
      show Steps p.tables e below (T7.setTop (mkF m 31 #[.val (.int p0), .val (.int (1 : Int32)), .val (.ref wREPLACE), .unset] [(.int (1 : Int32))])) _
      refine XS.istoreN X7.here hx rfl (hb hby at_31) rfl (l' := #[.val (.int p0), .val (.int (1 : Int32)), .val (.ref wREPLACE), .val (.int (1 : Int32))]) rfl ?_
      show Steps p.tables e below (T7.setTop (mkF m 32 #[.val (.int p0), .val (.int (1 : Int32)), .val (.ref wREPLACE), .val (.int (1 : Int32))] [])) _
      refine XS.goto X7.here hx rfl (pc0 := 32) (pc' := 83) rfl (hb hby at_32) (by decide) (by decide) ?_
      show Steps p.tables e below (T7.setTop (mkF m 83 #[.val (.int p0), .val (.int (1 : Int32)), .val (.ref wREPLACE), .val (.int (1 : Int32))] [])) _
      refine XS.aloadN X7.here hx rfl (hb hby at_83) rfl rfl ?_
      show Steps p.tables e below (T7.setTop (mkF m 84 #[.val (.int p0), .val (.int (1 : Int32)), .val (.ref wREPLACE), .val (.int (1 : Int32))] [(.ref wREPLACE)])) _
      refine st8.trans ?_
      show Steps p.tables e below (T8.setTop (mkF m 87 #[.val (.int p0), .val (.int (1 : Int32)), .val (.ref wREPLACE), .val (.int (1 : Int32))] [(.int (if (0 : Int32) = (0 : Int32) then (1 : Int32) else 0))])) _
      refine XS.iloadN X8.here hx rfl (hb hby at_87) rfl ?_
      show Steps p.tables e below (T8.setTop (mkF m 88 #[.val (.int p0), .val (.int (1 : Int32)), .val (.ref wREPLACE), .val (.int (1 : Int32))] [(.int (1 : Int32)), (.int (if (0 : Int32) = (0 : Int32) then (1 : Int32) else 0))])) _
      refine XS.icmpNo X8.here hx rfl (hb hby at_88) rfl (teq (own_c1 (rfl : (0 : Int32) = (0 : Int32)))).2 ?_
      show Steps p.tables e below (T8.setTop (mkF m 91 #[.val (.int p0), .val (.int (1 : Int32)), .val (.ref wREPLACE), .val (.int (1 : Int32))] [])) _
      refine XS.iconst X8.here hx rfl (hb hby at_91) ?_
      show Steps p.tables e below (T8.setTop (mkF m 92 #[.val (.int p0), .val (.int (1 : Int32)), .val (.ref wREPLACE), .val (.int (1 : Int32))] [(.int (1 : Int32))])) _
      refine XS.goto X8.here hx rfl (pc0 := 92) (pc' := 96) rfl (hb hby at_92) (by decide) (by decide) ?_
      exact k)
    obtain ⟨fs, hr, hrun, hended, hW, hsame⟩ := X8.leave (v := some (.int (1 : Int32))) (fun h => by rw [Bd.returns] at h; cases h)
    refine ⟨_, _, pre9 _ ?_, hrun, hended, _, _, rfl, ?_, ⟨_, rfl⟩, hW, hsame.mono (by decide) (by decide)⟩
    · exact retN X8 hx (t := .boolean) Bd.returns (by simp) (hb hby at_96) hr
    · show Q0 Z p0 wINSERT wREPLACE wMERGE wDELETE wINSERT_OR_REPLACE wINSERT_OR_MERGE h0 n0 _ T8.heap _
      rw [hh8]
      exact ⟨rfl, N8⟩
  · obtain ⟨T10, X10, e10, st10⟩ := getS2 X0 hx hZ hown (host := "") (Or.inl (hw _ (List.mem_of_getElem? (i := 13) rfl))) Via.refl e0 S_MERGE (g := (mkF m 40 #[.val (.int p0), .val (.int (2 : Int32)), .unset, .unset] [])) rfl (hb hby at_40)
    obtain ⟨cq11, kq11, q11a, q11b, q11c⟩ := isOf hZ e10 E_wMERGE
    obtain ⟨_, _, ⟨T11, L11, k11, n11⟩, -, X11, ⟨Lc11, hQ11, l11, y11, z11⟩, st11⟩ := X10.virtualBack hx (y := (⟨"com/example/covering/covering/model/Operation$Kind", "takesETag", "()Z"⟩ : MethodName)) (z := (⟨"com/example/covering/covering/model/Operation$Kind", "takesETag", "()Z"⟩ : MethodName)) hown (mvT hZ (hw _ (List.mem_of_getElem? (i := 4) rfl))) (mvT hZ (hw _ (List.mem_of_getElem? (i := 5) rfl))) (notFace_of_selects (args := #[]) (mvT hZ (hw _ (List.mem_of_getElem? (i := 7) rfl)))) (mvT hZ (hw _ (List.mem_of_getElem? (i := 7) rfl))) (mvT hZ (hw _ (List.mem_of_getElem? (i := 6) rfl))) (by decide) (backOf (W := 0) (rm1 l Z a0 hw [] wMERGE (0 : Int32) h0 n0 Z0 F_insertsWhenAbsent_wMERGE) hZ (hw _ (List.mem_of_getElem? (i := 8) rfl)) (hw _ (List.mem_of_getElem? (i := 2) rfl)) (by decide) (by decide)) q11a q11c (g := (mkF m 84 #[.val (.int p0), .val (.int (2 : Int32)), .val (.ref wMERGE), .val (.int (1 : Int32))] [(.ref wMERGE)])) rfl (by rw [hml]; rfl) (Steps.refl _) (argsL := []) (rest := []) (lenOf pd_0 rfl) rfl (by show 2 * 0 + _ ≤ _; exact Nat.le_of_eq rfl) (hb hby at_84) (fun _ _ => ⟨rfl, e10, (by decide : 0 + 0 ≤ _), (by decide : 0 + 0 ≤ _)⟩)
    dsimp only [Pt.U, Pt.locs, Pt.cells, Pt.slots] at X11 l11 y11 z11 st11 hQ11
    subst l11 y11 z11
    obtain ⟨rfl, N11q, hh11⟩ := hQ11
    have N11 := Fr.app N0 N11q
    have pre12 : ∀ t, Steps p.tables e below (T11.setTop (mkF m 96 #[.val (.int p0), .val (.int (2 : Int32)), .val (.ref wMERGE), .val (.int (1 : Int32))] [(.int (1 : Int32))])) t → Steps p.tables e below (s₁.setTop (entryFrame m #[(.int p0)] maxLocals)) t := fun t k => pre3 t (by
      show Steps p.tables e below (s₁.setTop (mkF m 8 #[.val (.int p0), .val (.int (2 : Int32)), .unset, .unset] [])) _
      refine XS.iloadN X0.here hx rfl (hb hby at_8) rfl ?_
      show Steps p.tables e below (s₁.setTop (mkF m 9 #[.val (.int p0), .val (.int (2 : Int32)), .unset, .unset] [(.int (2 : Int32))])) _
      refine XS.ifYes X0.here hx rfl (pc0 := 9) (pc' := 21) rfl (hb hby at_9) rfl ((if0 _ _).trans (feq (by decide : ¬ ((2 : Int32) = (0 : Int32)))).2) (by decide) (by decide) ?_
      show Steps p.tables e below (s₁.setTop (mkF m 21 #[.val (.int p0), .val (.int (2 : Int32)), .unset, .unset] [])) _
      refine XS.iloadN X0.here hx rfl (hb hby at_21) rfl ?_
      show Steps p.tables e below (s₁.setTop (mkF m 22 #[.val (.int p0), .val (.int (2 : Int32)), .unset, .unset] [(.int (2 : Int32))])) _
      refine XS.iconst X0.here hx rfl (hb hby at_22) ?_
      show Steps p.tables e below (s₁.setTop (mkF m 23 #[.val (.int p0), .val (.int (2 : Int32)), .unset, .unset] [(.int (1 : Int32)), (.int (2 : Int32))])) _
      refine XS.icmpYes X0.here hx rfl (pc0 := 23) (pc' := 35) rfl (hb hby at_23) rfl (feq (by decide : ¬ ((2 : Int32) = (1 : Int32)))).2 (by decide) (by decide) ?_
      show Steps p.tables e below (s₁.setTop (mkF m 35 #[.val (.int p0), .val (.int (2 : Int32)), .unset, .unset] [])) _
      refine XS.iloadN X0.here hx rfl (hb hby at_35) rfl ?_
      show Steps p.tables e below (s₁.setTop (mkF m 36 #[.val (.int p0), .val (.int (2 : Int32)), .unset, .unset] [(.int (2 : Int32))])) _
      refine XS.iconst X0.here hx rfl (hb hby at_36) ?_
      show Steps p.tables e below (s₁.setTop (mkF m 37 #[.val (.int p0), .val (.int (2 : Int32)), .unset, .unset] [(.int (2 : Int32)), (.int (2 : Int32))])) _
      refine XS.icmpNo X0.here hx rfl (hb hby at_37) rfl (teq (by decide : (2 : Int32) = (2 : Int32))).2 ?_
      show Steps p.tables e below (s₁.setTop (mkF m 40 #[.val (.int p0), .val (.int (2 : Int32)), .unset, .unset] [])) _
      refine st10 _ ?_
      show Steps p.tables e below (T10.setTop (mkF m 43 #[.val (.int p0), .val (.int (2 : Int32)), .unset, .unset] [(.ref wMERGE)])) _
      refine XS.astoreN X10.here hx rfl (hb hby at_43) rfl rfl (l' := #[.val (.int p0), .val (.int (2 : Int32)), .val (.ref wMERGE), .unset]) rfl ?_
      show Steps p.tables e below (T10.setTop (mkF m 44 #[.val (.int p0), .val (.int (2 : Int32)), .val (.ref wMERGE), .unset] [])) _
      refine XS.iconst X10.here hx rfl (hb hby at_44) ?_
      show Steps p.tables e below (T10.setTop (mkF m 45 #[.val (.int p0), .val (.int (2 : Int32)), .val (.ref wMERGE), .unset] [(.int (1 : Int32))])) _
      refine XS.istoreN X10.here hx rfl (hb hby at_45) rfl (l' := #[.val (.int p0), .val (.int (2 : Int32)), .val (.ref wMERGE), .val (.int (1 : Int32))]) rfl ?_
      show Steps p.tables e below (T10.setTop (mkF m 46 #[.val (.int p0), .val (.int (2 : Int32)), .val (.ref wMERGE), .val (.int (1 : Int32))] [])) _
      refine XS.goto X10.here hx rfl (pc0 := 46) (pc' := 83) rfl (hb hby at_46) (by decide) (by decide) ?_
      show Steps p.tables e below (T10.setTop (mkF m 83 #[.val (.int p0), .val (.int (2 : Int32)), .val (.ref wMERGE), .val (.int (1 : Int32))] [])) _
      refine XS.aloadN X10.here hx rfl (hb hby at_83) rfl rfl ?_
      show Steps p.tables e below (T10.setTop (mkF m 84 #[.val (.int p0), .val (.int (2 : Int32)), .val (.ref wMERGE), .val (.int (1 : Int32))] [(.ref wMERGE)])) _
      refine st11.trans ?_
      show Steps p.tables e below (T11.setTop (mkF m 87 #[.val (.int p0), .val (.int (2 : Int32)), .val (.ref wMERGE), .val (.int (1 : Int32))] [(.int (if (0 : Int32) = (0 : Int32) then (1 : Int32) else 0))])) _
      refine XS.iloadN X11.here hx rfl (hb hby at_87) rfl ?_
      show Steps p.tables e below (T11.setTop (mkF m 88 #[.val (.int p0), .val (.int (2 : Int32)), .val (.ref wMERGE), .val (.int (1 : Int32))] [(.int (1 : Int32)), (.int (if (0 : Int32) = (0 : Int32) then (1 : Int32) else 0))])) _
      refine XS.icmpNo X11.here hx rfl (hb hby at_88) rfl (teq (own_c1 (rfl : (0 : Int32) = (0 : Int32)))).2 ?_
      show Steps p.tables e below (T11.setTop (mkF m 91 #[.val (.int p0), .val (.int (2 : Int32)), .val (.ref wMERGE), .val (.int (1 : Int32))] [])) _
      refine XS.iconst X11.here hx rfl (hb hby at_91) ?_
      show Steps p.tables e below (T11.setTop (mkF m 92 #[.val (.int p0), .val (.int (2 : Int32)), .val (.ref wMERGE), .val (.int (1 : Int32))] [(.int (1 : Int32))])) _
      refine XS.goto X11.here hx rfl (pc0 := 92) (pc' := 96) rfl (hb hby at_92) (by decide) (by decide) ?_
      exact k)
    obtain ⟨fs, hr, hrun, hended, hW, hsame⟩ := X11.leave (v := some (.int (1 : Int32))) (fun h => by rw [Bd.returns] at h; cases h)
    refine ⟨_, _, pre12 _ ?_, hrun, hended, _, _, rfl, ?_, ⟨_, rfl⟩, hW, hsame.mono (by decide) (by decide)⟩
    · exact retN X11 hx (t := .boolean) Bd.returns (by simp) (hb hby at_96) hr
    · show Q0 Z p0 wINSERT wREPLACE wMERGE wDELETE wINSERT_OR_REPLACE wINSERT_OR_MERGE h0 n0 _ T11.heap _
      rw [hh11]
      exact ⟨rfl, N11⟩
  · obtain ⟨T13, X13, e13, st13⟩ := getS2 X0 hx hZ hown (host := "") (Or.inl (hw _ (List.mem_of_getElem? (i := 11) rfl))) Via.refl e0 S_DELETE (g := (mkF m 54 #[.val (.int p0), .val (.int (3 : Int32)), .unset, .unset] [])) rfl (hb hby at_54)
    obtain ⟨cq14, kq14, q14a, q14b, q14c⟩ := isOf hZ e13 E_wDELETE
    obtain ⟨_, _, ⟨T14, L14, k14, n14⟩, -, X14, ⟨Lc14, hQ14, l14, y14, z14⟩, st14⟩ := X13.virtualBack hx (y := (⟨"com/example/covering/covering/model/Operation$Kind", "takesETag", "()Z"⟩ : MethodName)) (z := (⟨"com/example/covering/covering/model/Operation$Kind", "takesETag", "()Z"⟩ : MethodName)) hown (mvT hZ (hw _ (List.mem_of_getElem? (i := 4) rfl))) (mvT hZ (hw _ (List.mem_of_getElem? (i := 5) rfl))) (notFace_of_selects (args := #[]) (mvT hZ (hw _ (List.mem_of_getElem? (i := 7) rfl)))) (mvT hZ (hw _ (List.mem_of_getElem? (i := 7) rfl))) (mvT hZ (hw _ (List.mem_of_getElem? (i := 6) rfl))) (by decide) (backOf (W := 0) (rm1 l Z a0 hw [] wDELETE (0 : Int32) h0 n0 Z0 F_insertsWhenAbsent_wDELETE) hZ (hw _ (List.mem_of_getElem? (i := 8) rfl)) (hw _ (List.mem_of_getElem? (i := 2) rfl)) (by decide) (by decide)) q14a q14c (g := (mkF m 84 #[.val (.int p0), .val (.int (3 : Int32)), .val (.ref wDELETE), .val (.int (1 : Int32))] [(.ref wDELETE)])) rfl (by rw [hml]; rfl) (Steps.refl _) (argsL := []) (rest := []) (lenOf pd_0 rfl) rfl (by show 2 * 0 + _ ≤ _; exact Nat.le_of_eq rfl) (hb hby at_84) (fun _ _ => ⟨rfl, e13, (by decide : 0 + 0 ≤ _), (by decide : 0 + 0 ≤ _)⟩)
    dsimp only [Pt.U, Pt.locs, Pt.cells, Pt.slots] at X14 l14 y14 z14 st14 hQ14
    subst l14 y14 z14
    obtain ⟨rfl, N14q, hh14⟩ := hQ14
    have N14 := Fr.app N0 N14q
    have pre15 : ∀ t, Steps p.tables e below (T14.setTop (mkF m 96 #[.val (.int p0), .val (.int (3 : Int32)), .val (.ref wDELETE), .val (.int (1 : Int32))] [(.int (1 : Int32))])) t → Steps p.tables e below (s₁.setTop (entryFrame m #[(.int p0)] maxLocals)) t := fun t k => pre3 t (by
      show Steps p.tables e below (s₁.setTop (mkF m 8 #[.val (.int p0), .val (.int (3 : Int32)), .unset, .unset] [])) _
      refine XS.iloadN X0.here hx rfl (hb hby at_8) rfl ?_
      show Steps p.tables e below (s₁.setTop (mkF m 9 #[.val (.int p0), .val (.int (3 : Int32)), .unset, .unset] [(.int (3 : Int32))])) _
      refine XS.ifYes X0.here hx rfl (pc0 := 9) (pc' := 21) rfl (hb hby at_9) rfl ((if0 _ _).trans (feq (by decide : ¬ ((3 : Int32) = (0 : Int32)))).2) (by decide) (by decide) ?_
      show Steps p.tables e below (s₁.setTop (mkF m 21 #[.val (.int p0), .val (.int (3 : Int32)), .unset, .unset] [])) _
      refine XS.iloadN X0.here hx rfl (hb hby at_21) rfl ?_
      show Steps p.tables e below (s₁.setTop (mkF m 22 #[.val (.int p0), .val (.int (3 : Int32)), .unset, .unset] [(.int (3 : Int32))])) _
      refine XS.iconst X0.here hx rfl (hb hby at_22) ?_
      show Steps p.tables e below (s₁.setTop (mkF m 23 #[.val (.int p0), .val (.int (3 : Int32)), .unset, .unset] [(.int (1 : Int32)), (.int (3 : Int32))])) _
      refine XS.icmpYes X0.here hx rfl (pc0 := 23) (pc' := 35) rfl (hb hby at_23) rfl (feq (by decide : ¬ ((3 : Int32) = (1 : Int32)))).2 (by decide) (by decide) ?_
      show Steps p.tables e below (s₁.setTop (mkF m 35 #[.val (.int p0), .val (.int (3 : Int32)), .unset, .unset] [])) _
      refine XS.iloadN X0.here hx rfl (hb hby at_35) rfl ?_
      show Steps p.tables e below (s₁.setTop (mkF m 36 #[.val (.int p0), .val (.int (3 : Int32)), .unset, .unset] [(.int (3 : Int32))])) _
      refine XS.iconst X0.here hx rfl (hb hby at_36) ?_
      show Steps p.tables e below (s₁.setTop (mkF m 37 #[.val (.int p0), .val (.int (3 : Int32)), .unset, .unset] [(.int (2 : Int32)), (.int (3 : Int32))])) _
      refine XS.icmpYes X0.here hx rfl (pc0 := 37) (pc' := 49) rfl (hb hby at_37) rfl (feq (by decide : ¬ ((3 : Int32) = (2 : Int32)))).2 (by decide) (by decide) ?_
      show Steps p.tables e below (s₁.setTop (mkF m 49 #[.val (.int p0), .val (.int (3 : Int32)), .unset, .unset] [])) _
      refine XS.iloadN X0.here hx rfl (hb hby at_49) rfl ?_
      show Steps p.tables e below (s₁.setTop (mkF m 50 #[.val (.int p0), .val (.int (3 : Int32)), .unset, .unset] [(.int (3 : Int32))])) _
      refine XS.iconst X0.here hx rfl (hb hby at_50) ?_
      show Steps p.tables e below (s₁.setTop (mkF m 51 #[.val (.int p0), .val (.int (3 : Int32)), .unset, .unset] [(.int (3 : Int32)), (.int (3 : Int32))])) _
      refine XS.icmpNo X0.here hx rfl (hb hby at_51) rfl (teq (by decide : (3 : Int32) = (3 : Int32))).2 ?_
      show Steps p.tables e below (s₁.setTop (mkF m 54 #[.val (.int p0), .val (.int (3 : Int32)), .unset, .unset] [])) _
      refine st13 _ ?_
      show Steps p.tables e below (T13.setTop (mkF m 57 #[.val (.int p0), .val (.int (3 : Int32)), .unset, .unset] [(.ref wDELETE)])) _
      refine XS.astoreN X13.here hx rfl (hb hby at_57) rfl rfl (l' := #[.val (.int p0), .val (.int (3 : Int32)), .val (.ref wDELETE), .unset]) rfl ?_
      show Steps p.tables e below (T13.setTop (mkF m 58 #[.val (.int p0), .val (.int (3 : Int32)), .val (.ref wDELETE), .unset] [])) _
      refine XS.iconst X13.here hx rfl (hb hby at_58) ?_
      show Steps p.tables e below (T13.setTop (mkF m 59 #[.val (.int p0), .val (.int (3 : Int32)), .val (.ref wDELETE), .unset] [(.int (1 : Int32))])) _
      refine XS.istoreN X13.here hx rfl (hb hby at_59) rfl (l' := #[.val (.int p0), .val (.int (3 : Int32)), .val (.ref wDELETE), .val (.int (1 : Int32))]) rfl ?_
      show Steps p.tables e below (T13.setTop (mkF m 60 #[.val (.int p0), .val (.int (3 : Int32)), .val (.ref wDELETE), .val (.int (1 : Int32))] [])) _
      refine XS.goto X13.here hx rfl (pc0 := 60) (pc' := 83) rfl (hb hby at_60) (by decide) (by decide) ?_
      show Steps p.tables e below (T13.setTop (mkF m 83 #[.val (.int p0), .val (.int (3 : Int32)), .val (.ref wDELETE), .val (.int (1 : Int32))] [])) _
      refine XS.aloadN X13.here hx rfl (hb hby at_83) rfl rfl ?_
      show Steps p.tables e below (T13.setTop (mkF m 84 #[.val (.int p0), .val (.int (3 : Int32)), .val (.ref wDELETE), .val (.int (1 : Int32))] [(.ref wDELETE)])) _
      refine st14.trans ?_
      show Steps p.tables e below (T14.setTop (mkF m 87 #[.val (.int p0), .val (.int (3 : Int32)), .val (.ref wDELETE), .val (.int (1 : Int32))] [(.int (if (0 : Int32) = (0 : Int32) then (1 : Int32) else 0))])) _
      refine XS.iloadN X14.here hx rfl (hb hby at_87) rfl ?_
      show Steps p.tables e below (T14.setTop (mkF m 88 #[.val (.int p0), .val (.int (3 : Int32)), .val (.ref wDELETE), .val (.int (1 : Int32))] [(.int (1 : Int32)), (.int (if (0 : Int32) = (0 : Int32) then (1 : Int32) else 0))])) _
      refine XS.icmpNo X14.here hx rfl (hb hby at_88) rfl (teq (own_c1 (rfl : (0 : Int32) = (0 : Int32)))).2 ?_
      show Steps p.tables e below (T14.setTop (mkF m 91 #[.val (.int p0), .val (.int (3 : Int32)), .val (.ref wDELETE), .val (.int (1 : Int32))] [])) _
      refine XS.iconst X14.here hx rfl (hb hby at_91) ?_
      show Steps p.tables e below (T14.setTop (mkF m 92 #[.val (.int p0), .val (.int (3 : Int32)), .val (.ref wDELETE), .val (.int (1 : Int32))] [(.int (1 : Int32))])) _
      refine XS.goto X14.here hx rfl (pc0 := 92) (pc' := 96) rfl (hb hby at_92) (by decide) (by decide) ?_
      exact k)
    obtain ⟨fs, hr, hrun, hended, hW, hsame⟩ := X14.leave (v := some (.int (1 : Int32))) (fun h => by rw [Bd.returns] at h; cases h)
    refine ⟨_, _, pre15 _ ?_, hrun, hended, _, _, rfl, ?_, ⟨_, rfl⟩, hW, hsame.mono (by decide) (by decide)⟩
    · exact retN X14 hx (t := .boolean) Bd.returns (by simp) (hb hby at_96) hr
    · show Q0 Z p0 wINSERT wREPLACE wMERGE wDELETE wINSERT_OR_REPLACE wINSERT_OR_MERGE h0 n0 _ T14.heap _
      rw [hh14]
      exact ⟨rfl, N14⟩
  · obtain ⟨T16, X16, e16, st16⟩ := getS2 X0 hx hZ hown (host := "") (Or.inl (hw _ (List.mem_of_getElem? (i := 19) rfl))) Via.refl e0 S_INSERT_OR_REPLACE (g := (mkF m 68 #[.val (.int p0), .val (.int (4 : Int32)), .unset, .unset] [])) rfl (hb hby at_68)
    obtain ⟨cq17, kq17, q17a, q17b, q17c⟩ := isOf hZ e16 E_wINSERT_OR_REPLACE
    obtain ⟨_, _, ⟨T17, L17, k17, n17⟩, -, X17, ⟨Lc17, hQ17, l17, y17, z17⟩, st17⟩ := X16.virtualBack hx (y := (⟨"com/example/covering/covering/model/Operation$Kind", "takesETag", "()Z"⟩ : MethodName)) (z := (⟨"com/example/covering/covering/model/Operation$Kind", "takesETag", "()Z"⟩ : MethodName)) hown (mvT hZ (hw _ (List.mem_of_getElem? (i := 4) rfl))) (mvT hZ (hw _ (List.mem_of_getElem? (i := 5) rfl))) (notFace_of_selects (args := #[]) (mvT hZ (hw _ (List.mem_of_getElem? (i := 7) rfl)))) (mvT hZ (hw _ (List.mem_of_getElem? (i := 7) rfl))) (mvT hZ (hw _ (List.mem_of_getElem? (i := 6) rfl))) (by decide) (backOf (W := 0) (rm1 l Z a0 hw [] wINSERT_OR_REPLACE (1 : Int32) h0 n0 Z0 F_insertsWhenAbsent_wINSERT_OR_REPLACE) hZ (hw _ (List.mem_of_getElem? (i := 8) rfl)) (hw _ (List.mem_of_getElem? (i := 2) rfl)) (by decide) (by decide)) q17a q17c (g := (mkF m 84 #[.val (.int p0), .val (.int (4 : Int32)), .val (.ref wINSERT_OR_REPLACE), .val (.int (0 : Int32))] [(.ref wINSERT_OR_REPLACE)])) rfl (by rw [hml]; rfl) (Steps.refl _) (argsL := []) (rest := []) (lenOf pd_0 rfl) rfl (by show 2 * 0 + _ ≤ _; exact Nat.le_of_eq rfl) (hb hby at_84) (fun _ _ => ⟨rfl, e16, (by decide : 0 + 0 ≤ _), (by decide : 0 + 0 ≤ _)⟩)
    dsimp only [Pt.U, Pt.locs, Pt.cells, Pt.slots] at X17 l17 y17 z17 st17 hQ17
    subst l17 y17 z17
    obtain ⟨rfl, N17q, hh17⟩ := hQ17
    have N17 := Fr.app N0 N17q
    have pre18 : ∀ t, Steps p.tables e below (T17.setTop (mkF m 96 #[.val (.int p0), .val (.int (4 : Int32)), .val (.ref wINSERT_OR_REPLACE), .val (.int (0 : Int32))] [(.int (1 : Int32))])) t → Steps p.tables e below (s₁.setTop (entryFrame m #[(.int p0)] maxLocals)) t := fun t k => pre3 t (by
      show Steps p.tables e below (s₁.setTop (mkF m 8 #[.val (.int p0), .val (.int (4 : Int32)), .unset, .unset] [])) _
      refine XS.iloadN X0.here hx rfl (hb hby at_8) rfl ?_
      show Steps p.tables e below (s₁.setTop (mkF m 9 #[.val (.int p0), .val (.int (4 : Int32)), .unset, .unset] [(.int (4 : Int32))])) _
      refine XS.ifYes X0.here hx rfl (pc0 := 9) (pc' := 21) rfl (hb hby at_9) rfl ((if0 _ _).trans (feq (by decide : ¬ ((4 : Int32) = (0 : Int32)))).2) (by decide) (by decide) ?_
      show Steps p.tables e below (s₁.setTop (mkF m 21 #[.val (.int p0), .val (.int (4 : Int32)), .unset, .unset] [])) _
      refine XS.iloadN X0.here hx rfl (hb hby at_21) rfl ?_
      show Steps p.tables e below (s₁.setTop (mkF m 22 #[.val (.int p0), .val (.int (4 : Int32)), .unset, .unset] [(.int (4 : Int32))])) _
      refine XS.iconst X0.here hx rfl (hb hby at_22) ?_
      show Steps p.tables e below (s₁.setTop (mkF m 23 #[.val (.int p0), .val (.int (4 : Int32)), .unset, .unset] [(.int (1 : Int32)), (.int (4 : Int32))])) _
      refine XS.icmpYes X0.here hx rfl (pc0 := 23) (pc' := 35) rfl (hb hby at_23) rfl (feq (by decide : ¬ ((4 : Int32) = (1 : Int32)))).2 (by decide) (by decide) ?_
      show Steps p.tables e below (s₁.setTop (mkF m 35 #[.val (.int p0), .val (.int (4 : Int32)), .unset, .unset] [])) _
      refine XS.iloadN X0.here hx rfl (hb hby at_35) rfl ?_
      show Steps p.tables e below (s₁.setTop (mkF m 36 #[.val (.int p0), .val (.int (4 : Int32)), .unset, .unset] [(.int (4 : Int32))])) _
      refine XS.iconst X0.here hx rfl (hb hby at_36) ?_
      show Steps p.tables e below (s₁.setTop (mkF m 37 #[.val (.int p0), .val (.int (4 : Int32)), .unset, .unset] [(.int (2 : Int32)), (.int (4 : Int32))])) _
      refine XS.icmpYes X0.here hx rfl (pc0 := 37) (pc' := 49) rfl (hb hby at_37) rfl (feq (by decide : ¬ ((4 : Int32) = (2 : Int32)))).2 (by decide) (by decide) ?_
      show Steps p.tables e below (s₁.setTop (mkF m 49 #[.val (.int p0), .val (.int (4 : Int32)), .unset, .unset] [])) _
      refine XS.iloadN X0.here hx rfl (hb hby at_49) rfl ?_
      show Steps p.tables e below (s₁.setTop (mkF m 50 #[.val (.int p0), .val (.int (4 : Int32)), .unset, .unset] [(.int (4 : Int32))])) _
      refine XS.iconst X0.here hx rfl (hb hby at_50) ?_
      show Steps p.tables e below (s₁.setTop (mkF m 51 #[.val (.int p0), .val (.int (4 : Int32)), .unset, .unset] [(.int (3 : Int32)), (.int (4 : Int32))])) _
      refine XS.icmpYes X0.here hx rfl (pc0 := 51) (pc' := 63) rfl (hb hby at_51) rfl (feq (by decide : ¬ ((4 : Int32) = (3 : Int32)))).2 (by decide) (by decide) ?_
      show Steps p.tables e below (s₁.setTop (mkF m 63 #[.val (.int p0), .val (.int (4 : Int32)), .unset, .unset] [])) _
      refine XS.iloadN X0.here hx rfl (hb hby at_63) rfl ?_
      show Steps p.tables e below (s₁.setTop (mkF m 64 #[.val (.int p0), .val (.int (4 : Int32)), .unset, .unset] [(.int (4 : Int32))])) _
      refine XS.iconst X0.here hx rfl (hb hby at_64) ?_
      show Steps p.tables e below (s₁.setTop (mkF m 65 #[.val (.int p0), .val (.int (4 : Int32)), .unset, .unset] [(.int (4 : Int32)), (.int (4 : Int32))])) _
      refine XS.icmpNo X0.here hx rfl (hb hby at_65) rfl (teq (by decide : (4 : Int32) = (4 : Int32))).2 ?_
      show Steps p.tables e below (s₁.setTop (mkF m 68 #[.val (.int p0), .val (.int (4 : Int32)), .unset, .unset] [])) _
      refine st16 _ ?_
      show Steps p.tables e below (T16.setTop (mkF m 71 #[.val (.int p0), .val (.int (4 : Int32)), .unset, .unset] [(.ref wINSERT_OR_REPLACE)])) _
      refine XS.astoreN X16.here hx rfl (hb hby at_71) rfl rfl (l' := #[.val (.int p0), .val (.int (4 : Int32)), .val (.ref wINSERT_OR_REPLACE), .unset]) rfl ?_
      show Steps p.tables e below (T16.setTop (mkF m 72 #[.val (.int p0), .val (.int (4 : Int32)), .val (.ref wINSERT_OR_REPLACE), .unset] [])) _
      refine XS.iconst X16.here hx rfl (hb hby at_72) ?_
      show Steps p.tables e below (T16.setTop (mkF m 73 #[.val (.int p0), .val (.int (4 : Int32)), .val (.ref wINSERT_OR_REPLACE), .unset] [(.int (0 : Int32))])) _
      refine XS.istoreN X16.here hx rfl (hb hby at_73) rfl (l' := #[.val (.int p0), .val (.int (4 : Int32)), .val (.ref wINSERT_OR_REPLACE), .val (.int (0 : Int32))]) rfl ?_
      show Steps p.tables e below (T16.setTop (mkF m 74 #[.val (.int p0), .val (.int (4 : Int32)), .val (.ref wINSERT_OR_REPLACE), .val (.int (0 : Int32))] [])) _
      refine XS.goto X16.here hx rfl (pc0 := 74) (pc' := 83) rfl (hb hby at_74) (by decide) (by decide) ?_
      show Steps p.tables e below (T16.setTop (mkF m 83 #[.val (.int p0), .val (.int (4 : Int32)), .val (.ref wINSERT_OR_REPLACE), .val (.int (0 : Int32))] [])) _
      refine XS.aloadN X16.here hx rfl (hb hby at_83) rfl rfl ?_
      show Steps p.tables e below (T16.setTop (mkF m 84 #[.val (.int p0), .val (.int (4 : Int32)), .val (.ref wINSERT_OR_REPLACE), .val (.int (0 : Int32))] [(.ref wINSERT_OR_REPLACE)])) _
      refine st17.trans ?_
      show Steps p.tables e below (T17.setTop (mkF m 87 #[.val (.int p0), .val (.int (4 : Int32)), .val (.ref wINSERT_OR_REPLACE), .val (.int (0 : Int32))] [(.int (if (1 : Int32) = (0 : Int32) then (1 : Int32) else 0))])) _
      refine XS.iloadN X17.here hx rfl (hb hby at_87) rfl ?_
      show Steps p.tables e below (T17.setTop (mkF m 88 #[.val (.int p0), .val (.int (4 : Int32)), .val (.ref wINSERT_OR_REPLACE), .val (.int (0 : Int32))] [(.int (0 : Int32)), (.int (if (1 : Int32) = (0 : Int32) then (1 : Int32) else 0))])) _
      refine XS.icmpNo X17.here hx rfl (hb hby at_88) rfl (teq (own_b0 (by decide : ¬ (1 : Int32) = (0 : Int32)))).2 ?_
      show Steps p.tables e below (T17.setTop (mkF m 91 #[.val (.int p0), .val (.int (4 : Int32)), .val (.ref wINSERT_OR_REPLACE), .val (.int (0 : Int32))] [])) _
      refine XS.iconst X17.here hx rfl (hb hby at_91) ?_
      show Steps p.tables e below (T17.setTop (mkF m 92 #[.val (.int p0), .val (.int (4 : Int32)), .val (.ref wINSERT_OR_REPLACE), .val (.int (0 : Int32))] [(.int (1 : Int32))])) _
      refine XS.goto X17.here hx rfl (pc0 := 92) (pc' := 96) rfl (hb hby at_92) (by decide) (by decide) ?_
      exact k)
    obtain ⟨fs, hr, hrun, hended, hW, hsame⟩ := X17.leave (v := some (.int (1 : Int32))) (fun h => by rw [Bd.returns] at h; cases h)
    refine ⟨_, _, pre18 _ ?_, hrun, hended, _, _, rfl, ?_, ⟨_, rfl⟩, hW, hsame.mono (by decide) (by decide)⟩
    · exact retN X17 hx (t := .boolean) Bd.returns (by simp) (hb hby at_96) hr
    · show Q0 Z p0 wINSERT wREPLACE wMERGE wDELETE wINSERT_OR_REPLACE wINSERT_OR_MERGE h0 n0 _ T17.heap _
      rw [hh17]
      exact ⟨rfl, N17⟩
  · obtain ⟨T19, X19, e19, st19⟩ := getS2 X0 hx hZ hown (host := "") (Or.inl (hw _ (List.mem_of_getElem? (i := 17) rfl))) Via.refl e0 S_INSERT_OR_MERGE (g := (mkF m 77 #[.val (.int p0), .val (.int (5 : Int32)), .unset, .unset] [])) rfl (hb hby at_77)
    obtain ⟨cq20, kq20, q20a, q20b, q20c⟩ := isOf hZ e19 E_wINSERT_OR_MERGE
    obtain ⟨_, _, ⟨T20, L20, k20, n20⟩, -, X20, ⟨Lc20, hQ20, l20, y20, z20⟩, st20⟩ := X19.virtualBack hx (y := (⟨"com/example/covering/covering/model/Operation$Kind", "takesETag", "()Z"⟩ : MethodName)) (z := (⟨"com/example/covering/covering/model/Operation$Kind", "takesETag", "()Z"⟩ : MethodName)) hown (mvT hZ (hw _ (List.mem_of_getElem? (i := 4) rfl))) (mvT hZ (hw _ (List.mem_of_getElem? (i := 5) rfl))) (notFace_of_selects (args := #[]) (mvT hZ (hw _ (List.mem_of_getElem? (i := 7) rfl)))) (mvT hZ (hw _ (List.mem_of_getElem? (i := 7) rfl))) (mvT hZ (hw _ (List.mem_of_getElem? (i := 6) rfl))) (by decide) (backOf (W := 0) (rm1 l Z a0 hw [] wINSERT_OR_MERGE (1 : Int32) h0 n0 Z0 F_insertsWhenAbsent_wINSERT_OR_MERGE) hZ (hw _ (List.mem_of_getElem? (i := 8) rfl)) (hw _ (List.mem_of_getElem? (i := 2) rfl)) (by decide) (by decide)) q20a q20c (g := (mkF m 84 #[.val (.int p0), .val (.int (5 : Int32)), .val (.ref wINSERT_OR_MERGE), .val (.int (0 : Int32))] [(.ref wINSERT_OR_MERGE)])) rfl (by rw [hml]; rfl) (Steps.refl _) (argsL := []) (rest := []) (lenOf pd_0 rfl) rfl (by show 2 * 0 + _ ≤ _; exact Nat.le_of_eq rfl) (hb hby at_84) (fun _ _ => ⟨rfl, e19, (by decide : 0 + 0 ≤ _), (by decide : 0 + 0 ≤ _)⟩)
    dsimp only [Pt.U, Pt.locs, Pt.cells, Pt.slots] at X20 l20 y20 z20 st20 hQ20
    subst l20 y20 z20
    obtain ⟨rfl, N20q, hh20⟩ := hQ20
    have N20 := Fr.app N0 N20q
    have pre21 : ∀ t, Steps p.tables e below (T20.setTop (mkF m 96 #[.val (.int p0), .val (.int (5 : Int32)), .val (.ref wINSERT_OR_MERGE), .val (.int (0 : Int32))] [(.int (1 : Int32))])) t → Steps p.tables e below (s₁.setTop (entryFrame m #[(.int p0)] maxLocals)) t := fun t k => pre3 t (by
      show Steps p.tables e below (s₁.setTop (mkF m 8 #[.val (.int p0), .val (.int (5 : Int32)), .unset, .unset] [])) _
      refine XS.iloadN X0.here hx rfl (hb hby at_8) rfl ?_
      show Steps p.tables e below (s₁.setTop (mkF m 9 #[.val (.int p0), .val (.int (5 : Int32)), .unset, .unset] [(.int (5 : Int32))])) _
      refine XS.ifYes X0.here hx rfl (pc0 := 9) (pc' := 21) rfl (hb hby at_9) rfl ((if0 _ _).trans (feq (by decide : ¬ ((5 : Int32) = (0 : Int32)))).2) (by decide) (by decide) ?_
      show Steps p.tables e below (s₁.setTop (mkF m 21 #[.val (.int p0), .val (.int (5 : Int32)), .unset, .unset] [])) _
      refine XS.iloadN X0.here hx rfl (hb hby at_21) rfl ?_
      show Steps p.tables e below (s₁.setTop (mkF m 22 #[.val (.int p0), .val (.int (5 : Int32)), .unset, .unset] [(.int (5 : Int32))])) _
      refine XS.iconst X0.here hx rfl (hb hby at_22) ?_
      show Steps p.tables e below (s₁.setTop (mkF m 23 #[.val (.int p0), .val (.int (5 : Int32)), .unset, .unset] [(.int (1 : Int32)), (.int (5 : Int32))])) _
      refine XS.icmpYes X0.here hx rfl (pc0 := 23) (pc' := 35) rfl (hb hby at_23) rfl (feq (by decide : ¬ ((5 : Int32) = (1 : Int32)))).2 (by decide) (by decide) ?_
      show Steps p.tables e below (s₁.setTop (mkF m 35 #[.val (.int p0), .val (.int (5 : Int32)), .unset, .unset] [])) _
      refine XS.iloadN X0.here hx rfl (hb hby at_35) rfl ?_
      show Steps p.tables e below (s₁.setTop (mkF m 36 #[.val (.int p0), .val (.int (5 : Int32)), .unset, .unset] [(.int (5 : Int32))])) _
      refine XS.iconst X0.here hx rfl (hb hby at_36) ?_
      show Steps p.tables e below (s₁.setTop (mkF m 37 #[.val (.int p0), .val (.int (5 : Int32)), .unset, .unset] [(.int (2 : Int32)), (.int (5 : Int32))])) _
      refine XS.icmpYes X0.here hx rfl (pc0 := 37) (pc' := 49) rfl (hb hby at_37) rfl (feq (by decide : ¬ ((5 : Int32) = (2 : Int32)))).2 (by decide) (by decide) ?_
      show Steps p.tables e below (s₁.setTop (mkF m 49 #[.val (.int p0), .val (.int (5 : Int32)), .unset, .unset] [])) _
      refine XS.iloadN X0.here hx rfl (hb hby at_49) rfl ?_
      show Steps p.tables e below (s₁.setTop (mkF m 50 #[.val (.int p0), .val (.int (5 : Int32)), .unset, .unset] [(.int (5 : Int32))])) _
      refine XS.iconst X0.here hx rfl (hb hby at_50) ?_
      show Steps p.tables e below (s₁.setTop (mkF m 51 #[.val (.int p0), .val (.int (5 : Int32)), .unset, .unset] [(.int (3 : Int32)), (.int (5 : Int32))])) _
      refine XS.icmpYes X0.here hx rfl (pc0 := 51) (pc' := 63) rfl (hb hby at_51) rfl (feq (by decide : ¬ ((5 : Int32) = (3 : Int32)))).2 (by decide) (by decide) ?_
      show Steps p.tables e below (s₁.setTop (mkF m 63 #[.val (.int p0), .val (.int (5 : Int32)), .unset, .unset] [])) _
      refine XS.iloadN X0.here hx rfl (hb hby at_63) rfl ?_
      show Steps p.tables e below (s₁.setTop (mkF m 64 #[.val (.int p0), .val (.int (5 : Int32)), .unset, .unset] [(.int (5 : Int32))])) _
      refine XS.iconst X0.here hx rfl (hb hby at_64) ?_
      show Steps p.tables e below (s₁.setTop (mkF m 65 #[.val (.int p0), .val (.int (5 : Int32)), .unset, .unset] [(.int (4 : Int32)), (.int (5 : Int32))])) _
      refine XS.icmpYes X0.here hx rfl (pc0 := 65) (pc' := 77) rfl (hb hby at_65) rfl (feq (by decide : ¬ ((5 : Int32) = (4 : Int32)))).2 (by decide) (by decide) ?_
      show Steps p.tables e below (s₁.setTop (mkF m 77 #[.val (.int p0), .val (.int (5 : Int32)), .unset, .unset] [])) _
      refine st19 _ ?_
      show Steps p.tables e below (T19.setTop (mkF m 80 #[.val (.int p0), .val (.int (5 : Int32)), .unset, .unset] [(.ref wINSERT_OR_MERGE)])) _
      refine XS.astoreN X19.here hx rfl (hb hby at_80) rfl rfl (l' := #[.val (.int p0), .val (.int (5 : Int32)), .val (.ref wINSERT_OR_MERGE), .unset]) rfl ?_
      show Steps p.tables e below (T19.setTop (mkF m 81 #[.val (.int p0), .val (.int (5 : Int32)), .val (.ref wINSERT_OR_MERGE), .unset] [])) _
      refine XS.iconst X19.here hx rfl (hb hby at_81) ?_
      show Steps p.tables e below (T19.setTop (mkF m 82 #[.val (.int p0), .val (.int (5 : Int32)), .val (.ref wINSERT_OR_MERGE), .unset] [(.int (0 : Int32))])) _
      refine XS.istoreN X19.here hx rfl (hb hby at_82) rfl (l' := #[.val (.int p0), .val (.int (5 : Int32)), .val (.ref wINSERT_OR_MERGE), .val (.int (0 : Int32))]) rfl ?_
      show Steps p.tables e below (T19.setTop (mkF m 83 #[.val (.int p0), .val (.int (5 : Int32)), .val (.ref wINSERT_OR_MERGE), .val (.int (0 : Int32))] [])) _
      refine XS.aloadN X19.here hx rfl (hb hby at_83) rfl rfl ?_
      show Steps p.tables e below (T19.setTop (mkF m 84 #[.val (.int p0), .val (.int (5 : Int32)), .val (.ref wINSERT_OR_MERGE), .val (.int (0 : Int32))] [(.ref wINSERT_OR_MERGE)])) _
      refine st20.trans ?_
      show Steps p.tables e below (T20.setTop (mkF m 87 #[.val (.int p0), .val (.int (5 : Int32)), .val (.ref wINSERT_OR_MERGE), .val (.int (0 : Int32))] [(.int (if (1 : Int32) = (0 : Int32) then (1 : Int32) else 0))])) _
      refine XS.iloadN X20.here hx rfl (hb hby at_87) rfl ?_
      show Steps p.tables e below (T20.setTop (mkF m 88 #[.val (.int p0), .val (.int (5 : Int32)), .val (.ref wINSERT_OR_MERGE), .val (.int (0 : Int32))] [(.int (0 : Int32)), (.int (if (1 : Int32) = (0 : Int32) then (1 : Int32) else 0))])) _
      refine XS.icmpNo X20.here hx rfl (hb hby at_88) rfl (teq (own_b0 (by decide : ¬ (1 : Int32) = (0 : Int32)))).2 ?_
      show Steps p.tables e below (T20.setTop (mkF m 91 #[.val (.int p0), .val (.int (5 : Int32)), .val (.ref wINSERT_OR_MERGE), .val (.int (0 : Int32))] [])) _
      refine XS.iconst X20.here hx rfl (hb hby at_91) ?_
      show Steps p.tables e below (T20.setTop (mkF m 92 #[.val (.int p0), .val (.int (5 : Int32)), .val (.ref wINSERT_OR_MERGE), .val (.int (0 : Int32))] [(.int (1 : Int32))])) _
      refine XS.goto X20.here hx rfl (pc0 := 92) (pc' := 96) rfl (hb hby at_92) (by decide) (by decide) ?_
      exact k)
    obtain ⟨fs, hr, hrun, hended, hW, hsame⟩ := X20.leave (v := some (.int (1 : Int32))) (fun h => by rw [Bd.returns] at h; cases h)
    refine ⟨_, _, pre21 _ ?_, hrun, hended, _, _, rfl, ?_, ⟨_, rfl⟩, hW, hsame.mono (by decide) (by decide)⟩
    · exact retN X20 hx (t := .boolean) Bd.returns (by simp) (hb hby at_96) hr
    · show Q0 Z p0 wINSERT wREPLACE wMERGE wDELETE wINSERT_OR_REPLACE wINSERT_OR_MERGE h0 n0 _ T20.heap _
      rw [hh20]
      exact ⟨rfl, N20⟩
set_option maxRecDepth 65536 in
set_option maxHeartbeats 40000000 in
theorem comes_1 {Post : Tables → Env → Array Value → State → Outcome → State → Prop} (hpost : ∀ tb e args s v u, (limb_1_1.after args s (.returned v) u = true ∧ limb_1_2.after args s (.returned v) u = true ∧ True) → FrameEnd s (.returned v) u (Jvm.fieldLocs frame_1_writes args s ++ Jvm.arrayLocs frame_1_arrays args s ++ Jvm.staticLocs frame_1_statics s) 0 0 → Post tb e args s (.returned v) u) :
    ArmFor flags0 classFile x code maxLocals ret World_1 tables_1 room_1 Calls_1 rest_1 Pre_1 Post := by
  intro l hfl _ _ p e ha hc hk s m args below hf hA hF happ hP
  obtain ⟨hcalls, hrest, hpre⟩ := hP
  obtain ⟨-, -, -, hnamed, -, -, -, hat⟩ := (Spec.applies_iff hf).mp happ
  obtain ⟨hg, hn⟩ := and_e (Cond.before_iff.mp (show (Jvm.Cond.and given_1 narrow_1).before args s = true from hpre))
  obtain ⟨g1, g2⟩ := and_e hg
  obtain ⟨w0, rfl⟩ : ∃ w0 : Value, args = #[w0] := by
    have hs : args.size = 1 := by simpa [Cond.value, given_1] using g1
    obtain ⟨L⟩ := args
    match L, hs with
    | [w0], _ => exact ⟨w0, rfl⟩
  have hw := fun d (hd : d ∈ tables_1) => atoms_spec (ws := Jvm.Cond.code x code maxLocals ret :: tables_1) hat d (List.mem_cons_of_mem _ hd)
  have hfit : Fit s := fun {y c} hc i hi => by
    obtain ⟨ha, rfl⟩ := Array.getElem?_eq_some_iff.mp hc
    have q := List.all_eq_true.mp ((Array.all_eq_true_iff_forall_mem.mp hF) _ (Array.getElem_mem ha)) i (List.mem_range.mpr hi)
    simpa [Array.getElem?_eq_getElem hi] using q
  obtain ⟨i0, ei0⟩ := is_v g2
  obtain rfl : w0 = (.int i0) := Option.some.inj ei0
  obtain ⟨m1a, m1b⟩ := and_e hn
  obtain ⟨m2a, m2b⟩ := and_e m1b
  obtain ⟨m3a, m3b⟩ := and_e m2b
  obtain ⟨m4a, m4b⟩ := and_e m3b
  obtain ⟨m5a, m5b⟩ := and_e m4b
  obtain ⟨m6a, m6b⟩ := and_e m5b
  obtain ⟨m7a, m7b⟩ := and_e m6b
  obtain ⟨m8a, m8b⟩ := and_e m7b
  obtain ⟨m9a, m9b⟩ := and_e m8b
  obtain ⟨m10a, m10b⟩ := and_e m9b
  obtain ⟨m11a, m11b⟩ := and_e m10b
  obtain ⟨wINSERT, v_INSERT⟩ := exa_v m1a
  have E_wINSERT := exa_at v_INSERT m1a
  have S_INSERT := Sta.start v_INSERT (Or.inr ⟨(hw _ (List.mem_of_getElem? (i := 2) rfl)), (hw _ (List.mem_of_getElem? (i := 3) rfl))⟩)
  have F_INSERT : Fld s s.heap wINSERT "com/example/covering/covering/model/Operation$Kind" "insertsWhenAbsent" "Z" (.int (1 : Int32)) := Fld.start (own_fo v_INSERT m2a)
  obtain ⟨wREPLACE, v_REPLACE⟩ := exa_v m7a
  have E_wREPLACE := exa_at v_REPLACE m7a
  have S_REPLACE := Sta.start v_REPLACE (Or.inr ⟨(hw _ (List.mem_of_getElem? (i := 2) rfl)), (hw _ (List.mem_of_getElem? (i := 16) rfl))⟩)
  have F_REPLACE : Fld s s.heap wREPLACE "com/example/covering/covering/model/Operation$Kind" "insertsWhenAbsent" "Z" (.int (0 : Int32)) := Fld.start (own_fo v_REPLACE m8a)
  obtain ⟨wMERGE, v_MERGE⟩ := exa_v m5a
  have E_wMERGE := exa_at v_MERGE m5a
  have S_MERGE := Sta.start v_MERGE (Or.inr ⟨(hw _ (List.mem_of_getElem? (i := 2) rfl)), (hw _ (List.mem_of_getElem? (i := 14) rfl))⟩)
  have F_MERGE : Fld s s.heap wMERGE "com/example/covering/covering/model/Operation$Kind" "insertsWhenAbsent" "Z" (.int (0 : Int32)) := Fld.start (own_fo v_MERGE m6a)
  obtain ⟨wDELETE, v_DELETE⟩ := exa_v m3a
  have E_wDELETE := exa_at v_DELETE m3a
  have S_DELETE := Sta.start v_DELETE (Or.inr ⟨(hw _ (List.mem_of_getElem? (i := 2) rfl)), (hw _ (List.mem_of_getElem? (i := 12) rfl))⟩)
  have F_DELETE : Fld s s.heap wDELETE "com/example/covering/covering/model/Operation$Kind" "insertsWhenAbsent" "Z" (.int (0 : Int32)) := Fld.start (own_fo v_DELETE m4a)
  obtain ⟨wINSERT_OR_REPLACE, v_INSERT_OR_REPLACE⟩ := exa_v m11a
  have E_wINSERT_OR_REPLACE := exa_at v_INSERT_OR_REPLACE m11a
  have S_INSERT_OR_REPLACE := Sta.start v_INSERT_OR_REPLACE (Or.inr ⟨(hw _ (List.mem_of_getElem? (i := 2) rfl)), (hw _ (List.mem_of_getElem? (i := 20) rfl))⟩)
  have F_INSERT_OR_REPLACE : Fld s s.heap wINSERT_OR_REPLACE "com/example/covering/covering/model/Operation$Kind" "insertsWhenAbsent" "Z" (.int (1 : Int32)) := Fld.start (own_fo v_INSERT_OR_REPLACE m11b)
  obtain ⟨wINSERT_OR_MERGE, v_INSERT_OR_MERGE⟩ := exa_v m9a
  have E_wINSERT_OR_MERGE := exa_at v_INSERT_OR_MERGE m9a
  have S_INSERT_OR_MERGE := Sta.start v_INSERT_OR_MERGE (Or.inr ⟨(hw _ (List.mem_of_getElem? (i := 2) rfl)), (hw _ (List.mem_of_getElem? (i := 18) rfl))⟩)
  have F_INSERT_OR_MERGE : Fld s s.heap wINSERT_OR_MERGE "com/example/covering/covering/model/Operation$Kind" "insertsWhenAbsent" "Z" (.int (1 : Int32)) := Fld.start (own_fo v_INSERT_OR_MERGE m10a)
  obtain ⟨n, o, h1, h2, h3, _, L, rfl, ⟨rfl, N⟩, hq⟩ := rm0 l s _ hw tables_1 i0 wINSERT wREPLACE wMERGE wDELETE wINSERT_OR_REPLACE wINSERT_OR_MERGE s.heap s.heap.size (Nat.le_refl _) S_INSERT S_REPLACE S_MERGE S_DELETE S_INSERT_OR_REPLACE S_INSERT_OR_MERGE E_wINSERT E_wREPLACE E_wMERGE E_wDELETE E_wINSERT_OR_REPLACE E_wINSERT_OR_MERGE F_INSERT F_REPLACE F_MERGE F_DELETE F_INSERT_OR_REPLACE F_INSERT_OR_MERGE p e ha hc hk s m _ below hf ((Spec.applies_iff_loose hf).mp happ).1 ⟨rfl, State.Warmed39.refl s, rfl⟩ trivial
  refine ⟨n, _, h1, h2, h3, hpost _ _ _ _ _ _ ⟨Cond.after_iff.mpr rfl, Cond.after_iff.mpr (eq_i res_at (Term.int_eval (1)) rfl), trivial⟩ ⟨hq.1, hq.2.1, (hq.2.2.sift fun y hy => Or.inr (N y hy)).mono (by decide) (by decide)⟩⟩
theorem main_1_1 : Claimed_1_1 := comes_1 fun _ _ _ _ _ _ h hF => ⟨h.1, hF⟩
theorem main_1_2 : Claimed_1_2 := comes_1 fun _ _ _ _ _ _ h hF => ⟨h.2.1, hF⟩
end Jvm.Pilot.@@N@@
namespace Jvm.Pilot.@@N@@
open Jvm Jvm.ClassFile Sem Op Lib Jvm.Free Jvm.Stand Jvm.Pilot.@@N@@.Jvm.D
/-! MADE BY PROGRAM (witnessworld.py) out of the Statement's table words and the real class files: 12 classes; the members and pool entries that the words name. The judged class is class 1, her method 1. -/
namespace start1
open Jvm.ClassFile
def u (s : String) : CpInfo := .utf8 (stringToUtf16 s)
/-- a pool by its gaps: so many unusable entries, then the entry; so many at the end -/
def gap : Nat → List CpInfo → List CpInfo
  | 0, r => r
  | n + 1, r => .unusable :: gap n r
def poolList (es : List (Nat × CpInfo)) (last : Nat) : List CpInfo := es.foldr (fun e r => gap e.1 (e.2 :: r)) (gap last [])
def pool (es : List (Nat × CpInfo)) (last : Nat) : Array CpInfo := ⟨poolList es last⟩
def fileOf (pool : Array CpInfo) (this : Nat) (attrs : Array Attribute := #[]) (ms : Array MethodInfo := #[]) (fl : Nat := 33) (sup : Nat := 0) (ifs : Array Nat := #[]) (fds : Array FieldInfo := #[]) : ClassFile where
  minorVersion := 0
  majorVersion := 65
  constantPool := pool
  accessFlags := fl
  thisClass := this
  superClass := sup
  interfaces := ifs
  fields := fds
  methods := ms
  attributes := attrs
def plain (name : String) (sup : Option ClassId) : Class where
  name := name
  kind := .ordinary
  loader := none
  accessFlags := 33
  super := sup
  interfaces := #[]
  cf := none
  fields := #[]
  methods := #[]
  instanceTypes := #[]
  staticTypes := #[]
  resolved := #[]
  callSites := []
  init := .initialized
  statics := none
  mirror := none

def pool0 : Array CpInfo := pool [(5, u "<init>"), (0, u "()V"), (1, .class_ 10), (1, u "java/lang/Object")] 113

def k0m0 : Method := { name := "<init>", desc := "()V", sig := { parameters := [], returnType := none }, accessFlags := 1, code := none }
/-- java/lang/Object -/
def k0 : Class := { plain "java/lang/Object" none with
  accessFlags := 33
  interfaces := #[]
  cf := some (fileOf pool0 8 #[] #[{ accessFlags := 1, nameIndex := 5, descriptorIndex := 6, attributes := #[] }] 33 0 #[] #[])
  fields := #[]
  methods := #[k0m0]
  instanceTypes := #[]
  staticTypes := #[]
  resolved := Array.replicate 124 none
  statics := none }

def pool1 : Array CpInfo := pool [(2, .class_ 4), (1, u "java/lang/Object"), (0, u "<init>"), (0, u "()V"), (0, .integer 2147483647), (0, .fieldref 9 10), (0, .class_ 11), (0, .nameAndType 12 13), (0, u "com/example/covering/covering/model/Operation$Kind"), (0, u "INSERT"), (0, u "Lcom/example/covering/covering/model/Operation$Kind;"), (0, .fieldref 9 15), (0, .nameAndType 16 13), (0, u "REPLACE"), (0, .fieldref 9 18), (0, .nameAndType 19 13), (0, u "MERGE"), (0, .fieldref 9 21), (0, .nameAndType 22 13), (0, u "DELETE"), (0, .fieldref 9 24), (0, .nameAndType 25 13), (0, u "INSERT_OR_REPLACE"), (0, .fieldref 9 27), (0, .nameAndType 28 13), (0, u "INSERT_OR_MERGE"), (0, .methodref 9 30), (0, .nameAndType 31 32), (0, u "takesETag"), (0, u "()Z"), (0, .class_ 34), (0, u "com/example/covering/covering/model/KindTakesETagPinLaw"), (2, u "law"), (0, u "(I)Z")] 7

def k1m0 : Method := { name := "<init>", desc := "()V", sig := { parameters := [], returnType := none }, accessFlags := 2, code := none }
def k1c1 : Code := { maxStack := 2, maxLocals := 4, code := code, exceptionTable := #[], attributes := #[] }
def k1m1 : Method := { name := "law", desc := "(I)Z", sig := { parameters := [.int], returnType := some .boolean }, accessFlags := 9, code := some k1c1 }
/-- com/example/covering/covering/model/KindTakesETagPinLaw -/
def k1 : Class := { plain "com/example/covering/covering/model/KindTakesETagPinLaw" (some 0) with
  accessFlags := 49
  interfaces := #[]
  cf := some (fileOf pool1 33 #[] #[{ accessFlags := 2, nameIndex := 5, descriptorIndex := 6, attributes := #[] }, { accessFlags := 9, nameIndex := 37, descriptorIndex := 38, attributes := #[] }] 49 2 #[] #[])
  fields := #[]
  methods := #[k1m0, k1m1]
  instanceTypes := #[]
  staticTypes := #[]
  resolved := Array.replicate 46 none
  statics := none }

def pool2 : Array CpInfo := pool [(1, .class_ 2), (0, u "java/lang/constant/Constable"), (0, .class_ 4), (0, u "java/lang/Object")] 6

/-- java/lang/constant/Constable -/
def k2 : Class := { plain "java/lang/constant/Constable" (some 0) with
  accessFlags := 1537
  interfaces := #[]
  cf := some (fileOf pool2 1 #[] #[] 1537 3 #[] #[])
  fields := #[]
  methods := #[]
  instanceTypes := #[]
  staticTypes := #[]
  resolved := Array.replicate 11 none
  statics := none }

def pool3 : Array CpInfo := pool [(1, .class_ 2), (0, u "java/lang/Comparable"), (0, .class_ 4), (0, u "java/lang/Object")] 7

/-- java/lang/Comparable -/
def k3 : Class := { plain "java/lang/Comparable" (some 0) with
  accessFlags := 1537
  interfaces := #[]
  cf := some (fileOf pool3 1 #[] #[] 1537 3 #[] #[])
  fields := #[]
  methods := #[]
  instanceTypes := #[]
  staticTypes := #[]
  resolved := Array.replicate 12 none
  statics := none }

def pool4 : Array CpInfo := pool [(1, .class_ 2), (0, u "java/io/Serializable"), (0, .class_ 4), (0, u "java/lang/Object")] 2

/-- java/io/Serializable -/
def k4 : Class := { plain "java/io/Serializable" (some 0) with
  accessFlags := 1537
  interfaces := #[]
  cf := some (fileOf pool4 1 #[] #[] 1537 3 #[] #[])
  fields := #[]
  methods := #[]
  instanceTypes := #[]
  staticTypes := #[]
  resolved := Array.replicate 7 none
  statics := none }

def pool5 : Array CpInfo := pool [(2, .class_ 4), (1, u "java/lang/Enum"), (0, u "name"), (0, u "Ljava/lang/String;"), (2, u "ordinal"), (0, u "I"), (1, .class_ 14), (1, u "java/lang/Object"), (4, u "hash"), (86, .class_ 108), (1, u "java/lang/Enum$EnumDesc"), (2, .class_ 112), (0, u "java/lang/constant/Constable"), (0, .class_ 114), (0, u "java/lang/Comparable"), (0, .class_ 116), (0, u "java/io/Serializable")] 87

/-- java/lang/Enum -/
def k5 : Class := { plain "java/lang/Enum" (some 0) with
  accessFlags := 1057
  interfaces := #[2, 3, 4]
  cf := some (fileOf pool5 2 #[.nestMembers #[106]] #[] 1057 12 #[111, 113, 115] #[{ accessFlags := 18, nameIndex := 5, descriptorIndex := 6, attributes := #[] }, { accessFlags := 18, nameIndex := 9, descriptorIndex := 10, attributes := #[] }, { accessFlags := 2, nameIndex := 19, descriptorIndex := 10, attributes := #[] }])
  fields := #[{ name := "name", type := (.object "java/lang/String"), accessFlags := 18, slot := 0, constantValue := 0 }, { name := "ordinal", type := .int, accessFlags := 18, slot := 1, constantValue := 0 }, { name := "hash", type := .int, accessFlags := 2, slot := 2, constantValue := 0 }]
  methods := #[]
  instanceTypes := #[(.object "java/lang/String"), .int, .int]
  staticTypes := #[]
  resolved := Array.replicate 204 none
  statics := none }

def pool6 : Array CpInfo := pool [(1, .class_ 2), (0, u "com/example/covering/covering/model/Operation$Kind"), (2, u "INSERT"), (0, u "Lcom/example/covering/covering/model/Operation$Kind;"), (2, u "REPLACE"), (2, u "MERGE"), (2, u "DELETE"), (2, u "INSERT_OR_REPLACE"), (2, u "INSERT_OR_MERGE"), (2, u "$VALUES"), (0, u "[Lcom/example/covering/covering/model/Operation$Kind;"), (6, .class_ 34), (1, u "java/lang/Enum"), (8, u "text"), (0, u "Ljava/lang/String;"), (0, .fieldref 1 46), (0, .nameAndType 47 48), (0, u "insertsWhenAbsent"), (0, u "Z"), (2, u "whenPresent"), (0, u "Lcom/example/covering/covering/model/Operation$Change;"), (97, u "()Z"), (1, u "takesETag"), (6, .class_ 160), (0, u "com/example/covering/covering/model/Operation")] 31

def k6c0 : Code := { maxStack := 1, maxLocals := 1, code := prog_10_method_8_code, exceptionTable := #[], attributes := #[] }
def k6m0 : Method := { name := "takesETag", desc := "()Z", sig := { parameters := [], returnType := some .boolean }, accessFlags := 1, code := some k6c0 }
/-- com/example/covering/covering/model/Operation$Kind -/
def k6 : Class := { plain "com/example/covering/covering/model/Operation$Kind" (some 5) with
  accessFlags := 16433
  interfaces := #[]
  cf := some (fileOf pool6 1 #[.nestHost 159] #[{ accessFlags := 1, nameIndex := 152, descriptorIndex := 150, attributes := #[] }] 16433 32 #[] #[{ accessFlags := 16409, nameIndex := 5, descriptorIndex := 6, attributes := #[] }, { accessFlags := 16409, nameIndex := 9, descriptorIndex := 6, attributes := #[] }, { accessFlags := 16409, nameIndex := 12, descriptorIndex := 6, attributes := #[] }, { accessFlags := 16409, nameIndex := 15, descriptorIndex := 6, attributes := #[] }, { accessFlags := 16409, nameIndex := 18, descriptorIndex := 6, attributes := #[] }, { accessFlags := 16409, nameIndex := 21, descriptorIndex := 6, attributes := #[] }, { accessFlags := 18, nameIndex := 43, descriptorIndex := 44, attributes := #[] }, { accessFlags := 18, nameIndex := 47, descriptorIndex := 48, attributes := #[] }, { accessFlags := 18, nameIndex := 51, descriptorIndex := 52, attributes := #[] }, { accessFlags := 4122, nameIndex := 24, descriptorIndex := 25, attributes := #[] }])
  fields := #[{ name := "INSERT", type := (.object "com/example/covering/covering/model/Operation$Kind"), accessFlags := 16409, slot := 0, constantValue := 0 }, { name := "REPLACE", type := (.object "com/example/covering/covering/model/Operation$Kind"), accessFlags := 16409, slot := 1, constantValue := 0 }, { name := "MERGE", type := (.object "com/example/covering/covering/model/Operation$Kind"), accessFlags := 16409, slot := 2, constantValue := 0 }, { name := "DELETE", type := (.object "com/example/covering/covering/model/Operation$Kind"), accessFlags := 16409, slot := 3, constantValue := 0 }, { name := "INSERT_OR_REPLACE", type := (.object "com/example/covering/covering/model/Operation$Kind"), accessFlags := 16409, slot := 4, constantValue := 0 }, { name := "INSERT_OR_MERGE", type := (.object "com/example/covering/covering/model/Operation$Kind"), accessFlags := 16409, slot := 5, constantValue := 0 }, { name := "text", type := (.object "java/lang/String"), accessFlags := 18, slot := 3, constantValue := 0 }, { name := "insertsWhenAbsent", type := .boolean, accessFlags := 18, slot := 4, constantValue := 0 }, { name := "whenPresent", type := (.object "com/example/covering/covering/model/Operation$Change"), accessFlags := 18, slot := 5, constantValue := 0 }, { name := "$VALUES", type := (.array (.object "com/example/covering/covering/model/Operation$Kind")), accessFlags := 4122, slot := 6, constantValue := 0 }]
  methods := #[k6m0]
  instanceTypes := #[(.object "java/lang/String"), .int, .int, (.object "java/lang/String"), .boolean, (.object "com/example/covering/covering/model/Operation$Change")]
  staticTypes := #[(.object "com/example/covering/covering/model/Operation$Kind"), (.object "com/example/covering/covering/model/Operation$Kind"), (.object "com/example/covering/covering/model/Operation$Kind"), (.object "com/example/covering/covering/model/Operation$Kind"), (.object "com/example/covering/covering/model/Operation$Kind"), (.object "com/example/covering/covering/model/Operation$Kind"), (.array (.object "com/example/covering/covering/model/Operation$Kind"))]
  resolved := Array.replicate 192 none
  statics := some 0 }

def pool7 : Array CpInfo := pool [(1, u "java/lang/Cloneable"), (0, .class_ 1), (0, u "java/lang/Object"), (0, .class_ 3)] 3

/-- java/lang/Cloneable -/
def k7 : Class := { plain "java/lang/Cloneable" (some 0) with
  accessFlags := 1537
  interfaces := #[]
  cf := some (fileOf pool7 2 #[] #[] 1537 4 #[] #[])
  fields := #[]
  methods := #[]
  instanceTypes := #[]
  staticTypes := #[]
  resolved := Array.replicate 8 none
  statics := none }

/-- the primitive byte -/
def k8 : Class := { plain "byte" none with kind := .primitive 'B', accessFlags := 0x411 }
/-- [B -/
def k9 : Class := { plain "[B" (some 0) with kind := .array 8 .byte, interfaces := #[7, 4], accessFlags := 1041 }

/-- the primitive int -/
def k10 : Class := { plain "int" none with kind := .primitive 'I', accessFlags := 0x411 }
/-- [I -/
def k11 : Class := { plain "[I" (some 0) with kind := .array 10 .int, interfaces := #[7, 4], accessFlags := 1041 }

def heap : Heap := #[{ cls := 6, slots := #[.ref 1, .ref 2, .ref 3, .ref 4, .ref 5, .ref 6, .null], vm := .statics 6 },
  { cls := 6, slots := #[.null, .int 0, .int 0, .null, .int 1, .null], vm := .none },
  { cls := 6, slots := #[.null, .int 1, .int 0, .null, .int 0, .null], vm := .none },
  { cls := 6, slots := #[.null, .int 2, .int 0, .null, .int 0, .null], vm := .none },
  { cls := 6, slots := #[.null, .int 3, .int 0, .null, .int 0, .null], vm := .none },
  { cls := 6, slots := #[.null, .int 4, .int 0, .null, .int 1, .null], vm := .none },
  { cls := 6, slots := #[.null, .int 5, .int 0, .null, .int 1, .null], vm := .none }]
def classes : Array Class := #[k0, k1, k2, k3, k4, k5, k6, k7, k8, k9, k10, k11]
def interned : List (Array UInt16 × Addr) := []
def slotsUsed : Nat := 43
def theMethod : MethodId := ⟨1, 1⟩
def args0 : Array Value := #[.int 5]
def aboutOver (below : List Frame) : State where
  vm := { classes := classes, interned := interned.toArray }
  heap := heap
  slotsUsed := slotsUsed
  threads := #[{ frames := .invoking theMethod args0 :: below }]
def below0 : List Frame := [.native { method := ⟨0, 0⟩, args := #[] }]
def about1 : State := aboutOver below0
def p0 : Program := .bare "" "" ""
def e0 : Env := launch0.env 0 0 0
theorem w_frames : about1.frames = Frame.invoking theMethod args0 :: below0 := rfl
set_option maxRecDepth 65536 in
theorem w_args : argsFit about1.vm theMethod args0 = true := by decide +kernel
set_option maxRecDepth 65536 in
theorem w_heap : heapFits about1 = true := by decide +kernel
set_option maxRecDepth 65536 in
theorem w_runnable : about1.curStatus? = some .runnable := by decide +kernel
set_option maxRecDepth 65536 in
theorem w_alone : about1.alone = true := by decide +kernel
set_option maxRecDepth 65536 in
theorem w_named : about1.methodNamed? x = some theMethod := by decide +kernel
set_option maxRecDepth 65536 in
theorem w_hears : about1.hears theMethod below0 = true := by decide +kernel
set_option maxRecDepth 65536 in
theorem w_ripe : about1.ripe theMethod args0 below0 = true := by decide +kernel
theorem w_running : about1.status = .running := rfl
set_option maxRecDepth 65536 in
theorem w_room : about1.hasRoom e0.platform room_1 = true :=
  launch0.hasRoom_least _ room_1 (by decide +kernel) (by decide +kernel) (by decide +kernel) (by decide +kernel) (by decide +kernel) (by decide +kernel)
theorem allAtoms_all (ts : List Jvm.Cond) (a : Array Jvm.Value) (st : Jvm.State) : (allAtoms ts).before a st = ts.all (fun c => c.before a st) := by
  induction ts with
  | nil => rfl
  | cons c t ih =>
    show (Jvm.Cond.and c (allAtoms t)).before a st = _
    rw [Jvm.Cond.before_and, ih, List.all_cons]
def words1 : List Jvm.Cond := Jvm.Cond.code x code maxLocals ret :: tables_1
/-- a 'code' word, met by the world's own term for the bytes: nothing is compared byte by byte -/
theorem code_word {y : MethodName} {bytes : ByteArray} {mx : Nat} {rt : Option FieldType} {a : Array Value} {s : State} {m : MethodId} {meth : Method} {c : Code} (h1 : s.methodNamed? y = some m) (h2 : s.vm.method? m = some meth) (h3 : meth.code = some c) (h4 : c.code = bytes)
    (h5 : (c.maxLocals == mx && c.exceptionTable.isEmpty && decide (c.maxStack ≤ mostOperands) && decide (meth.sig.returnType = rt) && !meth.locks && decide (parseMethodDescriptor y.desc = some meth.sig)) = true) : (Jvm.Cond.code y bytes mx rt).before a s = true := by
  simp only [Bool.and_eq_true, beq_iff_eq, Bool.not_eq_true', decide_eq_true_eq] at h5
  obtain ⟨⟨⟨⟨⟨g1, g2⟩, g3⟩, g4⟩, g5⟩, g6⟩ := h5
  simp [Cond.before, Cond.holds, Cond.value, h1, h2, h3, h4, g1, g2, g3, g4, g5, g6]
def isCode : Jvm.Cond → Bool
  | .code _ _ _ _ => true
  | _ => false
theorem all_split {L : List Jvm.Cond} {P : Jvm.Cond → Bool} (h1 : L.all (fun c => isCode c || P c) = true) (h2 : ∀ c ∈ L.filter isCode, P c = true) : L.all P = true := by
  refine List.all_eq_true.mpr fun c hc => ?_
  have h := List.all_eq_true.mp h1 c hc
  rcases Bool.eq_false_or_eq_true (isCode c) with hi | hi
  · exact h2 c (List.mem_filter.mpr ⟨hc, hi⟩)
  · simpa [hi] using h
set_option maxRecDepth 65536 in
theorem w_c0 : (Jvm.Cond.code x code maxLocals ret).before args0 about1 = true := code_word (m := ⟨1, 1⟩) (meth := k1m1) (c := k1c1) (by decide +kernel) rfl rfl rfl (by decide +kernel)
set_option maxRecDepth 65536 in
theorem w_c1 : (Jvm.Cond.code ({ cls := "com/example/covering/covering/model/Operation$Kind", name := "takesETag", desc := "()Z" } : Jvm.MethodName) prog_10_method_8_code (1 : Nat) (Option.some Jvm.ClassFile.FieldType.boolean)).before args0 about1 = true := code_word (m := ⟨6, 0⟩) (meth := k6m0) (c := k6c0) (by decide +kernel) rfl rfl rfl (by decide +kernel)
def codes1 : List Jvm.Cond := [Jvm.Cond.code x code maxLocals ret, Jvm.Cond.code ({ cls := "com/example/covering/covering/model/Operation$Kind", name := "takesETag", desc := "()Z" } : Jvm.MethodName) prog_10_method_8_code (1 : Nat) (Option.some Jvm.ClassFile.FieldType.boolean)]
set_option maxRecDepth 65536 in
theorem codes_eq : words1.filter isCode = codes1 := rfl
theorem w_codes : ∀ c ∈ words1.filter isCode, c.before args0 about1 = true := by
  rw [codes_eq]
  intro c hc
  simp only [codes1, List.mem_cons, List.not_mem_nil, or_false] at hc
  rcases hc with rfl | rfl
  · exact w_c0
  · exact w_c1
set_option maxRecDepth 65536 in
theorem w_t1 : words1.all (fun c => isCode c || c.before args0 about1) = true := by decide +kernel
theorem w_tables : (allAtoms (Jvm.Cond.code x code maxLocals ret :: tables_1)).before args0 about1 = true := by
  rw [allAtoms_all]
  show words1.all (fun c => c.before args0 about1) = true
  refine all_split ?_ w_codes
  rw [w_t1]
set_option maxRecDepth 65536 in
theorem w_case : (Jvm.Cond.and given_1 narrow_1).before args0 about1 = true := by decide +kernel
theorem w_applies : (headSpec (Jvm.Cond.code x code maxLocals ret :: tables_1) room_1).applies x e0.platform about1 = true :=
  (Spec.applies_iff w_frames).mpr ⟨w_running, w_runnable, w_alone, w_named, w_hears, w_ripe, w_room, w_tables⟩
theorem atStart : AtStart classFile x code maxLocals ret World_1 tables_1 room_1 Calls_1 rest_1 Pre_1 launch0 p0 e0 about1 theMethod args0 below0 :=
  ⟨lists_1, trivial, launch0.admits_env _ _ _, launch0.least_env, fairChoices_fair.cas, fairChoices_fair.clock, w_frames, w_args, w_heap, w_applies, trivial, trivial, w_case⟩
end start1
theorem witness_1 : WitnessClaimed_1 := ⟨start1.p0, start1.e0, start1.about1, start1.theMethod, start1.args0, start1.below0, start1.atStart⟩
end Jvm.Pilot.@@N@@
