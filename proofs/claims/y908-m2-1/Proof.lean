import JvmDerived
import JvmDerived.Pilot.@@N@@Statement
import JvmDerived.Pilot.@@N@@Code
set_option linter.unusedVariables false
set_option linter.unusedSimpArgs false
namespace Jvm.RoadKit
open Sem ClassFile Op Lib Jvm.Stand Jvm.Free Jvm.LawKit
section New
variable {p : Program} {l : Launch} {e : Env} {R : Room} {s : State} {m : MethodId} {args : Array Value} {below : List Frame} {meth : Method} {c : Code} {T : State} {locs : List Loc} {cells slots : Nat}
theorem retI (X : Stand p l e R s m args below meth c T locs cells slots) (hx : p.tables.exec = Jvm.exec) {pc : Nat} {Ls : Array Slot} {z : Int32} {rest : List Value} (hret : meth.sig.returnType = some .int) (hd : decode c.code pc = .ok (.ireturn, 1)) {fs : List Frame}
    (hl : ∀ (f : JFrame) (acts : List Action), f.method = m → f.locked = none → f.entered = [] → (doReturn e (T.setTop f) acts (some (.int z))).1 = T.setFrames fs) : Steps p.tables e below (T.setTop (mkF m pc Ls (.int z :: rest))) (T.setFrames fs) := by
  have hm' : T.vm.method? m = some meth := X.method'
  have hn : narrow .int (.int z) = .int z := rfl
  show Steps p.tables e below (T.setTop { method := m, pc := pc, locals := Ls, stack := _ :: rest, locked := none }) _
  jvm_step X.here [X.here.top, hx, hd, hm', hret, hn]
  first | (intro acts; rw [hl _ acts rfl rfl rfl]) | rw [hl _ _ rfl rfl rfl]
  exact Steps.refl _
theorem own_lrem {g : JFrame} {target : State} (X : Stand p l e R s m args below meth c T locs cells slots) (hx : p.tables.exec = Jvm.exec) (hg : g.method = m) {x y : Int64} {rest : List Value} (hd : decode c.code g.pc = .ok (.lrem, 1)) (hs : g.stack = .long y :: .long x :: rest) (hy : y ≠ 0)
    (hr : Steps p.tables e below (T.setTop { g with pc := g.pc + 1, stack := .long (x % y) :: rest }) target) : Steps p.tables e below (T.setTop g) target := by
  have q : x - (x / y) * y = x % y := lrem_mod x y
  exact XS.lrem X.here hx hg hd hs hy (by rw [q]; exact hr)
theorem own_b1 {P : Prop} [Decidable P] (h : P) : ¬ ((if P then (1 : Int32) else 0) = 0) := by rw [if_pos h]; decide
theorem own_b0 {P : Prop} [Decidable P] (h : ¬ P) : (if P then (1 : Int32) else 0) = 0 := if_neg h
theorem own_c1 {P : Prop} [Decidable P] (h : P) : (if P then (1 : Int32) else 0) = 1 := if_pos h
theorem own_c0 {P : Prop} [Decidable P] (h : ¬ P) : ¬ ((if P then (1 : Int32) else 0) = 1) := by rw [if_neg h]; decide
theorem own_bb {P Q : Prop} [Decidable P] [Decidable Q] (h : P ↔ Q) : (if P then (1 : Int32) else 0) = (if Q then (1 : Int32) else 0) := by
  by_cases p : P
  · rw [if_pos p, if_pos (h.mp p)]
  · rw [if_neg p, if_neg (fun q => p (h.mpr q))]
theorem own_bn {P Q : Prop} [Decidable P] [Decidable Q] (h : ¬ (P ↔ Q)) : ¬ ((if P then (1 : Int32) else 0) = (if Q then (1 : Int32) else 0)) := fun e => h (by
  by_cases p : P <;> by_cases q : Q
  · exact ⟨fun _ => q, fun _ => p⟩
  · rw [if_pos p, if_neg q] at e; exact absurd e (by decide)
  · rw [if_neg p, if_pos q] at e; exact absurd e (by decide)
  · exact ⟨fun a => absurd a p, fun a => absurd a q⟩)
theorem own_t {P : Prop} [Decidable P] (h : P) : some (Value.int 1) = some (Value.int (if P then (1 : Int32) else 0)) := by rw [if_pos h]
theorem own_f {P : Prop} [Decidable P] (h : ¬ P) : some (Value.int 0) = some (Value.int (if P then (1 : Int32) else 0)) := by rw [if_neg h]
end New
end Jvm.RoadKit
namespace Jvm.Pilot.@@N@@
open Jvm Jvm.ClassFile Sem Op Lib Jvm.Free Jvm.Stand Jvm.LawKit Jvm.RoadKit Bundle Jvm.Pilot.@@N@@.Jvm.D
def own_xs (x : Int64) : Int64 := x ^^^ ((x.toUInt64 >>> ((33 : Int32) &&& 0x3f).toInt64.toUInt64).toInt64)
def own_mix (k : Int64) : Int64 := own_xs (own_xs (own_xs k * (-49064778989728563 : Int64)) * (-4265267296055464877 : Int64))
def own_unmix (k : Int64) : Int64 := own_xs (own_xs (own_xs k * (-7154897129451604005 : Int64)) * (5725274745694666757 : Int64))
theorem own_xs_bv (x : Int64) : (own_xs x).toBitVec = x.toBitVec ^^^ (x.toBitVec >>> 33) := rfl
theorem own_xs_xs (x : Int64) : own_xs (own_xs x) = x := by
  apply Int64.toBitVec_inj.mp
  rw [own_xs_bv, own_xs_bv]
  generalize x.toBitVec = b
  apply BitVec.eq_of_getLsbD_eq
  intro i hi
  simp only [BitVec.getLsbD_xor, BitVec.getLsbD_ushiftRight]
  have h : b.getLsbD (33 + (33 + i)) = false := BitVec.getLsbD_of_ge _ _ (by omega)
  rw [h]
  cases b.getLsbD i <;> cases b.getLsbD (33 + i) <;> rfl
theorem own_mul1 (x : Int64) : x * (-4265267296055464877 : Int64) * (-7154897129451604005 : Int64) = x := by
  rw [Int64.mul_assoc]
  have : ((-4265267296055464877 : Int64) * (-7154897129451604005 : Int64) : Int64) = 1 := by decide
  rw [this, Int64.mul_one]
theorem own_mul2 (x : Int64) : x * (-49064778989728563 : Int64) * (5725274745694666757 : Int64) = x := by
  rw [Int64.mul_assoc]
  have : ((-49064778989728563 : Int64) * (5725274745694666757 : Int64) : Int64) = 1 := by decide
  rw [this, Int64.mul_one]
theorem own_inv (k : Int64) : own_unmix (own_mix k) = k := by
  unfold own_unmix own_mix
  rw [own_xs_xs, own_mul1, own_xs_xs, own_mul2, own_xs_xs]
theorem pn_0 : plainName "com/example/eager_sieve/eagersieve/MurmurHash3" = true := by first | (simp [plainName, overriddenIn]; done) | decide +kernel
theorem d1_0 : decode prog_18_method_10_code 0 = .ok (.lload_n 0, 1) := by decide +kernel
theorem d1_1 : decode prog_18_method_10_code 1 = .ok (.lstore_n 2, 1) := by decide +kernel
theorem d1_2 : decode prog_18_method_10_code 2 = .ok (.lload_n 2, 1) := by decide +kernel
theorem d1_3 : decode prog_18_method_10_code 3 = .ok (.lload_n 2, 1) := by decide +kernel
theorem d1_4 : decode prog_18_method_10_code 4 = .ok (.bipush 33, 2) := by decide +kernel
theorem d1_6 : decode prog_18_method_10_code 6 = .ok (.lushr, 1) := by decide +kernel
theorem d1_7 : decode prog_18_method_10_code 7 = .ok (.lxor, 1) := by decide +kernel
theorem d1_8 : decode prog_18_method_10_code 8 = .ok (.lstore_n 2, 1) := by decide +kernel
theorem d1_9 : decode prog_18_method_10_code 9 = .ok (.lload_n 2, 1) := by decide +kernel
theorem d1_10 : decode prog_18_method_10_code 10 = .ok (.ldc2_w 82, 3) := by decide +kernel
theorem d1_13 : decode prog_18_method_10_code 13 = .ok (.lmul, 1) := by decide +kernel
theorem d1_14 : decode prog_18_method_10_code 14 = .ok (.lstore_n 2, 1) := by decide +kernel
theorem d1_15 : decode prog_18_method_10_code 15 = .ok (.lload_n 2, 1) := by decide +kernel
theorem d1_16 : decode prog_18_method_10_code 16 = .ok (.lload_n 2, 1) := by decide +kernel
theorem d1_17 : decode prog_18_method_10_code 17 = .ok (.bipush 33, 2) := by decide +kernel
theorem d1_19 : decode prog_18_method_10_code 19 = .ok (.lushr, 1) := by decide +kernel
theorem d1_20 : decode prog_18_method_10_code 20 = .ok (.lxor, 1) := by decide +kernel
theorem d1_21 : decode prog_18_method_10_code 21 = .ok (.lstore_n 2, 1) := by decide +kernel
theorem d1_22 : decode prog_18_method_10_code 22 = .ok (.lload_n 2, 1) := by decide +kernel
theorem d1_23 : decode prog_18_method_10_code 23 = .ok (.ldc2_w 84, 3) := by decide +kernel
theorem d1_26 : decode prog_18_method_10_code 26 = .ok (.lmul, 1) := by decide +kernel
theorem d1_27 : decode prog_18_method_10_code 27 = .ok (.lstore_n 2, 1) := by decide +kernel
theorem d1_28 : decode prog_18_method_10_code 28 = .ok (.lload_n 2, 1) := by decide +kernel
theorem d1_29 : decode prog_18_method_10_code 29 = .ok (.lload_n 2, 1) := by decide +kernel
theorem d1_30 : decode prog_18_method_10_code 30 = .ok (.bipush 33, 2) := by decide +kernel
theorem d1_32 : decode prog_18_method_10_code 32 = .ok (.lushr, 1) := by decide +kernel
theorem d1_33 : decode prog_18_method_10_code 33 = .ok (.lxor, 1) := by decide +kernel
theorem d1_34 : decode prog_18_method_10_code 34 = .ok (.lstore_n 2, 1) := by decide +kernel
theorem d1_35 : decode prog_18_method_10_code 35 = .ok (.lload_n 2, 1) := by decide +kernel
theorem d1_36 : decode prog_18_method_10_code 36 = .ok (.lreturn, 1) := by decide +kernel
theorem ef_1 (m : MethodId) (x0 : Int64) : entryFrame m #[(.long x0)] 4 = mkF m 0 #[.val (.long x0), .second, .unset, .unset] [] := by first | (simp [entryFrame, mkF, argsToLocals, Value.category]; done) | rfl
def Q1 (Z : State) (q0 : Int64) (h0 : Heap) (n0 : Nat) (v : Option Value) (h : Heap) (L : List Loc) : Prop := v = some (.long (own_mix q0)) ∧ Fr n0 L ∧ h = h0
set_option maxRecDepth 65536 in
set_option maxHeartbeats 40000000 in
theorem rm1 (l : Launch) (Z : State) (a0 : Array Value) (hw : ∀ d ∈ tables_1, d.before a0 Z = true) (ws : List Jvm.Cond) (q0 : Int64) (h0 : Heap) (n0 : Nat) (Z0 : n0 ≤ h0.size) :
    MetFree l (⟨"com/example/eager_sieve/eagersieve/MurmurHash3", "fmix64", "(J)J"⟩ : MethodName) (head1 (Jvm.Cond.code (⟨"com/example/eager_sieve/eagersieve/MurmurHash3", "fmix64", "(J)J"⟩ : MethodName) prog_18_method_10_code 4 (some .long) :: ws) ({ frames := 0, cells := 0, slots := 0, locals := 0 } : Room)) (fun a U => a = #[(.long q0)] ∧ Z.Warmed39 U.vm ∧ U.heap = h0) (fun _ _ _ _ _ => True) (fun _ U o U' => ∃ v L, o = .returned v ∧ Q1 Z q0 h0 n0 v U'.heap L ∧ FrameEnd U o U' L ({ frames := 0, cells := 0, slots := 0, locals := 0 } : Room).cells ({ frames := 0, cells := 0, slots := 0, locals := 0 } : Room).slots) := by
  refine MetFree.of_bodySF (plainFor_of_name pn_0) hisR ?_
  intro p e s m args below meth c s₁ Bd hml0 hP hK
  obtain ⟨rfl, hZ, hh⟩ := hP
  have hx := Bd.exec
  have hby := Bd.bytes
  have hml : c.maxLocals = 4 := hml0
  have hown : s.vm.findClass "com/example/eager_sieve/eagersieve/MurmurHash3" = some m.cls := findClass_of_methodNamed Bd.named
  have hnm := (name_of_methodNamed Bd.named Bd.method).1
  have X0 : Stand p l e ({ frames := 0, cells := 0, slots := 0, locals := 0 } : Room) s m #[(.long q0)] below meth c s₁ [] 0 0 := Stand.of_body Bd
  have e0 : s₁.heap = h0 := by rw [← hh, Bd.state]; rfl
  have N0 := Fr.nil n0
  have pre0 : ∀ t, Steps p.tables e below (s₁.setTop (mkF m 0 #[.val (.long q0), .second, .unset, .unset] [])) t → Steps p.tables e below (s₁.setTop (entryFrame m #[(.long q0)] 4)) t := fun t k => castTop (ef_1 m q0) k
  have pre1 : ∀ t, Steps p.tables e below (s₁.setTop (mkF m 36 #[.val (.long q0), .second, .val (.long (own_xs ((own_xs ((own_xs q0) * (-49064778989728563 : Int64))) * (-4265267296055464877 : Int64)))), .second] [(.long (own_xs ((own_xs ((own_xs q0) * (-49064778989728563 : Int64))) * (-4265267296055464877 : Int64))))])) t → Steps p.tables e below (s₁.setTop (entryFrame m #[(.long q0)] 4)) t := fun t k => pre0 t (by
    show Steps p.tables e below (s₁.setTop (mkF m 0 #[.val (.long q0), .second, .unset, .unset] [])) _
    refine XS.lloadN X0.here hx rfl (hb hby d1_0) rfl ?_
    show Steps p.tables e below (s₁.setTop (mkF m 1 #[.val (.long q0), .second, .unset, .unset] [(.long q0)])) _
    refine XS.lstoreN X0.here hx rfl (hb hby d1_1) rfl (l' := #[.val (.long q0), .second, .val (.long q0), .second]) rfl ?_
    show Steps p.tables e below (s₁.setTop (mkF m 2 #[.val (.long q0), .second, .val (.long q0), .second] [])) _
    refine XS.lloadN X0.here hx rfl (hb hby d1_2) rfl ?_
    show Steps p.tables e below (s₁.setTop (mkF m 3 #[.val (.long q0), .second, .val (.long q0), .second] [(.long q0)])) _
    refine XS.lloadN X0.here hx rfl (hb hby d1_3) rfl ?_
    show Steps p.tables e below (s₁.setTop (mkF m 4 #[.val (.long q0), .second, .val (.long q0), .second] [(.long q0), (.long q0)])) _
    refine XS.bipush X0.here hx rfl (hb hby d1_4) ?_
    show Steps p.tables e below (s₁.setTop (mkF m 6 #[.val (.long q0), .second, .val (.long q0), .second] [(.int (33 : Int32)), (.long q0), (.long q0)])) _
    refine XS.lushr X0.here hx rfl (hb hby d1_6) rfl ?_
    show Steps p.tables e below (s₁.setTop (mkF m 7 #[.val (.long q0), .second, .val (.long q0), .second] [(.long ((q0.toUInt64 >>> ((33 : Int32) &&& 0x3f).toInt64.toUInt64).toInt64)), (.long q0)])) _
    refine XS.lxor X0.here hx rfl (hb hby d1_7) rfl ?_
    show Steps p.tables e below (s₁.setTop (mkF m 8 #[.val (.long q0), .second, .val (.long q0), .second] [(.long (q0 ^^^ ((q0.toUInt64 >>> ((33 : Int32) &&& 0x3f).toInt64.toUInt64).toInt64)))])) _
    refine XS.lstoreN X0.here hx rfl (hb hby d1_8) rfl (l' := #[.val (.long q0), .second, .val (.long (q0 ^^^ ((q0.toUInt64 >>> ((33 : Int32) &&& 0x3f).toInt64.toUInt64).toInt64))), .second]) rfl ?_
    show Steps p.tables e below (s₁.setTop (mkF m 9 #[.val (.long q0), .second, .val (.long (own_xs q0)), .second] [])) _
    refine XS.lloadN X0.here hx rfl (hb hby d1_9) rfl ?_
    show Steps p.tables e below (s₁.setTop (mkF m 10 #[.val (.long q0), .second, .val (.long (own_xs q0)), .second] [(.long (own_xs q0))])) _
    refine X0.ldc2Long hx hown (mvT hZ (hw _ (List.mem_of_getElem? (i := 4) rfl))) (g := (mkF m 10 #[.val (.long q0), .second, .val (.long (own_xs q0)), .second] [(.long (own_xs q0))])) rfl (hb hby d1_10) _ ?_
    show Steps p.tables e below (s₁.setTop (mkF m 13 #[.val (.long q0), .second, .val (.long (own_xs q0)), .second] [(.long (-49064778989728563 : Int64)), (.long (own_xs q0))])) _
    refine XS.lmul X0.here hx rfl (hb hby d1_13) rfl ?_
    show Steps p.tables e below (s₁.setTop (mkF m 14 #[.val (.long q0), .second, .val (.long (own_xs q0)), .second] [(.long ((own_xs q0) * (-49064778989728563 : Int64)))])) _
    refine XS.lstoreN X0.here hx rfl (hb hby d1_14) rfl (l' := #[.val (.long q0), .second, .val (.long ((own_xs q0) * (-49064778989728563 : Int64))), .second]) rfl ?_
    show Steps p.tables e below (s₁.setTop (mkF m 15 #[.val (.long q0), .second, .val (.long ((own_xs q0) * (-49064778989728563 : Int64))), .second] [])) _
    refine XS.lloadN X0.here hx rfl (hb hby d1_15) rfl ?_
    show Steps p.tables e below (s₁.setTop (mkF m 16 #[.val (.long q0), .second, .val (.long ((own_xs q0) * (-49064778989728563 : Int64))), .second] [(.long ((own_xs q0) * (-49064778989728563 : Int64)))])) _
    refine XS.lloadN X0.here hx rfl (hb hby d1_16) rfl ?_
    show Steps p.tables e below (s₁.setTop (mkF m 17 #[.val (.long q0), .second, .val (.long ((own_xs q0) * (-49064778989728563 : Int64))), .second] [(.long ((own_xs q0) * (-49064778989728563 : Int64))), (.long ((own_xs q0) * (-49064778989728563 : Int64)))])) _
    refine XS.bipush X0.here hx rfl (hb hby d1_17) ?_
    show Steps p.tables e below (s₁.setTop (mkF m 19 #[.val (.long q0), .second, .val (.long ((own_xs q0) * (-49064778989728563 : Int64))), .second] [(.int (33 : Int32)), (.long ((own_xs q0) * (-49064778989728563 : Int64))), (.long ((own_xs q0) * (-49064778989728563 : Int64)))])) _
    refine XS.lushr X0.here hx rfl (hb hby d1_19) rfl ?_
    show Steps p.tables e below (s₁.setTop (mkF m 20 #[.val (.long q0), .second, .val (.long ((own_xs q0) * (-49064778989728563 : Int64))), .second] [(.long ((((own_xs q0) * (-49064778989728563 : Int64)).toUInt64 >>> ((33 : Int32) &&& 0x3f).toInt64.toUInt64).toInt64)), (.long ((own_xs q0) * (-49064778989728563 : Int64)))])) _
    refine XS.lxor X0.here hx rfl (hb hby d1_20) rfl ?_
    show Steps p.tables e below (s₁.setTop (mkF m 21 #[.val (.long q0), .second, .val (.long ((own_xs q0) * (-49064778989728563 : Int64))), .second] [(.long (((own_xs q0) * (-49064778989728563 : Int64)) ^^^ ((((own_xs q0) * (-49064778989728563 : Int64)).toUInt64 >>> ((33 : Int32) &&& 0x3f).toInt64.toUInt64).toInt64)))])) _
    refine XS.lstoreN X0.here hx rfl (hb hby d1_21) rfl (l' := #[.val (.long q0), .second, .val (.long (((own_xs q0) * (-49064778989728563 : Int64)) ^^^ ((((own_xs q0) * (-49064778989728563 : Int64)).toUInt64 >>> ((33 : Int32) &&& 0x3f).toInt64.toUInt64).toInt64))), .second]) rfl ?_
    show Steps p.tables e below (s₁.setTop (mkF m 22 #[.val (.long q0), .second, .val (.long (own_xs ((own_xs q0) * (-49064778989728563 : Int64)))), .second] [])) _
    refine XS.lloadN X0.here hx rfl (hb hby d1_22) rfl ?_
    show Steps p.tables e below (s₁.setTop (mkF m 23 #[.val (.long q0), .second, .val (.long (own_xs ((own_xs q0) * (-49064778989728563 : Int64)))), .second] [(.long (own_xs ((own_xs q0) * (-49064778989728563 : Int64))))])) _
    refine X0.ldc2Long hx hown (mvT hZ (hw _ (List.mem_of_getElem? (i := 5) rfl))) (g := (mkF m 23 #[.val (.long q0), .second, .val (.long (own_xs ((own_xs q0) * (-49064778989728563 : Int64)))), .second] [(.long (own_xs ((own_xs q0) * (-49064778989728563 : Int64))))])) rfl (hb hby d1_23) _ ?_
    show Steps p.tables e below (s₁.setTop (mkF m 26 #[.val (.long q0), .second, .val (.long (own_xs ((own_xs q0) * (-49064778989728563 : Int64)))), .second] [(.long (-4265267296055464877 : Int64)), (.long (own_xs ((own_xs q0) * (-49064778989728563 : Int64))))])) _
    refine XS.lmul X0.here hx rfl (hb hby d1_26) rfl ?_
    show Steps p.tables e below (s₁.setTop (mkF m 27 #[.val (.long q0), .second, .val (.long (own_xs ((own_xs q0) * (-49064778989728563 : Int64)))), .second] [(.long ((own_xs ((own_xs q0) * (-49064778989728563 : Int64))) * (-4265267296055464877 : Int64)))])) _
    refine XS.lstoreN X0.here hx rfl (hb hby d1_27) rfl (l' := #[.val (.long q0), .second, .val (.long ((own_xs ((own_xs q0) * (-49064778989728563 : Int64))) * (-4265267296055464877 : Int64))), .second]) rfl ?_
    show Steps p.tables e below (s₁.setTop (mkF m 28 #[.val (.long q0), .second, .val (.long ((own_xs ((own_xs q0) * (-49064778989728563 : Int64))) * (-4265267296055464877 : Int64))), .second] [])) _
    refine XS.lloadN X0.here hx rfl (hb hby d1_28) rfl ?_
    show Steps p.tables e below (s₁.setTop (mkF m 29 #[.val (.long q0), .second, .val (.long ((own_xs ((own_xs q0) * (-49064778989728563 : Int64))) * (-4265267296055464877 : Int64))), .second] [(.long ((own_xs ((own_xs q0) * (-49064778989728563 : Int64))) * (-4265267296055464877 : Int64)))])) _
    refine XS.lloadN X0.here hx rfl (hb hby d1_29) rfl ?_
    show Steps p.tables e below (s₁.setTop (mkF m 30 #[.val (.long q0), .second, .val (.long ((own_xs ((own_xs q0) * (-49064778989728563 : Int64))) * (-4265267296055464877 : Int64))), .second] [(.long ((own_xs ((own_xs q0) * (-49064778989728563 : Int64))) * (-4265267296055464877 : Int64))), (.long ((own_xs ((own_xs q0) * (-49064778989728563 : Int64))) * (-4265267296055464877 : Int64)))])) _
    refine XS.bipush X0.here hx rfl (hb hby d1_30) ?_
    show Steps p.tables e below (s₁.setTop (mkF m 32 #[.val (.long q0), .second, .val (.long ((own_xs ((own_xs q0) * (-49064778989728563 : Int64))) * (-4265267296055464877 : Int64))), .second] [(.int (33 : Int32)), (.long ((own_xs ((own_xs q0) * (-49064778989728563 : Int64))) * (-4265267296055464877 : Int64))), (.long ((own_xs ((own_xs q0) * (-49064778989728563 : Int64))) * (-4265267296055464877 : Int64)))])) _
    refine XS.lushr X0.here hx rfl (hb hby d1_32) rfl ?_
    show Steps p.tables e below (s₁.setTop (mkF m 33 #[.val (.long q0), .second, .val (.long ((own_xs ((own_xs q0) * (-49064778989728563 : Int64))) * (-4265267296055464877 : Int64))), .second] [(.long ((((own_xs ((own_xs q0) * (-49064778989728563 : Int64))) * (-4265267296055464877 : Int64)).toUInt64 >>> ((33 : Int32) &&& 0x3f).toInt64.toUInt64).toInt64)), (.long ((own_xs ((own_xs q0) * (-49064778989728563 : Int64))) * (-4265267296055464877 : Int64)))])) _
    refine XS.lxor X0.here hx rfl (hb hby d1_33) rfl ?_
    show Steps p.tables e below (s₁.setTop (mkF m 34 #[.val (.long q0), .second, .val (.long ((own_xs ((own_xs q0) * (-49064778989728563 : Int64))) * (-4265267296055464877 : Int64))), .second] [(.long (((own_xs ((own_xs q0) * (-49064778989728563 : Int64))) * (-4265267296055464877 : Int64)) ^^^ ((((own_xs ((own_xs q0) * (-49064778989728563 : Int64))) * (-4265267296055464877 : Int64)).toUInt64 >>> ((33 : Int32) &&& 0x3f).toInt64.toUInt64).toInt64)))])) _
    refine XS.lstoreN X0.here hx rfl (hb hby d1_34) rfl (l' := #[.val (.long q0), .second, .val (.long (((own_xs ((own_xs q0) * (-49064778989728563 : Int64))) * (-4265267296055464877 : Int64)) ^^^ ((((own_xs ((own_xs q0) * (-49064778989728563 : Int64))) * (-4265267296055464877 : Int64)).toUInt64 >>> ((33 : Int32) &&& 0x3f).toInt64.toUInt64).toInt64))), .second]) rfl ?_
    show Steps p.tables e below (s₁.setTop (mkF m 35 #[.val (.long q0), .second, .val (.long (own_xs ((own_xs ((own_xs q0) * (-49064778989728563 : Int64))) * (-4265267296055464877 : Int64)))), .second] [])) _
    refine XS.lloadN X0.here hx rfl (hb hby d1_35) rfl ?_
    exact k)
  obtain ⟨fs, hr, hrun, hended, hW, hsame⟩ := X0.leave (v := some (.long (own_xs ((own_xs ((own_xs q0) * (-49064778989728563 : Int64))) * (-4265267296055464877 : Int64))))) (fun h => by rw [Bd.returns] at h; cases h)
  refine ⟨_, _, pre1 _ ?_, hrun, hended, _, _, rfl, ?_, ⟨_, rfl⟩, hW, hsame.mono (by decide) (by decide)⟩
  · show Steps p.tables e below (s₁.setTop (mkF m 36 #[.val (.long q0), .second, .val (.long (own_xs ((own_xs ((own_xs q0) * (-49064778989728563 : Int64))) * (-4265267296055464877 : Int64)))), .second] [(.long (own_xs ((own_xs ((own_xs q0) * (-49064778989728563 : Int64))) * (-4265267296055464877 : Int64))))])) _
    jvm_step X0.here [X0.here.top, hx, (hb hby d1_36), X0.method', Bd.returns, narrow]
    first | (intro acts; rw [hr _ acts rfl rfl rfl]) | rw [hr _ _ rfl rfl rfl]
    exact Steps.refl _
  · show Q1 Z q0 h0 n0 _ s₁.heap _
    rw [e0]
    exact ⟨rfl, N0, rfl⟩
theorem pn_1 : plainName "com/example/eager_sieve/eagersieve/MurmurHash3Fmix64PinLaw" = true := by first | (simp [plainName, overriddenIn]; done) | decide +kernel
theorem d2_0 : decode method_2_code 0 = .ok (.lload_n 0, 1) := by decide +kernel
theorem d2_1 : decode method_2_code 1 = .ok (.lstore_n 2, 1) := by decide +kernel
theorem d2_2 : decode method_2_code 2 = .ok (.lload_n 2, 1) := by decide +kernel
theorem d2_3 : decode method_2_code 3 = .ok (.lload_n 2, 1) := by decide +kernel
theorem d2_4 : decode method_2_code 4 = .ok (.bipush 33, 2) := by decide +kernel
theorem d2_6 : decode method_2_code 6 = .ok (.lushr, 1) := by decide +kernel
theorem d2_7 : decode method_2_code 7 = .ok (.lxor, 1) := by decide +kernel
theorem d2_8 : decode method_2_code 8 = .ok (.lstore_n 2, 1) := by decide +kernel
theorem d2_9 : decode method_2_code 9 = .ok (.lload_n 2, 1) := by decide +kernel
theorem d2_10 : decode method_2_code 10 = .ok (.ldc2_w 7, 3) := by decide +kernel
theorem d2_13 : decode method_2_code 13 = .ok (.lmul, 1) := by decide +kernel
theorem d2_14 : decode method_2_code 14 = .ok (.lstore_n 2, 1) := by decide +kernel
theorem d2_15 : decode method_2_code 15 = .ok (.lload_n 2, 1) := by decide +kernel
theorem d2_16 : decode method_2_code 16 = .ok (.lload_n 2, 1) := by decide +kernel
theorem d2_17 : decode method_2_code 17 = .ok (.bipush 33, 2) := by decide +kernel
theorem d2_19 : decode method_2_code 19 = .ok (.lushr, 1) := by decide +kernel
theorem d2_20 : decode method_2_code 20 = .ok (.lxor, 1) := by decide +kernel
theorem d2_21 : decode method_2_code 21 = .ok (.lstore_n 2, 1) := by decide +kernel
theorem d2_22 : decode method_2_code 22 = .ok (.lload_n 2, 1) := by decide +kernel
theorem d2_23 : decode method_2_code 23 = .ok (.ldc2_w 9, 3) := by decide +kernel
theorem d2_26 : decode method_2_code 26 = .ok (.lmul, 1) := by decide +kernel
theorem d2_27 : decode method_2_code 27 = .ok (.lstore_n 2, 1) := by decide +kernel
theorem d2_28 : decode method_2_code 28 = .ok (.lload_n 2, 1) := by decide +kernel
theorem d2_29 : decode method_2_code 29 = .ok (.lload_n 2, 1) := by decide +kernel
theorem d2_30 : decode method_2_code 30 = .ok (.bipush 33, 2) := by decide +kernel
theorem d2_32 : decode method_2_code 32 = .ok (.lushr, 1) := by decide +kernel
theorem d2_33 : decode method_2_code 33 = .ok (.lxor, 1) := by decide +kernel
theorem d2_34 : decode method_2_code 34 = .ok (.lstore_n 2, 1) := by decide +kernel
theorem d2_35 : decode method_2_code 35 = .ok (.lload_n 2, 1) := by decide +kernel
theorem d2_36 : decode method_2_code 36 = .ok (.lreturn, 1) := by decide +kernel
theorem ef_2 (m : MethodId) (x0 : Int64) : entryFrame m #[(.long x0)] 4 = mkF m 0 #[.val (.long x0), .second, .unset, .unset] [] := by first | (simp [entryFrame, mkF, argsToLocals, Value.category]; done) | rfl
def Q2 (Z : State) (q0 : Int64) (h0 : Heap) (n0 : Nat) (v : Option Value) (h : Heap) (L : List Loc) : Prop := v = some (.long (own_unmix q0)) ∧ Fr n0 L ∧ h = h0
set_option maxRecDepth 65536 in
set_option maxHeartbeats 40000000 in
theorem rm2 (l : Launch) (Z : State) (a0 : Array Value) (hw : ∀ d ∈ tables_1, d.before a0 Z = true) (ws : List Jvm.Cond) (q0 : Int64) (h0 : Heap) (n0 : Nat) (Z0 : n0 ≤ h0.size) :
    MetFree l (⟨"com/example/eager_sieve/eagersieve/MurmurHash3Fmix64PinLaw", "unmix", "(J)J"⟩ : MethodName) (head1 (Jvm.Cond.code (⟨"com/example/eager_sieve/eagersieve/MurmurHash3Fmix64PinLaw", "unmix", "(J)J"⟩ : MethodName) method_2_code 4 (some .long) :: ws) ({ frames := 0, cells := 0, slots := 0, locals := 0 } : Room)) (fun a U => a = #[(.long q0)] ∧ Z.Warmed39 U.vm ∧ U.heap = h0) (fun _ _ _ _ _ => True) (fun _ U o U' => ∃ v L, o = .returned v ∧ Q2 Z q0 h0 n0 v U'.heap L ∧ FrameEnd U o U' L ({ frames := 0, cells := 0, slots := 0, locals := 0 } : Room).cells ({ frames := 0, cells := 0, slots := 0, locals := 0 } : Room).slots) := by
  refine MetFree.of_bodySF (plainFor_of_name pn_1) hisR ?_
  intro p e s m args below meth c s₁ Bd hml0 hP hK
  obtain ⟨rfl, hZ, hh⟩ := hP
  have hx := Bd.exec
  have hby := Bd.bytes
  have hml : c.maxLocals = 4 := hml0
  have hown : s.vm.findClass "com/example/eager_sieve/eagersieve/MurmurHash3Fmix64PinLaw" = some m.cls := findClass_of_methodNamed Bd.named
  have hnm := (name_of_methodNamed Bd.named Bd.method).1
  have X0 : Stand p l e ({ frames := 0, cells := 0, slots := 0, locals := 0 } : Room) s m #[(.long q0)] below meth c s₁ [] 0 0 := Stand.of_body Bd
  have e0 : s₁.heap = h0 := by rw [← hh, Bd.state]; rfl
  have N0 := Fr.nil n0
  have pre0 : ∀ t, Steps p.tables e below (s₁.setTop (mkF m 0 #[.val (.long q0), .second, .unset, .unset] [])) t → Steps p.tables e below (s₁.setTop (entryFrame m #[(.long q0)] 4)) t := fun t k => castTop (ef_2 m q0) k
  have pre1 : ∀ t, Steps p.tables e below (s₁.setTop (mkF m 36 #[.val (.long q0), .second, .val (.long (own_xs ((own_xs ((own_xs q0) * (-7154897129451604005 : Int64))) * (5725274745694666757 : Int64)))), .second] [(.long (own_xs ((own_xs ((own_xs q0) * (-7154897129451604005 : Int64))) * (5725274745694666757 : Int64))))])) t → Steps p.tables e below (s₁.setTop (entryFrame m #[(.long q0)] 4)) t := fun t k => pre0 t (by
    show Steps p.tables e below (s₁.setTop (mkF m 0 #[.val (.long q0), .second, .unset, .unset] [])) _
    refine XS.lloadN X0.here hx rfl (hb hby d2_0) rfl ?_
    show Steps p.tables e below (s₁.setTop (mkF m 1 #[.val (.long q0), .second, .unset, .unset] [(.long q0)])) _
    refine XS.lstoreN X0.here hx rfl (hb hby d2_1) rfl (l' := #[.val (.long q0), .second, .val (.long q0), .second]) rfl ?_
    show Steps p.tables e below (s₁.setTop (mkF m 2 #[.val (.long q0), .second, .val (.long q0), .second] [])) _
    refine XS.lloadN X0.here hx rfl (hb hby d2_2) rfl ?_
    show Steps p.tables e below (s₁.setTop (mkF m 3 #[.val (.long q0), .second, .val (.long q0), .second] [(.long q0)])) _
    refine XS.lloadN X0.here hx rfl (hb hby d2_3) rfl ?_
    show Steps p.tables e below (s₁.setTop (mkF m 4 #[.val (.long q0), .second, .val (.long q0), .second] [(.long q0), (.long q0)])) _
    refine XS.bipush X0.here hx rfl (hb hby d2_4) ?_
    show Steps p.tables e below (s₁.setTop (mkF m 6 #[.val (.long q0), .second, .val (.long q0), .second] [(.int (33 : Int32)), (.long q0), (.long q0)])) _
    refine XS.lushr X0.here hx rfl (hb hby d2_6) rfl ?_
    show Steps p.tables e below (s₁.setTop (mkF m 7 #[.val (.long q0), .second, .val (.long q0), .second] [(.long ((q0.toUInt64 >>> ((33 : Int32) &&& 0x3f).toInt64.toUInt64).toInt64)), (.long q0)])) _
    refine XS.lxor X0.here hx rfl (hb hby d2_7) rfl ?_
    show Steps p.tables e below (s₁.setTop (mkF m 8 #[.val (.long q0), .second, .val (.long q0), .second] [(.long (q0 ^^^ ((q0.toUInt64 >>> ((33 : Int32) &&& 0x3f).toInt64.toUInt64).toInt64)))])) _
    refine XS.lstoreN X0.here hx rfl (hb hby d2_8) rfl (l' := #[.val (.long q0), .second, .val (.long (q0 ^^^ ((q0.toUInt64 >>> ((33 : Int32) &&& 0x3f).toInt64.toUInt64).toInt64))), .second]) rfl ?_
    show Steps p.tables e below (s₁.setTop (mkF m 9 #[.val (.long q0), .second, .val (.long (own_xs q0)), .second] [])) _
    refine XS.lloadN X0.here hx rfl (hb hby d2_9) rfl ?_
    show Steps p.tables e below (s₁.setTop (mkF m 10 #[.val (.long q0), .second, .val (.long (own_xs q0)), .second] [(.long (own_xs q0))])) _
    refine X0.ldc2Long hx hown (mvT hZ (hw _ (List.mem_of_getElem? (i := 10) rfl))) (g := (mkF m 10 #[.val (.long q0), .second, .val (.long (own_xs q0)), .second] [(.long (own_xs q0))])) rfl (hb hby d2_10) _ ?_
    show Steps p.tables e below (s₁.setTop (mkF m 13 #[.val (.long q0), .second, .val (.long (own_xs q0)), .second] [(.long (-7154897129451604005 : Int64)), (.long (own_xs q0))])) _
    refine XS.lmul X0.here hx rfl (hb hby d2_13) rfl ?_
    show Steps p.tables e below (s₁.setTop (mkF m 14 #[.val (.long q0), .second, .val (.long (own_xs q0)), .second] [(.long ((own_xs q0) * (-7154897129451604005 : Int64)))])) _
    refine XS.lstoreN X0.here hx rfl (hb hby d2_14) rfl (l' := #[.val (.long q0), .second, .val (.long ((own_xs q0) * (-7154897129451604005 : Int64))), .second]) rfl ?_
    show Steps p.tables e below (s₁.setTop (mkF m 15 #[.val (.long q0), .second, .val (.long ((own_xs q0) * (-7154897129451604005 : Int64))), .second] [])) _
    refine XS.lloadN X0.here hx rfl (hb hby d2_15) rfl ?_
    show Steps p.tables e below (s₁.setTop (mkF m 16 #[.val (.long q0), .second, .val (.long ((own_xs q0) * (-7154897129451604005 : Int64))), .second] [(.long ((own_xs q0) * (-7154897129451604005 : Int64)))])) _
    refine XS.lloadN X0.here hx rfl (hb hby d2_16) rfl ?_
    show Steps p.tables e below (s₁.setTop (mkF m 17 #[.val (.long q0), .second, .val (.long ((own_xs q0) * (-7154897129451604005 : Int64))), .second] [(.long ((own_xs q0) * (-7154897129451604005 : Int64))), (.long ((own_xs q0) * (-7154897129451604005 : Int64)))])) _
    refine XS.bipush X0.here hx rfl (hb hby d2_17) ?_
    show Steps p.tables e below (s₁.setTop (mkF m 19 #[.val (.long q0), .second, .val (.long ((own_xs q0) * (-7154897129451604005 : Int64))), .second] [(.int (33 : Int32)), (.long ((own_xs q0) * (-7154897129451604005 : Int64))), (.long ((own_xs q0) * (-7154897129451604005 : Int64)))])) _
    refine XS.lushr X0.here hx rfl (hb hby d2_19) rfl ?_
    show Steps p.tables e below (s₁.setTop (mkF m 20 #[.val (.long q0), .second, .val (.long ((own_xs q0) * (-7154897129451604005 : Int64))), .second] [(.long ((((own_xs q0) * (-7154897129451604005 : Int64)).toUInt64 >>> ((33 : Int32) &&& 0x3f).toInt64.toUInt64).toInt64)), (.long ((own_xs q0) * (-7154897129451604005 : Int64)))])) _
    refine XS.lxor X0.here hx rfl (hb hby d2_20) rfl ?_
    show Steps p.tables e below (s₁.setTop (mkF m 21 #[.val (.long q0), .second, .val (.long ((own_xs q0) * (-7154897129451604005 : Int64))), .second] [(.long (((own_xs q0) * (-7154897129451604005 : Int64)) ^^^ ((((own_xs q0) * (-7154897129451604005 : Int64)).toUInt64 >>> ((33 : Int32) &&& 0x3f).toInt64.toUInt64).toInt64)))])) _
    refine XS.lstoreN X0.here hx rfl (hb hby d2_21) rfl (l' := #[.val (.long q0), .second, .val (.long (((own_xs q0) * (-7154897129451604005 : Int64)) ^^^ ((((own_xs q0) * (-7154897129451604005 : Int64)).toUInt64 >>> ((33 : Int32) &&& 0x3f).toInt64.toUInt64).toInt64))), .second]) rfl ?_
    show Steps p.tables e below (s₁.setTop (mkF m 22 #[.val (.long q0), .second, .val (.long (own_xs ((own_xs q0) * (-7154897129451604005 : Int64)))), .second] [])) _
    refine XS.lloadN X0.here hx rfl (hb hby d2_22) rfl ?_
    show Steps p.tables e below (s₁.setTop (mkF m 23 #[.val (.long q0), .second, .val (.long (own_xs ((own_xs q0) * (-7154897129451604005 : Int64)))), .second] [(.long (own_xs ((own_xs q0) * (-7154897129451604005 : Int64))))])) _
    refine X0.ldc2Long hx hown (mvT hZ (hw _ (List.mem_of_getElem? (i := 11) rfl))) (g := (mkF m 23 #[.val (.long q0), .second, .val (.long (own_xs ((own_xs q0) * (-7154897129451604005 : Int64)))), .second] [(.long (own_xs ((own_xs q0) * (-7154897129451604005 : Int64))))])) rfl (hb hby d2_23) _ ?_
    show Steps p.tables e below (s₁.setTop (mkF m 26 #[.val (.long q0), .second, .val (.long (own_xs ((own_xs q0) * (-7154897129451604005 : Int64)))), .second] [(.long (5725274745694666757 : Int64)), (.long (own_xs ((own_xs q0) * (-7154897129451604005 : Int64))))])) _
    refine XS.lmul X0.here hx rfl (hb hby d2_26) rfl ?_
    show Steps p.tables e below (s₁.setTop (mkF m 27 #[.val (.long q0), .second, .val (.long (own_xs ((own_xs q0) * (-7154897129451604005 : Int64)))), .second] [(.long ((own_xs ((own_xs q0) * (-7154897129451604005 : Int64))) * (5725274745694666757 : Int64)))])) _
    refine XS.lstoreN X0.here hx rfl (hb hby d2_27) rfl (l' := #[.val (.long q0), .second, .val (.long ((own_xs ((own_xs q0) * (-7154897129451604005 : Int64))) * (5725274745694666757 : Int64))), .second]) rfl ?_
    show Steps p.tables e below (s₁.setTop (mkF m 28 #[.val (.long q0), .second, .val (.long ((own_xs ((own_xs q0) * (-7154897129451604005 : Int64))) * (5725274745694666757 : Int64))), .second] [])) _
    refine XS.lloadN X0.here hx rfl (hb hby d2_28) rfl ?_
    show Steps p.tables e below (s₁.setTop (mkF m 29 #[.val (.long q0), .second, .val (.long ((own_xs ((own_xs q0) * (-7154897129451604005 : Int64))) * (5725274745694666757 : Int64))), .second] [(.long ((own_xs ((own_xs q0) * (-7154897129451604005 : Int64))) * (5725274745694666757 : Int64)))])) _
    refine XS.lloadN X0.here hx rfl (hb hby d2_29) rfl ?_
    show Steps p.tables e below (s₁.setTop (mkF m 30 #[.val (.long q0), .second, .val (.long ((own_xs ((own_xs q0) * (-7154897129451604005 : Int64))) * (5725274745694666757 : Int64))), .second] [(.long ((own_xs ((own_xs q0) * (-7154897129451604005 : Int64))) * (5725274745694666757 : Int64))), (.long ((own_xs ((own_xs q0) * (-7154897129451604005 : Int64))) * (5725274745694666757 : Int64)))])) _
    refine XS.bipush X0.here hx rfl (hb hby d2_30) ?_
    show Steps p.tables e below (s₁.setTop (mkF m 32 #[.val (.long q0), .second, .val (.long ((own_xs ((own_xs q0) * (-7154897129451604005 : Int64))) * (5725274745694666757 : Int64))), .second] [(.int (33 : Int32)), (.long ((own_xs ((own_xs q0) * (-7154897129451604005 : Int64))) * (5725274745694666757 : Int64))), (.long ((own_xs ((own_xs q0) * (-7154897129451604005 : Int64))) * (5725274745694666757 : Int64)))])) _
    refine XS.lushr X0.here hx rfl (hb hby d2_32) rfl ?_
    show Steps p.tables e below (s₁.setTop (mkF m 33 #[.val (.long q0), .second, .val (.long ((own_xs ((own_xs q0) * (-7154897129451604005 : Int64))) * (5725274745694666757 : Int64))), .second] [(.long ((((own_xs ((own_xs q0) * (-7154897129451604005 : Int64))) * (5725274745694666757 : Int64)).toUInt64 >>> ((33 : Int32) &&& 0x3f).toInt64.toUInt64).toInt64)), (.long ((own_xs ((own_xs q0) * (-7154897129451604005 : Int64))) * (5725274745694666757 : Int64)))])) _
    refine XS.lxor X0.here hx rfl (hb hby d2_33) rfl ?_
    show Steps p.tables e below (s₁.setTop (mkF m 34 #[.val (.long q0), .second, .val (.long ((own_xs ((own_xs q0) * (-7154897129451604005 : Int64))) * (5725274745694666757 : Int64))), .second] [(.long (((own_xs ((own_xs q0) * (-7154897129451604005 : Int64))) * (5725274745694666757 : Int64)) ^^^ ((((own_xs ((own_xs q0) * (-7154897129451604005 : Int64))) * (5725274745694666757 : Int64)).toUInt64 >>> ((33 : Int32) &&& 0x3f).toInt64.toUInt64).toInt64)))])) _
    refine XS.lstoreN X0.here hx rfl (hb hby d2_34) rfl (l' := #[.val (.long q0), .second, .val (.long (((own_xs ((own_xs q0) * (-7154897129451604005 : Int64))) * (5725274745694666757 : Int64)) ^^^ ((((own_xs ((own_xs q0) * (-7154897129451604005 : Int64))) * (5725274745694666757 : Int64)).toUInt64 >>> ((33 : Int32) &&& 0x3f).toInt64.toUInt64).toInt64))), .second]) rfl ?_
    show Steps p.tables e below (s₁.setTop (mkF m 35 #[.val (.long q0), .second, .val (.long (own_xs ((own_xs ((own_xs q0) * (-7154897129451604005 : Int64))) * (5725274745694666757 : Int64)))), .second] [])) _
    refine XS.lloadN X0.here hx rfl (hb hby d2_35) rfl ?_
    exact k)
  obtain ⟨fs, hr, hrun, hended, hW, hsame⟩ := X0.leave (v := some (.long (own_xs ((own_xs ((own_xs q0) * (-7154897129451604005 : Int64))) * (5725274745694666757 : Int64))))) (fun h => by rw [Bd.returns] at h; cases h)
  refine ⟨_, _, pre1 _ ?_, hrun, hended, _, _, rfl, ?_, ⟨_, rfl⟩, hW, hsame.mono (by decide) (by decide)⟩
  · show Steps p.tables e below (s₁.setTop (mkF m 36 #[.val (.long q0), .second, .val (.long (own_xs ((own_xs ((own_xs q0) * (-7154897129451604005 : Int64))) * (5725274745694666757 : Int64)))), .second] [(.long (own_xs ((own_xs ((own_xs q0) * (-7154897129451604005 : Int64))) * (5725274745694666757 : Int64))))])) _
    jvm_step X0.here [X0.here.top, hx, (hb hby d2_36), X0.method', Bd.returns, narrow]
    first | (intro acts; rw [hr _ acts rfl rfl rfl]) | rw [hr _ _ rfl rfl rfl]
    exact Steps.refl _
  · show Q2 Z q0 h0 n0 _ s₁.heap _
    rw [e0]
    exact ⟨rfl, N0, rfl⟩
theorem pd_0 : parseMethodDescriptor "(J)J" = some ⟨[.long], some .long⟩ := by decide +kernel
theorem ef_0 (m : MethodId) (x0 : Int64) : entryFrame m #[(.long x0)] maxLocals = mkF m 0 #[.val (.long x0), .second, .unset, .unset] [] := by first | (simp [entryFrame, mkF, argsToLocals, Value.category, maxLocals]; done) | rfl
def Q0 (Z : State) (q0 : Int64) (h0 : Heap) (n0 : Nat) (v : Option Value) (h : Heap) (L : List Loc) : Prop := v = some (.int 1) ∧ Fr n0 L
set_option maxRecDepth 65536 in
set_option maxHeartbeats 40000000 in
theorem rm0 (l : Launch) (Z : State) (a0 : Array Value) (hw : ∀ d ∈ tables_1, d.before a0 Z = true) (ws : List Jvm.Cond) (q0 : Int64) (h0 : Heap) (n0 : Nat) (Z0 : n0 ≤ h0.size) :
    MetFree l x (head1 (Jvm.Cond.code x code maxLocals ret :: ws) room_1) (fun a U => a = #[(.long q0)] ∧ Z.Warmed39 U.vm ∧ U.heap = h0) (fun _ _ _ _ _ => True) (fun _ U o U' => ∃ v L, o = .returned v ∧ Q0 Z q0 h0 n0 v U'.heap L ∧ FrameEnd U o U' L room_1.cells room_1.slots) := by
  refine MetFree.of_bodySF (plainFor_of_name pn_1) hisR ?_
  intro p e s m args below meth c s₁ Bd hml0 hP hK
  obtain ⟨rfl, hZ, hh⟩ := hP
  have hx := Bd.exec
  have hby := Bd.bytes
  have hml : c.maxLocals = 4 := hml0
  have hown : s.vm.findClass "com/example/eager_sieve/eagersieve/MurmurHash3Fmix64PinLaw" = some m.cls := findClass_of_methodNamed Bd.named
  have hnm := (name_of_methodNamed Bd.named Bd.method).1
  have X0 : Stand p l e room_1 s m #[(.long q0)] below meth c s₁ [] 0 0 := Stand.of_body Bd
  have e0 : s₁.heap = h0 := by rw [← hh, Bd.state]; rfl
  have N0 := Fr.nil n0
  have pre0 : ∀ t, Steps p.tables e below (s₁.setTop (mkF m 0 #[.val (.long q0), .second, .unset, .unset] [])) t → Steps p.tables e below (s₁.setTop (entryFrame m #[(.long q0)] maxLocals)) t := fun t k => castTop (ef_0 m q0) k
  obtain ⟨_, _, ⟨T1, L1, k1, n1⟩, -, X1, ⟨Lc1, hQ1, l1, y1, z1⟩, st1⟩ := Jvm.LawKit.callS X0 hx (y := (⟨"com/example/eager_sieve/eagersieve/MurmurHash3", "fmix64", "(J)J"⟩ : MethodName)) hown (mvT hZ (hw _ (List.mem_of_getElem? (i := 0) rfl))) (mvT hZ (hw _ (List.mem_of_getElem? (i := 1) rfl))) (mvT hZ (hw _ (List.mem_of_getElem? (i := 2) rfl))) (mvT hZ (hw _ (List.mem_of_getElem? (i := 3) rfl))) (by decide) (backOf (W := 0) (rm1 l Z a0 hw [] q0 h0 n0 Z0 ) hZ (hw _ (List.mem_of_getElem? (i := 3) rfl)) (hw _ (List.mem_of_getElem? (i := 2) rfl)) (by decide) (by decide)) (g := (mkF m 1 #[.val (.long q0), .second, .unset, .unset] [(.long q0)])) rfl (by rw [hml]; rfl) (argsL := [(.long q0)]) (rest := []) (lenOf pd_0 rfl) rfl (by show 2 * 0 + _ ≤ _; exact Nat.le_of_eq rfl) (hb hby at_1) (fun _ _ => ⟨rfl, e0, (by decide : 0 + 0 ≤ _), (by decide : 0 + 0 ≤ _)⟩)
  dsimp only [Pt.U, Pt.locs, Pt.cells, Pt.slots] at X1 l1 y1 z1 st1 hQ1
  subst l1 y1 z1
  obtain ⟨rfl, N1q, hh1⟩ := hQ1
  have N1 := Fr.app N0 N1q
  obtain ⟨_, _, ⟨T2, L2, k2, n2⟩, -, X2, ⟨Lc2, hQ2, l2, y2, z2⟩, st2⟩ := Jvm.LawKit.callS X1 hx (y := (⟨"com/example/eager_sieve/eagersieve/MurmurHash3Fmix64PinLaw", "unmix", "(J)J"⟩ : MethodName)) hown (mvT hZ (hw _ (List.mem_of_getElem? (i := 6) rfl))) (mvT hZ (hw _ (List.mem_of_getElem? (i := 7) rfl))) (mvT hZ (hw _ (List.mem_of_getElem? (i := 8) rfl))) (mvT hZ (hw _ (List.mem_of_getElem? (i := 9) rfl))) (by decide) (backOf (W := 0) (rm2 l Z a0 hw [] (own_mix q0) h0 n0 Z0 ) hZ (hw _ (List.mem_of_getElem? (i := 9) rfl)) (hw _ (List.mem_of_getElem? (i := 8) rfl)) (by decide) (by decide)) (g := (mkF m 6 #[.val (.long q0), .second, .val (.long (own_mix q0)), .second] [(.long (own_mix q0))])) rfl (by rw [hml]; rfl) (argsL := [(.long (own_mix q0))]) (rest := []) (lenOf pd_0 rfl) rfl (by show 2 * 0 + _ ≤ _; exact Nat.le_of_eq rfl) (hb hby at_6) (fun _ _ => ⟨rfl, hh1, (by decide : 0 + 0 ≤ _), (by decide : 0 + 0 ≤ _)⟩)
  dsimp only [Pt.U, Pt.locs, Pt.cells, Pt.slots] at X2 l2 y2 z2 st2 hQ2
  subst l2 y2 z2
  obtain ⟨rfl, N2q, hh2⟩ := hQ2
  have N2 := Fr.app N1 N2q
  have pre3 : ∀ t, Steps p.tables e below (T2.setTop (mkF m 19 #[.val (.long q0), .second, .val (.long (own_mix q0)), .second] [(.int (1 : Int32))])) t → Steps p.tables e below (s₁.setTop (entryFrame m #[(.long q0)] maxLocals)) t := fun t k => pre0 t (by
    show Steps p.tables e below (s₁.setTop (mkF m 0 #[.val (.long q0), .second, .unset, .unset] [])) _
    refine XS.lloadN X0.here hx rfl (hb hby at_0) rfl ?_
    show Steps p.tables e below (s₁.setTop (mkF m 1 #[.val (.long q0), .second, .unset, .unset] [(.long q0)])) _
    refine st1 _ ?_
    show Steps p.tables e below (T1.setTop (mkF m 4 #[.val (.long q0), .second, .unset, .unset] [(.long (own_mix q0))])) _
    refine XS.lstoreN X1.here hx rfl (hb hby at_4) rfl (l' := #[.val (.long q0), .second, .val (.long (own_mix q0)), .second]) rfl ?_
    show Steps p.tables e below (T1.setTop (mkF m 5 #[.val (.long q0), .second, .val (.long (own_mix q0)), .second] [])) _
    refine XS.lloadN X1.here hx rfl (hb hby at_5) rfl ?_
    show Steps p.tables e below (T1.setTop (mkF m 6 #[.val (.long q0), .second, .val (.long (own_mix q0)), .second] [(.long (own_mix q0))])) _
    refine st2 _ ?_
    show Steps p.tables e below (T2.setTop (mkF m 9 #[.val (.long q0), .second, .val (.long (own_mix q0)), .second] [(.long (own_unmix (own_mix q0)))])) _
    refine XS.lloadN X2.here hx rfl (hb hby at_9) rfl ?_
    show Steps p.tables e below (T2.setTop (mkF m 10 #[.val (.long q0), .second, .val (.long (own_mix q0)), .second] [(.long q0), (.long (own_unmix (own_mix q0)))])) _
    refine XS.lcmp X2.here hx rfl (hb hby at_10) rfl ?_
    show Steps p.tables e below (T2.setTop (mkF m 11 #[.val (.long q0), .second, .val (.long (own_mix q0)), .second] [(.int (lcmpW (own_unmix (own_mix q0)) q0))])) _
    refine XS.ifNo X2.here hx rfl (hb hby at_11) rfl ((if0 _ _).trans (teq ((lw_eq _ _).mpr (own_inv q0))).2) ?_
    show Steps p.tables e below (T2.setTop (mkF m 14 #[.val (.long q0), .second, .val (.long (own_mix q0)), .second] [])) _
    refine XS.iconst X2.here hx rfl (hb hby at_14) ?_
    show Steps p.tables e below (T2.setTop (mkF m 15 #[.val (.long q0), .second, .val (.long (own_mix q0)), .second] [(.int (1 : Int32))])) _
    refine XS.goto X2.here hx rfl (pc0 := 15) (pc' := 19) rfl (hb hby at_15) (by decide) (by decide) ?_
    exact k)
  obtain ⟨fs, hr, hrun, hended, hW, hsame⟩ := X2.leave (v := some (.int (1 : Int32))) (fun h => by rw [Bd.returns] at h; cases h)
  refine ⟨_, _, pre3 _ ?_, hrun, hended, _, _, rfl, ?_, ⟨_, rfl⟩, hW, hsame.mono (by decide) (by decide)⟩
  · exact retN X2 hx (t := .boolean) Bd.returns (by simp) (hb hby at_19) hr
  · show Q0 Z q0 h0 n0 _ T2.heap _
    rw [hh2]
    exact ⟨rfl, N2⟩
set_option maxRecDepth 65536 in
set_option maxHeartbeats 40000000 in
theorem comes_1 {Post : Tables → Env → Array Value → State → Outcome → State → Prop} (hpost : ∀ tb e args s v u, (limb_1_1.after args s (.returned v) u = true ∧ limb_1_2.after args s (.returned v) u = true ∧ True) → FrameEnd s (.returned v) u (Jvm.fieldLocs frame_1_writes args s ++ Jvm.arrayLocs frame_1_arrays args s ++ Jvm.staticLocs frame_1_statics s) 0 0 → Post tb e args s (.returned v) u) :
    ArmFor flags0 classFile x code maxLocals ret World_1 tables_1 room_1 Calls_1 rest_1 Pre_1 Post := by
  intro l hfl _ _ p e ha hc hk s m args below hf hA hF happ hP
  obtain ⟨hcalls, hrest, hpre⟩ := hP
  obtain ⟨-, -, -, hnamed, -, -, -, hat⟩ := (Spec.applies_iff hf).mp happ
  obtain ⟨hg, hn⟩ := and_e (Cond.before_iff.mp (show (Jvm.Cond.and given_1 narrow_1).before args s = true from hpre))
  obtain ⟨g1, g2⟩ := and_e hg
  obtain ⟨w0, rfl⟩ : ∃ w0 : Value, args = #[w0] := by
    have hs : args.size = 1 := by simpa [Cond.value, given_1] using g1
    obtain ⟨L⟩ := args
    match L, hs with
    | [w0], _ => exact ⟨w0, rfl⟩
  have hw := fun d (hd : d ∈ tables_1) => atoms_spec (ws := Jvm.Cond.code x code maxLocals ret :: tables_1) hat d (List.mem_cons_of_mem _ hd)
  have hfit : Fit s := fun {y c} hc i hi => by
    obtain ⟨ha, rfl⟩ := Array.getElem?_eq_some_iff.mp hc
    have q := List.all_eq_true.mp ((Array.all_eq_true_iff_forall_mem.mp hF) _ (Array.getElem_mem ha)) i (List.mem_range.mpr hi)
    simpa [Array.getElem?_eq_getElem hi] using q
  obtain ⟨i0, ei0⟩ := isL_v g2
  obtain rfl : w0 = (.long i0) := Option.some.inj ei0
  obtain ⟨n, o, h1, h2, h3, _, L, rfl, ⟨rfl, N⟩, hq⟩ := rm0 l s _ hw tables_1 i0 s.heap s.heap.size (Nat.le_refl _) p e ha hc hk s m _ below hf ((Spec.applies_iff_loose hf).mp happ).1 ⟨rfl, State.Warmed39.refl s, rfl⟩ trivial
  refine ⟨n, _, h1, h2, h3, hpost _ _ _ _ _ _ ⟨Cond.after_iff.mpr rfl, Cond.after_iff.mpr (eq_i res_at (Term.int_eval (1)) rfl), trivial⟩ ⟨hq.1, hq.2.1, (hq.2.2.sift fun y hy => Or.inr (N y hy)).mono (by decide) (by decide)⟩⟩
theorem main_1_1 : Claimed_1_1 := comes_1 fun _ _ _ _ _ _ h hF => ⟨h.1, hF⟩
theorem main_1_2 : Claimed_1_2 := comes_1 fun _ _ _ _ _ _ h hF => ⟨h.2.1, hF⟩
end Jvm.Pilot.@@N@@
namespace Jvm.Pilot.@@N@@
open Jvm Jvm.ClassFile Sem Op Lib Jvm.Free Jvm.Stand Jvm.Pilot.@@N@@.Jvm.D
/-! MADE BY PROGRAM (witnessworld.py) out of the Statement's table words and the real class files: 9 classes; the members and pool entries that the words name. The judged class is class 1, her method 2. -/
namespace start1
open Jvm.ClassFile
def u (s : String) : CpInfo := .utf8 (stringToUtf16 s)
/-- a pool by its gaps: so many unusable entries, then the entry; so many at the end -/
def gap : Nat → List CpInfo → List CpInfo
  | 0, r => r
  | n + 1, r => .unusable :: gap n r
def poolList (es : List (Nat × CpInfo)) (last : Nat) : List CpInfo := es.foldr (fun e r => gap e.1 (e.2 :: r)) (gap last [])
def pool (es : List (Nat × CpInfo)) (last : Nat) : Array CpInfo := ⟨poolList es last⟩
def fileOf (pool : Array CpInfo) (this : Nat) (attrs : Array Attribute := #[]) (ms : Array MethodInfo := #[]) (fl : Nat := 33) (sup : Nat := 0) (ifs : Array Nat := #[]) (fds : Array FieldInfo := #[]) : ClassFile where
  minorVersion := 0
  majorVersion := 65
  constantPool := pool
  accessFlags := fl
  thisClass := this
  superClass := sup
  interfaces := ifs
  fields := fds
  methods := ms
  attributes := attrs
def plain (name : String) (sup : Option ClassId) : Class where
  name := name
  kind := .ordinary
  loader := none
  accessFlags := 33
  super := sup
  interfaces := #[]
  cf := none
  fields := #[]
  methods := #[]
  instanceTypes := #[]
  staticTypes := #[]
  resolved := #[]
  callSites := []
  init := .initialized
  statics := none
  mirror := none

def pool0 : Array CpInfo := pool [(5, u "<init>"), (0, u "()V"), (1, .class_ 10), (1, u "java/lang/Object")] 113

def k0m0 : Method := { name := "<init>", desc := "()V", sig := { parameters := [], returnType := none }, accessFlags := 1, code := none }
/-- java/lang/Object -/
def k0 : Class := { plain "java/lang/Object" none with
  accessFlags := 33
  interfaces := #[]
  cf := some (fileOf pool0 8 #[] #[{ accessFlags := 1, nameIndex := 5, descriptorIndex := 6, attributes := #[] }] 33 0 #[] #[])
  fields := #[]
  methods := #[k0m0]
  instanceTypes := #[]
  staticTypes := #[]
  resolved := Array.replicate 124 none
  statics := none }

def pool1 : Array CpInfo := pool [(2, .class_ 4), (1, u "java/lang/Object"), (0, u "<init>"), (0, u "()V"), (0, .long 11291846944257947611), (1, .long 5725274745694666757), (1, .methodref 12 13), (0, .class_ 14), (0, .nameAndType 15 16), (0, u "com/example/eager_sieve/eagersieve/MurmurHash3"), (0, u "fmix64"), (0, u "(J)J"), (0, .methodref 18 19), (0, .class_ 20), (0, .nameAndType 21 16), (0, u "com/example/eager_sieve/eagersieve/MurmurHash3Fmix64PinLaw"), (0, u "unmix"), (2, u "law"), (0, u "(J)Z")] 3

def k1m0 : Method := { name := "<init>", desc := "()V", sig := { parameters := [], returnType := none }, accessFlags := 2, code := none }
def k1c1 : Code := { maxStack := 5, maxLocals := 4, code := method_2_code, exceptionTable := #[], attributes := #[] }
def k1m1 : Method := { name := "unmix", desc := "(J)J", sig := { parameters := [.long], returnType := some .long }, accessFlags := 10, code := some k1c1 }
def k1c2 : Code := { maxStack := 4, maxLocals := 4, code := code, exceptionTable := #[], attributes := #[] }
def k1m2 : Method := { name := "law", desc := "(J)Z", sig := { parameters := [.long], returnType := some .boolean }, accessFlags := 9, code := some k1c2 }
/-- com/example/eager_sieve/eagersieve/MurmurHash3Fmix64PinLaw -/
def k1 : Class := { plain "com/example/eager_sieve/eagersieve/MurmurHash3Fmix64PinLaw" (some 0) with
  accessFlags := 49
  interfaces := #[]
  cf := some (fileOf pool1 18 #[] #[{ accessFlags := 2, nameIndex := 5, descriptorIndex := 6, attributes := #[] }, { accessFlags := 10, nameIndex := 21, descriptorIndex := 16, attributes := #[] }, { accessFlags := 9, nameIndex := 24, descriptorIndex := 25, attributes := #[] }] 49 2 #[] #[])
  fields := #[]
  methods := #[k1m0, k1m1, k1m2]
  instanceTypes := #[]
  staticTypes := #[]
  resolved := Array.replicate 29 none
  statics := none }

def pool2 : Array CpInfo := pool [(2, .class_ 4), (1, u "java/lang/Object"), (0, u "<init>"), (0, u "()V"), (0, .class_ 8), (0, u "com/example/eager_sieve/eagersieve/MurmurHash3"), (18, u "LONG_LE"), (0, u "Ljava/lang/invoke/VarHandle;"), (9, u "(J)J"), (31, u "fmix64"), (11, .long 18397679294719823053), (1, .long 14181476777654086739), (15, u "FILTER_SEED"), (0, u "I"), (2, u "C1"), (0, u "J"), (0, u "C2")] 11

def k2m0 : Method := { name := "<init>", desc := "()V", sig := { parameters := [], returnType := none }, accessFlags := 2, code := none }
def k2c1 : Code := { maxStack := 5, maxLocals := 4, code := prog_18_method_10_code, exceptionTable := #[], attributes := #[] }
def k2m1 : Method := { name := "fmix64", desc := "(J)J", sig := { parameters := [.long], returnType := some .long }, accessFlags := 8, code := some k2c1 }
/-- com/example/eager_sieve/eagersieve/MurmurHash3 -/
def k2 : Class := { plain "com/example/eager_sieve/eagersieve/MurmurHash3" (some 0) with
  accessFlags := 32
  interfaces := #[]
  cf := some (fileOf pool2 7 #[] #[{ accessFlags := 2, nameIndex := 5, descriptorIndex := 6, attributes := #[] }, { accessFlags := 8, nameIndex := 70, descriptorIndex := 38, attributes := #[] }] 32 2 #[] #[{ accessFlags := 24, nameIndex := 100, descriptorIndex := 101, attributes := #[] }, { accessFlags := 26, nameIndex := 104, descriptorIndex := 105, attributes := #[] }, { accessFlags := 26, nameIndex := 106, descriptorIndex := 105, attributes := #[] }, { accessFlags := 26, nameIndex := 27, descriptorIndex := 28, attributes := #[] }])
  fields := #[{ name := "FILTER_SEED", type := .int, accessFlags := 24, slot := 0, constantValue := 0 }, { name := "C1", type := .long, accessFlags := 26, slot := 1, constantValue := 0 }, { name := "C2", type := .long, accessFlags := 26, slot := 2, constantValue := 0 }, { name := "LONG_LE", type := (.object "java/lang/invoke/VarHandle"), accessFlags := 26, slot := 3, constantValue := 0 }]
  methods := #[k2m0, k2m1]
  instanceTypes := #[]
  staticTypes := #[.int, .long, .long, (.object "java/lang/invoke/VarHandle")]
  resolved := Array.replicate 118 none
  statics := none }

def pool3 : Array CpInfo := pool [(1, u "java/lang/Cloneable"), (0, .class_ 1), (0, u "java/lang/Object"), (0, .class_ 3)] 3

/-- java/lang/Cloneable -/
def k3 : Class := { plain "java/lang/Cloneable" (some 0) with
  accessFlags := 1537
  interfaces := #[]
  cf := some (fileOf pool3 2 #[] #[] 1537 4 #[] #[])
  fields := #[]
  methods := #[]
  instanceTypes := #[]
  staticTypes := #[]
  resolved := Array.replicate 8 none
  statics := none }

def pool4 : Array CpInfo := pool [(1, u "java/io/Serializable"), (0, .class_ 1), (0, u "java/lang/Object"), (0, .class_ 3)] 3

/-- java/io/Serializable -/
def k4 : Class := { plain "java/io/Serializable" (some 0) with
  accessFlags := 1537
  interfaces := #[]
  cf := some (fileOf pool4 2 #[] #[] 1537 4 #[] #[])
  fields := #[]
  methods := #[]
  instanceTypes := #[]
  staticTypes := #[]
  resolved := Array.replicate 8 none
  statics := none }

/-- the primitive byte -/
def k5 : Class := { plain "byte" none with kind := .primitive 'B', accessFlags := 0x411 }
/-- [B -/
def k6 : Class := { plain "[B" (some 0) with kind := .array 5 .byte, interfaces := #[3, 4], accessFlags := 1041 }

/-- the primitive int -/
def k7 : Class := { plain "int" none with kind := .primitive 'I', accessFlags := 0x411 }
/-- [I -/
def k8 : Class := { plain "[I" (some 0) with kind := .array 7 .int, interfaces := #[3, 4], accessFlags := 1041 }

def heap : Heap := #[]
def classes : Array Class := #[k0, k1, k2, k3, k4, k5, k6, k7, k8]
def interned : List (Array UInt16 × Addr) := []
def slotsUsed : Nat := 0
def theMethod : MethodId := ⟨1, 2⟩
def args0 : Array Value := #[.long 5]
def aboutOver (below : List Frame) : State where
  vm := { classes := classes, interned := interned.toArray }
  heap := heap
  slotsUsed := slotsUsed
  threads := #[{ frames := .invoking theMethod args0 :: below }]
def below0 : List Frame := [.native { method := ⟨0, 0⟩, args := #[] }]
def about1 : State := aboutOver below0
def p0 : Program := .bare "" "" ""
def e0 : Env := launch0.env 0 0 0
theorem w_frames : about1.frames = Frame.invoking theMethod args0 :: below0 := rfl
set_option maxRecDepth 65536 in
theorem w_args : argsFit about1.vm theMethod args0 = true := by decide +kernel
set_option maxRecDepth 65536 in
theorem w_heap : heapFits about1 = true := by decide +kernel
set_option maxRecDepth 65536 in
theorem w_runnable : about1.curStatus? = some .runnable := by decide +kernel
set_option maxRecDepth 65536 in
theorem w_alone : about1.alone = true := by decide +kernel
set_option maxRecDepth 65536 in
theorem w_named : about1.methodNamed? x = some theMethod := by decide +kernel
set_option maxRecDepth 65536 in
theorem w_hears : about1.hears theMethod below0 = true := by decide +kernel
set_option maxRecDepth 65536 in
theorem w_ripe : about1.ripe theMethod args0 below0 = true := by decide +kernel
theorem w_running : about1.status = .running := rfl
set_option maxRecDepth 65536 in
theorem w_room : about1.hasRoom e0.platform room_1 = true :=
  launch0.hasRoom_least _ room_1 (by decide +kernel) (by decide +kernel) (by decide +kernel) (by decide +kernel) (by decide +kernel) (by decide +kernel)
theorem allAtoms_all (ts : List Jvm.Cond) (a : Array Jvm.Value) (st : Jvm.State) : (allAtoms ts).before a st = ts.all (fun c => c.before a st) := by
  induction ts with
  | nil => rfl
  | cons c t ih =>
    show (Jvm.Cond.and c (allAtoms t)).before a st = _
    rw [Jvm.Cond.before_and, ih, List.all_cons]
def words1 : List Jvm.Cond := Jvm.Cond.code x code maxLocals ret :: tables_1
/-- a 'code' word, met by the world's own term for the bytes: nothing is compared byte by byte -/
theorem code_word {y : MethodName} {bytes : ByteArray} {mx : Nat} {rt : Option FieldType} {a : Array Value} {s : State} {m : MethodId} {meth : Method} {c : Code} (h1 : s.methodNamed? y = some m) (h2 : s.vm.method? m = some meth) (h3 : meth.code = some c) (h4 : c.code = bytes)
    (h5 : (c.maxLocals == mx && c.exceptionTable.isEmpty && decide (c.maxStack ≤ mostOperands) && decide (meth.sig.returnType = rt) && !meth.locks && decide (parseMethodDescriptor y.desc = some meth.sig)) = true) : (Jvm.Cond.code y bytes mx rt).before a s = true := by
  simp only [Bool.and_eq_true, beq_iff_eq, Bool.not_eq_true', decide_eq_true_eq] at h5
  obtain ⟨⟨⟨⟨⟨g1, g2⟩, g3⟩, g4⟩, g5⟩, g6⟩ := h5
  simp [Cond.before, Cond.holds, Cond.value, h1, h2, h3, h4, g1, g2, g3, g4, g5, g6]
def isCode : Jvm.Cond → Bool
  | .code _ _ _ _ => true
  | _ => false
theorem all_split {L : List Jvm.Cond} {P : Jvm.Cond → Bool} (h1 : L.all (fun c => isCode c || P c) = true) (h2 : ∀ c ∈ L.filter isCode, P c = true) : L.all P = true := by
  refine List.all_eq_true.mpr fun c hc => ?_
  have h := List.all_eq_true.mp h1 c hc
  rcases Bool.eq_false_or_eq_true (isCode c) with hi | hi
  · exact h2 c (List.mem_filter.mpr ⟨hc, hi⟩)
  · simpa [hi] using h
set_option maxRecDepth 65536 in
theorem w_c0 : (Jvm.Cond.code x code maxLocals ret).before args0 about1 = true := code_word (m := ⟨1, 2⟩) (meth := k1m2) (c := k1c2) (by decide +kernel) rfl rfl rfl (by decide +kernel)
set_option maxRecDepth 65536 in
theorem w_c1 : (Jvm.Cond.code ({ cls := "com/example/eager_sieve/eagersieve/MurmurHash3", name := "fmix64", desc := "(J)J" } : Jvm.MethodName) prog_18_method_10_code (4 : Nat) (Option.some Jvm.ClassFile.FieldType.long)).before args0 about1 = true := code_word (m := ⟨2, 1⟩) (meth := k2m1) (c := k2c1) (by decide +kernel) rfl rfl rfl (by decide +kernel)
set_option maxRecDepth 65536 in
theorem w_c2 : (Jvm.Cond.code ({ cls := "com/example/eager_sieve/eagersieve/MurmurHash3Fmix64PinLaw", name := "unmix", desc := "(J)J" } : Jvm.MethodName) method_2_code (4 : Nat) (Option.some Jvm.ClassFile.FieldType.long)).before args0 about1 = true := code_word (m := ⟨1, 1⟩) (meth := k1m1) (c := k1c1) (by decide +kernel) rfl rfl rfl (by decide +kernel)
def codes1 : List Jvm.Cond := [Jvm.Cond.code x code maxLocals ret, Jvm.Cond.code ({ cls := "com/example/eager_sieve/eagersieve/MurmurHash3", name := "fmix64", desc := "(J)J" } : Jvm.MethodName) prog_18_method_10_code (4 : Nat) (Option.some Jvm.ClassFile.FieldType.long), Jvm.Cond.code ({ cls := "com/example/eager_sieve/eagersieve/MurmurHash3Fmix64PinLaw", name := "unmix", desc := "(J)J" } : Jvm.MethodName) method_2_code (4 : Nat) (Option.some Jvm.ClassFile.FieldType.long)]
set_option maxRecDepth 65536 in
theorem codes_eq : words1.filter isCode = codes1 := rfl
theorem w_codes : ∀ c ∈ words1.filter isCode, c.before args0 about1 = true := by
  rw [codes_eq]
  intro c hc
  simp only [codes1, List.mem_cons, List.not_mem_nil, or_false] at hc
  rcases hc with rfl | rfl | rfl
  · exact w_c0
  · exact w_c1
  · exact w_c2
set_option maxRecDepth 65536 in
theorem w_t1 : words1.all (fun c => isCode c || c.before args0 about1) = true := by decide +kernel
theorem w_tables : (allAtoms (Jvm.Cond.code x code maxLocals ret :: tables_1)).before args0 about1 = true := by
  rw [allAtoms_all]
  show words1.all (fun c => c.before args0 about1) = true
  refine all_split ?_ w_codes
  rw [w_t1]
set_option maxRecDepth 65536 in
theorem w_case : (Jvm.Cond.and given_1 narrow_1).before args0 about1 = true := by decide +kernel
theorem w_applies : (headSpec (Jvm.Cond.code x code maxLocals ret :: tables_1) room_1).applies x e0.platform about1 = true :=
  (Spec.applies_iff w_frames).mpr ⟨w_running, w_runnable, w_alone, w_named, w_hears, w_ripe, w_room, w_tables⟩
theorem atStart : AtStart classFile x code maxLocals ret World_1 tables_1 room_1 Calls_1 rest_1 Pre_1 launch0 p0 e0 about1 theMethod args0 below0 :=
  ⟨lists_1, trivial, launch0.admits_env _ _ _, launch0.least_env, fairChoices_fair.cas, fairChoices_fair.clock, w_frames, w_args, w_heap, w_applies, trivial, trivial, w_case⟩
end start1
theorem witness_1 : WitnessClaimed_1 := ⟨start1.p0, start1.e0, start1.about1, start1.theMethod, start1.args0, start1.below0, start1.atStart⟩
end Jvm.Pilot.@@N@@
