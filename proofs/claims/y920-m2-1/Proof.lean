import JvmDerived
import JvmDerived.Pilot.@@N@@Statement
import JvmDerived.Pilot.@@N@@Code
set_option linter.unusedVariables false
set_option linter.unusedSimpArgs false
namespace Jvm.RoadKit
open Sem ClassFile Op Lib Jvm.Stand Jvm.Free Jvm.LawKit
section New
variable {p : Program} {l : Launch} {e : Env} {R : Room} {s : State} {m : MethodId} {args : Array Value} {below : List Frame} {meth : Method} {c : Code} {T : State} {locs : List Loc} {cells slots : Nat}
theorem retI (X : Stand p l e R s m args below meth c T locs cells slots) (hx : p.tables.exec = Jvm.exec) {pc : Nat} {Ls : Array Slot} {z : Int32} {rest : List Value} (hret : meth.sig.returnType = some .int) (hd : decode c.code pc = .ok (.ireturn, 1)) {fs : List Frame}
    (hl : ∀ (f : JFrame) (acts : List Action), f.method = m → f.locked = none → f.entered = [] → (doReturn e (T.setTop f) acts (some (.int z))).1 = T.setFrames fs) : Steps p.tables e below (T.setTop (mkF m pc Ls (.int z :: rest))) (T.setFrames fs) := by
  have hm' : T.vm.method? m = some meth := X.method'
  have hn : narrow .int (.int z) = .int z := rfl
  show Steps p.tables e below (T.setTop { method := m, pc := pc, locals := Ls, stack := _ :: rest, locked := none }) _
  jvm_step X.here [X.here.top, hx, hd, hm', hret, hn]
  first | (intro acts; rw [hl _ acts rfl rfl rfl]) | rw [hl _ _ rfl rfl rfl]
  exact Steps.refl _
theorem own_lrem {g : JFrame} {target : State} (X : Stand p l e R s m args below meth c T locs cells slots) (hx : p.tables.exec = Jvm.exec) (hg : g.method = m) {x y : Int64} {rest : List Value} (hd : decode c.code g.pc = .ok (.lrem, 1)) (hs : g.stack = .long y :: .long x :: rest) (hy : y ≠ 0)
    (hr : Steps p.tables e below (T.setTop { g with pc := g.pc + 1, stack := .long (x % y) :: rest }) target) : Steps p.tables e below (T.setTop g) target := by
  have q : x - (x / y) * y = x % y := lrem_mod x y
  exact XS.lrem X.here hx hg hd hs hy (by rw [q]; exact hr)
theorem own_b1 {P : Prop} [Decidable P] (h : P) : ¬ ((if P then (1 : Int32) else 0) = 0) := by rw [if_pos h]; decide
theorem own_b0 {P : Prop} [Decidable P] (h : ¬ P) : (if P then (1 : Int32) else 0) = 0 := if_neg h
theorem own_c1 {P : Prop} [Decidable P] (h : P) : (if P then (1 : Int32) else 0) = 1 := if_pos h
theorem own_c0 {P : Prop} [Decidable P] (h : ¬ P) : ¬ ((if P then (1 : Int32) else 0) = 1) := by rw [if_neg h]; decide
theorem own_bb {P Q : Prop} [Decidable P] [Decidable Q] (h : P ↔ Q) : (if P then (1 : Int32) else 0) = (if Q then (1 : Int32) else 0) := by
  by_cases p : P
  · rw [if_pos p, if_pos (h.mp p)]
  · rw [if_neg p, if_neg (fun q => p (h.mpr q))]
theorem own_bn {P Q : Prop} [Decidable P] [Decidable Q] (h : ¬ (P ↔ Q)) : ¬ ((if P then (1 : Int32) else 0) = (if Q then (1 : Int32) else 0)) := fun e => h (by
  by_cases p : P <;> by_cases q : Q
  · exact ⟨fun _ => q, fun _ => p⟩
  · rw [if_pos p, if_neg q] at e; exact absurd e (by decide)
  · rw [if_neg p, if_pos q] at e; exact absurd e (by decide)
  · exact ⟨fun a => absurd a p, fun a => absurd a q⟩)
theorem own_t {P : Prop} [Decidable P] (h : P) : some (Value.int 1) = some (Value.int (if P then (1 : Int32) else 0)) := by rw [if_pos h]
theorem own_f {P : Prop} [Decidable P] (h : ¬ P) : some (Value.int 0) = some (Value.int (if P then (1 : Int32) else 0)) := by rw [if_neg h]
end New
end Jvm.RoadKit
/- laws to paste: Road.backV (cut by pick.py; bodies as the Statement names them) -/
namespace Jvm.Pilot.@@N@@
namespace StrChars
open Jvm Sem ClassFile Op Lib Jvm.Stand Jvm.Free.XT Jvm.Free.ALB Jvm.Free.JM Jvm.Free
open Jvm.Lib.Cold (StaticIs)
/-- a char array whose places are chars -/
def Ch (a : Addr) (A : Cell) (U : State) : Prop := Arr .char a A U ∧ Typed .char A
theorem Ch.mv {a : Addr} {A : Cell} {U U' : State} (h : Ch a A U) (hal : U.vm.Alike U'.vm) (hh : U'.heap = U.heap) : Ch a A U' := ⟨h.1.mv hal hh, h.2⟩
theorem Ch.keep {a : Addr} {A : Cell} {U U' : State} (h : Ch a A U) (hal : U.vm.Alike U'.vm) (hk : U'.heap[a]? = some A) : Ch a A U' := ⟨h.1.keep hal hk, h.2⟩
/-- what place i of a char[]'s cell holds -/
def cv (A : Cell) (i : Nat) : Int32 := match A.slots[i]? with | some (.int x) => x | _ => 0
theorem Ch.get {a : Addr} {A : Cell} {U : State} (h : Ch a A U) {i : Nat} (hi : i < A.slots.size) : A.slots[i]? = some (.int (cv A i)) := by
  have e := Array.getElem?_eq_getElem hi
  have f := h.2 i _ e
  unfold cv; rw [e]
  generalize A.slots[i] = v at f
  cases v <;> simp [fits] at f ⊢
/-- the byte that i2b leaves of a char -/
def lo8 (x : Int32) : Int32 := x.toInt8.toInt32
theorem fits_lo8 (y : Int32) : fits .byte (.int (lo8 y)) = true := by
  have h1 := y.toInt8.le_toInt
  have h2 := y.toInt8.toInt_lt
  simp only [lo8, fits, Bool.and_eq_true, decide_eq_true_eq, Int32.le_iff_toInt_le, Int8.toInt_toInt32, show (-128 : Int32).toInt = -128 from by decide, show (127 : Int32).toInt = 127 from by decide]
  omega
/-- A' is A but that each place j of lo .. hi - 1 holds f j -/
def Laid (A A' : Cell) (lo hi : Nat) (f : Nat → Value) : Prop := A'.cls = A.cls ∧ A'.vm = A.vm ∧ A'.slots.size = A.slots.size ∧ ∀ i, A'.slots[i]? = if lo ≤ i ∧ i < hi then some (f i) else A.slots[i]?
theorem Laid.zero (A : Cell) (lo : Nat) (f : Nat → Value) : Laid A A lo (lo + 0) f := ⟨rfl, rfl, rfl, fun i => by rw [if_neg (by omega)]⟩
theorem Laid.step {A Ak : Cell} {lo k : Nat} {f : Nat → Value} {v : Value} (h : Laid A Ak lo k f) (hlo : lo ≤ k) (hk : k < Ak.slots.size) (hv : v = f k) : Laid A (Ak.setSlot k v) lo (k + 1) f := by
  refine ⟨h.1, h.2.1, by simpa [Cell.setSlot] using h.2.2.1, fun i => ?_⟩
  by_cases e : k = i
  · subst e; rw [Cell.slots_setSlot_self v hk, if_pos (by omega), hv]
  · rw [Cell.slots_setSlot_ne v e, h.2.2.2 i]
    by_cases q : lo ≤ i ∧ i < k
    · rw [if_pos q, if_pos (by omega)]
    · rw [if_neg q, if_neg (by omega)]
def U16 : String := "java/lang/StringUTF16"
namespace Cmp5
def yN : MethodName := ⟨"java/lang/StringUTF16", "compress", "([CI[BII)I"⟩
abbrev yB : ByteArray := jdk_52_method_21_code
theorem d0 : decode yB 0 = .ok (.iconst 0, 1) := by decide +kernel
theorem d1 : decode yB 1 = .ok (.istore 5, 2) := by decide +kernel
theorem d3 : decode yB 3 = .ok (.iload 5, 2) := by decide +kernel
theorem d5 : decode yB 5 = .ok (.iload 4, 2) := by decide +kernel
theorem d7 : decode yB 7 = .ok (.if_icmp (.ge) 37, 3) := by decide +kernel
theorem d10 : decode yB 10 = .ok (.aload_n 0, 1) := by decide +kernel
theorem d11 : decode yB 11 = .ok (.iload_n 1, 1) := by decide +kernel
theorem d12 : decode yB 12 = .ok (.caload, 1) := by decide +kernel
theorem d13 : decode yB 13 = .ok (.istore 6, 2) := by decide +kernel
theorem d15 : decode yB 15 = .ok (.iload 6, 2) := by decide +kernel
theorem d17 : decode yB 17 = .ok (.sipush 255, 3) := by decide +kernel
theorem d20 : decode yB 20 = .ok (.if_icmp (.le) 6, 3) := by decide +kernel
theorem d26 : decode yB 26 = .ok (.aload_n 2, 1) := by decide +kernel
theorem d27 : decode yB 27 = .ok (.iload_n 3, 1) := by decide +kernel
theorem d28 : decode yB 28 = .ok (.iload 6, 2) := by decide +kernel
theorem d30 : decode yB 30 = .ok (.i2b, 1) := by decide +kernel
theorem d31 : decode yB 31 = .ok (.bastore, 1) := by decide +kernel
theorem d32 : decode yB 32 = .ok (.iinc 1 1, 3) := by decide +kernel
theorem d35 : decode yB 35 = .ok (.iinc 3 1, 3) := by decide +kernel
theorem d38 : decode yB 38 = .ok (.iinc 5 1, 3) := by decide +kernel
theorem d41 : decode yB 41 = .ok (.goto (-38), 3) := by decide +kernel
theorem d44 : decode yB 44 = .ok (.iload 4, 2) := by decide +kernel
theorem d46 : decode yB 46 = .ok (.ireturn, 1) := by decide +kernel
def site : List Cond := []
def tab : Cond := tabOf yN yB 7 (some .int) site
def P (b : Addr) (A : Cell) (d : Addr) (B : Cell) (o q len : Nat) (args : Array Value) (s : State) : Prop := args = #[.ref b, .int (Int32.ofNat o), .ref d, .int (Int32.ofNat q), .int (Int32.ofNat len)] ∧ Ch b A s ∧ Arr .byte d B s ∧ b ≠ d ∧ o + len ≤ A.slots.size ∧ q + len ≤ B.slots.size ∧ ∀ i, i < len → ¬ 255 < cv A (o + i)
def E (b : Addr) (A : Cell) (d : Addr) (B : Cell) (o q len : Nat) (r : Option Value) (s u : State) : Prop := r = some (.int (Int32.ofNat len)) ∧ ∃ B', Put d B' s u ∧ Laid B B' q (q + len) (fun j => Value.int (lo8 (cv A (o + (j - q)))))
/-- no char of the range above 255: len; the places written hold each char's low byte -/
theorem law (l : Launch) (b : Addr) (A : Cell) (d : Addr) (B : Cell) (o q len : Nat) : Law l yN 5 5 0 0 yB 7 (some .int) site (P b A d B o q len) (E b A d B o q len) (copyLocs d q len) 0 0 := by
  refine Law.of_walk (plainFor_of_name (by decide +kernel)) (by decide +kernel) (by decide +kernel) (by decide) (fun _ _ h => by rw [h.1]; rfl) (fun _ U U' hal hh h => ⟨h.1, h.2.1.mv hal hh, h.2.2.1.mv hal hh, h.2.2.2⟩) (fun r U U' V V' h1 hal h2 h => ⟨h.1, h.2.elim fun B' q => ⟨B', q.1.mv h1 h2, q.2⟩⟩) ?_
  intro p e s m args below meth c s₁ X0 hexec hbytes hml hret hlk hnm hown hh0 W hP
  obtain ⟨rfl, hA, hB, hne, l1, l2, hp⟩ := hP
  have c1 : Steps p.tables e below (s₁.setTop (entryFrame m #[.ref b, .int (Int32.ofNat o), .ref d, .int (Int32.ofNat q), .int (Int32.ofNat len)] 7)) (s₁.setTop (mkF m 0 #[.val (.ref b), .val (.int (Int32.ofNat o)), .val (.ref d), .val (.int (Int32.ofNat q)), .val (.int (Int32.ofNat len)), .unset, .unset] [])) := entry rfl
  have hA0 := hA.1.mv X0.warmed.alike hh0
  have hB0 := hB.mv X0.warmed.alike hh0
  have a31 := hA.1.2.2.2
  have c2 : Steps p.tables e below (s₁.setTop (entryFrame m #[.ref b, .int (Int32.ofNat o), .ref d, .int (Int32.ofNat q), .int (Int32.ofNat len)] 7)) (s₁.setTop (mkF m 3 #[.val (.ref b), .val (.int (Int32.ofNat o)), .val (.ref d), .val (.int (Int32.ofNat q)), .val (.int (Int32.ofNat len)), .val (.int 0), .unset] [])) := c1.trans (by
    refine iconstV X0.here hexec rfl 0 (hb hbytes d0) (by decide) ?_
    refine XS.istore X0.here hexec rfl (hb hbytes d1) rfl rfl ?_
    exact Steps.refl _)
  have loop : ∀ (r i : Nat), i + r = len → ∀ (z : Slot), (z = .unset ∨ ∃ w, z = .val w ∧ w.category = 1) → ∀ (Tl : State) (Bk : Cell), Stand p l e { frames := 0, locals := 0, cells := 0, slots := 0 } s m #[.ref b, .int (Int32.ofNat o), .ref d, .int (Int32.ofNat q), .int (Int32.ofNat len)] below meth c Tl ([] ++ copyLocs d q i) 0 0 → Put d Bk s₁ Tl → Laid B Bk q (q + i) (fun j => Value.int (lo8 (cv A (o + (j - q))))) →
      Steps p.tables e below (s₁.setTop (entryFrame m #[.ref b, .int (Int32.ofNat o), .ref d, .int (Int32.ofNat q), .int (Int32.ofNat len)] 7)) (Tl.setTop (mkF m 3 #[.val (.ref b), .val (.int (Int32.ofNat (o + i))), .val (.ref d), .val (.int (Int32.ofNat (q + i))), .val (.int (Int32.ofNat len)), .val (.int (Int32.ofNat i)), z] [])) → ∃ (T' : State) (B' : Cell) (z' : Slot), Stand p l e { frames := 0, locals := 0, cells := 0, slots := 0 } s m #[.ref b, .int (Int32.ofNat o), .ref d, .int (Int32.ofNat q), .int (Int32.ofNat len)] below meth c T' ([] ++ copyLocs d q len) 0 0 ∧ Put d B' s₁ T' ∧ Laid B B' q (q + len) (fun j => Value.int (lo8 (cv A (o + (j - q))))) ∧
      Steps p.tables e below (s₁.setTop (entryFrame m #[.ref b, .int (Int32.ofNat o), .ref d, .int (Int32.ofNat q), .int (Int32.ofNat len)] 7)) (T'.setTop (mkF m 3 #[.val (.ref b), .val (.int (Int32.ofNat (o + len))), .val (.ref d), .val (.int (Int32.ofNat (q + len))), .val (.int (Int32.ofNat len)), .val (.int (Int32.ofNat len)), z'] [])) := by
    intro r
    induction r with
    | zero =>
      intro i hi z hz Tl Bk Xl pl fl cl
      have hil : i = len := by omega
      rw [hil] at Xl fl cl
      exact ⟨Tl, Bk, z, Xl, pl, fl, cl⟩
    | succ r ih =>
      intro i hi z hz Tl Bk Xl pl fl cl
      have all := X0.warmed.alike.symm.trans Xl.warmed.alike
      have hAl := hA0.keep all (pl.other hne hA0.1)
      have hBk := hB0.like all pl.1 fl.1 fl.2.1 fl.2.2.1
      have hlt : q + i < Bk.slots.size := by rw [fl.2.2.1]; omega
      have c3 : Steps p.tables e below (s₁.setTop (entryFrame m #[.ref b, .int (Int32.ofNat o), .ref d, .int (Int32.ofNat q), .int (Int32.ofNat len)] 7)) (Tl.setTop (mkF m 12 #[.val (.ref b), .val (.int (Int32.ofNat (o + i))), .val (.ref d), .val (.int (Int32.ofNat (q + i))), .val (.int (Int32.ofNat len)), .val (.int (Int32.ofNat i)), z] [.int (Int32.ofNat (o + i)), .ref b])) := cl.trans (by
        refine XS.iload Xl.here hexec rfl (hb hbytes d3) rfl ?_
        refine XS.iload Xl.here hexec rfl (hb hbytes d5) rfl ?_
        refine XS.icmpNo Xl.here hexec rfl (hb hbytes d7) rfl (ii_ge_f (lt32 (by omega) (by omega))) ?_
        refine XS.aloadN Xl.here hexec rfl (hb hbytes d10) rfl rfl ?_
        refine XS.iloadN Xl.here hexec rfl (hb hbytes d11) rfl ?_
        exact Steps.refl _)
      have c4 : Steps p.tables e below (s₁.setTop (entryFrame m #[.ref b, .int (Int32.ofNat o), .ref d, .int (Int32.ofNat q), .int (Int32.ofNat len)] 7)) (Tl.setTop (mkF m 13 #[.val (.ref b), .val (.int (Int32.ofNat (o + i))), .val (.ref d), .val (.int (Int32.ofNat (q + i))), .val (.int (Int32.ofNat len)), .val (.int (Int32.ofNat i)), z] [.int (cv A (o + i))])) := c3.trans (by
        refine Xl.aget hexec hAl rfl (hA.get (i := o + i) (by omega)) rfl rfl (hb hbytes d12) ?_
        exact Steps.refl _)
      have c5 : Steps p.tables e below (s₁.setTop (entryFrame m #[.ref b, .int (Int32.ofNat o), .ref d, .int (Int32.ofNat q), .int (Int32.ofNat len)] 7)) (Tl.setTop (mkF m 15 #[.val (.ref b), .val (.int (Int32.ofNat (o + i))), .val (.ref d), .val (.int (Int32.ofNat (q + i))), .val (.int (Int32.ofNat len)), .val (.int (Int32.ofNat i)), .val (.int (cv A (o + i)))] [])) := c4.trans (by
        refine XS.istoreS Xl.here hexec rfl (hb hbytes d13) rfl rfl hz ?_
        exact Steps.refl _)
      have c6 : Steps p.tables e below (s₁.setTop (entryFrame m #[.ref b, .int (Int32.ofNat o), .ref d, .int (Int32.ofNat q), .int (Int32.ofNat len)] 7)) (Tl.setTop (mkF m 31 #[.val (.ref b), .val (.int (Int32.ofNat (o + i))), .val (.ref d), .val (.int (Int32.ofNat (q + i))), .val (.int (Int32.ofNat len)), .val (.int (Int32.ofNat i)), .val (.int (cv A (o + i)))] [.int (lo8 (cv A (o + i))), .int (Int32.ofNat (q + i)), .ref d])) := c5.trans (by
        refine XS.iload Xl.here hexec rfl (hb hbytes d15) rfl ?_
        refine sipushV Xl.here hexec rfl 255 (hb hbytes d17) (by decide) ?_
        refine XS.icmpYes Xl.here hexec rfl (pc0 := 20) rfl (hb hbytes d20) rfl (ii_le_t (hp i (by omega))) (by decide) rfl ?_
        refine XS.aloadN Xl.here hexec rfl (hb hbytes d26) rfl rfl ?_
        refine XS.iloadN Xl.here hexec rfl (hb hbytes d27) rfl ?_
        refine XS.iload Xl.here hexec rfl (hb hbytes d28) rfl ?_
        refine i2b Xl.here hexec rfl (hb hbytes d30) rfl ?_
        exact Steps.refl _)
      obtain ⟨T7, X7, p7, st7⟩ := Xl.aput hexec hBk rfl hlt rfl (fits_lo8 (cv A (o + i))) (g := (mkF m 31 #[.val (.ref b), .val (.int (Int32.ofNat (o + i))), .val (.ref d), .val (.int (Int32.ofNat (q + i))), .val (.int (Int32.ofNat len)), .val (.int (Int32.ofNat i)), .val (.int (cv A (o + i)))] [.int (lo8 (cv A (o + i))), .int (Int32.ofNat (q + i)), .ref d])) rfl (rest := []) rfl (hb hbytes d31)
      have c8 : Steps p.tables e below (s₁.setTop (entryFrame m #[.ref b, .int (Int32.ofNat o), .ref d, .int (Int32.ofNat q), .int (Int32.ofNat len)] 7)) (T7.setTop (mkF m 32 #[.val (.ref b), .val (.int (Int32.ofNat (o + i))), .val (.ref d), .val (.int (Int32.ofNat (q + i))), .val (.int (Int32.ofNat len)), .val (.int (Int32.ofNat i)), .val (.int (cv A (o + i)))] [])) := c6.trans (st7 _ (Steps.refl _))
      have c9 : Steps p.tables e below (s₁.setTop (entryFrame m #[.ref b, .int (Int32.ofNat o), .ref d, .int (Int32.ofNat q), .int (Int32.ofNat len)] 7)) (T7.setTop (mkF m 3 #[.val (.ref b), .val (.int (Int32.ofNat (o + i) + 1)), .val (.ref d), .val (.int (Int32.ofNat (q + i) + 1)), .val (.int (Int32.ofNat len)), .val (.int (Int32.ofNat i + 1)), .val (.int (cv A (o + i)))] [])) := c8.trans (by
        refine iincV X7.here hexec rfl 1 (hb hbytes d32) (by decide) rfl rfl ?_
        refine iincV X7.here hexec rfl 1 (hb hbytes d35) (by decide) rfl rfl ?_
        refine iincV X7.here hexec rfl 1 (hb hbytes d38) (by decide) rfl rfl ?_
        refine XS.goto X7.here hexec rfl (pc0 := 41) rfl (hb hbytes d41) (by decide) rfl ?_
        exact Steps.refl _)
      have c10 : Steps p.tables e below (s₁.setTop (entryFrame m #[.ref b, .int (Int32.ofNat o), .ref d, .int (Int32.ofNat q), .int (Int32.ofNat len)] 7)) (T7.setTop (mkF m 3 #[.val (.ref b), .val (.int (Int32.ofNat (o + (i + 1)))), .val (.ref d), .val (.int (Int32.ofNat (q + (i + 1)))), .val (.int (Int32.ofNat len)), .val (.int (Int32.ofNat (i + 1))), .val (.int (cv A (o + i)))] [])) := by
        have := c9
        rw [succ32, succ32, succ32] at this
        exact this
      exact ih (i + 1) (by omega) _ (Or.inr ⟨_, rfl, rfl⟩) T7 _ (by rw [copyLocs_step, ← List.append_assoc]; exact X7) (pl.trans p7) (fl.step (by omega) hlt (by simp)) c10
  obtain ⟨T9, B9, z9, X9, p9, f9, g9⟩ := loop len 0 (by omega) .unset (Or.inl rfl) s₁ B (by simpa [copyLocs] using X0) ⟨hB0.1, fun _ _ => rfl, rfl⟩ (Laid.zero _ _ _) c2
  have c11 : Steps p.tables e below (s₁.setTop (entryFrame m #[.ref b, .int (Int32.ofNat o), .ref d, .int (Int32.ofNat q), .int (Int32.ofNat len)] 7)) (T9.setTop (mkF m 46 #[.val (.ref b), .val (.int (Int32.ofNat (o + len))), .val (.ref d), .val (.int (Int32.ofNat (q + len))), .val (.int (Int32.ofNat len)), .val (.int (Int32.ofNat len)), z9] [.int (Int32.ofNat len)])) := g9.trans (by
    refine XS.iload X9.here hexec rfl (hb hbytes d3) rfl ?_
    refine XS.iload X9.here hexec rfl (hb hbytes d5) rfl ?_
    refine XS.icmpYes X9.here hexec rfl (pc0 := 7) rfl (hb hbytes d7) rfl (ii_ge_t (nlt32 (by omega) (Nat.le_refl _))) (by decide) rfl ?_
    refine XS.iload X9.here hexec rfl (hb hbytes d44) rfl ?_
    exact Steps.refl _)
  exact ⟨T9, some (.int (Int32.ofNat len)), _, _, _, X9, by simp, rfl, rfl, (fun h => by cases h), ⟨rfl, B9, p9.from hh0, f9⟩, fun fs hl => c11.trans (X9.ireturnOut hexec hret rfl (Or.inl rfl) (hb hbytes d46) hl)⟩
end Cmp5
namespace Cmp3
def yN : MethodName := ⟨"java/lang/StringUTF16", "compress", "([CII)[B"⟩
abbrev yB : ByteArray := jdk_52_method_16_code
theorem d0 : decode yB 0 = .ok (.iload_n 2, 1) := by decide +kernel
theorem d1 : decode yB 1 = .ok (.newarray .byte, 2) := by decide +kernel
theorem d3 : decode yB 3 = .ok (.astore_n 3, 1) := by decide +kernel
theorem d4 : decode yB 4 = .ok (.aload_n 0, 1) := by decide +kernel
theorem d5 : decode yB 5 = .ok (.iload_n 1, 1) := by decide +kernel
theorem d6 : decode yB 6 = .ok (.aload_n 3, 1) := by decide +kernel
theorem d7 : decode yB 7 = .ok (.iconst 0, 1) := by decide +kernel
theorem d8 : decode yB 8 = .ok (.iload_n 2, 1) := by decide +kernel
theorem d9 : decode yB 9 = .ok (.invokestatic 115, 3) := by decide +kernel
theorem d12 : decode yB 12 = .ok (.istore 4, 2) := by decide +kernel
theorem d14 : decode yB 14 = .ok (.iload 4, 2) := by decide +kernel
theorem d16 : decode yB 16 = .ok (.iload_n 2, 1) := by decide +kernel
theorem d17 : decode yB 17 = .ok (.if_icmp (.eq) 40, 3) := by decide +kernel
theorem d57 : decode yB 57 = .ok (.aload_n 3, 1) := by decide +kernel
theorem d58 : decode yB 58 = .ok (.areturn, 1) := by decide +kernel
def site : List Cond := [.arrayClass .byte, Cmp5.tab] ++ staticW U16 115 Cmp5.yN
def tab : Cond := tabOf yN yB 6 (some (.array .byte)) site
def P (b : Addr) (A : Cell) (o len : Nat) (args : Array Value) (s : State) : Prop := args = #[.ref b, .int (Int32.ofNat o), .int (Int32.ofNat len)] ∧ Ch b A s ∧ o + len ≤ A.slots.size ∧ len ≤ 536870912 ∧ ∀ i, i < len → ¬ 255 < cv A (o + i)
def E (b : Addr) (A : Cell) (o len : Nat) (r : Option Value) (s u : State) : Prop := NewArr .byte "[B" len (fun j => .int (lo8 (cv A (o + j)))) r s u ∧ u.heap.size = s.heap.size + 1
/-- no char of the range above 255: a new byte[] of their low bytes -/
theorem law (l : Launch) (b : Addr) (A : Cell) (o len : Nat) : Law l yN 3 3 1 18 yB 6 (some (.array .byte)) site (P b A o len) (E b A o len) [] 1 len := by
  refine Law.of_walk (plainFor_of_name (by decide +kernel)) (by decide +kernel) (by decide +kernel) (by decide) (fun _ _ h => by rw [h.1]; rfl) (fun _ U U' hal hh h => ⟨h.1, h.2.1.mv hal hh, h.2.2⟩) (fun r U U' V V' h1 hal h2 h => ⟨NewArr.mv r U U' V V' h1 hal h2 h.1, by rw [h1, h2]; exact h.2⟩) ?_
  intro p e s m args below meth c s₁ X0 hexec hbytes hml hret hlk hnm hown hh0 W hP
  obtain ⟨rfl, hA, l1, l2, hp⟩ := hP
  have a31 := hA.1.2.2.2
  have c1 : Steps p.tables e below (s₁.setTop (entryFrame m #[.ref b, .int (Int32.ofNat o), .int (Int32.ofNat len)] 6)) (s₁.setTop (mkF m 0 #[.val (.ref b), .val (.int (Int32.ofNat o)), .val (.int (Int32.ofNat len)), .unset, .unset, .unset] [])) := entry rfl
  have c2 : Steps p.tables e below (s₁.setTop (entryFrame m #[.ref b, .int (Int32.ofNat o), .int (Int32.ofNat len)] 6)) (s₁.setTop (mkF m 1 #[.val (.ref b), .val (.int (Int32.ofNat o)), .val (.int (Int32.ofNat len)), .unset, .unset, .unset] [.int (Int32.ofNat len)])) := c1.trans (by
    refine XS.iloadN X0.here hexec rfl (hb hbytes d0) rfl ?_
    exact Steps.refl _)
  obtain ⟨T3, B3, X3, ba3, bs3, bv3, bh3, bf3, st3⟩ := X0.anew hexec (atype := .byte) (wk W (.arrayClass .byte)) rfl (by show len * 1 ≤ _; omega) (by omega) (g := (mkF m 1 #[.val (.ref b), .val (.int (Int32.ofNat o)), .val (.int (Int32.ofNat len)), .unset, .unset, .unset] [.int (Int32.ofNat len)])) rfl (hb hbytes d1) (rest := []) rfl (Nat.le_refl _) (by show 0 + len ≤ len; omega)
  rw [hh0] at ba3 st3
  have kp3 : XT.Kept s T3 := (XT.Kept.of_eq hh0).push bh3
  have hA3 := hA.keep X3.warmed.alike (kp3 _ _ hA.1.1)
  have hne : b ≠ s.heap.size := hA.1.ne
  have c4 : Steps p.tables e below (s₁.setTop (entryFrame m #[.ref b, .int (Int32.ofNat o), .int (Int32.ofNat len)] 6)) (T3.setTop (mkF m 3 #[.val (.ref b), .val (.int (Int32.ofNat o)), .val (.int (Int32.ofNat len)), .unset, .unset, .unset] [.ref s.heap.size])) := c2.trans (st3 _ (Steps.refl _))
  have c5 : Steps p.tables e below (s₁.setTop (entryFrame m #[.ref b, .int (Int32.ofNat o), .int (Int32.ofNat len)] 6)) (T3.setTop (mkF m 9 #[.val (.ref b), .val (.int (Int32.ofNat o)), .val (.int (Int32.ofNat len)), .val (.ref s.heap.size), .unset, .unset] [.int (Int32.ofNat len), .int 0, .ref s.heap.size, .int (Int32.ofNat o), .ref b])) := c4.trans (by
    refine XS.astoreN X3.here hexec rfl (hb hbytes d3) rfl rfl rfl ?_
    refine XS.aloadN X3.here hexec rfl (hb hbytes d4) rfl rfl ?_
    refine XS.iloadN X3.here hexec rfl (hb hbytes d5) rfl ?_
    refine XS.aloadN X3.here hexec rfl (hb hbytes d6) rfl rfl ?_
    refine iconstV X3.here hexec rfl 0 (hb hbytes d7) (by decide) ?_
    refine XS.iloadN X3.here hexec rfl (hb hbytes d8) rfl ?_
    exact Steps.refl _)
  obtain ⟨v6, T6, X6, E6, g6⟩ := X3.callS hexec (Cmp5.law l b A s.heap.size B3 o 0 len) hown (wks W (staticW U16 115 Cmp5.yN)) (wk W Cmp5.tab) (W := 0) (Nat.le_of_ble_eq_true rfl) (Nat.le_of_ble_eq_true rfl) (Nat.le_refl _) (by show 0 + len + 0 ≤ len; omega) (g := (mkF m 9 #[.val (.ref b), .val (.int (Int32.ofNat o)), .val (.int (Int32.ofNat len)), .val (.ref s.heap.size), .unset, .unset] [.int (Int32.ofNat len), .int (Int32.ofNat 0), .ref s.heap.size, .int (Int32.ofNat o), .ref b])) rfl (by rw [hml]; rfl) c5 (argsL := [.ref b, .int (Int32.ofNat o), .ref s.heap.size, .int (Int32.ofNat 0), .int (Int32.ofNat len)]) (rest := []) rfl rfl (by show 2 * 0 + 0 ≤ _; decide) (hb hbytes d9) (⟨rfl, hA3, ba3, hne, l1, by rw [bs3]; simp, hp⟩)
  obtain ⟨rfl, B6, p6, f6⟩ := E6
  have c7 : Steps p.tables e below (s₁.setTop (entryFrame m #[.ref b, .int (Int32.ofNat o), .int (Int32.ofNat len)] 6)) (T6.setTop (mkF m 12 #[.val (.ref b), .val (.int (Int32.ofNat o)), .val (.int (Int32.ofNat len)), .val (.ref s.heap.size), .unset, .unset] [.int (Int32.ofNat len)])) := g6
  have c8 : Steps p.tables e below (s₁.setTop (entryFrame m #[.ref b, .int (Int32.ofNat o), .int (Int32.ofNat len)] 6)) (T6.setTop (mkF m 58 #[.val (.ref b), .val (.int (Int32.ofNat o)), .val (.int (Int32.ofNat len)), .val (.ref s.heap.size), .val (.int (Int32.ofNat len)), .unset] [.ref s.heap.size])) := c7.trans (by
    refine XS.istore X6.here hexec rfl (hb hbytes d12) rfl rfl ?_
    refine XS.iload X6.here hexec rfl (hb hbytes d14) rfl ?_
    refine XS.iloadN X6.here hexec rfl (hb hbytes d16) rfl ?_
    refine XS.icmpYes X6.here hexec rfl (pc0 := 17) rfl (hb hbytes d17) rfl (ii_eq_t rfl) (by decide) rfl ?_
    refine XS.aloadN X6.here hexec rfl (hb hbytes d57) rfl rfl ?_
    exact Steps.refl _)
  have X8 := X6.wide (L' := []) (cells' := 1) (slots' := len) (fun x hx hlt => by
    simp only [List.nil_append, copyLocs, List.mem_map, List.mem_range] at hx
    obtain ⟨i, -, rfl⟩ := hx
    exact absurd hlt (Nat.lt_irrefl _)) (Nat.le_refl _) (by omega)
  exact ⟨T6, some (.ref s.heap.size), _, _, _, X8, rfl, rfl, rfl, (fun h => by cases h), ⟨⟨rfl, B6, ba3.like (X3.warmed.alike.symm.trans X6.warmed.alike) p6.1 f6.1 f6.2.1 f6.2.2.1, f6.2.1.trans bv3, by rw [X6.warmed.alike.findClass, f6.1]; exact bf3, by rw [f6.2.2.1, bs3]; simp, fun j hj => by rw [f6.2.2.2 j, if_pos (by omega)]; rfl, kp3.put p6 (Nat.le_refl _)⟩, by rw [p6.2.2, bh3, hh0]; simp⟩, fun fs hl => c8.trans (X8.areturnOut hexec rfl hret rfl (hb hbytes d58) hl)⟩
end Cmp3
namespace CodL
def yN : MethodName := ⟨"java/lang/StringUTF16", "coderFromArrayLen", "([BI)B"⟩
abbrev yB : ByteArray := jdk_52_method_15_code
theorem d0 : decode yB 0 = .ok (.iload_n 1, 1) := by decide +kernel
theorem d1 : decode yB 1 = .ok (.aload_n 0, 1) := by decide +kernel
theorem d2 : decode yB 2 = .ok (.arraylength, 1) := by decide +kernel
theorem d3 : decode yB 3 = .ok (.isub, 1) := by decide +kernel
theorem d4 : decode yB 4 = .ok (.bipush 31, 2) := by decide +kernel
theorem d6 : decode yB 6 = .ok (.iushr, 1) := by decide +kernel
theorem d7 : decode yB 7 = .ok (.i2b, 1) := by decide +kernel
theorem d8 : decode yB 8 = .ok (.ireturn, 1) := by decide +kernel
def site : List Cond := []
def tab : Cond := tabOf yN yB 2 (some .byte) site
def P (d : Addr) (B : Cell) (args : Array Value) (s : State) : Prop := args = #[.ref d, .int (Int32.ofNat B.slots.size)] ∧ Arr .byte d B s
def E (r : Option Value) (s u : State) : Prop := XT.PureE (some (.int 0)) r s u
/-- an array as long as the number of chars: LATIN1 -/
theorem law (l : Launch) (d : Addr) (B : Cell) : Law l yN 2 2 0 0 yB 2 (some .byte) site (P d B) E [] 0 0 := by
  refine Law.of_walk (plainFor_of_name (by decide +kernel)) (by decide +kernel) (by decide +kernel) (by decide) (fun _ _ h => by rw [h.1]; rfl) (fun _ U U' hal hh h => ⟨h.1, h.2.mv hal hh⟩) (fun r U U' V V' h1 hal h2 h => XT.PureE.mv r U U' V V' h1 hal h2 h) ?_
  intro p e s m args below meth c s₁ X0 hexec hbytes hml hret hlk hnm hown hh0 W hP
  obtain ⟨rfl, hB⟩ := hP
  have hB0 := hB.mv X0.warmed.alike hh0
  have c1 : Steps p.tables e below (s₁.setTop (entryFrame m #[.ref d, .int (Int32.ofNat B.slots.size)] 2)) (s₁.setTop (mkF m 0 #[.val (.ref d), .val (.int (Int32.ofNat B.slots.size))] [])) := entry rfl
  have c2 : Steps p.tables e below (s₁.setTop (entryFrame m #[.ref d, .int (Int32.ofNat B.slots.size)] 2)) (s₁.setTop (mkF m 2 #[.val (.ref d), .val (.int (Int32.ofNat B.slots.size))] [.ref d, .int (Int32.ofNat B.slots.size)])) := c1.trans (by
    refine XS.iloadN X0.here hexec rfl (hb hbytes d0) rfl ?_
    refine XS.aloadN X0.here hexec rfl (hb hbytes d1) rfl rfl ?_
    exact Steps.refl _)
  have c3 : Steps p.tables e below (s₁.setTop (entryFrame m #[.ref d, .int (Int32.ofNat B.slots.size)] 2)) (s₁.setTop (mkF m 8 #[.val (.ref d), .val (.int (Int32.ofNat B.slots.size))] [.int (lo8 (ushr (Int32.ofNat B.slots.size - Int32.ofNat B.slots.size) 31))])) := c2.trans (by
    refine X0.alen hexec hB0 rfl rfl (hb hbytes d2) ?_
    refine XS.isub X0.here hexec rfl (hb hbytes d3) rfl ?_
    refine bipushV X0.here hexec rfl 31 (hb hbytes d4) (by decide) ?_
    refine iushr X0.here hexec rfl (hb hbytes d6) rfl ?_
    refine i2b X0.here hexec rfl (hb hbytes d7) rfl ?_
    exact Steps.refl _)
  have e0 : lo8 (ushr (Int32.ofNat B.slots.size - Int32.ofNat B.slots.size) 31) = 0 := by rw [Int32.sub_self]; decide
  rw [e0] at c3
  exact ⟨s₁, some (.int 0), _, _, _, X0, rfl, rfl, rfl, (fun h => by cases h), ⟨rfl, hh0⟩, fun fs hl => c3.trans (X0.ireturnOut hexec hret rfl (Or.inr (Or.inr (Or.inl rfl))) (hb hbytes d8) hl)⟩
end CodL
/-- the String at a is Latin-1 over a new byte[] (the heap's one new cell): the low bytes of the len chars of A from o on; every cell but a is kept -/
def Got (a : Addr) (D : Cell) (fV fC : Field) (A : Cell) (o len : Nat) (r : Option Value) (s u : State) : Prop := r = none ∧ ∃ D' V : Cell, Blank "java/lang/String" a D' u ∧ Same D D' [fV.slot, fC.slot] ∧ D'.slots[fV.slot]? = some (.ref s.heap.size) ∧ D'.slots[fC.slot]? = some (.int 0) ∧ Arr .byte s.heap.size V u ∧ V.vm = .none ∧ u.vm.findClass "[B" = some V.cls ∧ V.slots.size = len ∧ (∀ j, j < len → V.slots[j]? = some (.int (lo8 (cv A (o + j))))) ∧ (∀ (y : Addr) (c : Cell), y ≠ a → s.heap[y]? = some c → u.heap[y]? = some c) ∧ u.heap.size = s.heap.size + 1
theorem Got.mv {a : Addr} {D A : Cell} {fV fC : Field} {o len : Nat} : ∀ r (U U' V V' : State), U'.heap = U.heap → V.vm.Alike V'.vm → V'.heap = V.heap → Got a D fV fC A o len r U V → Got a D fV fC A o len r U' V' :=
  fun r U U' V V' h1 hal h2 ⟨e0, D', X, a1, a2, a3, a4, a5, a6, a7, a8, a9, a10, a11⟩ => ⟨e0, D', X, a1.mv hal h2, a2, by rw [h1]; exact a3, a4, by rw [h1]; exact a5.mv hal h2, a6, by rw [hal.findClass]; exact a7, a8, a9, by rw [h1, h2]; exact a10, by rw [h1, h2]; exact a11⟩
namespace New4
def yN : MethodName := ⟨"java/lang/String", "<init>", "([CIILjava/lang/Void;)V"⟩
abbrev yB : ByteArray := jdk_42_method_149_code
theorem d0 : decode yB 0 = .ok (.aload_n 0, 1) := by decide +kernel
theorem d1 : decode yB 1 = .ok (.invokespecial 1, 3) := by decide +kernel
theorem d4 : decode yB 4 = .ok (.iload_n 3, 1) := by decide +kernel
theorem d5 : decode yB 5 = .ok (.ifCond (.ne) 22, 3) := by decide +kernel
theorem d27 : decode yB 27 = .ok (.getstatic 38, 3) := by decide +kernel
theorem d30 : decode yB 30 = .ok (.ifCond (.eq) 28, 3) := by decide +kernel
theorem d33 : decode yB 33 = .ok (.aload_n 1, 1) := by decide +kernel
theorem d34 : decode yB 34 = .ok (.iload_n 2, 1) := by decide +kernel
theorem d35 : decode yB 35 = .ok (.iload_n 3, 1) := by decide +kernel
theorem d36 : decode yB 36 = .ok (.invokestatic 177, 3) := by decide +kernel
theorem d39 : decode yB 39 = .ok (.astore 5, 2) := by decide +kernel
theorem d41 : decode yB 41 = .ok (.aload_n 0, 1) := by decide +kernel
theorem d42 : decode yB 42 = .ok (.aload 5, 2) := by decide +kernel
theorem d44 : decode yB 44 = .ok (.iload_n 3, 1) := by decide +kernel
theorem d45 : decode yB 45 = .ok (.invokestatic 47, 3) := by decide +kernel
theorem d48 : decode yB 48 = .ok (.putfield 15, 3) := by decide +kernel
theorem d51 : decode yB 51 = .ok (.aload_n 0, 1) := by decide +kernel
theorem d52 : decode yB 52 = .ok (.aload 5, 2) := by decide +kernel
theorem d54 : decode yB 54 = .ok (.putfield 9, 3) := by decide +kernel
theorem d57 : decode yB 57 = .ok (.return_, 1) := by decide +kernel
def site : List Cond := [.fieldLink "java/lang/String" 38 "java/lang/String" "COMPACT_STRINGS" "Z", Cmp3.tab, CodL.tab, .laysFinal "java/lang/String" "java/lang/String" "value" "[B", .fieldLink "java/lang/String" 9 "java/lang/String" "value" "[B", .laysFinal "java/lang/String" "java/lang/String" "coder" "B", .fieldLink "java/lang/String" 15 "java/lang/String" "coder" "B"] ++ objW "java/lang/String" 1 ++ staticW "java/lang/String" 177 Cmp3.yN ++ staticW "java/lang/String" 47 CodL.yN
def tab : Cond := tabOf yN yB 6 none site
def P (a : Addr) (D : Cell) (fV fC : Field) (b : Addr) (A : Cell) (z : Int32) (o len : Nat) (args : Array Value) (s : State) : Prop := args = #[.ref a, .ref b, .int (Int32.ofNat o), .int (Int32.ofNat len), .null] ∧ Blank "java/lang/String" a D s ∧ Found "java/lang/String" "value" "[B" fV s ∧ Found "java/lang/String" "coder" "B" fC s ∧ Ch b A s ∧ StaticIs s "java/lang/String" "COMPACT_STRINGS" "Z" (.int z) ∧ ¬ z = 0 ∧ 0 < len ∧ o + len ≤ A.slots.size ∧ len ≤ 536870912 ∧ ∀ i, i < len → ¬ 255 < cv A (o + i)
def E (a : Addr) (D : Cell) (fV fC : Field) (A : Cell) (o len : Nat) (r : Option Value) (s u : State) : Prop := Got a D fV fC A o len r s u
/-- len > 0, no char of the range above 255: a Latin-1 String of their low bytes -/
theorem law (l : Launch) (a : Addr) (D : Cell) (fV fC : Field) (b : Addr) (A : Cell) (z : Int32) (o len : Nat) : Law l yN 5 4 2 35 yB 6 none site (P a D fV fC b A z o len) (E a D fV fC A o len) [⟨a, fC.slot⟩, ⟨a, fV.slot⟩] 1 len := by
  refine Law.of_walk (plainFor_of_name (by decide +kernel)) (by decide +kernel) (by decide +kernel) (by decide) (fun _ _ h => by rw [h.1]; rfl) (fun _ U U' hal hh h => ⟨h.1, h.2.1.mv hal hh, h.2.2.1.al hal, h.2.2.2.1.al hal, h.2.2.2.2.1.mv hal hh, h.2.2.2.2.2.1.there hal hh, h.2.2.2.2.2.2⟩) (fun r U U' V V' h1 hal h2 h => Got.mv r U U' V V' h1 hal h2 h) ?_
  intro p e s m args below meth c s₁ X0 hexec hbytes hml hret hlk hnm hown hh0 W hP
  obtain ⟨rfl, hB, f1, f2, hA, s1, hz, l0, l1, l2, hp⟩ := hP
  have a31 := hA.1.2.2.2
  have c1 : Steps p.tables e below (s₁.setTop (entryFrame m #[.ref a, .ref b, .int (Int32.ofNat o), .int (Int32.ofNat len), .null] 6)) (s₁.setTop (mkF m 0 #[.val (.ref a), .val (.ref b), .val (.int (Int32.ofNat o)), .val (.int (Int32.ofNat len)), .val .null, .unset] [])) := entry rfl
  have c2 : Steps p.tables e below (s₁.setTop (entryFrame m #[.ref a, .ref b, .int (Int32.ofNat o), .int (Int32.ofNat len), .null] 6)) (s₁.setTop (mkF m 1 #[.val (.ref a), .val (.ref b), .val (.int (Int32.ofNat o)), .val (.int (Int32.ofNat len)), .val .null, .unset] [.ref a])) := c1.trans (by
    refine XS.aloadN X0.here hexec rfl (hb hbytes d0) rfl rfl ?_
    exact Steps.refl _)
  obtain ⟨T3, X3, q3, st3⟩ := X0.oinit hexec hown (wks W (objW "java/lang/String" 1)) (g := (mkF m 1 #[.val (.ref a), .val (.ref b), .val (.int (Int32.ofNat o)), .val (.int (Int32.ofNat len)), .val .null, .unset] [.ref a])) rfl (by rw [hml]; rfl) (rest := []) rfl (hb hbytes d1) (W := 0) (by show 2 * 0 + 0 ≤ _; decide) (Nat.le_of_ble_eq_true rfl) (Nat.le_of_ble_eq_true rfl)
  have hh3 := q3.trans hh0
  have c4 : Steps p.tables e below (s₁.setTop (entryFrame m #[.ref a, .ref b, .int (Int32.ofNat o), .int (Int32.ofNat len), .null] 6)) (T3.setTop (mkF m 27 #[.val (.ref a), .val (.ref b), .val (.int (Int32.ofNat o)), .val (.int (Int32.ofNat len)), .val .null, .unset] [])) := (c2.trans (st3 _ (Steps.refl _))).trans (by
    refine XS.iloadN X3.here hexec rfl (hb hbytes d4) rfl ?_
    refine XS.ifYes X3.here hexec rfl (pc0 := 5) rfl (hb hbytes d5) rfl (i0_ne_t (nz32 (by omega) l0)) (by decide) rfl ?_
    exact Steps.refl _)
  obtain ⟨T5, X5, q5, st5⟩ := X3.sget hexec hown (wk W (.fieldLink "java/lang/String" 38 "java/lang/String" "COMPACT_STRINGS" "Z")) s1 (fun _ _ h => by rw [hh3]; exact h) (g := (mkF m 27 #[.val (.ref a), .val (.ref b), .val (.int (Int32.ofNat o)), .val (.int (Int32.ofNat len)), .val .null, .unset] [])) rfl (hb hbytes d27)
  have hh5 := q5.trans hh3
  have c6 : Steps p.tables e below (s₁.setTop (entryFrame m #[.ref a, .ref b, .int (Int32.ofNat o), .int (Int32.ofNat len), .null] 6)) (T5.setTop (mkF m 30 #[.val (.ref a), .val (.ref b), .val (.int (Int32.ofNat o)), .val (.int (Int32.ofNat len)), .val .null, .unset] [.int z])) := c4.trans (st5 _ (Steps.refl _))
  have c7 : Steps p.tables e below (s₁.setTop (entryFrame m #[.ref a, .ref b, .int (Int32.ofNat o), .int (Int32.ofNat len), .null] 6)) (T5.setTop (mkF m 36 #[.val (.ref a), .val (.ref b), .val (.int (Int32.ofNat o)), .val (.int (Int32.ofNat len)), .val .null, .unset] [.int (Int32.ofNat len), .int (Int32.ofNat o), .ref b])) := c6.trans (by
    refine XS.ifNo X5.here hexec rfl (hb hbytes d30) rfl (i0_eq_f hz) ?_
    refine XS.aloadN X5.here hexec rfl (hb hbytes d33) rfl rfl ?_
    refine XS.iloadN X5.here hexec rfl (hb hbytes d34) rfl ?_
    refine XS.iloadN X5.here hexec rfl (hb hbytes d35) rfl ?_
    exact Steps.refl _)
  obtain ⟨v8, T8, X8, E8, g8⟩ := X5.callS hexec (Cmp3.law l b A o len) hown (wks W (staticW "java/lang/String" 177 Cmp3.yN)) (wk W Cmp3.tab) (W := 0) (Nat.le_of_ble_eq_true rfl) (Nat.le_of_ble_eq_true rfl) (Nat.le_refl _) (by show 0 + len ≤ len; omega) (g := (mkF m 36 #[.val (.ref a), .val (.ref b), .val (.int (Int32.ofNat o)), .val (.int (Int32.ofNat len)), .val .null, .unset] [.int (Int32.ofNat len), .int (Int32.ofNat o), .ref b])) rfl (by rw [hml]; rfl) c7 (argsL := [.ref b, .int (Int32.ofNat o), .int (Int32.ofNat len)]) (rest := []) rfl rfl (by show 2 * 0 + 0 ≤ _; decide) (hb hbytes d36) (⟨rfl, hA.mv X5.warmed.alike hh5, l1, l2, hp⟩)
  obtain ⟨e8, z8⟩ := E8
  obtain ⟨rfl, N, n1, n2, n3, n4, n5, n6⟩ := NewArr.mv _ T5 s _ _ hh5.symm (Vm.Alike.refl _) rfl e8
  rw [hh5] at z8
  have hB1 := hB.keep X8.warmed.alike (n6 _ _ hB.1)
  have hne : s.heap.size ≠ a := (Nat.ne_of_lt (Array.getElem?_eq_some_iff.mp hB.1).1).symm
  have c9 : Steps p.tables e below (s₁.setTop (entryFrame m #[.ref a, .ref b, .int (Int32.ofNat o), .int (Int32.ofNat len), .null] 6)) (T8.setTop (mkF m 39 #[.val (.ref a), .val (.ref b), .val (.int (Int32.ofNat o)), .val (.int (Int32.ofNat len)), .val .null, .unset] [.ref s.heap.size])) := g8
  have c10 : Steps p.tables e below (s₁.setTop (entryFrame m #[.ref a, .ref b, .int (Int32.ofNat o), .int (Int32.ofNat len), .null] 6)) (T8.setTop (mkF m 45 #[.val (.ref a), .val (.ref b), .val (.int (Int32.ofNat o)), .val (.int (Int32.ofNat len)), .val .null, .val (.ref s.heap.size)] [.int (Int32.ofNat N.slots.size), .ref s.heap.size, .ref a])) := by
    have hc : Steps p.tables e below (s₁.setTop (entryFrame m #[.ref a, .ref b, .int (Int32.ofNat o), .int (Int32.ofNat len), .null] 6)) (T8.setTop (mkF m 45 #[.val (.ref a), .val (.ref b), .val (.int (Int32.ofNat o)), .val (.int (Int32.ofNat len)), .val .null, .val (.ref s.heap.size)] [.int (Int32.ofNat len), .ref s.heap.size, .ref a])) := c9.trans (by
      refine XS.astore X8.here hexec rfl (hb hbytes d39) rfl rfl rfl ?_
      refine XS.aloadN X8.here hexec rfl (hb hbytes d41) rfl rfl ?_
      refine XS.aload X8.here hexec rfl (hb hbytes d42) rfl rfl ?_
      refine XS.iloadN X8.here hexec rfl (hb hbytes d44) rfl ?_
      exact Steps.refl _)
    rw [n4]; exact hc
  obtain ⟨v11, T11, X11, E11, g11⟩ := X8.callS hexec (CodL.law l s.heap.size N) hown (wks W (staticW "java/lang/String" 47 CodL.yN)) (wk W CodL.tab) (W := 1) (Nat.le_of_ble_eq_true rfl) (Nat.le_of_ble_eq_true rfl) (Nat.le_refl _) (by show 0 + len + 0 ≤ len; omega) (g := (mkF m 45 #[.val (.ref a), .val (.ref b), .val (.int (Int32.ofNat o)), .val (.int (Int32.ofNat len)), .val .null, .val (.ref s.heap.size)] [.int (Int32.ofNat N.slots.size), .ref s.heap.size, .ref a])) rfl (by rw [hml]; rfl) c10 (argsL := [.ref s.heap.size, .int (Int32.ofNat N.slots.size)]) (rest := [.ref a]) rfl rfl (by show 2 * 0 + (1 + 0) ≤ _; decide) (hb hbytes d45) (⟨rfl, n1⟩)
  obtain ⟨rfl, q11⟩ := E11
  have hB11 := hB1.mv (X8.warmed.alike.symm.trans X11.warmed.alike) q11
  have c12 : Steps p.tables e below (s₁.setTop (entryFrame m #[.ref a, .ref b, .int (Int32.ofNat o), .int (Int32.ofNat len), .null] 6)) (T11.setTop (mkF m 48 #[.val (.ref a), .val (.ref b), .val (.int (Int32.ofNat o)), .val (.int (Int32.ofNat len)), .val .null, .val (.ref s.heap.size)] [.int 0, .ref a])) := g11
  obtain ⟨T13, X13, p13, bl13, sl13, st13⟩ := X11.finit hexec hown (wk W (.fieldLink "java/lang/String" 15 "java/lang/String" "coder" "B")) (Or.inr ⟨_, (wk W (.laysFinal "java/lang/String" "java/lang/String" "coder" "B"))⟩) (Or.inl ⟨rfl, hnm⟩) f2 (Or.inl rfl) hB11 (t := .byte) (by decide +kernel) rfl (g := (mkF m 48 #[.val (.ref a), .val (.ref b), .val (.int (Int32.ofNat o)), .val (.int (Int32.ofNat len)), .val .null, .val (.ref s.heap.size)] [.int 0, .ref a])) rfl (rest := []) rfl (hb hbytes d48)
  have c14 : Steps p.tables e below (s₁.setTop (entryFrame m #[.ref a, .ref b, .int (Int32.ofNat o), .int (Int32.ofNat len), .null] 6)) (T13.setTop (mkF m 54 #[.val (.ref a), .val (.ref b), .val (.int (Int32.ofNat o)), .val (.int (Int32.ofNat len)), .val .null, .val (.ref s.heap.size)] [.ref s.heap.size, .ref a])) := (c12.trans (st13 _ (Steps.refl _))).trans (by
    refine XS.aloadN X13.here hexec rfl (hb hbytes d51) rfl rfl ?_
    refine XS.aload X13.here hexec rfl (hb hbytes d52) rfl rfl ?_
    exact Steps.refl _)
  obtain ⟨T15, X15, p15, bl15, sl15, st15⟩ := X13.finit hexec hown (wk W (.fieldLink "java/lang/String" 9 "java/lang/String" "value" "[B")) (Or.inr ⟨_, (wk W (.laysFinal "java/lang/String" "java/lang/String" "value" "[B"))⟩) (Or.inl ⟨rfl, hnm⟩) f1 (Or.inl rfl) bl13 (t := (.array .byte)) (by decide +kernel) rfl (g := (mkF m 54 #[.val (.ref a), .val (.ref b), .val (.int (Int32.ofNat o)), .val (.int (Int32.ofNat len)), .val .null, .val (.ref s.heap.size)] [.ref s.heap.size, .ref a])) rfl (rest := []) rfl (hb hbytes d54)
  have c16 : Steps p.tables e below (s₁.setTop (entryFrame m #[.ref a, .ref b, .int (Int32.ofNat o), .int (Int32.ofNat len), .null] 6)) (T15.setTop (mkF m 57 #[.val (.ref a), .val (.ref b), .val (.int (Int32.ofNat o)), .val (.int (Int32.ofNat len)), .val .null, .val (.ref s.heap.size)] [])) := c14.trans (st15 _ (Steps.refl _))
  have ap := apart (Or.inr ⟨_, (wk W (.laysFinal "java/lang/String" "java/lang/String" "value" "[B"))⟩) (Or.inr ⟨_, (wk W (.laysFinal "java/lang/String" "java/lang/String" "coder" "B"))⟩) f1 f2 (t₁ := .array .byte) (t₂ := .byte) (by decide +kernel) (by decide +kernel) (by decide)
  have al := X8.warmed.alike.symm.trans X15.warmed.alike
  have n7 : T11.heap[s.heap.size]? = some N := by rw [q11]; exact n1.1
  exact ⟨T15, none, _, _, _, X15, by simp, rfl, by omega, (fun _ => rfl), ⟨rfl, _, N, bl15, ((Same.refl D _).set _ (by simp)).set _ (by simp), sl15, (Cell.slots_setSlot_ne _ ap).trans sl13, n1.keep al (p15.other hne (p13.other hne n7)), n2, by rw [al.findClass]; exact n3, n4, n5, fun y c h1 h2 => p15.other h1 (p13.other h1 (by rw [q11]; exact n6 y c h2)), by rw [p15.2.2, p13.2.2, q11]; exact z8⟩, fun fs hl => c16.trans (X15.returnOut hexec hret (hb hbytes d57) hl)⟩
end New4
namespace New1
def yN : MethodName := ⟨"java/lang/String", "<init>", "([C)V"⟩
abbrev yB : ByteArray := jdk_42_method_3_code
theorem d0 : decode yB 0 = .ok (.aload_n 0, 1) := by decide +kernel
theorem d1 : decode yB 1 = .ok (.aload_n 1, 1) := by decide +kernel
theorem d2 : decode yB 2 = .ok (.iconst 0, 1) := by decide +kernel
theorem d3 : decode yB 3 = .ok (.aload_n 1, 1) := by decide +kernel
theorem d4 : decode yB 4 = .ok (.arraylength, 1) := by decide +kernel
theorem d5 : decode yB 5 = .ok (.aconst_null, 1) := by decide +kernel
theorem d6 : decode yB 6 = .ok (.invokespecial 27, 3) := by decide +kernel
theorem d9 : decode yB 9 = .ok (.return_, 1) := by decide +kernel
def site : List Cond := [New4.tab] ++ initW "java/lang/String" 27 New4.yN
def tab : Cond := tabOf yN yB 2 none site
def P (a : Addr) (D : Cell) (fV fC : Field) (b : Addr) (A : Cell) (z : Int32) (args : Array Value) (s : State) : Prop := args = #[.ref a, .ref b] ∧ Blank "java/lang/String" a D s ∧ Found "java/lang/String" "value" "[B" fV s ∧ Found "java/lang/String" "coder" "B" fC s ∧ Ch b A s ∧ StaticIs s "java/lang/String" "COMPACT_STRINGS" "Z" (.int z) ∧ ¬ z = 0 ∧ 0 < A.slots.size ∧ A.slots.size ≤ 536870912 ∧ ∀ i, i < A.slots.size → ¬ 255 < cv A i
def E (a : Addr) (D : Cell) (fV fC : Field) (A : Cell) (r : Option Value) (s u : State) : Prop := Got a D fV fC A 0 A.slots.size r s u
/-- new String(chars), not empty, no char above 255: a Latin-1 String of their low bytes -/
theorem law (l : Launch) (a : Addr) (D : Cell) (fV fC : Field) (b : Addr) (A : Cell) (z : Int32) : Law l yN 2 1 3 52 yB 2 none site (P a D fV fC b A z) (E a D fV fC A) [⟨a, fC.slot⟩, ⟨a, fV.slot⟩] 1 A.slots.size := by
  refine Law.of_walk (plainFor_of_name (by decide +kernel)) (by decide +kernel) (by decide +kernel) (by decide) (fun _ _ h => by rw [h.1]; rfl) (fun _ U U' hal hh h => ⟨h.1, h.2.1.mv hal hh, h.2.2.1.al hal, h.2.2.2.1.al hal, h.2.2.2.2.1.mv hal hh, h.2.2.2.2.2.1.there hal hh, h.2.2.2.2.2.2⟩) (fun r U U' V V' h1 hal h2 h => Got.mv r U U' V V' h1 hal h2 h) ?_
  intro p e s m args below meth c s₁ X0 hexec hbytes hml hret hlk hnm hown hh0 W hP
  obtain ⟨rfl, hB, f1, f2, hA, s1, hz, l0, l2, hp⟩ := hP
  have c1 : Steps p.tables e below (s₁.setTop (entryFrame m #[.ref a, .ref b] 2)) (s₁.setTop (mkF m 0 #[.val (.ref a), .val (.ref b)] [])) := entry rfl
  have c2 : Steps p.tables e below (s₁.setTop (entryFrame m #[.ref a, .ref b] 2)) (s₁.setTop (mkF m 6 #[.val (.ref a), .val (.ref b)] [.null, .int (Int32.ofNat A.slots.size), .int 0, .ref b, .ref a])) := c1.trans (by
    refine XS.aloadN X0.here hexec rfl (hb hbytes d0) rfl rfl ?_
    refine XS.aloadN X0.here hexec rfl (hb hbytes d1) rfl rfl ?_
    refine iconstV X0.here hexec rfl 0 (hb hbytes d2) (by decide) ?_
    refine XS.aloadN X0.here hexec rfl (hb hbytes d3) rfl rfl ?_
    refine X0.alen hexec (hA.1.mv X0.warmed.alike hh0) rfl rfl (hb hbytes d4) ?_
    refine XS.aconstNull X0.here hexec rfl (hb hbytes d5) ?_
    exact Steps.refl _)
  obtain ⟨v3, T3, X3, E3, g3⟩ := X0.callN hexec (New4.law l a D fV fC b A z 0 A.slots.size) rfl hown (wks W (initW "java/lang/String" 27 New4.yN)) (W New4.tab (by simp only [site, List.mem_cons, List.mem_append, true_or, or_true])) (W := 0) (Nat.le_of_ble_eq_true rfl) (Nat.le_of_ble_eq_true rfl) (Nat.le_refl _) (by show 0 + A.slots.size ≤ A.slots.size; omega) (g := (mkF m 6 #[.val (.ref a), .val (.ref b)] [.null, .int (Int32.ofNat A.slots.size), .int (Int32.ofNat 0), .ref b, .ref a])) rfl (by rw [hml]; rfl) c2 (argsL := [.ref b, .int (Int32.ofNat 0), .int (Int32.ofNat A.slots.size), .null]) (rest := []) rfl rfl (by show 2 * 0 + 0 ≤ _; decide) (hb hbytes d6) (⟨rfl, hB.mv X0.warmed.alike hh0, f1.al X0.warmed.alike, f2.al X0.warmed.alike, hA.mv X0.warmed.alike hh0, s1.there X0.warmed.alike hh0, hz, l0, by omega, l2, fun i hi => by rw [Nat.zero_add]; exact hp i hi⟩)
  have e0 := Got.mv _ s₁ s _ _ hh0.symm (Vm.Alike.refl _) rfl E3
  obtain rfl := e0.1
  have c4 : Steps p.tables e below (s₁.setTop (entryFrame m #[.ref a, .ref b] 2)) (T3.setTop (mkF m 9 #[.val (.ref a), .val (.ref b)] [])) := g3
  exact ⟨T3, none, _, _, _, X3, by simp, rfl, by omega, (fun _ => rfl), e0, fun fs hl => c4.trans (X3.returnOut hexec hret (hb hbytes d9) hl)⟩
theorem pays {l : Launch} {R : Room} {p : Program} {e : Env} {below : List Frame} {s : State} {sargs : Array Value} {len W : Nat} (a : Addr) (D : Cell) (fV fC : Field) (b : Addr) (A : Cell) (z : Int32) (htab : tab.before sargs s = true) (hfr : 4 ≤ R.frames) (hlo : W + 65 ≤ R.locals) :
    Back l R p e below s sargs yN len W (fun A₁ a₁ => A₁.cells + 1 ≤ R.cells ∧ A₁.slots + A.slots.size ≤ R.slots ∧ P a D fV fC b A z a₁ A₁.U) (fun A₁ _ v₁ B₁ => E a D fV fC A v₁ A₁.U B₁.U ∧ B₁.locs = A₁.locs ++ [⟨a, fC.slot⟩, ⟨a, fV.slot⟩] ∧ B₁.cells = A₁.cells + 1 ∧ B₁.slots = A₁.slots + A.slots.size) :=
  (law l a D fV fC b A z).pays htab hfr (by omega)
end New1
end StrChars
namespace StrChars.Road
open Jvm Sem ClassFile Op Lib Jvm.Stand Jvm.Free Jvm.Free.XT
open Jvm.Lib.Cold (StaticIs)
abbrev ST : String := "java/lang/String"
/-- every table word that New1's law asks, flat -/
abbrev words : List Jvm.Cond := [.code New1.yN New1.yB 2 none, .initialized ST, .methodLink ST 27 New4.yN, .instanceMethod New4.yN,
  .code New4.yN New4.yB 6 none, .fieldLink ST 38 ST "COMPACT_STRINGS" "Z", .laysFinal ST ST "value" "[B", .fieldLink ST 9 ST "value" "[B", .laysFinal ST ST "coder" "B", .fieldLink ST 15 ST "coder" "B",
  .methodLink ST 1 Lib.objectInit, .instanceMethod Lib.objectInit, .code Lib.objectInit ⟨#[0xb1]⟩ 1 none, .methodLink ST 177 Cmp3.yN, .static Cmp3.yN, .methodLink ST 47 CodL.yN, .static CodL.yN,
  .code Cmp3.yN Cmp3.yB 6 (some (.array .byte)), .initialized U16, .arrayClass .byte, .methodLink U16 115 Cmp5.yN, .static Cmp5.yN, .code Cmp5.yN Cmp5.yB 7 (some .int), .code CodL.yN CodL.yB 2 (some .byte)]
theorem tab_of {a : Array Value} {s : State} (h : ∀ w ∈ words, w.before a s = true) : New1.tab.before a s = true := by
  have h5 : Cmp5.tab.before a s = true := unparts (wk h (.code Cmp5.yN Cmp5.yB 7 (some .int))) (wks h (.initialized Cmp5.yN.cls :: Cmp5.site))
  have hc : CodL.tab.before a s = true := unparts (wk h (.code CodL.yN CodL.yB 2 (some .byte))) (wks h (.initialized CodL.yN.cls :: CodL.site))
  have q5 : ∀ w ∈ Cmp5.tab :: words, w.before a s = true := fun w hw => (List.mem_cons.mp hw).elim (fun e => e ▸ h5) (h w)
  have h3 : Cmp3.tab.before a s = true := unparts (wk q5 (.code Cmp3.yN Cmp3.yB 6 (some (.array .byte)))) (wks q5 (.initialized Cmp3.yN.cls :: Cmp3.site))
  have q3 : ∀ w ∈ Cmp3.tab :: CodL.tab :: words, w.before a s = true := fun w hw => (List.mem_cons.mp hw).elim (fun e => e ▸ h3) fun hw => (List.mem_cons.mp hw).elim (fun e => e ▸ hc) (h w)
  have h4 : New4.tab.before a s = true := unparts (wk q3 (.code New4.yN New4.yB 6 none)) (wks q3 (.initialized New4.yN.cls :: New4.site))
  have q4 : ∀ w ∈ New4.tab :: words, w.before a s = true := fun w hw => (List.mem_cons.mp hw).elim (fun e => e ▸ h4) (h w)
  exact unparts (wk q4 (.code New1.yN New1.yB 2 none)) (wks q4 (.initialized New1.yN.cls :: New1.site))
/-- the words ride from the start Z to the walk's own state -/
theorem moved {Z s : State} {a0 args : Array Value} (hZ : Z.Warmed39 s.vm) (hw : ∀ d ∈ words, d.before a0 Z = true) : ∀ d ∈ words, d.before args s = true := fun d hd => by
  have q := hw d hd
  have t : ∀ d ∈ words, d = .arrayClass .byte ∨ (d.onTables && d.keepsFace) = true := by decide +kernel
  rcases t d hd with rfl | t
  · exact RoadKit.mvA hZ q
  · exact RoadKit.mv hZ q t
/-- WHAT COMES BACK, over the tables of the start Z: h the heap at the call, h' behind it -/
def Q (Z : State) (x : Addr) (A : Cell) (h : Heap) (v : Option Value) (h' : Heap) (L : List Loc) : Prop := v = none ∧ (∀ y ∈ L, y.base = x) ∧ RoadKit.Keep h h' [x] ∧ h'.size = h.size + 1 ∧ RoadKit.Exa Z h' x ST ∧ RoadKit.Fld Z h' x ST "value" "[B" (.ref h.size) ∧ RoadKit.Fld Z h' x ST "coder" "B" (.int 0) ∧
  (∃ V : Cell, RoadKit.Arr Z h' h.size V .byte ∧ V.vm = .none ∧ Z.vm.findClass "[B" = some V.cls ∧ V.slots.size = A.slots.size ∧ ∀ j, j < A.slots.size → V.slots[j]? = some (.int (lo8 (cv A j)))) ∧
  ∀ (O n d : String) (w : Value), RoadKit.Fld Z h x O n d w → RoadKit.slotOf Z O n d ≠ RoadKit.slotOf Z ST "value" "[B" → RoadKit.slotOf Z O n d ≠ RoadKit.slotOf Z ST "coder" "B" → RoadKit.Fld Z h' x O n d w
/-- **new String(chars) AT A CALL, IN THE ROAD'S FORM**: for specialBack behind newO: x the fresh String, b the char[] with the cell A -/
theorem back {p : Program} {l : Launch} {e : Env} {R : Room} {s : State} {args : Array Value} {below : List Frame} {len W : Nat} {Z : State} {a0 : Array Value} {h : Heap} (hZ : Z.Warmed39 s.vm) (hw : ∀ d ∈ words, d.before a0 Z = true) {kI : Nat} (wi : (Jvm.Cond.instantiable ST kI).before a0 Z = true)
    {x b : Addr} {A : Cell} {z : Int32} {v0 c0 : Value} (E : RoadKit.Exa Z h x ST) (V : RoadKit.Fld Z h x ST "value" "[B" v0) (C : RoadKit.Fld Z h x ST "coder" "B" c0) (K : RoadKit.Arr Z h b A .char) (hty : Typed .char A) (S : RoadKit.Sta Z h ST "COMPACT_STRINGS" "Z" (.int z)) (hz : ¬ z = 0)
    (l0 : 0 < A.slots.size) (l2 : A.slots.size ≤ 536870912) (hp : ∀ i, i < A.slots.size → ¬ 255 < cv A i) (hfr : 4 ≤ R.frames) (hlo : W + 65 ≤ R.locals) :
    Back l R p e below s args New1.yN len W (fun P a => a = #[.ref x, .ref b] ∧ P.U.heap = h ∧ P.cells + 1 ≤ R.cells ∧ P.slots + A.slots.size ≤ R.slots)
      (fun P _ v B => ∃ L, Q Z x A h v B.U.heap L ∧ B.locs = P.locs ++ L ∧ B.cells = P.cells + 1 ∧ B.slots = P.slots + A.slots.size) := by
  intro m meth c P g ig mk a X hg hsize hdg hW hn hp'
  obtain ⟨rfl, rfl, r1, r2⟩ := hp'
  have al : Z.vm.Alike P.U.vm := hZ.alike.trans X.warmed.alike
  obtain ⟨D, cfV, kV, iV, fV, hD, gV, stV, knV, obV, asV, slV⟩ := id V
  obtain ⟨D', cfC, kC, iC, fC, hD', gC, stC, -, -, asC, slC⟩ := id C
  cases hD.symm.trans hD'
  obtain ⟨D2, kD, e1, e2, e3, e4, e5⟩ := id E
  cases hD.symm.trans e1
  obtain ⟨c2, k2, i1, i2, i3, -⟩ := Cond.instantiable_spec wi
  cases e2.symm.trans i1
  cases e3.symm.trans i2
  obtain ⟨kU, u1, u2⟩ := al.2.2 _ _ e3
  have hB : Blank ST x D P.U := ⟨hD, ⟨knV, fun q hq => by rw [hq] at obV; cases obV⟩, by rw [al.findClass]; exact e2, kU, u1, by rw [u2]; exact i3, by rw [u2]; exact e5 i3⟩
  have F1 : Found ST "value" "[B" fV P.U := ⟨SBG.found_only al ⟨cfV, kV, iV, gV⟩, stV⟩
  have F2 : Found ST "coder" "B" fC P.U := ⟨SBG.found_only al ⟨cfC, kC, iC, gC⟩, stC⟩
  have hA : Ch b A P.U := ⟨⟨K.1, State.isArrayOf_alike al K.2.1, K.2.2, by omega⟩, hty⟩
  have hS : StaticIs P.U ST "COMPACT_STRINGS" "Z" (.int z) := by
    obtain ⟨cfS, iS, kS, fS, st, cS, t1, t2, t3, t4, t5, t6, t7⟩ := S
    exact StaticIs.there (s := { Z with heap := P.U.heap }) ⟨cfS, iS, kS, fS, st, cS, t1, t2, t3, t4, t5, (fun q => by rw [q] at t6; cases t6), t7⟩ al rfl
  obtain ⟨v, B, X', ⟨⟨hv, E', V', q1, q2, q3, q4, q5, q6, q7, q8, q9, q10, q11⟩, hl, hc, hs⟩, st⟩ := New1.pays x D fV fC b A z (tab_of (moved hZ hw)) hfr hlo m meth c P g ig mk _ X hg hsize hdg hW hn ⟨r1, r2, rfl, hB, F1, F2, hA, hS, hz, l0, l2, hp⟩
  have al' : Z.vm.Alike B.U.vm := hZ.alike.trans X'.warmed.alike
  have hsz : E'.slots.size = D.slots.size := by
    obtain ⟨-, -, -, kB, w1, w2, w3⟩ := q1
    obtain ⟨kB', y1, y2⟩ := al'.2.2 _ _ e3
    rw [q2.2.1] at w1
    cases w1.symm.trans y1
    rw [w3, e5 i3, y2]
  refine ⟨v, B, X', ⟨_, ⟨hv, ?_, ⟨by omega, fun y cy hy hn' => q10 y cy (by simpa using hn') hy, fun y cy hy => ?_⟩, q11, ⟨E', _, q1.1, by rw [q2.2.1]; exact e2, by rw [q2.2.1]; exact e3, by rw [q2.1]; exact obV, fun _ => by rw [hsz]; exact e5 i3⟩,
    ⟨E', cfV, kV, iV, fV, q1.1, gV, stV, by rw [q2.1]; exact knV, by rw [q2.1]; exact obV, by rw [q2.2.1]; exact asV, q3⟩, ⟨E', cfC, kC, iC, fC, q1.1, gC, stC, by rw [q2.1]; exact knV, by rw [q2.1]; exact obV, by rw [q2.2.1]; exact asC, q4⟩,
    ⟨V', ⟨q5.1, State.isArrayOf_alike al'.symm q5.2.1, q5.2.2.1⟩, q6, by rw [← al'.findClass]; exact q7, q8, fun j hj => by have := q9 j hj; rwa [Nat.zero_add] at this⟩, fun O n d w F n1 n2 => ?_⟩, hl, hc, hs⟩, st⟩
  · intro y hy
    simp only [List.mem_cons, List.not_mem_nil, or_false] at hy
    rcases hy with rfl | rfl <;> rfl
  · by_cases q : y = x
    · subst q
      cases hD.symm.trans hy
      exact ⟨E', q1.1, q2.2.1, q2.1, hsz⟩
    · exact ⟨cy, q10 y cy q hy, rfl, rfl, rfl⟩
  · obtain ⟨D3, cf, k, i, f, g1, g2, g3, g4, g5, g6, g7⟩ := F
    cases hD.symm.trans g1
    simp only [RoadKit.slotOf, g2, gV, gC, Option.map_some, Option.getD_some] at n1 n2
    exact ⟨E', cf, k, i, f, q1.1, g2, g3, by rw [q2.1]; exact g4, by rw [q2.1]; exact g5, by rw [q2.2.1]; exact g6, by rw [q2.2.2 f.slot (by simp [n1, n2])]; exact g7⟩
end StrChars.Road
namespace StrChars.Road
open Jvm Sem ClassFile Op Lib Jvm.Stand Jvm.Free Jvm.Free.XT
/-- WHAT COMES BACK, the byte[] as a list of values -/
def QA (Z : State) (x : Addr) (zn : Int32) (cs : List Int32) (h : Heap) (v : Option Value) (h' : Heap) (L : List Loc) : Prop := v = none ∧ (∀ y ∈ L, y.base = x) ∧ RoadKit.Keep h h' [x] ∧ h'.size = h.size + 1 ∧ RoadKit.Exa Z h' x ST ∧ RoadKit.Fld Z h' x ST "value" "[B" (.ref h.size) ∧ RoadKit.Fld Z h' x ST "coder" "B" (.int 0) ∧
  (∃ kb, Z.vm.findClass "[B" = some kb ∧ RoadKit.Arv Z h' h.size kb .byte zn (cs.map fun c => .int (lo8 c)) (.int 0)) ∧
  ∀ (O n d : String) (w : Value), RoadKit.Fld Z h x O n d w → RoadKit.slotOf Z O n d ≠ RoadKit.slotOf Z ST "value" "[B" → RoadKit.slotOf Z O n d ≠ RoadKit.slotOf Z ST "coder" "B" → RoadKit.Fld Z h' x O n d w
/-- **new String(chars) AT A CALL, THE ARRAYS AS LISTS**: the char[] at b holds cs, not empty, no char above 255 -/
theorem backArv {p : Program} {l : Launch} {e : Env} {R : Room} {s : State} {args : Array Value} {below : List Frame} {len W : Nat} {Z : State} {a0 : Array Value} {h : Heap} (hZ : Z.Warmed39 s.vm) (hw : ∀ d ∈ words, d.before a0 Z = true) {kI : Nat} (wi : (Jvm.Cond.instantiable ST kI).before a0 Z = true)
    {x b : Addr} {k : ClassId} {zn z : Int32} {cs : List Int32} {dv v0 c0 : Value} (E : RoadKit.Exa Z h x ST) (V : RoadKit.Fld Z h x ST "value" "[B" v0) (C : RoadKit.Fld Z h x ST "coder" "B" c0) (K : RoadKit.Arv Z h b k .char zn (cs.map Value.int) dv) (S : RoadKit.Sta Z h ST "COMPACT_STRINGS" "Z" (.int z)) (hz : ¬ z = 0)
    (hlen : zn.toNatClampNeg = cs.length) (h0 : 0 < cs.length) (hbig : cs.length ≤ 536870912) (hall : ∀ c ∈ cs, ¬ 255 < c) (hfr : 4 ≤ R.frames) (hlo : W + 65 ≤ R.locals) :
    Back l R p e below s args New1.yN len W (fun P a => a = #[.ref x, .ref b] ∧ P.U.heap = h ∧ P.cells + 1 ≤ R.cells ∧ P.slots + cs.length ≤ R.slots)
      (fun P _ v B => ∃ L, QA Z x zn cs h v B.U.heap L ∧ B.locs = P.locs ++ L ∧ B.cells = P.cells + 1 ∧ B.slots = P.slots + cs.length) := by
  obtain ⟨A, K1, K2, K3, K4, K5, K6⟩ := K
  have e : A.slots.size = cs.length := K3.trans hlen
  have hat : ∀ (i : Nat) (hi : i < cs.length), A.slots[i]? = some (.int cs[i]) := fun i hi => by rw [K5 i (by omega)]; simp [List.getD_eq_getElem?_getD, hi]
  have hcv : ∀ (i : Nat) (hi : i < cs.length), cv A i = cs[i] := fun i hi => by unfold cv; rw [hat i hi]
  have hty : Typed .char A := fun i v hv => by
    have hi : i < A.slots.size := (Array.getElem?_eq_some_iff.mp hv).1
    have q := K5 i hi
    rw [hv] at q
    rw [Option.some.inj q]
    exact K6 i hi
  refine Back.mono (back hZ hw wi E V C K1 hty S hz (by omega) (by omega) (fun i hi => by rw [hcv i (by omega)]; exact hall _ (List.getElem_mem _)) hfr hlo) (fun P a hp => ⟨hp.1, hp.2.1, hp.2.2.1, by rw [e]; exact hp.2.2.2⟩) (fun P a v B hp hq => ?_)
  obtain ⟨L, ⟨q1, q2, q3, q4, q5, q6, q7, ⟨V', v1, v2, v3, v4, v5⟩, q9⟩, hl, hc, hs⟩ := hq
  refine ⟨L, ⟨q1, q2, q3, q4, q5, q6, q7, ⟨V'.cls, v3, V', v1, rfl, by rw [v4, e, hlen], K4, fun i hi => ?_, fun i hi => ?_⟩, q9⟩, hl, hc, by rw [hs, e]⟩
  · have hi' : i < cs.length := by omega
    rw [v5 i (by omega), hcv i hi']; simp [List.getD_eq_getElem?_getD, hi']
  · have hi' : i < cs.length := by omega
    simp only [List.getD_eq_getElem?_getD, List.getElem?_map, List.getElem?_eq_getElem hi', Option.map_some, Option.getD_some]
    exact fits_lo8 _
end StrChars.Road
namespace StrChars.Road
open Jvm Sem ClassFile Op Lib Jvm.Stand Jvm.Free Jvm.Free.XT
/-- WHAT COMES BACK, in the writer's own shape -/
def QV (Z : State) (x : Addr) (N : Int32) (bs : List Int32) (h : Heap) (n0 : Nat) (v : Option Value) (h' : Heap) (L : List Loc) : Prop := v = none ∧ RoadKit.Fr n0 L ∧ RoadKit.Keep h h' [x] ∧ RoadKit.Exa Z h' x ST ∧ RoadKit.Fld Z h' x ST "coder" "B" (.int 0) ∧
  ∃ (t : Addr) (kb : ClassId), n0 ≤ t ∧ h.size ≤ t ∧ ¬ t = x ∧ RoadKit.Fld Z h' x ST "value" "[B" (.ref t) ∧ RoadKit.Arv Z h' t kb .byte N (bs.map Value.int) (.int 0)
/-- **new String(chars) AT A CALL, FOR THE WRITER**: a char[] of n known ints, each 0 to 255 -/
theorem backV {p : Program} {l : Launch} {e : Env} {R : Room} {s : State} {args : Array Value} {below : List Frame} {len W : Nat} {Z : State} {a0 : Array Value} {h : Heap} (hZ : Z.Warmed39 s.vm) (hw : ∀ d ∈ words, d.before a0 Z = true) {kI : Nat} (wi : (Jvm.Cond.instantiable ST kI).before a0 Z = true)
    {x b : Addr} {kC : ClassId} {cs bs : List Int32} {d v0 c0 : Value} {z N : Int32} {n n0 : Nat} (hx0 : n0 ≤ x) (hh0 : n0 ≤ h.size) (E : RoadKit.Exa Z h x ST) (V : RoadKit.Fld Z h x ST "value" "[B" v0) (C : RoadKit.Fld Z h x ST "coder" "B" c0) (K : RoadKit.Arv Z h b kC .char N (cs.map Value.int) d) (S : RoadKit.Sta Z h ST "COMPACT_STRINGS" "Z" (.int z)) (hz : ¬ z = 0)
    (hn : cs.length = n) (hN : N = Int32.ofNat n) (l0 : 0 < n) (l2 : n ≤ 4000) (hp : ∀ c ∈ cs, ¬ c < 0 ∧ ¬ (255 : Int32) < c) (hb : bs = cs.map (fun c => c.toInt8.toInt32)) (hfr : 4 ≤ R.frames) (hlo : W + 65 ≤ R.locals) :
    Back l R p e below s args (⟨"java/lang/String", "<init>", "([C)V"⟩ : MethodName) len W (fun P a => a = #[.ref x, .ref b] ∧ P.U.heap = h ∧ P.cells + 1 ≤ R.cells ∧ P.slots + n ≤ R.slots)
      (fun P _ v B => ∃ L, QV Z x N bs h n0 v B.U.heap L ∧ B.locs = P.locs ++ L ∧ B.cells = P.cells + 1 ∧ B.slots = P.slots + n) := by
  subst hn hN hb
  refine Back.mono (backArv hZ hw wi E V C K S hz (n32 (by omega)) l0 (by omega) (fun c hc => (hp c hc).2) hfr hlo) (fun P a hp => hp) (fun P a v B hp hq => ?_)
  obtain ⟨L, ⟨q1, q2, q3, q4, q5, q6, q7, ⟨kb, v1, v2⟩, q9⟩, hl, hc, hs⟩ := hq
  exact ⟨L, ⟨q1, fun y hy => by rw [q2 y hy]; exact hx0, q3, q5, q7, h.size, kb, hh0, Nat.le_refl _, Nat.ne_of_gt E.lt, q6, by rw [List.map_map]; exact v2⟩, hl, hc, hs⟩
end StrChars.Road
end Jvm.Pilot.@@N@@
namespace Jvm.Pilot.@@N@@
open Jvm Jvm.ClassFile Sem Op Lib Jvm.Free Jvm.Stand Jvm.LawKit Jvm.RoadKit Bundle Jvm.Pilot.@@N@@.Jvm.D
def own_rd (l : List Int32) (j : Int32) : Int32 := l.getD j.toNatClampNeg 0
def own_wr (l : List Int32) (j v : Int32) : List Int32 := l.set j.toNatClampNeg v
abbrev own_in (z j : Int32) : Prop := ¬ j < 0 ∧ j < z
def own_A (Z : State) (h : Heap) (a : Addr) (k : ClassId) (ty : FieldType) (z : Int32) (l : List Int32) : Prop := l.length = z.toNatClampNeg ∧ Arv Z h a k ty z (l.map Value.int) (.int 0)
section OwnA
variable {Z : State} {h h' : Heap} {a b : Addr} {k : ClassId} {ty : FieldType} {z j v : Int32} {l : List Int32} {sl : Nat} {u : Value} {ws : List Addr}
theorem own_A.lt (A : own_A Z h a k ty z l) : a < h.size := A.2.lt
theorem own_A.ext (A : own_A Z h a k ty z l) (E : Ext h h') : own_A Z h' a k ty z l := ⟨A.1, A.2.ext E⟩
theorem own_A.other (A : own_A Z h b k ty z l) (W : Wr h h' a sl u) (q : b ≠ a) : own_A Z h' b k ty z l := ⟨A.1, A.2.other W q⟩
theorem own_A.keep (A : own_A Z h a k ty z l) (K : Keep h h' ws) (q : a ∉ ws) : own_A Z h' a k ty z l := ⟨A.1, A.2.keep K q⟩
theorem own_new (q : l.length = z.toNatClampNeg) (A : Arv Z h a k ty z (l.map Value.int) (.int 0)) : own_A Z h a k ty z l := ⟨q, A⟩
theorem own_getD (l : List Int32) (n : Nat) : (l.map Value.int).getD n (.int 0) = .int (l.getD n 0) := by
  simp only [List.getD_eq_getElem?_getD, List.getElem?_map]
  cases l[n]? <;> rfl
theorem own_read (A : own_A Z h a k ty z l) (hj : own_in z j) : ∃ c : Cell, Arr Z h a c ty ∧ ¬ (j < 0 ∨ c.slots.size ≤ j.toNatClampNeg) ∧ c.slots[j.toNatClampNeg]? = some (.int (own_rd l j)) := by
  obtain ⟨hl, c, Ar, q1, S, q3, H, G⟩ := A
  have hin := inb_of S hj
  refine ⟨c, Ar, hin, ?_⟩
  have hlt : j.toNatClampNeg < c.slots.size := Nat.lt_of_not_le fun y => hin (Or.inr y)
  rw [H _ hlt, own_getD]; rfl
theorem own_set (A : own_A Z h a k ty z l) (hj : own_in z j) (hv : fits ty (.int v) = true) (W : Wr h h' a j.toNatClampNeg (.int v)) : own_A Z h' a k ty z (own_wr l j v) := by
  obtain ⟨hl, c, Ar, q1, S, q3, H, G⟩ := A
  have hin := inb_of S hj
  have hlt : j.toNatClampNeg < c.slots.size := Nat.lt_of_not_le fun y => hin (Or.inr y)
  have q := Arv.set Ar q1 S q3 H G hv W j.toNatClampNeg rfl (by rw [List.length_map, hl, ← S]; exact hlt)
  refine ⟨by rw [own_wr, List.length_set]; exact hl, ?_⟩
  rw [own_wr, List.map_set]; exact q
theorem own_write (A : own_A Z h a k .int z l) (hj : own_in z j) (W : Wr h h' a j.toNatClampNeg (.int v)) : own_A Z h' a k .int z (own_wr l j v) := own_set A hj rfl W
end OwnA
theorem own_lenA {Z : State} {h : Heap} {a : Addr} {k : ClassId} {ty : FieldType} {z : Int32} {l : List Int32} (A : own_A Z h a k ty z l) : ∃ c : Cell, Arr Z h a c ty ∧ c.slots.size = z.toNatClampNeg ∧ ¬ z < 0 := by
  obtain ⟨hl, c, Ar, q1, S, q3, H, G⟩ := A
  exact ⟨c, Ar, S, q3⟩
theorem own_nc1 (x : Int32) : nar .char (x &&& (255 : Int32)) = x &&& (255 : Int32) := i2c_mask x
theorem own_nc (x : Int32) : nar .char ((x &&& (255 : Int32)).toUInt32.toUInt16.toUInt32.toInt32) = x &&& (255 : Int32) := by rw [i2c_mask]; exact i2c_mask x
abbrev own_ix (j : Int32) : Prop := own_in (24 : Int32) j
theorem own_ix_iff (j : Int32) : own_ix j ↔ 0 ≤ j.toInt ∧ j.toInt < 24 := by
  unfold own_ix own_in
  simp only [Int32.lt_iff_toInt_lt, Int32.reduceToInt]; omega
theorem own_clamp {j : Int32} (h : own_ix j) : (j.toNatClampNeg : Int) = j.toInt := (nat_of h.1).symm
theorem own_rw {l : List Int32} {j i : Int32} (v : Int32) (hl : l.length = 24) (hj : own_ix j) (hi : own_ix i) : own_rd (own_wr l j v) i = if i.toInt = j.toInt then v else own_rd l i := by
  have a := own_clamp hj
  have b := own_clamp hi
  have c := (own_ix_iff j).mp hj
  unfold own_rd own_wr
  simp only [List.getD_eq_getElem?_getD, List.getElem?_set]
  by_cases q : i.toInt = j.toInt
  · have e : j.toNatClampNeg = i.toNatClampNeg := by omega
    rw [if_pos e, if_pos q, if_pos (by omega)]; rfl
  · have e : ¬ j.toNatClampNeg = i.toNatClampNeg := by omega
    rw [if_neg e, if_neg q]
theorem own_len_wr {l : List Int32} {j v : Int32} : (own_wr l j v).length = l.length := by unfold own_wr; exact List.length_set
def own_by (l : List Int32) : Prop := l.length = 24 ∧ ∀ c ∈ l, ¬ c < 0 ∧ ¬ (255 : Int32) < c
theorem own_by_wr {l : List Int32} {j v : Int32} (h : own_by l) (hv : ¬ v < 0 ∧ ¬ (255 : Int32) < v) : own_by (own_wr l j v) := by
  refine ⟨by rw [own_len_wr]; exact h.1, fun c hc => ?_⟩
  rcases List.mem_or_eq_of_mem_set hc with q | q
  · exact h.2 c q
  · rw [q]; exact hv
theorem own_nar {v : Int32} (hv : ¬ v < 0 ∧ ¬ (255 : Int32) < v) : nar .char v = v := by
  obtain ⟨h1, h2⟩ := hv
  have e : v &&& (255 : Int32) = v := by
    apply Int32.toInt_inj.mp
    rw [c_mask v (255 : Int32) 8 (by decide) (by decide)]
    simp only [Int32.lt_iff_toInt_lt, Int32.reduceToInt] at h1 h2
    omega
  rw [← e]; exact i2c_mask v
theorem own_writeC {Z : State} {h h' : Heap} {a : Addr} {k : ClassId} {z j v : Int32} {l : List Int32} (A : own_A Z h a k .char z l) (hj : own_in z j) (hv : ¬ v < 0 ∧ ¬ (255 : Int32) < v) (W : Wr h h' a j.toNatClampNeg (.int (nar .char v))) : own_A Z h' a k .char z (own_wr l j v) := by
  have q := own_set A hj (fits_nar_char v) W
  rw [own_nar hv] at q; exact q
theorem own_lo8 (c : Int32) (hv : ¬ c < 0 ∧ ¬ (255 : Int32) < c) : c.toInt8.toInt32 &&& (255 : Int32) = c := by
  obtain ⟨h1, h2⟩ := hv
  apply Int32.toInt_inj.mp
  rw [c_mask _ (255 : Int32) 8 (by decide) (by decide)]
  have e := c_i2b c
  simp only [Int32.lt_iff_toInt_lt, Int32.reduceToInt] at h1 h2
  omega
theorem own_ch {l : List Int32} (h : own_by l) (i : Int32) : own_rd (l.map (fun c => c.toInt8.toInt32)) i &&& (255 : Int32) = own_rd l i := by
  unfold own_rd
  simp only [List.getD_eq_getElem?_getD, List.getElem?_map]
  cases e : l[i.toNatClampNeg]? with
  | none => simp
  | some c => exact own_lo8 c (h.2 c (List.mem_of_getElem? e))
theorem own_s1 {p : Int32} (h : own_ix p) : (p + (1 : Int32)).toInt = p.toInt + 1 := by
  have a := c_iadd p (1 : Int32)
  have b := rng32 (p + (1 : Int32))
  have c := (own_ix_iff p).mp h
  simp only [Int32.reduceToInt] at a
  omega
theorem own_sk {p k : Int32} (h : own_ix p) (h0 : 0 ≤ k.toInt) (h1 : k.toInt ≤ 100) : (p + k).toInt = p.toInt + k.toInt := by
  have a := c_iadd p k
  have b := rng32 (p + k)
  have c := (own_ix_iff p).mp h
  omega
def own_ty (l : List Int32) : Nat → Int32 → Int32 → Prop
  | 0, _, _ => False
  | f + 1, i, e => own_ix i ∧ (
      (own_rd l i = (97 : Int32) ∧ own_ty l f (i + (1 : Int32)) e) ∨
      (¬ own_rd l i = (97 : Int32) ∧ ¬ own_rd l i = (40 : Int32) ∧ ¬ own_rd l i = (123 : Int32) ∧ e = i + (1 : Int32)) ∨
      (∃ cl : Int32, ((own_rd l i = (40 : Int32) ∧ cl = (41 : Int32)) ∨ (¬ own_rd l i = (40 : Int32) ∧ own_rd l i = (123 : Int32) ∧ cl = (125 : Int32))) ∧ ¬ own_rd l i = (97 : Int32) ∧ own_ix (i + (1 : Int32)) ∧
        ((own_rd l (i + (1 : Int32)) = cl ∧ e = i + (1 : Int32) + (1 : Int32)) ∨
         (¬ own_rd l (i + (1 : Int32)) = cl ∧ ∃ j, own_ty l f (i + (1 : Int32)) j ∧ own_ix j ∧ own_rd l j = cl ∧ e = j + (1 : Int32)) ∨
         (¬ own_rd l (i + (1 : Int32)) = cl ∧ ∃ j, own_ty l f (i + (1 : Int32)) j ∧ own_ix j ∧ ¬ own_rd l j = cl ∧ ∃ k, own_ty l f j k ∧ own_ix k ∧ own_rd l k = cl ∧ e = k + (1 : Int32)))))
theorem own_ty_lt {l : List Int32} : ∀ (f : Nat) (i e : Int32), own_ty l f i e → 0 ≤ i.toInt ∧ i.toInt < e.toInt ∧ e.toInt ≤ 24
  | 0, _, _, h => h.elim
  | f + 1, i, e, h => by
    obtain ⟨hi, h⟩ := h
    have b := (own_ix_iff i).mp hi
    have s := own_s1 hi
    rcases h with ⟨-, h⟩ | ⟨-, -, -, h⟩ | ⟨cl, -, -, h1, h⟩
    · have q := own_ty_lt f _ _ h; omega
    · rw [h]; omega
    · have b1 := (own_ix_iff _).mp h1
      have s1 := own_s1 h1
      rcases h with ⟨-, h⟩ | ⟨-, j, h2, h3, -, h⟩ | ⟨-, j, h2, h3, -, k, h4, h5, -, h⟩
      · rw [h]; omega
      · have q := own_ty_lt f _ _ h2
        have s2 := own_s1 h3
        have b2 := (own_ix_iff _).mp h3
        rw [h]; omega
      · have q := own_ty_lt f _ _ h2
        have q2 := own_ty_lt f _ _ h4
        have s2 := own_s1 h5
        have b2 := (own_ix_iff _).mp h5
        rw [h]; omega
theorem own_ty_up {l : List Int32} : ∀ (f : Nat) (i e : Int32), own_ty l f i e → own_ty l (f + 1) i e
  | 0, _, _, h => h.elim
  | f + 1, i, e, h => by
    obtain ⟨hi, h⟩ := h
    refine ⟨hi, ?_⟩
    rcases h with ⟨a, h⟩ | h | ⟨cl, a, a2, h1, h⟩
    · exact Or.inl ⟨a, own_ty_up f _ _ h⟩
    · exact Or.inr (Or.inl h)
    · refine Or.inr (Or.inr ⟨cl, a, a2, h1, ?_⟩)
      rcases h with h | ⟨b, j, h2, h3, h⟩ | ⟨b, j, h2, h3, b2, k, h4, h⟩
      · exact Or.inl h
      · exact Or.inr (Or.inl ⟨b, j, own_ty_up f _ _ h2, h3, h⟩)
      · exact Or.inr (Or.inr ⟨b, j, own_ty_up f _ _ h2, h3, b2, k, own_ty_up f _ _ h4, h⟩)
theorem own_ty_congr {l l' : List Int32} : ∀ (f : Nat) (i e : Int32), (∀ j, own_ix j → i.toInt ≤ j.toInt → j.toInt < e.toInt → own_rd l' j = own_rd l j) → own_ty l f i e → own_ty l' f i e
  | 0, _, _, _, h => h.elim
  | f + 1, i, e, hc, h => by
    have lt := own_ty_lt (f + 1) i e h
    obtain ⟨hi, h⟩ := h
    have b := (own_ix_iff i).mp hi
    have s := own_s1 hi
    have ci := hc i hi (by omega) (by omega)
    refine ⟨hi, ?_⟩
    rw [ci]
    rcases h with ⟨a, h⟩ | h | ⟨cl, a, a2, h1, h⟩
    · exact Or.inl ⟨a, own_ty_congr f _ _ (fun j q1 q2 q3 => hc j q1 (by omega) q3) h⟩
    · exact Or.inr (Or.inl h)
    · have b1 := (own_ix_iff _).mp h1
      have s1 := own_s1 h1
      refine Or.inr (Or.inr ⟨cl, a, a2, h1, ?_⟩)
      rcases h with ⟨b2, h⟩ | ⟨b2, j, h2, h3, b3, h⟩ | ⟨b2, j, h2, h3, b3, k, h4, h5, b4, h⟩
      · have c1 := hc _ h1 (by omega) (by rw [h]; omega)
        rw [c1]; exact Or.inl ⟨b2, h⟩
      · have q := own_ty_lt f _ _ h2
        have s2 := own_s1 h3
        have e1 : e.toInt = j.toInt + 1 := by rw [h]; exact s2
        have c1 := hc _ h1 (by omega) (by omega)
        have c2 := hc _ h3 (by omega) (by omega)
        rw [c1]
        exact Or.inr (Or.inl ⟨b2, j, own_ty_congr f _ _ (fun y q1 q2 q3 => hc y q1 (by omega) (by omega)) h2, h3, by rw [c2]; exact b3, h⟩)
      · have q := own_ty_lt f _ _ h2
        have q2 := own_ty_lt f _ _ h4
        have s2 := own_s1 h5
        have e1 : e.toInt = k.toInt + 1 := by rw [h]; exact s2
        have c1 := hc _ h1 (by omega) (by omega)
        have c2 := hc _ h3 (by omega) (by omega)
        have c3 := hc _ h5 (by omega) (by omega)
        rw [c1]
        exact Or.inr (Or.inr ⟨b2, j, own_ty_congr f _ _ (fun y q1 q2 q3 => hc y q1 (by omega) (by omega)) h2, h3, by rw [c2]; exact b3, k, own_ty_congr f _ _ (fun y q1 q2 q3 => hc y q1 (by omega) (by omega)) h4, h5, by rw [c3]; exact b4, h⟩)
/-- what 'arrays' leaves -/
def own_aL (l : List Int32) (p k : Int32) : List Int32 := if (0 : Int32) < k then (if (1 : Int32) < k then (if (2 : Int32) < k then own_wr (own_wr (own_wr l p (97 : Int32)) (p + (1 : Int32)) (97 : Int32)) (p + (1 : Int32) + (1 : Int32)) (97 : Int32) else own_wr (own_wr l p (97 : Int32)) (p + (1 : Int32)) (97 : Int32)) else own_wr l p (97 : Int32)) else l
def own_aE (p k : Int32) : Int32 := if (0 : Int32) < k then (if (1 : Int32) < k then (if (2 : Int32) < k then p + (1 : Int32) + (1 : Int32) + (1 : Int32) else p + (1 : Int32) + (1 : Int32)) else p + (1 : Int32)) else p
abbrev own_p (p : Int32) (M : Int) : Prop := 0 ≤ p.toInt ∧ p.toInt ≤ M
theorem own_three {p : Int32} (h : own_p p 20) : own_ix p ∧ own_ix (p + (1 : Int32)) ∧ own_ix (p + (1 : Int32) + (1 : Int32)) ∧ (p + (1 : Int32)).toInt = p.toInt + 1 ∧ (p + (1 : Int32) + (1 : Int32)).toInt = p.toInt + 2 ∧ (p + (1 : Int32) + (1 : Int32) + (1 : Int32)).toInt = p.toInt + 3 := by
  have a : own_ix p := (own_ix_iff p).mpr ⟨h.1, by have := h.2; omega⟩
  have b := own_s1 a
  have c : own_ix (p + (1 : Int32)) := (own_ix_iff _).mpr ⟨by have := h.1; omega, by have := h.2; omega⟩
  have d := own_s1 c
  have e : own_ix (p + (1 : Int32) + (1 : Int32)) := (own_ix_iff _).mpr ⟨by have := h.1; omega, by have := h.2; omega⟩
  have f := own_s1 e
  exact ⟨a, c, e, b, by omega, by omega⟩
theorem own_97 : ¬ (97 : Int32) < 0 ∧ ¬ (255 : Int32) < (97 : Int32) := by decide
theorem own_arr {l : List Int32} {p k : Int32} (hb : own_by l) (hp : own_p p 20) (hk : own_p k 3) : own_by (own_aL l p k) ∧ (own_aE p k).toInt = p.toInt + k.toInt ∧ (∀ j, own_ix j → (j.toInt < p.toInt ∨ (own_aE p k).toInt ≤ j.toInt) → own_rd (own_aL l p k) j = own_rd l j) ∧
    (∀ (L : List Int32) (f : Nat) (e : Int32), (∀ j, own_ix j → j.toInt < (own_aE p k).toInt → p.toInt ≤ j.toInt → own_rd L j = own_rd (own_aL l p k) j) → own_ty L f (own_aE p k) e → own_ty L (f + 3) p e) ∧ (0 < k.toInt → own_rd (own_aL l p k) p = (97 : Int32)) := by
  obtain ⟨i0, i1, i2, t1, t2, t3⟩ := own_three hp
  have hl := hb.1
  have w1 := own_by_wr (j := p) hb own_97
  have w2 := own_by_wr (j := p + (1 : Int32)) w1 own_97
  have w3 := own_by_wr (j := p + (1 : Int32) + (1 : Int32)) w2 own_97
  have k0 := hk.1
  have k3 := hk.2
  unfold own_aL own_aE
  simp only [Int32.lt_iff_toInt_lt, Int32.reduceToInt]
  by_cases c0 : 0 < k.toInt
  · rw [if_pos c0, if_pos c0]
    by_cases c1 : 1 < k.toInt
    · rw [if_pos c1, if_pos c1]
      by_cases c2 : 2 < k.toInt
      · rw [if_pos c2, if_pos c2]
        refine ⟨w3, by omega, fun j hj q => ?_, fun L f e hc h => ?_, fun _ => ?_⟩
        · rw [own_rw _ w2.1 i2 hj, if_neg (by omega), own_rw _ w1.1 i1 hj, if_neg (by omega), own_rw _ hl i0 hj, if_neg (by omega)]
        · have r0 := hc p i0 (by omega) (by omega)
          have r1 := hc _ i1 (by omega) (by omega)
          have r2 := hc _ i2 (by omega) (by omega)
          rw [own_rw _ w2.1 i2 i0, if_neg (by omega), own_rw _ w1.1 i1 i0, if_neg (by omega), own_rw _ hl i0 i0, if_pos rfl] at r0
          rw [own_rw _ w2.1 i2 i1, if_neg (by omega), own_rw _ w1.1 i1 i1, if_pos rfl] at r1
          rw [own_rw _ w2.1 i2 i2, if_pos rfl] at r2
          exact ⟨i0, Or.inl ⟨r0, i1, Or.inl ⟨r1, i2, Or.inl ⟨r2, h⟩⟩⟩⟩
        · rw [own_rw _ w2.1 i2 i0, if_neg (by omega), own_rw _ w1.1 i1 i0, if_neg (by omega), own_rw _ hl i0 i0, if_pos rfl]
      · rw [if_neg c2, if_neg c2]
        refine ⟨w2, by omega, fun j hj q => ?_, fun L f e hc h => ?_, fun _ => ?_⟩
        · rw [own_rw _ w1.1 i1 hj, if_neg (by omega), own_rw _ hl i0 hj, if_neg (by omega)]
        · have r0 := hc p i0 (by omega) (by omega)
          have r1 := hc _ i1 (by omega) (by omega)
          rw [own_rw _ w1.1 i1 i0, if_neg (by omega), own_rw _ hl i0 i0, if_pos rfl] at r0
          rw [own_rw _ w1.1 i1 i1, if_pos rfl] at r1
          exact ⟨i0, Or.inl ⟨r0, i1, Or.inl ⟨r1, own_ty_up _ _ _ h⟩⟩⟩
        · rw [own_rw _ w1.1 i1 i0, if_neg (by omega), own_rw _ hl i0 i0, if_pos rfl]
    · rw [if_neg c1, if_neg c1]
      refine ⟨w1, by omega, fun j hj q => ?_, fun L f e hc h => ?_, fun _ => ?_⟩
      · rw [own_rw _ hl i0 hj, if_neg (by omega)]
      · have r0 := hc p i0 (by omega) (by omega)
        rw [own_rw _ hl i0 i0, if_pos rfl] at r0
        exact ⟨i0, Or.inl ⟨r0, own_ty_up _ _ _ (own_ty_up _ _ _ h)⟩⟩
      · rw [own_rw _ hl i0 i0, if_pos rfl]
  · rw [if_neg c0, if_neg c0]
    refine ⟨hb, by omega, fun j hj q => rfl, fun L f e hc h => own_ty_up _ _ _ (own_ty_up _ _ _ (own_ty_up _ _ _ h)), fun q => absurd q c0⟩
abbrev own_c (v : Int32) : Prop := ¬ v < 0 ∧ ¬ (255 : Int32) < v
theorem own_255 (p : Int32) : own_c (p &&& (255 : Int32)) := by
  have e := c_mask p (255 : Int32) 8 (by decide) (by decide)
  constructor
  · simp only [Int32.lt_iff_toInt_lt, Int32.reduceToInt]; omega
  · simp only [Int32.lt_iff_toInt_lt, Int32.reduceToInt]; omega
def own_top (p : Int32) : Int32 := if (p &&& (255 : Int32)) = (97 : Int32) ∨ (p &&& (255 : Int32)) = (40 : Int32) ∨ (p &&& (255 : Int32)) = (123 : Int32) then (121 : Int32) else p &&& (255 : Int32)
theorem own_top_c (p : Int32) : own_c (own_top p) ∧ ¬ own_top p = (97 : Int32) ∧ ¬ own_top p = (40 : Int32) ∧ ¬ own_top p = (123 : Int32) := by
  unfold own_top
  split
  · decide
  · rename_i h
    exact ⟨own_255 p, fun q => h (Or.inl q), fun q => h (Or.inr (Or.inl q)), fun q => h (Or.inr (Or.inr q))⟩
def own_inner (p : Int32) : Int32 := if (p &&& (255 : Int32)) = (97 : Int32) ∨ (p &&& (255 : Int32)) = (40 : Int32) ∨ (p &&& (255 : Int32)) = (123 : Int32) ∨ (p &&& (255 : Int32)) = (41 : Int32) ∨ (p &&& (255 : Int32)) = (125 : Int32) then (105 : Int32) else p &&& (255 : Int32)
theorem own_inner_c (p : Int32) : own_c (own_inner p) ∧ ¬ own_inner p = (97 : Int32) ∧ ¬ own_inner p = (40 : Int32) ∧ ¬ own_inner p = (123 : Int32) ∧ ¬ own_inner p = (41 : Int32) ∧ ¬ own_inner p = (125 : Int32) := by
  unfold own_inner
  split
  · decide
  · rename_i h
    exact ⟨own_255 p, fun q => h (Or.inl q), fun q => h (Or.inr (Or.inl q)), fun q => h (Or.inr (Or.inr (Or.inl q))), fun q => h (Or.inr (Or.inr (Or.inr (Or.inl q)))), fun q => h (Or.inr (Or.inr (Or.inr (Or.inr q))))⟩
theorem own_ty_chr {l : List Int32} {i : Int32} (hi : own_ix i) (a : ¬ own_rd l i = (97 : Int32)) (b : ¬ own_rd l i = (40 : Int32)) (c : ¬ own_rd l i = (123 : Int32)) : own_ty l 1 i (i + (1 : Int32)) := ⟨hi, Or.inr (Or.inl ⟨a, b, c, rfl⟩)⟩
theorem own_ups {l : List Int32} {f : Nat} {i e : Int32} (g : Nat) (h : own_ty l f i e) : own_ty l (f + g) i e := by
  induction g with
  | zero => exact h
  | succ g ih => exact own_ty_up _ _ _ ih
abbrev own_br (o cl : Int32) : Prop := (o = (40 : Int32) ∧ cl = (41 : Int32)) ∨ (o = (123 : Int32) ∧ cl = (125 : Int32))
theorem own_br_c {o cl : Int32} (h : own_br o cl) : own_c o ∧ own_c cl := by rcases h with ⟨rfl, rfl⟩ | ⟨rfl, rfl⟩ <;> decide
theorem own_br_op {l : List Int32} {i o cl : Int32} (h : own_br o cl) (q : own_rd l i = o) : ((own_rd l i = (40 : Int32) ∧ cl = (41 : Int32)) ∨ (¬ own_rd l i = (40 : Int32) ∧ own_rd l i = (123 : Int32) ∧ cl = (125 : Int32))) ∧ ¬ own_rd l i = (97 : Int32) := by
  rw [q]
  rcases h with ⟨rfl, rfl⟩ | ⟨rfl, rfl⟩ <;> decide
def own_fr (l l' : List Int32) (i e : Int32) : Prop := own_by l' ∧ i.toInt < e.toInt ∧ e.toInt ≤ i.toInt + 7 ∧ (∀ j, own_ix j → (j.toInt < i.toInt ∨ e.toInt ≤ j.toInt) → own_rd l' j = own_rd l j) ∧ own_ty l' 5 i e ∧ ¬ own_rd l' i = (41 : Int32) ∧ ¬ own_rd l' i = (125 : Int32)
theorem own_fld {l L : List Int32} {p j e : Int32} (hb : own_by l) (hp : own_p p 16) (hj : own_p j 3) (hL : own_by L) (hs : ∀ x, own_ix x → (x.toInt < (own_aE p j).toInt ∨ e.toInt ≤ x.toInt) → own_rd L x = own_rd (own_aL l p j) x) (ht : own_ty L 2 (own_aE p j) e) (h1 : e.toInt ≤ (own_aE p j).toInt + 4) (h2 : ¬ own_rd L (own_aE p j) = (41 : Int32)) (h3 : ¬ own_rd L (own_aE p j) = (125 : Int32)) : own_fr l L p e := by
  obtain ⟨a1, a2, a3, a4, a5⟩ := own_arr hb (p := p) (k := j) ⟨hp.1, by have := hp.2; omega⟩ hj
  have j0 := hj.1
  have j3 := hj.2
  have p0 := hp.1
  have p1 := hp.2
  have lt := own_ty_lt _ _ _ ht
  have ip : own_ix p := (own_ix_iff p).mpr ⟨by omega, by omega⟩
  refine ⟨hL, by omega, by omega, fun x hx q => ?_, a4 L 2 e (fun x hx q1 q2 => hs x hx (Or.inl q1)) ht, ?_, ?_⟩
  · rw [hs x hx (by omega), a3 x hx (by omega)]
  · by_cases q : 0 < j.toInt
    · rw [hs p ip (Or.inl (by omega)), a5 q]; decide
    · have e1 : own_aE p j = p := Int32.toInt_inj.mp (by omega)
      rw [e1] at h2; exact h2
  · by_cases q : 0 < j.toInt
    · rw [hs p ip (Or.inl (by omega)), a5 q]; decide
    · have e1 : own_aE p j = p := Int32.toInt_inj.mp (by omega)
      rw [e1] at h3; exact h3
section Fld
variable {l : List Int32} {p j : Int32} (hb : own_by l) (hp : own_p p 16) (hj : own_p j 3)
theorem own_q (hb : own_by l) (hp : own_p p 16) (hj : own_p j 3) : own_by (own_aL l p j) ∧ own_ix (own_aE p j) ∧ own_ix (own_aE p j + (1 : Int32)) ∧ own_ix (own_aE p j + (2 : Int32)) ∧ own_ix (own_aE p j + (3 : Int32)) ∧ (own_aE p j + (1 : Int32)).toInt = (own_aE p j).toInt + 1 ∧ (own_aE p j + (2 : Int32)).toInt = (own_aE p j).toInt + 2 ∧ (own_aE p j + (3 : Int32)).toInt = (own_aE p j).toInt + 3 ∧ (own_aE p j + (4 : Int32)).toInt = (own_aE p j).toInt + 4 := by
  obtain ⟨a1, a2, -⟩ := own_arr hb (p := p) (k := j) ⟨hp.1, by have := hp.2; omega⟩ hj
  have j0 := hj.1
  have j3 := hj.2
  have p0 := hp.1
  have p1 := hp.2
  have i0 : own_ix (own_aE p j) := (own_ix_iff _).mpr ⟨by omega, by omega⟩
  have t1 := own_sk (k := (1 : Int32)) i0 (by decide) (by decide)
  have t2 := own_sk (k := (2 : Int32)) i0 (by decide) (by decide)
  have t3 := own_sk (k := (3 : Int32)) i0 (by decide) (by decide)
  have t4 := own_sk (k := (4 : Int32)) i0 (by decide) (by decide)
  simp only [Int32.reduceToInt] at t1 t2 t3 t4
  exact ⟨a1, i0, (own_ix_iff _).mpr ⟨by omega, by omega⟩, (own_ix_iff _).mpr ⟨by omega, by omega⟩, (own_ix_iff _).mpr ⟨by omega, by omega⟩, t1, t2, t3, t4⟩
theorem own_f0 (c : Int32) (hb : own_by l) (hp : own_p p 16) (hj : own_p j 3) : own_fr l (own_wr (own_aL l p j) (own_aE p j) (own_inner c)) p (own_aE p j + (1 : Int32)) := by
  obtain ⟨a, i0, i1, i2, i3, t1, t2, t3, t4⟩ := own_q hb hp hj
  obtain ⟨c0, c1, c2, c3, c4, c5⟩ := own_inner_c c
  have r0 : own_rd (own_wr (own_aL l p j) (own_aE p j) (own_inner c)) (own_aE p j) = own_inner c := by rw [own_rw _ a.1 i0 i0, if_pos rfl]
  refine own_fld hb hp hj (own_by_wr a c0) (fun x hx q => by rw [own_rw _ a.1 i0 hx, if_neg (by omega)]) ?_ (by omega) (by rw [r0]; exact c4) (by rw [r0]; exact c5)
  exact own_ty_up _ _ _ (own_ty_chr i0 (by rw [r0]; exact c1) (by rw [r0]; exact c2) (by rw [r0]; exact c3))
theorem own_12 {q : Int32} (i1 : own_ix (q + (1 : Int32))) (t1 : (q + (1 : Int32)).toInt = q.toInt + 1) (t2 : (q + (2 : Int32)).toInt = q.toInt + 2) : q + (1 : Int32) + (1 : Int32) = q + (2 : Int32) := by
  have := own_s1 i1
  exact Int32.toInt_inj.mp (by omega)
theorem own_23 {q : Int32} (i2 : own_ix (q + (2 : Int32))) (t2 : (q + (2 : Int32)).toInt = q.toInt + 2) (t3 : (q + (3 : Int32)).toInt = q.toInt + 3) : q + (2 : Int32) + (1 : Int32) = q + (3 : Int32) := by
  have := own_s1 i2
  exact Int32.toInt_inj.mp (by omega)
theorem own_34 {q : Int32} (i3 : own_ix (q + (3 : Int32))) (t3 : (q + (3 : Int32)).toInt = q.toInt + 3) (t4 : (q + (4 : Int32)).toInt = q.toInt + 4) : q + (3 : Int32) + (1 : Int32) = q + (4 : Int32) := by
  have := own_s1 i3
  exact Int32.toInt_inj.mp (by omega)
theorem own_f1 (c : Int32) (hb : own_by l) (hp : own_p p 16) (hj : own_p j 3) : own_fr l (own_wr (own_wr (own_wr (own_aL l p j) (own_aE p j) (40 : Int32)) (own_aE p j + (1 : Int32)) (own_inner c)) (own_aE p j + (2 : Int32)) (41 : Int32)) p (own_aE p j + (3 : Int32)) := by
  obtain ⟨a, i0, i1, i2, i3, t1, t2, t3, t4⟩ := own_q hb hp hj
  obtain ⟨c0, c1, c2, c3, c4, c5⟩ := own_inner_c c
  have w1 := own_by_wr (j := own_aE p j) a (show own_c (40 : Int32) by decide)
  have w2 := own_by_wr (j := own_aE p j + (1 : Int32)) w1 c0
  have w3 := own_by_wr (j := own_aE p j + (2 : Int32)) w2 (show own_c (41 : Int32) by decide)
  have r0 := own_rw (41 : Int32) w2.1 i2 i0
  rw [if_neg (by omega), own_rw _ w1.1 i1 i0, if_neg (by omega), own_rw _ a.1 i0 i0, if_pos rfl] at r0
  have r1 := own_rw (41 : Int32) w2.1 i2 i1
  rw [if_neg (by omega), own_rw _ w1.1 i1 i1, if_pos rfl] at r1
  have r2 := own_rw (41 : Int32) w2.1 i2 i2
  rw [if_pos rfl] at r2
  refine own_fld hb hp hj w3 (fun x hx q => by rw [own_rw _ w2.1 i2 hx, if_neg (by omega), own_rw _ w1.1 i1 hx, if_neg (by omega), own_rw _ a.1 i0 hx, if_neg (by omega)]) ?_ (by omega) (by rw [r0]; decide) (by rw [r0]; decide)
  have ty1 := own_ty_chr i1 (by rw [r1]; exact c1) (by rw [r1]; exact c2) (by rw [r1]; exact c3)
  rw [own_12 i1 t1 t2] at ty1
  exact ⟨i0, Or.inr (Or.inr ⟨41, Or.inl ⟨r0, rfl⟩, by rw [r0]; decide, i1, Or.inr (Or.inl ⟨by rw [r1]; exact c4, _, ty1, i2, r2, (own_23 i2 t2 t3).symm⟩)⟩)⟩
theorem own_f2 (c d : Int32) (hb : own_by l) (hp : own_p p 16) (hj : own_p j 3) : own_fr l (own_wr (own_wr (own_wr (own_wr (own_aL l p j) (own_aE p j) (123 : Int32)) (own_aE p j + (1 : Int32)) (own_inner c)) (own_aE p j + (2 : Int32)) (own_inner d)) (own_aE p j + (3 : Int32)) (125 : Int32)) p (own_aE p j + (4 : Int32)) := by
  obtain ⟨a, i0, i1, i2, i3, t1, t2, t3, t4⟩ := own_q hb hp hj
  obtain ⟨c0, c1, c2, c3, c4, c5⟩ := own_inner_c c
  obtain ⟨d0, d1, d2, d3, d4, d5⟩ := own_inner_c d
  have w1 := own_by_wr (j := own_aE p j) a (show own_c (123 : Int32) by decide)
  have w2 := own_by_wr (j := own_aE p j + (1 : Int32)) w1 c0
  have w3 := own_by_wr (j := own_aE p j + (2 : Int32)) w2 d0
  have w4 := own_by_wr (j := own_aE p j + (3 : Int32)) w3 (show own_c (125 : Int32) by decide)
  have r0 := own_rw (125 : Int32) w3.1 i3 i0
  rw [if_neg (by omega), own_rw _ w2.1 i2 i0, if_neg (by omega), own_rw _ w1.1 i1 i0, if_neg (by omega), own_rw _ a.1 i0 i0, if_pos rfl] at r0
  have r1 := own_rw (125 : Int32) w3.1 i3 i1
  rw [if_neg (by omega), own_rw _ w2.1 i2 i1, if_neg (by omega), own_rw _ w1.1 i1 i1, if_pos rfl] at r1
  have r2 := own_rw (125 : Int32) w3.1 i3 i2
  rw [if_neg (by omega), own_rw _ w2.1 i2 i2, if_pos rfl] at r2
  have r3 := own_rw (125 : Int32) w3.1 i3 i3
  rw [if_pos rfl] at r3
  refine own_fld hb hp hj w4 (fun x hx q => by rw [own_rw _ w3.1 i3 hx, if_neg (by omega), own_rw _ w2.1 i2 hx, if_neg (by omega), own_rw _ w1.1 i1 hx, if_neg (by omega), own_rw _ a.1 i0 hx, if_neg (by omega)]) ?_ (by omega) (by rw [r0]; decide) (by rw [r0]; decide)
  have ty1 := own_ty_chr i1 (by rw [r1]; exact c1) (by rw [r1]; exact c2) (by rw [r1]; exact c3)
  rw [own_12 i1 t1 t2] at ty1
  have ty2 := own_ty_chr i2 (by rw [r2]; exact d1) (by rw [r2]; exact d2) (by rw [r2]; exact d3)
  rw [own_23 i2 t2 t3] at ty2
  exact ⟨i0, Or.inr (Or.inr ⟨125, Or.inr ⟨by rw [r0]; decide, r0, rfl⟩, by rw [r0]; decide, i1, Or.inr (Or.inr ⟨by rw [r1]; exact c5, _, ty1, i2, by rw [r2]; exact d5, _, ty2, i3, r3, (own_34 i3 t3 t4).symm⟩)⟩)⟩
theorem own_f3 (hb : own_by l) (hp : own_p p 16) (hj : own_p j 3) : own_fr l (own_wr (own_wr (own_aL l p j) (own_aE p j) (40 : Int32)) (own_aE p j + (1 : Int32)) (41 : Int32)) p (own_aE p j + (2 : Int32)) := by
  obtain ⟨a, i0, i1, i2, i3, t1, t2, t3, t4⟩ := own_q hb hp hj
  have w1 := own_by_wr (j := own_aE p j) a (show own_c (40 : Int32) by decide)
  have w2 := own_by_wr (j := own_aE p j + (1 : Int32)) w1 (show own_c (41 : Int32) by decide)
  have r0 := own_rw (41 : Int32) w1.1 i1 i0
  rw [if_neg (by omega), own_rw _ a.1 i0 i0, if_pos rfl] at r0
  have r1 := own_rw (41 : Int32) w1.1 i1 i1
  rw [if_pos rfl] at r1
  refine own_fld hb hp hj w2 (fun x hx q => by rw [own_rw _ w1.1 i1 hx, if_neg (by omega), own_rw _ a.1 i0 hx, if_neg (by omega)]) ?_ (by omega) (by rw [r0]; decide) (by rw [r0]; decide)
  exact ⟨i0, Or.inr (Or.inr ⟨41, Or.inl ⟨r0, rfl⟩, by rw [r0]; decide, i1, Or.inl ⟨r1, (own_12 i1 t1 t2).symm⟩⟩)⟩
end Fld
section Law
variable {l M F F1 F2 : List Int32} {st k o cl b en e1 e2 c : Int32}
theorem own_pos (hb : own_by l) (hs : own_p st 3) (hk : own_p k 3) : own_by (own_aL l st k) ∧ own_p (own_aE st k) 6 ∧ own_ix (own_aE st k) ∧ own_ix (own_aE st k + (1 : Int32)) ∧ (own_aE st k + (1 : Int32)).toInt = (own_aE st k).toInt + 1 := by
  obtain ⟨a1, a2, -⟩ := own_arr hb (p := st) (k := k) ⟨hs.1, by have := hs.2; omega⟩ hk
  have h1 := hs.1
  have h2 := hs.2
  have h3 := hk.1
  have h4 := hk.2
  have i0 : own_ix (own_aE st k) := (own_ix_iff _).mpr ⟨by omega, by omega⟩
  have t := own_s1 i0
  exact ⟨a1, ⟨by omega, by omega⟩, i0, (own_ix_iff _).mpr ⟨by omega, by omega⟩, t⟩
theorem own_e0 (hb : own_by l) (hs : own_p st 3) (hk : own_p k 3) (hc : own_c b) : own_by (own_wr (own_wr (own_aL l st k) (own_aE st k) (own_top c)) (own_aE st k + (1 : Int32)) b) ∧ own_ty (own_wr (own_wr (own_aL l st k) (own_aE st k) (own_top c)) (own_aE st k + (1 : Int32)) b) 9 st (own_aE st k + (1 : Int32)) := by
  obtain ⟨a1, a2, a3, a4, a5⟩ := own_arr hb (p := st) (k := k) ⟨hs.1, by have := hs.2; omega⟩ hk
  obtain ⟨-, p6, i0, i1, t1⟩ := own_pos hb hs hk
  obtain ⟨c0, c1, c2, c3⟩ := own_top_c c
  have w1 := own_by_wr (j := own_aE st k) a1 c0
  have w2 := own_by_wr (j := own_aE st k + (1 : Int32)) w1 hc
  have r0 := own_rw b w1.1 i1 i0
  rw [if_neg (by omega), own_rw _ a1.1 i0 i0, if_pos rfl] at r0
  refine ⟨w2, a4 _ 6 _ (fun x hx q1 q2 => by rw [own_rw _ w1.1 i1 hx, if_neg (by omega), own_rw _ a1.1 i0 hx, if_neg (by omega)]) ?_⟩
  exact own_ups 5 (own_ty_chr i0 (by rw [r0]; exact c1) (by rw [r0]; exact c2) (by rw [r0]; exact c3))
theorem own_wrap (hb : own_by l) (hs : own_p st 3) (hk : own_p k 3) (ho : own_br o cl) (hc : own_c b) (hM : own_by M) (h1 : (own_aE st k).toInt + 1 ≤ en.toInt) (h2 : en.toInt ≤ (own_aE st k).toInt + 15) (h3 : ∀ x, own_ix x → x.toInt ≤ (own_aE st k).toInt → own_rd M x = own_rd (own_wr (own_aL l st k) (own_aE st k) o) x) :
    own_by (own_wr (own_wr M en cl) (en + (1 : Int32)) b) ∧ own_rd (own_wr (own_wr M en cl) (en + (1 : Int32)) b) en = cl ∧ own_rd (own_wr (own_wr M en cl) (en + (1 : Int32)) b) (own_aE st k) = o ∧ (∀ x, own_ix x → x.toInt < en.toInt → own_rd (own_wr (own_wr M en cl) (en + (1 : Int32)) b) x = own_rd M x) ∧ (own_ty (own_wr (own_wr M en cl) (en + (1 : Int32)) b) 6 (own_aE st k) (en + (1 : Int32)) → own_ty (own_wr (own_wr M en cl) (en + (1 : Int32)) b) 9 st (en + (1 : Int32))) ∧ own_ix en := by
  obtain ⟨a1, a2, a3, a4, a5⟩ := own_arr hb (p := st) (k := k) ⟨hs.1, by have := hs.2; omega⟩ hk
  obtain ⟨-, ⟨p0, p6⟩, i0, i1, t1⟩ := own_pos hb hs hk
  have ie : own_ix en := (own_ix_iff _).mpr ⟨by omega, by omega⟩
  have te := own_s1 ie
  have ie1 : own_ix (en + (1 : Int32)) := (own_ix_iff _).mpr ⟨by omega, by omega⟩
  have bc := own_br_c ho
  have w1 := own_by_wr (j := en) hM bc.2
  have w2 := own_by_wr (j := en + (1 : Int32)) w1 hc
  have rr : ∀ x, own_ix x → x.toInt < en.toInt → own_rd (own_wr (own_wr M en cl) (en + (1 : Int32)) b) x = own_rd M x := fun x hx q => by rw [own_rw _ w1.1 ie1 hx, if_neg (by omega), own_rw _ hM.1 ie hx, if_neg (by omega)]
  refine ⟨w2, ?_, ?_, rr, fun h => a4 _ 6 _ (fun x hx q1 q2 => ?_) h, ie⟩
  · rw [own_rw _ w1.1 ie1 ie, if_neg (by omega), own_rw _ hM.1 ie ie, if_pos rfl]
  · rw [rr _ i0 (by omega), h3 _ i0 (by omega), own_rw _ a1.1 i0 i0, if_pos rfl]
  · rw [rr _ hx (by omega), h3 _ hx (by omega), own_rw _ a1.1 i0 hx, if_neg (by omega)]
theorem own_n0 (hb : own_by l) (hs : own_p st 3) (hk : own_p k 3) (ho : own_br o cl) (hc : own_c b) : own_by (own_wr (own_wr (own_wr (own_aL l st k) (own_aE st k) o) (own_aE st k + (1 : Int32)) cl) (own_aE st k + (1 : Int32) + (1 : Int32)) b) ∧ own_ty (own_wr (own_wr (own_wr (own_aL l st k) (own_aE st k) o) (own_aE st k + (1 : Int32)) cl) (own_aE st k + (1 : Int32) + (1 : Int32)) b) 9 st (own_aE st k + (1 : Int32) + (1 : Int32)) := by
  obtain ⟨a1, ⟨p0, p6⟩, i0, i1, t1⟩ := own_pos hb hs hk
  obtain ⟨w, r1, r0, rr, lift, ie⟩ := own_wrap (en := own_aE st k + (1 : Int32)) (b := b) hb hs hk ho hc (own_by_wr (j := own_aE st k) a1 (own_br_c ho).1) (by omega) (by omega) (fun x hx q => rfl)
  obtain ⟨o1, o2⟩ := own_br_op ho r0
  exact ⟨w, lift ⟨i0, Or.inr (Or.inr ⟨cl, o1, o2, i1, Or.inl ⟨r1, rfl⟩⟩)⟩⟩
theorem own_nb {x : Int32} (ho : own_br o cl) (h1 : ¬ x = (41 : Int32)) (h2 : ¬ x = (125 : Int32)) : ¬ x = cl := by
  rcases ho with ⟨-, rfl⟩ | ⟨-, rfl⟩
  · exact h1
  · exact h2
theorem own_n1 (hb : own_by l) (hs : own_p st 3) (hk : own_p k 3) (ho : own_br o cl) (hc : own_c b) (hf : own_fr (own_wr (own_aL l st k) (own_aE st k) o) F (own_aE st k + (1 : Int32)) en) : own_by (own_wr (own_wr F en cl) (en + (1 : Int32)) b) ∧ own_ty (own_wr (own_wr F en cl) (en + (1 : Int32)) b) 9 st (en + (1 : Int32)) := by
  obtain ⟨a1, ⟨p0, p6⟩, i0, i1, t1⟩ := own_pos hb hs hk
  obtain ⟨f1, f2, f3, f4, f5, f6, f7⟩ := hf
  obtain ⟨w, r1, r0, rr, lift, ie⟩ := own_wrap (en := en) (b := b) hb hs hk ho hc f1 (by omega) (by omega) (fun x hx q => f4 x hx (by omega))
  obtain ⟨o1, o2⟩ := own_br_op ho r0
  exact ⟨w, lift ⟨i0, Or.inr (Or.inr ⟨cl, o1, o2, i1, Or.inr (Or.inl ⟨by rw [rr _ i1 (by omega)]; exact own_nb ho f6 f7, en, own_ty_congr 5 _ _ (fun x hx q1 q2 => rr x hx q2) f5, ie, r1, rfl⟩)⟩)⟩⟩
theorem own_n2 (hb : own_by l) (hs : own_p st 3) (hk : own_p k 3) (ho : own_br o cl) (hc : own_c b) (hf : own_fr (own_wr (own_aL l st k) (own_aE st k) o) F (own_aE st k + (1 : Int32)) e1) (hg : own_fr F F2 e1 en) : own_by (own_wr (own_wr F2 en cl) (en + (1 : Int32)) b) ∧ own_ty (own_wr (own_wr F2 en cl) (en + (1 : Int32)) b) 9 st (en + (1 : Int32)) := by
  obtain ⟨a1, ⟨p0, p6⟩, i0, i1, t1⟩ := own_pos hb hs hk
  obtain ⟨f1, f2, f3, f4, f5, f6, f7⟩ := hf
  obtain ⟨g1, g2, g3, g4, g5, g6, g7⟩ := hg
  have ix : own_ix e1 := (own_ix_iff _).mpr ⟨by omega, by omega⟩
  obtain ⟨w, r1, r0, rr, lift, ie⟩ := own_wrap (en := en) (b := b) hb hs hk ho hc g1 (by omega) (by omega) (fun x hx q => by rw [g4 x hx (by omega)]; exact f4 x hx (by omega))
  obtain ⟨o1, o2⟩ := own_br_op ho r0
  refine ⟨w, lift ⟨i0, Or.inr (Or.inr ⟨cl, o1, o2, i1, Or.inr (Or.inr ⟨?_, e1, own_ty_congr 5 _ _ (fun x hx q1 q2 => by rw [rr x hx (by omega)]; exact g4 x hx (by omega)) f5, ix, ?_, en, own_ty_congr 5 _ _ (fun x hx q1 q2 => rr x hx q2) g5, ie, r1, rfl⟩)⟩)⟩⟩
  · rw [rr _ i1 (by omega), g4 _ i1 (by omega)]; exact own_nb ho f6 f7
  · rw [rr _ ix (by omega)]; exact own_nb ho g6 g7
theorem own_n1p (hb : own_by l) (hs : own_p st 3) (hk : own_p k 3) (hf : own_fr (own_wr (own_aL l st k) (own_aE st k) o) F (own_aE st k + (1 : Int32)) e1) : own_p e1 14 ∧ own_ix e1 ∧ own_ix (e1 + (1 : Int32)) := by
  obtain ⟨a1, ⟨p0, p6⟩, i0, i1, t1⟩ := own_pos hb hs hk
  obtain ⟨f1, f2, f3, -⟩ := hf
  have ix : own_ix e1 := (own_ix_iff _).mpr ⟨by omega, by omega⟩
  have := own_s1 ix
  exact ⟨⟨by omega, by omega⟩, ix, (own_ix_iff _).mpr ⟨by omega, by omega⟩⟩
theorem own_n2p (h1 : own_p e1 14) (hg : own_fr F F2 e1 en) : own_ix en ∧ own_ix (en + (1 : Int32)) := by
  obtain ⟨f1, f2, f3, -⟩ := hg
  have a := h1.1
  have b := h1.2
  have ix : own_ix en := (own_ix_iff _).mpr ⟨by omega, by omega⟩
  have := own_s1 ix
  exact ⟨ix, (own_ix_iff _).mpr ⟨by omega, by omega⟩⟩
theorem own_pos2 (hb : own_by l) (hs : own_p st 3) (hk : own_p k 3) : own_ix (own_aE st k + (1 : Int32) + (1 : Int32)) ∧ own_p (own_aE st k + (1 : Int32)) 16 := by
  obtain ⟨a1, ⟨p0, p6⟩, i0, i1, t1⟩ := own_pos hb hs hk
  have := own_s1 i1
  exact ⟨(own_ix_iff _).mpr ⟨by omega, by omega⟩, by omega, by omega⟩
end Law
theorem own_3 (x : Int32) : own_p (x &&& (3 : Int32)) 3 := by
  have e := c_mask x (3 : Int32) 2 (by decide) (by decide)
  constructor <;> omega
theorem own_z24 : own_by [(0 : Int32), (0 : Int32), (0 : Int32), (0 : Int32), (0 : Int32), (0 : Int32), (0 : Int32), (0 : Int32), (0 : Int32), (0 : Int32), (0 : Int32), (0 : Int32), (0 : Int32), (0 : Int32), (0 : Int32), (0 : Int32), (0 : Int32), (0 : Int32), (0 : Int32), (0 : Int32), (0 : Int32), (0 : Int32), (0 : Int32), (0 : Int32)] := ⟨rfl, by decide⟩
theorem own_lb (x : Int64) : own_c ((x &&& (255 : Int64)).toInt32.toUInt32.toUInt16.toUInt32.toInt32) := by
  have a := c_maskL x (255 : Int64) 8 (by decide) (by decide)
  have b := c_l2i (x &&& (255 : Int64))
  have c := c_i2c ((x &&& (255 : Int64)).toInt32)
  have d := rng32 ((x &&& (255 : Int64)).toInt32)
  constructor
  · simp only [Int32.lt_iff_toInt_lt, Int32.reduceToInt]; omega
  · simp only [Int32.lt_iff_toInt_lt, Int32.reduceToInt]; omega
theorem own_chn {v : Int32} (h : own_c v) : nar .char v = v := own_nar h
abbrev own_room (f : Nat) : Room := { frames := 3 + f, cells := 0, slots := 0, locals := 40 + 16 * f }
theorem pn_0 : plainName "jdk/internal/util/Preconditions" = true := by first | (simp [plainName, overriddenIn]; done) | decide +kernel
theorem d14_0 : decode jdk_41_method_11_code 0 = .ok (.iload_n 0, 1) := by decide +kernel
theorem d14_1 : decode jdk_41_method_11_code 1 = .ok (.ifCond .lt 8, 3) := by decide +kernel
theorem d14_4 : decode jdk_41_method_11_code 4 = .ok (.iload_n 0, 1) := by decide +kernel
theorem d14_5 : decode jdk_41_method_11_code 5 = .ok (.iload_n 1, 1) := by decide +kernel
theorem d14_6 : decode jdk_41_method_11_code 6 = .ok (.if_icmp .lt 10, 3) := by decide +kernel
theorem d14_16 : decode jdk_41_method_11_code 16 = .ok (.iload_n 0, 1) := by decide +kernel
theorem d14_17 : decode jdk_41_method_11_code 17 = .ok (.ireturn, 1) := by decide +kernel
theorem ef_14 (m : MethodId) (x0 : Int32) (x1 : Int32) (x2 : Addr) : entryFrame m #[(.int x0), (.int x1), (.ref x2)] 3 = mkF m 0 #[.val (.int x0), .val (.int x1), .val (.ref x2)] [] := by first | (simp [entryFrame, mkF, argsToLocals, Value.category]; done) | rfl
def Q14 (Z : State) (p0 : Int32) (p1 : Int32) (o2 : Addr) (h0 : Heap) (n0 : Nat) (v : Option Value) (h : Heap) (L : List Loc) : Prop := v = some (.int p0) ∧ Fr n0 L ∧ h = h0
set_option maxRecDepth 65536 in
set_option maxHeartbeats 40000000 in
theorem rm14 (l : Launch) (Z : State) (a0 : Array Value) (hw : ∀ d ∈ tables_1, d.before a0 Z = true) (ws : List Jvm.Cond) (p0 : Int32) (p1 : Int32) (o2 : Addr) (h0 : Heap) (n0 : Nat) (Z0 : n0 ≤ h0.size) (hn : ¬ p0 < (0 : Int32)) (hl : p0 < p1) :
    MetFree l (⟨"jdk/internal/util/Preconditions", "checkIndex", "(IILjava/util/function/BiFunction;)I"⟩ : MethodName) (head1 (Jvm.Cond.code (⟨"jdk/internal/util/Preconditions", "checkIndex", "(IILjava/util/function/BiFunction;)I"⟩ : MethodName) jdk_41_method_11_code 3 (some .int) :: ws) ({ frames := 0, cells := 0, slots := 0, locals := 0 } : Room)) (fun a U => a = #[(.int p0), (.int p1), (.ref o2)] ∧ Z.Warmed39 U.vm ∧ U.heap = h0) (fun _ _ _ _ _ => True) (fun _ U o U' => ∃ v L, o = .returned v ∧ Q14 Z p0 p1 o2 h0 n0 v U'.heap L ∧ FrameEnd U o U' L ({ frames := 0, cells := 0, slots := 0, locals := 0 } : Room).cells ({ frames := 0, cells := 0, slots := 0, locals := 0 } : Room).slots) := by
  refine MetFree.of_bodySF (plainFor_of_name pn_0) hisR ?_
  intro p e s m args below meth c s₁ Bd hml0 hP hK
  obtain ⟨rfl, hZ, hh⟩ := hP
  have hx := Bd.exec
  have hby := Bd.bytes
  have hml : c.maxLocals = 3 := hml0
  have hown : s.vm.findClass "jdk/internal/util/Preconditions" = some m.cls := findClass_of_methodNamed Bd.named
  have hnm := (name_of_methodNamed Bd.named Bd.method).1
  have X0 : Stand p l e ({ frames := 0, cells := 0, slots := 0, locals := 0 } : Room) s m #[(.int p0), (.int p1), (.ref o2)] below meth c s₁ [] 0 0 := Stand.of_body Bd
  have e0 : s₁.heap = h0 := by rw [← hh, Bd.state]; rfl
  have N0 := Fr.nil n0
  have pre0 : ∀ t, Steps p.tables e below (s₁.setTop (mkF m 0 #[.val (.int p0), .val (.int p1), .val (.ref o2)] [])) t → Steps p.tables e below (s₁.setTop (entryFrame m #[(.int p0), (.int p1), (.ref o2)] 3)) t := fun t k => castTop (ef_14 m p0 p1 o2) k
  have pre1 : ∀ t, Steps p.tables e below (s₁.setTop (mkF m 17 #[.val (.int p0), .val (.int p1), .val (.ref o2)] [(.int p0)])) t → Steps p.tables e below (s₁.setTop (entryFrame m #[(.int p0), (.int p1), (.ref o2)] 3)) t := fun t k => pre0 t (by
    show Steps p.tables e below (s₁.setTop (mkF m 0 #[.val (.int p0), .val (.int p1), .val (.ref o2)] [])) _
    refine XS.iloadN X0.here hx rfl (hb hby d14_0) rfl ?_
    show Steps p.tables e below (s₁.setTop (mkF m 1 #[.val (.int p0), .val (.int p1), .val (.ref o2)] [(.int p0)])) _
    refine XS.ifNo X0.here hx rfl (hb hby d14_1) rfl ((if0 _ _).trans (flt hn).1) ?_
    show Steps p.tables e below (s₁.setTop (mkF m 4 #[.val (.int p0), .val (.int p1), .val (.ref o2)] [])) _
    refine XS.iloadN X0.here hx rfl (hb hby d14_4) rfl ?_
    show Steps p.tables e below (s₁.setTop (mkF m 5 #[.val (.int p0), .val (.int p1), .val (.ref o2)] [(.int p0)])) _
    refine XS.iloadN X0.here hx rfl (hb hby d14_5) rfl ?_
    show Steps p.tables e below (s₁.setTop (mkF m 6 #[.val (.int p0), .val (.int p1), .val (.ref o2)] [(.int p1), (.int p0)])) _
    refine XS.icmpYes X0.here hx rfl (pc0 := 6) (pc' := 16) rfl (hb hby d14_6) rfl (tlt hl).1 (by decide) (by decide) ?_
    show Steps p.tables e below (s₁.setTop (mkF m 16 #[.val (.int p0), .val (.int p1), .val (.ref o2)] [])) _
    refine XS.iloadN X0.here hx rfl (hb hby d14_16) rfl ?_
    exact k)
  obtain ⟨fs, hr, hrun, hended, hW, hsame⟩ := X0.leave (v := some (.int p0)) (fun h => by rw [Bd.returns] at h; cases h)
  refine ⟨_, _, pre1 _ ?_, hrun, hended, _, _, rfl, ?_, ⟨_, rfl⟩, hW, hsame.mono (by decide) (by decide)⟩
  · exact retI X0 hx Bd.returns (hb hby d14_17) hr
  · show Q14 Z p0 p1 o2 h0 n0 _ s₁.heap _
    rw [e0]
    exact ⟨rfl, N0, rfl⟩
theorem ef_14n (m : MethodId) (x0 : Int32) (x1 : Int32) : entryFrame m #[(.int x0), (.int x1), .null] 3 = mkF m 0 #[.val (.int x0), .val (.int x1), .val .null] [] := by first | (simp [entryFrame, mkF, argsToLocals, Value.category]; done) | rfl
def Q14n (Z : State) (p0 : Int32) (p1 : Int32) (h0 : Heap) (n0 : Nat) (v : Option Value) (h : Heap) (L : List Loc) : Prop := v = some (.int p0) ∧ Fr n0 L ∧ h = h0
set_option maxRecDepth 65536 in
set_option maxHeartbeats 40000000 in
theorem rm14n (l : Launch) (Z : State) (a0 : Array Value) (hw : ∀ d ∈ tables_1, d.before a0 Z = true) (ws : List Jvm.Cond) (p0 : Int32) (p1 : Int32) (h0 : Heap) (n0 : Nat) (Z0 : n0 ≤ h0.size) (hn : ¬ p0 < (0 : Int32)) (hl : p0 < p1) :
    MetFree l (⟨"jdk/internal/util/Preconditions", "checkIndex", "(IILjava/util/function/BiFunction;)I"⟩ : MethodName) (head1 (Jvm.Cond.code (⟨"jdk/internal/util/Preconditions", "checkIndex", "(IILjava/util/function/BiFunction;)I"⟩ : MethodName) jdk_41_method_11_code 3 (some .int) :: ws) ({ frames := 0, cells := 0, slots := 0, locals := 0 } : Room)) (fun a U => a = #[(.int p0), (.int p1), .null] ∧ Z.Warmed39 U.vm ∧ U.heap = h0) (fun _ _ _ _ _ => True) (fun _ U o U' => ∃ v L, o = .returned v ∧ Q14n Z p0 p1 h0 n0 v U'.heap L ∧ FrameEnd U o U' L ({ frames := 0, cells := 0, slots := 0, locals := 0 } : Room).cells ({ frames := 0, cells := 0, slots := 0, locals := 0 } : Room).slots) := by
  refine MetFree.of_bodySF (plainFor_of_name pn_0) hisR ?_
  intro p e s m args below meth c s₁ Bd hml0 hP hK
  obtain ⟨rfl, hZ, hh⟩ := hP
  have hx := Bd.exec
  have hby := Bd.bytes
  have hml : c.maxLocals = 3 := hml0
  have hown : s.vm.findClass "jdk/internal/util/Preconditions" = some m.cls := findClass_of_methodNamed Bd.named
  have hnm := (name_of_methodNamed Bd.named Bd.method).1
  have X0 : Stand p l e ({ frames := 0, cells := 0, slots := 0, locals := 0 } : Room) s m #[(.int p0), (.int p1), .null] below meth c s₁ [] 0 0 := Stand.of_body Bd
  have e0 : s₁.heap = h0 := by rw [← hh, Bd.state]; rfl
  have N0 := Fr.nil n0
  have pre0 : ∀ t, Steps p.tables e below (s₁.setTop (mkF m 0 #[.val (.int p0), .val (.int p1), .val .null] [])) t → Steps p.tables e below (s₁.setTop (entryFrame m #[(.int p0), (.int p1), .null] 3)) t := fun t k => castTop (ef_14n m p0 p1) k
  have pre1 : ∀ t, Steps p.tables e below (s₁.setTop (mkF m 17 #[.val (.int p0), .val (.int p1), .val .null] [(.int p0)])) t → Steps p.tables e below (s₁.setTop (entryFrame m #[(.int p0), (.int p1), .null] 3)) t := fun t k => pre0 t (by
    show Steps p.tables e below (s₁.setTop (mkF m 0 #[.val (.int p0), .val (.int p1), .val .null] [])) _
    refine XS.iloadN X0.here hx rfl (hb hby d14_0) rfl ?_
    show Steps p.tables e below (s₁.setTop (mkF m 1 #[.val (.int p0), .val (.int p1), .val .null] [(.int p0)])) _
    refine XS.ifNo X0.here hx rfl (hb hby d14_1) rfl ((if0 _ _).trans (flt hn).1) ?_
    show Steps p.tables e below (s₁.setTop (mkF m 4 #[.val (.int p0), .val (.int p1), .val .null] [])) _
    refine XS.iloadN X0.here hx rfl (hb hby d14_4) rfl ?_
    show Steps p.tables e below (s₁.setTop (mkF m 5 #[.val (.int p0), .val (.int p1), .val .null] [(.int p0)])) _
    refine XS.iloadN X0.here hx rfl (hb hby d14_5) rfl ?_
    show Steps p.tables e below (s₁.setTop (mkF m 6 #[.val (.int p0), .val (.int p1), .val .null] [(.int p1), (.int p0)])) _
    refine XS.icmpYes X0.here hx rfl (pc0 := 6) (pc' := 16) rfl (hb hby d14_6) rfl (tlt hl).1 (by decide) (by decide) ?_
    show Steps p.tables e below (s₁.setTop (mkF m 16 #[.val (.int p0), .val (.int p1), .val .null] [])) _
    refine XS.iloadN X0.here hx rfl (hb hby d14_16) rfl ?_
    exact k)
  obtain ⟨fs, hr, hrun, hended, hW, hsame⟩ := X0.leave (v := some (.int p0)) (fun h => by rw [Bd.returns] at h; cases h)
  refine ⟨_, _, pre1 _ ?_, hrun, hended, _, _, rfl, ?_, ⟨_, rfl⟩, hW, hsame.mono (by decide) (by decide)⟩
  · exact retI X0 hx Bd.returns (hb hby d14_17) hr
  · show Q14n Z p0 p1 h0 n0 _ s₁.heap _
    rw [e0]
    exact ⟨rfl, N0, rfl⟩
theorem pn_1 : plainName "java/lang/String" = true := by first | (simp [plainName, overriddenIn]; done) | decide +kernel
theorem d13_0 : decode jdk_42_method_155_code 0 = .ok (.iload_n 0, 1) := by decide +kernel
theorem d13_1 : decode jdk_42_method_155_code 1 = .ok (.iload_n 1, 1) := by decide +kernel
theorem d13_2 : decode jdk_42_method_155_code 2 = .ok (.getstatic 1053, 3) := by decide +kernel
theorem pd_0 : parseMethodDescriptor "(IILjava/util/function/BiFunction;)I" = some ⟨[.int, .int, (.object "java/util/function/BiFunction")], some .int⟩ := by decide +kernel
theorem d13_5 : decode jdk_42_method_155_code 5 = .ok (.invokestatic 1059, 3) := by decide +kernel
theorem d13_8 : decode jdk_42_method_155_code 8 = .ok (.pop, 1) := by decide +kernel
theorem d13_9 : decode jdk_42_method_155_code 9 = .ok (.return_, 1) := by decide +kernel
theorem ef_13 (m : MethodId) (x0 : Int32) (x1 : Int32) : entryFrame m #[(.int x0), (.int x1)] 2 = mkF m 0 #[.val (.int x0), .val (.int x1)] [] := by first | (simp [entryFrame, mkF, argsToLocals, Value.category]; done) | rfl
def Q13 (Z : State) (p0 : Int32) (p1 : Int32) (wF : Value) (h0 : Heap) (n0 : Nat) (v : Option Value) (h : Heap) (L : List Loc) : Prop := v = none ∧ Fr n0 L ∧ h = h0
set_option maxRecDepth 65536 in
set_option maxHeartbeats 40000000 in
theorem rm13 (l : Launch) (Z : State) (a0 : Array Value) (hw : ∀ d ∈ tables_1, d.before a0 Z = true) (ws : List Jvm.Cond) (p0 : Int32) (p1 : Int32) (wF : Value) (h0 : Heap) (n0 : Nat) (Z0 : n0 ≤ h0.size) (S_F : Sta Z h0 "jdk/internal/util/Preconditions" "SIOOBE_FORMATTER" "Ljava/util/function/BiFunction;" wF) (hF : wF.isRef = true) (hn : ¬ p0 < (0 : Int32)) (hl : p0 < p1) :
    MetFree l (⟨"java/lang/String", "checkIndex", "(II)V"⟩ : MethodName) (head1 (Jvm.Cond.code (⟨"java/lang/String", "checkIndex", "(II)V"⟩ : MethodName) jdk_42_method_155_code 2 none :: ws) ({ frames := 1, cells := 0, slots := 0, locals := 14 } : Room)) (fun a U => a = #[(.int p0), (.int p1)] ∧ Z.Warmed39 U.vm ∧ U.heap = h0) (fun _ _ _ _ _ => True) (fun _ U o U' => ∃ v L, o = .returned v ∧ Q13 Z p0 p1 wF h0 n0 v U'.heap L ∧ FrameEnd U o U' L ({ frames := 1, cells := 0, slots := 0, locals := 14 } : Room).cells ({ frames := 1, cells := 0, slots := 0, locals := 14 } : Room).slots) := by
  refine MetFree.of_bodySF (plainFor_of_name pn_1) hisR ?_
  intro p e s m args below meth c s₁ Bd hml0 hP hK
  obtain ⟨rfl, hZ, hh⟩ := hP
  have hx := Bd.exec
  have hby := Bd.bytes
  have hml : c.maxLocals = 2 := hml0
  have hown : s.vm.findClass "java/lang/String" = some m.cls := findClass_of_methodNamed Bd.named
  have hnm := (name_of_methodNamed Bd.named Bd.method).1
  have X0 : Stand p l e ({ frames := 1, cells := 0, slots := 0, locals := 14 } : Room) s m #[(.int p0), (.int p1)] below meth c s₁ [] 0 0 := Stand.of_body Bd
  have e0 : s₁.heap = h0 := by rw [← hh, Bd.state]; rfl
  have N0 := Fr.nil n0
  have pre0 : ∀ t, Steps p.tables e below (s₁.setTop (mkF m 0 #[.val (.int p0), .val (.int p1)] [])) t → Steps p.tables e below (s₁.setTop (entryFrame m #[(.int p0), (.int p1)] 2)) t := fun t k => castTop (ef_13 m p0 p1) k
  rcases ref_cases hF with hwF | ⟨gF, hwF⟩
  · have S_G := S_F
    rw [hwF] at S_G
    obtain ⟨T1, X1, e1, st1⟩ := getS2 X0 hx hZ hown (host := "") (Or.inl (hw _ (List.mem_of_getElem? (i := 59) rfl))) Via.refl e0 S_G (g := (mkF m 2 #[.val (.int p0), .val (.int p1)] [(.int p1), (.int p0)])) rfl (hb hby d13_2)
    obtain ⟨_, _, ⟨T2, L2, k2, n2⟩, -, X2, ⟨Lc2, hQ2, l2, y2, z2⟩, st2⟩ := Jvm.LawKit.callS X1 hx (y := (⟨"jdk/internal/util/Preconditions", "checkIndex", "(IILjava/util/function/BiFunction;)I"⟩ : MethodName)) hown (mvT hZ (hw _ (List.mem_of_getElem? (i := 61) rfl))) (mvT hZ (hw _ (List.mem_of_getElem? (i := 62) rfl))) (mvT hZ (hw _ (List.mem_of_getElem? (i := 60) rfl))) (mvT hZ (hw _ (List.mem_of_getElem? (i := 63) rfl))) (by decide) (backOf (W := 0) (rm14n l Z a0 hw [] p0 p1 h0 n0 Z0 hn hl) hZ (hw _ (List.mem_of_getElem? (i := 63) rfl)) (hw _ (List.mem_of_getElem? (i := 60) rfl)) (by decide) (by decide)) (g := (mkF m 5 #[.val (.int p0), .val (.int p1)] [.null, (.int p1), (.int p0)])) rfl (by rw [hml]; rfl) (argsL := [(.int p0), (.int p1), .null]) (rest := []) (lenOf pd_0 rfl) rfl (by show 2 * 0 + _ ≤ _; exact Nat.le_of_eq rfl) (hb hby d13_5) (fun _ _ => ⟨rfl, e1, (by decide : 0 + 0 ≤ _), (by decide : 0 + 0 ≤ _)⟩)
    dsimp only [Pt.U, Pt.locs, Pt.cells, Pt.slots] at X2 l2 y2 z2 st2 hQ2
    subst l2 y2 z2
    obtain ⟨rfl, N2q, hh2⟩ := hQ2
    have N2 := Fr.app N0 N2q
    have pre3 : ∀ t, Steps p.tables e below (T2.setTop (mkF m 9 #[.val (.int p0), .val (.int p1)] [])) t → Steps p.tables e below (s₁.setTop (entryFrame m #[(.int p0), (.int p1)] 2)) t := fun t k => pre0 t (by
      show Steps p.tables e below (s₁.setTop (mkF m 0 #[.val (.int p0), .val (.int p1)] [])) _
      refine XS.iloadN X0.here hx rfl (hb hby d13_0) rfl ?_
      show Steps p.tables e below (s₁.setTop (mkF m 1 #[.val (.int p0), .val (.int p1)] [(.int p0)])) _
      refine XS.iloadN X0.here hx rfl (hb hby d13_1) rfl ?_
      show Steps p.tables e below (s₁.setTop (mkF m 2 #[.val (.int p0), .val (.int p1)] [(.int p1), (.int p0)])) _
      refine st1 _ ?_
      show Steps p.tables e below (T1.setTop (mkF m 5 #[.val (.int p0), .val (.int p1)] [.null, (.int p1), (.int p0)])) _
      refine st2 _ ?_
      show Steps p.tables e below (T2.setTop (mkF m 8 #[.val (.int p0), .val (.int p1)] [(.int p0)])) _
      refine XS.pop X2.here hx rfl (hb hby d13_8) rfl rfl ?_
      exact k)
    obtain ⟨fs, hr, hrun, hended, hW, hsame⟩ := X2.leave (v := none) (fun _ => rfl)
    refine ⟨_, _, pre3 _ ?_, hrun, hended, _, _, rfl, ?_, ⟨_, rfl⟩, hW, hsame.mono (by decide) (by decide)⟩
    · exact X2.returnOut hx Bd.returns (hb hby d13_9) hr
    · show Q13 Z p0 p1 wF h0 n0 _ T2.heap _
      rw [hh2]
      exact ⟨rfl, N2, rfl⟩
  · have S_G := S_F
    rw [hwF] at S_G
    obtain ⟨T4, X4, e4, st4⟩ := getS2 X0 hx hZ hown (host := "") (Or.inl (hw _ (List.mem_of_getElem? (i := 59) rfl))) Via.refl e0 S_G (g := (mkF m 2 #[.val (.int p0), .val (.int p1)] [(.int p1), (.int p0)])) rfl (hb hby d13_2)
    obtain ⟨_, _, ⟨T5, L5, k5, n5⟩, -, X5, ⟨Lc5, hQ5, l5, y5, z5⟩, st5⟩ := Jvm.LawKit.callS X4 hx (y := (⟨"jdk/internal/util/Preconditions", "checkIndex", "(IILjava/util/function/BiFunction;)I"⟩ : MethodName)) hown (mvT hZ (hw _ (List.mem_of_getElem? (i := 61) rfl))) (mvT hZ (hw _ (List.mem_of_getElem? (i := 62) rfl))) (mvT hZ (hw _ (List.mem_of_getElem? (i := 60) rfl))) (mvT hZ (hw _ (List.mem_of_getElem? (i := 63) rfl))) (by decide) (backOf (W := 0) (rm14 l Z a0 hw [] p0 p1 gF h0 n0 Z0 hn hl) hZ (hw _ (List.mem_of_getElem? (i := 63) rfl)) (hw _ (List.mem_of_getElem? (i := 60) rfl)) (by decide) (by decide)) (g := (mkF m 5 #[.val (.int p0), .val (.int p1)] [(.ref gF), (.int p1), (.int p0)])) rfl (by rw [hml]; rfl) (argsL := [(.int p0), (.int p1), (.ref gF)]) (rest := []) (lenOf pd_0 rfl) rfl (by show 2 * 0 + _ ≤ _; exact Nat.le_of_eq rfl) (hb hby d13_5) (fun _ _ => ⟨rfl, e4, (by decide : 0 + 0 ≤ _), (by decide : 0 + 0 ≤ _)⟩)
    dsimp only [Pt.U, Pt.locs, Pt.cells, Pt.slots] at X5 l5 y5 z5 st5 hQ5
    subst l5 y5 z5
    obtain ⟨rfl, N5q, hh5⟩ := hQ5
    have N5 := Fr.app N0 N5q
    have pre6 : ∀ t, Steps p.tables e below (T5.setTop (mkF m 9 #[.val (.int p0), .val (.int p1)] [])) t → Steps p.tables e below (s₁.setTop (entryFrame m #[(.int p0), (.int p1)] 2)) t := fun t k => pre0 t (by
      show Steps p.tables e below (s₁.setTop (mkF m 0 #[.val (.int p0), .val (.int p1)] [])) _
      refine XS.iloadN X0.here hx rfl (hb hby d13_0) rfl ?_
      show Steps p.tables e below (s₁.setTop (mkF m 1 #[.val (.int p0), .val (.int p1)] [(.int p0)])) _
      refine XS.iloadN X0.here hx rfl (hb hby d13_1) rfl ?_
      show Steps p.tables e below (s₁.setTop (mkF m 2 #[.val (.int p0), .val (.int p1)] [(.int p1), (.int p0)])) _
      refine st4 _ ?_
      show Steps p.tables e below (T4.setTop (mkF m 5 #[.val (.int p0), .val (.int p1)] [(.ref gF), (.int p1), (.int p0)])) _
      refine st5 _ ?_
      show Steps p.tables e below (T5.setTop (mkF m 8 #[.val (.int p0), .val (.int p1)] [(.int p0)])) _
      refine XS.pop X5.here hx rfl (hb hby d13_8) rfl rfl ?_
      exact k)
    obtain ⟨fs, hr, hrun, hended, hW, hsame⟩ := X5.leave (v := none) (fun _ => rfl)
    refine ⟨_, _, pre6 _ ?_, hrun, hended, _, _, rfl, ?_, ⟨_, rfl⟩, hW, hsame.mono (by decide) (by decide)⟩
    · exact X5.returnOut hx Bd.returns (hb hby d13_9) hr
    · show Q13 Z p0 p1 wF h0 n0 _ T5.heap _
      rw [hh5]
      exact ⟨rfl, N5, rfl⟩
theorem pn_2 : plainName "java/lang/StringLatin1" = true := by first | (simp [plainName, overriddenIn]; done) | decide +kernel
theorem d12_0 : decode jdk_43_method_2_code 0 = .ok (.iload_n 1, 1) := by decide +kernel
theorem d12_1 : decode jdk_43_method_2_code 1 = .ok (.aload_n 0, 1) := by decide +kernel
theorem d12_2 : decode jdk_43_method_2_code 2 = .ok (.arraylength, 1) := by decide +kernel
theorem pd_1 : parseMethodDescriptor "(II)V" = some ⟨[.int, .int], none⟩ := by decide +kernel
theorem d12_3 : decode jdk_43_method_2_code 3 = .ok (.invokestatic 9, 3) := by decide +kernel
theorem d12_6 : decode jdk_43_method_2_code 6 = .ok (.aload_n 0, 1) := by decide +kernel
theorem d12_7 : decode jdk_43_method_2_code 7 = .ok (.iload_n 1, 1) := by decide +kernel
theorem d12_8 : decode jdk_43_method_2_code 8 = .ok (.baload, 1) := by decide +kernel
theorem d12_9 : decode jdk_43_method_2_code 9 = .ok (.sipush 255, 3) := by decide +kernel
theorem d12_12 : decode jdk_43_method_2_code 12 = .ok (.iand, 1) := by decide +kernel
theorem d12_13 : decode jdk_43_method_2_code 13 = .ok (.i2c, 1) := by decide +kernel
theorem d12_14 : decode jdk_43_method_2_code 14 = .ok (.ireturn, 1) := by decide +kernel
theorem ef_12 (m : MethodId) (x0 : Addr) (x1 : Int32) : entryFrame m #[(.ref x0), (.int x1)] 2 = mkF m 0 #[.val (.ref x0), .val (.int x1)] [] := by first | (simp [entryFrame, mkF, argsToLocals, Value.category]; done) | rfl
def Q12 (Z : State) (o0 : Addr) (p1 : Int32) (wF : Value) (kb : ClassId) (cs : List Int32) (h0 : Heap) (n0 : Nat) (v : Option Value) (h : Heap) (L : List Loc) : Prop := v = some (.int (own_rd cs p1 &&& (255 : Int32))) ∧ Fr n0 L ∧ h = h0
set_option maxRecDepth 65536 in
set_option maxHeartbeats 40000000 in
theorem rm12 (l : Launch) (Z : State) (a0 : Array Value) (hw : ∀ d ∈ tables_1, d.before a0 Z = true) (ws : List Jvm.Cond) (o0 : Addr) (p1 : Int32) (wF : Value) (kb : ClassId) (cs : List Int32) (h0 : Heap) (n0 : Nat) (Z0 : n0 ≤ h0.size) (S_F : Sta Z h0 "jdk/internal/util/Preconditions" "SIOOBE_FORMATTER" "Ljava/util/function/BiFunction;" wF) (hF : wF.isRef = true) (V_o0 : own_A Z h0 o0 kb .byte (24 : Int32) cs) (hin : own_in (24 : Int32) p1) :
    MetFree l (⟨"java/lang/StringLatin1", "charAt", "([BI)C"⟩ : MethodName) (head1 (Jvm.Cond.code (⟨"java/lang/StringLatin1", "charAt", "([BI)C"⟩ : MethodName) jdk_43_method_2_code 2 (some .char) :: ws) ({ frames := 2, cells := 0, slots := 0, locals := 27 } : Room)) (fun a U => a = #[(.ref o0), (.int p1)] ∧ Z.Warmed39 U.vm ∧ U.heap = h0) (fun _ _ _ _ _ => True) (fun _ U o U' => ∃ v L, o = .returned v ∧ Q12 Z o0 p1 wF kb cs h0 n0 v U'.heap L ∧ FrameEnd U o U' L ({ frames := 2, cells := 0, slots := 0, locals := 27 } : Room).cells ({ frames := 2, cells := 0, slots := 0, locals := 27 } : Room).slots) := by
  refine MetFree.of_bodySF (plainFor_of_name pn_2) hisR ?_
  intro p e s m args below meth c s₁ Bd hml0 hP hK
  obtain ⟨rfl, hZ, hh⟩ := hP
  have hx := Bd.exec
  have hby := Bd.bytes
  have hml : c.maxLocals = 2 := hml0
  have hown : s.vm.findClass "java/lang/StringLatin1" = some m.cls := findClass_of_methodNamed Bd.named
  have hnm := (name_of_methodNamed Bd.named Bd.method).1
  have X0 : Stand p l e ({ frames := 2, cells := 0, slots := 0, locals := 27 } : Room) s m #[(.ref o0), (.int p1)] below meth c s₁ [] 0 0 := Stand.of_body Bd
  have e0 : s₁.heap = h0 := by rw [← hh, Bd.state]; rfl
  have N0 := Fr.nil n0
  have pre0 : ∀ t, Steps p.tables e below (s₁.setTop (mkF m 0 #[.val (.ref o0), .val (.int p1)] [])) t → Steps p.tables e below (s₁.setTop (entryFrame m #[(.ref o0), (.int p1)] 2)) t := fun t k => castTop (ef_12 m o0 p1) k
  obtain ⟨cL1, ArL1, SL1, NL1⟩ := own_lenA V_o0
  obtain ⟨_, _, ⟨T2, L2, k2, n2⟩, -, X2, ⟨Lc2, hQ2, l2, y2, z2⟩, st2⟩ := Jvm.LawKit.callS X0 hx (y := (⟨"java/lang/String", "checkIndex", "(II)V"⟩ : MethodName)) hown (mvT hZ (hw _ (List.mem_of_getElem? (i := 56) rfl))) (mvT hZ (hw _ (List.mem_of_getElem? (i := 57) rfl))) (mvT hZ (hw _ (List.mem_of_getElem? (i := 11) rfl))) (mvT hZ (hw _ (List.mem_of_getElem? (i := 58) rfl))) (by decide) (backOf (W := 0) (rm13 l Z a0 hw [] p1 (24 : Int32) wF h0 n0 Z0 S_F hF hin.1 hin.2) hZ (hw _ (List.mem_of_getElem? (i := 58) rfl)) (hw _ (List.mem_of_getElem? (i := 11) rfl)) (by decide) (by decide)) (g := (mkF m 3 #[.val (.ref o0), .val (.int p1)] [(.int (24 : Int32)), (.int p1)])) rfl (by rw [hml]; rfl) (argsL := [(.int p1), (.int (24 : Int32))]) (rest := []) (lenOf pd_1 rfl) rfl (by show 2 * 0 + _ ≤ _; exact Nat.le_of_eq rfl) (hb hby d12_3) (fun _ _ => ⟨rfl, e0, (by decide : 0 + 0 ≤ _), (by decide : 0 + 0 ≤ _)⟩)
  dsimp only [Pt.U, Pt.locs, Pt.cells, Pt.slots] at X2 l2 y2 z2 st2 hQ2
  subst l2 y2 z2
  obtain ⟨rfl, N2q, hh2⟩ := hQ2
  have N2 := Fr.app N0 N2q
  obtain ⟨cL3, ArL3, hin3, hat3⟩ := own_read V_o0 hin
  have pre4 : ∀ t, Steps p.tables e below (T2.setTop (mkF m 14 #[.val (.ref o0), .val (.int p1)] [(.int (((own_rd cs p1) &&& (255 : Int32)).toUInt32.toUInt16.toUInt32.toInt32))])) t → Steps p.tables e below (s₁.setTop (entryFrame m #[(.ref o0), (.int p1)] 2)) t := fun t k => pre0 t (by
    show Steps p.tables e below (s₁.setTop (mkF m 0 #[.val (.ref o0), .val (.int p1)] [])) _
    refine XS.iloadN X0.here hx rfl (hb hby d12_0) rfl ?_
    show Steps p.tables e below (s₁.setTop (mkF m 1 #[.val (.ref o0), .val (.int p1)] [(.int p1)])) _
    refine XS.aloadN X0.here hx rfl (hb hby d12_1) rfl rfl ?_
    show Steps p.tables e below (s₁.setTop (mkF m 2 #[.val (.ref o0), .val (.int p1)] [(.ref o0), (.int p1)])) _
    refine X0.arraylength hx (by rw [e0]; exact ArL1.1) (State.isArrayOf_alike hZ.alike ArL1.2.1) (g := (mkF m 2 #[.val (.ref o0), .val (.int p1)] [(.ref o0), (.int p1)])) rfl rfl (hb hby d12_2) _ ?_
    rw [len_of SL1 NL1]
    show Steps p.tables e below (s₁.setTop (mkF m 3 #[.val (.ref o0), .val (.int p1)] [(.int (24 : Int32)), (.int p1)])) _
    refine st2 _ ?_
    show Steps p.tables e below (T2.setTop (mkF m 6 #[.val (.ref o0), .val (.int p1)] [])) _
    refine XS.aloadN X2.here hx rfl (hb hby d12_6) rfl rfl ?_
    show Steps p.tables e below (T2.setTop (mkF m 7 #[.val (.ref o0), .val (.int p1)] [(.ref o0)])) _
    refine XS.iloadN X2.here hx rfl (hb hby d12_7) rfl ?_
    show Steps p.tables e below (T2.setTop (mkF m 8 #[.val (.ref o0), .val (.int p1)] [(.int p1), (.ref o0)])) _
    refine X2.baloadBytes hx (j := p1) (v := (.int (own_rd cs p1))) (by rw [hh2]; exact ArL3.1) (State.isArrayOf_alike hZ.alike ArL3.2.1) ArL3.2.2 hin3 hat3 (g := (mkF m 8 #[.val (.ref o0), .val (.int p1)] [(.int p1), (.ref o0)])) rfl rfl (hb hby d12_8) _ ?_
    show Steps p.tables e below (T2.setTop (mkF m 9 #[.val (.ref o0), .val (.int p1)] [(.int (own_rd cs p1))])) _
    refine XS.sipush X2.here hx rfl (hb hby d12_9) ?_
    show Steps p.tables e below (T2.setTop (mkF m 12 #[.val (.ref o0), .val (.int p1)] [(.int (255 : Int32)), (.int (own_rd cs p1))])) _
    refine XS.iand X2.here hx rfl (hb hby d12_12) rfl ?_
    show Steps p.tables e below (T2.setTop (mkF m 13 #[.val (.ref o0), .val (.int p1)] [(.int ((own_rd cs p1) &&& (255 : Int32)))])) _
    refine XS.i2c X2.here hx rfl (hb hby d12_13) rfl ?_
    exact k)
  obtain ⟨fs, hr, hrun, hended, hW, hsame⟩ := X2.leave (v := some (.int (nar .char (((own_rd cs p1) &&& (255 : Int32)).toUInt32.toUInt16.toUInt32.toInt32)))) (fun h => by rw [Bd.returns] at h; cases h)
  refine ⟨_, _, pre4 _ ?_, hrun, hended, _, _, rfl, ?_, ⟨_, rfl⟩, hW, hsame.mono (by decide) (by decide)⟩
  · exact retN X2 hx (t := .char) Bd.returns (by simp) (hb hby d12_14) hr
  · show Q12 Z o0 p1 wF kb cs h0 n0 _ T2.heap _
    rw [hh2]
    exact ⟨by rw [own_nc], N2, rfl⟩
theorem d11_0 : decode jdk_42_method_154_code 0 = .ok (.getstatic 38, 3) := by decide +kernel
theorem d11_3 : decode jdk_42_method_154_code 3 = .ok (.ifCond .eq 14, 3) := by decide +kernel
theorem d11_6 : decode jdk_42_method_154_code 6 = .ok (.aload_n 0, 1) := by decide +kernel
theorem d11_7 : decode jdk_42_method_154_code 7 = .ok (.getfield 15, 3) := by decide +kernel
theorem d11_10 : decode jdk_42_method_154_code 10 = .ok (.ifCond .ne 7, 3) := by decide +kernel
theorem d11_13 : decode jdk_42_method_154_code 13 = .ok (.iconst 1, 1) := by decide +kernel
theorem d11_14 : decode jdk_42_method_154_code 14 = .ok (.goto 4, 3) := by decide +kernel
theorem d11_18 : decode jdk_42_method_154_code 18 = .ok (.ireturn, 1) := by decide +kernel
theorem ef_11 (m : MethodId) (x0 : Addr) : entryFrame m #[(.ref x0)] 1 = mkF m 0 #[.val (.ref x0)] [] := by first | (simp [entryFrame, mkF, argsToLocals, Value.category]; done) | rfl
def Q11 (Z : State) (o0 : Addr) (wC : Int32) (h0 : Heap) (n0 : Nat) (v : Option Value) (h : Heap) (L : List Loc) : Prop := v = some (.int (1 : Int32)) ∧ Fr n0 L ∧ h = h0
set_option maxRecDepth 65536 in
set_option maxHeartbeats 40000000 in
theorem rm11 (l : Launch) (Z : State) (a0 : Array Value) (hw : ∀ d ∈ tables_1, d.before a0 Z = true) (ws : List Jvm.Cond) (o0 : Addr) (wC : Int32) (h0 : Heap) (n0 : Nat) (Z0 : n0 ≤ h0.size) (F_coder_o0 : Fld Z h0 o0 "java/lang/String" "coder" "B" (.int (0 : Int32))) (S_C : Sta Z h0 "java/lang/String" "COMPACT_STRINGS" "Z" (.int wC)) (hC : ¬ wC = (0 : Int32)) :
    MetFree l (⟨"java/lang/String", "isLatin1", "()Z"⟩ : MethodName) (head1 (Jvm.Cond.code (⟨"java/lang/String", "isLatin1", "()Z"⟩ : MethodName) jdk_42_method_154_code 1 (some .boolean) :: ws) ({ frames := 0, cells := 0, slots := 0, locals := 0 } : Room)) (fun a U => a = #[(.ref o0)] ∧ Z.Warmed39 U.vm ∧ U.heap = h0) (fun _ _ _ _ _ => True) (fun _ U o U' => ∃ v L, o = .returned v ∧ Q11 Z o0 wC h0 n0 v U'.heap L ∧ FrameEnd U o U' L ({ frames := 0, cells := 0, slots := 0, locals := 0 } : Room).cells ({ frames := 0, cells := 0, slots := 0, locals := 0 } : Room).slots) := by
  refine MetFree.of_bodySF (plainFor_of_name pn_1) hisR ?_
  intro p e s m args below meth c s₁ Bd hml0 hP hK
  obtain ⟨rfl, hZ, hh⟩ := hP
  have hx := Bd.exec
  have hby := Bd.bytes
  have hml : c.maxLocals = 1 := hml0
  have hown : s.vm.findClass "java/lang/String" = some m.cls := findClass_of_methodNamed Bd.named
  have hnm := (name_of_methodNamed Bd.named Bd.method).1
  have X0 : Stand p l e ({ frames := 0, cells := 0, slots := 0, locals := 0 } : Room) s m #[(.ref o0)] below meth c s₁ [] 0 0 := Stand.of_body Bd
  have e0 : s₁.heap = h0 := by rw [← hh, Bd.state]; rfl
  have N0 := Fr.nil n0
  have pre0 : ∀ t, Steps p.tables e below (s₁.setTop (mkF m 0 #[.val (.ref o0)] [])) t → Steps p.tables e below (s₁.setTop (entryFrame m #[(.ref o0)] 1)) t := fun t k => castTop (ef_11 m o0) k
  obtain ⟨T1, X1, e1, st1⟩ := getS2 X0 hx hZ hown (host := "") (Or.inl (hw _ (List.mem_of_getElem? (i := 22) rfl))) Via.refl e0 S_C (g := (mkF m 0 #[.val (.ref o0)] [])) rfl (hb hby d11_0)
  obtain ⟨T2, X2, e2, st2⟩ := getF X1 hx hZ hown (host := "") (Or.inl (hw _ (List.mem_of_getElem? (i := 34) rfl))) Via.refl e1 F_coder_o0 (g := (mkF m 7 #[.val (.ref o0)] [(.ref o0)])) rfl rfl (hb hby d11_7)
  have pre3 : ∀ t, Steps p.tables e below (T2.setTop (mkF m 18 #[.val (.ref o0)] [(.int (1 : Int32))])) t → Steps p.tables e below (s₁.setTop (entryFrame m #[(.ref o0)] 1)) t := fun t k => pre0 t (by
    show Steps p.tables e below (s₁.setTop (mkF m 0 #[.val (.ref o0)] [])) _
    refine st1 _ ?_
    show Steps p.tables e below (T1.setTop (mkF m 3 #[.val (.ref o0)] [(.int wC)])) _
    refine XS.ifNo X1.here hx rfl (hb hby d11_3) rfl ((if0 _ _).trans (feq hC).1) ?_
    show Steps p.tables e below (T1.setTop (mkF m 6 #[.val (.ref o0)] [])) _
    refine XS.aloadN X1.here hx rfl (hb hby d11_6) rfl rfl ?_
    show Steps p.tables e below (T1.setTop (mkF m 7 #[.val (.ref o0)] [(.ref o0)])) _
    refine st2 _ ?_
    show Steps p.tables e below (T2.setTop (mkF m 10 #[.val (.ref o0)] [(.int (0 : Int32))])) _
    refine XS.ifNo X2.here hx rfl (hb hby d11_10) rfl ((if0 _ _).trans (teq (by first | exact rfl | decide : (0 : Int32) = (0 : Int32))).2) ?_
    show Steps p.tables e below (T2.setTop (mkF m 13 #[.val (.ref o0)] [])) _
    refine XS.iconst X2.here hx rfl (hb hby d11_13) ?_
    show Steps p.tables e below (T2.setTop (mkF m 14 #[.val (.ref o0)] [(.int (1 : Int32))])) _
    refine XS.goto X2.here hx rfl (pc0 := 14) (pc' := 18) rfl (hb hby d11_14) (by decide) (by decide) ?_
    exact k)
  obtain ⟨fs, hr, hrun, hended, hW, hsame⟩ := X2.leave (v := some (.int (1 : Int32))) (fun h => by rw [Bd.returns] at h; cases h)
  refine ⟨_, _, pre3 _ ?_, hrun, hended, _, _, rfl, ?_, ⟨_, rfl⟩, hW, hsame.mono (by decide) (by decide)⟩
  · exact retN X2 hx (t := .boolean) Bd.returns (by simp) (hb hby d11_18) hr
  · show Q11 Z o0 wC h0 n0 _ T2.heap _
    rw [e2]
    exact ⟨rfl, N0, rfl⟩
theorem d10_0 : decode jdk_42_method_56_code 0 = .ok (.aload_n 0, 1) := by decide +kernel
theorem pd_2 : parseMethodDescriptor "()Z" = some ⟨[], some .boolean⟩ := by decide +kernel
theorem d10_1 : decode jdk_42_method_56_code 1 = .ok (.invokevirtual 492, 3) := by decide +kernel
theorem d10_4 : decode jdk_42_method_56_code 4 = .ok (.ifCond .eq 12, 3) := by decide +kernel
theorem d10_7 : decode jdk_42_method_56_code 7 = .ok (.aload_n 0, 1) := by decide +kernel
theorem d10_8 : decode jdk_42_method_56_code 8 = .ok (.getfield 9, 3) := by decide +kernel
theorem d10_11 : decode jdk_42_method_56_code 11 = .ok (.iload_n 1, 1) := by decide +kernel
theorem pd_3 : parseMethodDescriptor "([BI)C" = some ⟨[(.array .byte), .int], some .char⟩ := by decide +kernel
theorem d10_12 : decode jdk_42_method_56_code 12 = .ok (.invokestatic 495, 3) := by decide +kernel
theorem d10_15 : decode jdk_42_method_56_code 15 = .ok (.ireturn, 1) := by decide +kernel
theorem ef_10 (m : MethodId) (x0 : Addr) (x1 : Int32) : entryFrame m #[(.ref x0), (.int x1)] 2 = mkF m 0 #[.val (.ref x0), .val (.int x1)] [] := by first | (simp [entryFrame, mkF, argsToLocals, Value.category]; done) | rfl
def Q10 (Z : State) (o0 : Addr) (p1 : Int32) (wC : Int32) (wF : Value) (wB : Addr) (kb : ClassId) (cs : List Int32) (ch : Int32) (h0 : Heap) (n0 : Nat) (v : Option Value) (h : Heap) (L : List Loc) : Prop := v = some (.int ch) ∧ Fr n0 L ∧ h = h0
set_option maxRecDepth 65536 in
set_option maxHeartbeats 40000000 in
theorem rm10 (l : Launch) (Z : State) (a0 : Array Value) (hw : ∀ d ∈ tables_1, d.before a0 Z = true) (ws : List Jvm.Cond) (o0 : Addr) (p1 : Int32) (wC : Int32) (wF : Value) (wB : Addr) (kb : ClassId) (cs : List Int32) (ch : Int32) (h0 : Heap) (n0 : Nat) (Z0 : n0 ≤ h0.size) (F_coder_o0 : Fld Z h0 o0 "java/lang/String" "coder" "B" (.int (0 : Int32))) (F_value_o0 : Fld Z h0 o0 "java/lang/String" "value" "[B" (.ref wB)) (E_o0 : Exa Z h0 o0 "java/lang/String") (S_C : Sta Z h0 "java/lang/String" "COMPACT_STRINGS" "Z" (.int wC)) (hC : ¬ wC = (0 : Int32)) (S_F : Sta Z h0 "jdk/internal/util/Preconditions" "SIOOBE_FORMATTER" "Ljava/util/function/BiFunction;" wF) (hF : wF.isRef = true) (V_wB : own_A Z h0 wB kb .byte (24 : Int32) cs) (hin : own_in (24 : Int32) p1) (hch : own_rd cs p1 &&& (255 : Int32) = ch) :
    MetFree l (⟨"java/lang/String", "charAt", "(I)C"⟩ : MethodName) (head1 (Jvm.Cond.code (⟨"java/lang/String", "charAt", "(I)C"⟩ : MethodName) jdk_42_method_56_code 2 (some .char) :: ws) ({ frames := 3, cells := 0, slots := 0, locals := 40 } : Room)) (fun a U => a = #[(.ref o0), (.int p1)] ∧ Z.Warmed39 U.vm ∧ U.heap = h0) (fun _ _ _ _ _ => True) (fun _ U o U' => ∃ v L, o = .returned v ∧ Q10 Z o0 p1 wC wF wB kb cs ch h0 n0 v U'.heap L ∧ FrameEnd U o U' L ({ frames := 3, cells := 0, slots := 0, locals := 40 } : Room).cells ({ frames := 3, cells := 0, slots := 0, locals := 40 } : Room).slots) := by
  refine MetFree.of_bodySF (plainFor_of_name pn_1) hisR ?_
  intro p e s m args below meth c s₁ Bd hml0 hP hK
  obtain ⟨rfl, hZ, hh⟩ := hP
  have hx := Bd.exec
  have hby := Bd.bytes
  have hml : c.maxLocals = 2 := hml0
  have hown : s.vm.findClass "java/lang/String" = some m.cls := findClass_of_methodNamed Bd.named
  have hnm := (name_of_methodNamed Bd.named Bd.method).1
  have X0 : Stand p l e ({ frames := 3, cells := 0, slots := 0, locals := 40 } : Room) s m #[(.ref o0), (.int p1)] below meth c s₁ [] 0 0 := Stand.of_body Bd
  have e0 : s₁.heap = h0 := by rw [← hh, Bd.state]; rfl
  have N0 := Fr.nil n0
  have pre0 : ∀ t, Steps p.tables e below (s₁.setTop (mkF m 0 #[.val (.ref o0), .val (.int p1)] [])) t → Steps p.tables e below (s₁.setTop (entryFrame m #[(.ref o0), (.int p1)] 2)) t := fun t k => castTop (ef_10 m o0 p1) k
  obtain ⟨cq1, kq1, q1a, q1b, q1c⟩ := isOf hZ e0 E_o0
  obtain ⟨_, _, ⟨T1, L1, k1, n1⟩, -, X1, ⟨Lc1, hQ1, l1, y1, z1⟩, st1⟩ := X0.virtualBack hx (y := (⟨"java/lang/String", "isLatin1", "()Z"⟩ : MethodName)) (z := (⟨"java/lang/String", "isLatin1", "()Z"⟩ : MethodName)) hown (mvT hZ (hw _ (List.mem_of_getElem? (i := 47) rfl))) (mvT hZ (hw _ (List.mem_of_getElem? (i := 48) rfl))) (notFace_of_selects (args := #[]) (mvT hZ (hw _ (List.mem_of_getElem? (i := 50) rfl)))) (mvT hZ (hw _ (List.mem_of_getElem? (i := 50) rfl))) (mvT hZ (hw _ (List.mem_of_getElem? (i := 49) rfl))) (by decide) (backOf (W := 0) (rm11 l Z a0 hw [] o0 wC h0 n0 Z0 F_coder_o0 S_C hC) hZ (hw _ (List.mem_of_getElem? (i := 51) rfl)) (hw _ (List.mem_of_getElem? (i := 11) rfl)) (by decide) (by decide)) q1a q1c (g := (mkF m 1 #[.val (.ref o0), .val (.int p1)] [(.ref o0)])) rfl (by rw [hml]; rfl) (Steps.refl _) (argsL := []) (rest := []) (lenOf pd_2 rfl) rfl (by show 2 * 0 + _ ≤ _; exact Nat.le_of_eq rfl) (hb hby d10_1) (fun _ _ => ⟨rfl, e0, (by decide : 0 + 0 ≤ _), (by decide : 0 + 0 ≤ _)⟩)
  dsimp only [Pt.U, Pt.locs, Pt.cells, Pt.slots] at X1 l1 y1 z1 st1 hQ1
  subst l1 y1 z1
  obtain ⟨rfl, N1q, hh1⟩ := hQ1
  have N1 := Fr.app N0 N1q
  obtain ⟨T2, X2, e2, st2⟩ := getF X1 hx hZ hown (host := "") (Or.inl (hw _ (List.mem_of_getElem? (i := 36) rfl))) Via.refl hh1 F_value_o0 (g := (mkF m 8 #[.val (.ref o0), .val (.int p1)] [(.ref o0)])) rfl rfl (hb hby d10_8)
  obtain ⟨_, _, ⟨T3, L3, k3, n3⟩, -, X3, ⟨Lc3, hQ3, l3, y3, z3⟩, st3⟩ := Jvm.LawKit.callS X2 hx (y := (⟨"java/lang/StringLatin1", "charAt", "([BI)C"⟩ : MethodName)) hown (mvT hZ (hw _ (List.mem_of_getElem? (i := 52) rfl))) (mvT hZ (hw _ (List.mem_of_getElem? (i := 53) rfl))) (mvT hZ (hw _ (List.mem_of_getElem? (i := 54) rfl))) (mvT hZ (hw _ (List.mem_of_getElem? (i := 55) rfl))) (by decide) (backOf (W := 0) (rm12 l Z a0 hw [] wB p1 wF kb cs h0 n0 Z0 S_F hF V_wB hin) hZ (hw _ (List.mem_of_getElem? (i := 55) rfl)) (hw _ (List.mem_of_getElem? (i := 54) rfl)) (by decide) (by decide)) (g := (mkF m 12 #[.val (.ref o0), .val (.int p1)] [(.int p1), (.ref wB)])) rfl (by rw [hml]; rfl) (argsL := [(.ref wB), (.int p1)]) (rest := []) (lenOf pd_3 rfl) rfl (by show 2 * 0 + _ ≤ _; exact Nat.le_of_eq rfl) (hb hby d10_12) (fun _ _ => ⟨rfl, e2, (by decide : 0 + 0 ≤ _), (by decide : 0 + 0 ≤ _)⟩)
  dsimp only [Pt.U, Pt.locs, Pt.cells, Pt.slots] at X3 l3 y3 z3 st3 hQ3
  subst l3 y3 z3
  obtain ⟨rfl, N3q, hh3⟩ := hQ3
  have N3 := Fr.app N1 N3q
  have pre4 : ∀ t, Steps p.tables e below (T3.setTop (mkF m 15 #[.val (.ref o0), .val (.int p1)] [(.int (own_rd cs p1 &&& (255 : Int32)))])) t → Steps p.tables e below (s₁.setTop (entryFrame m #[(.ref o0), (.int p1)] 2)) t := fun t k => pre0 t (by
    show Steps p.tables e below (s₁.setTop (mkF m 0 #[.val (.ref o0), .val (.int p1)] [])) _
    refine XS.aloadN X0.here hx rfl (hb hby d10_0) rfl rfl ?_
    show Steps p.tables e below (s₁.setTop (mkF m 1 #[.val (.ref o0), .val (.int p1)] [(.ref o0)])) _
    refine st1.trans ?_
    show Steps p.tables e below (T1.setTop (mkF m 4 #[.val (.ref o0), .val (.int p1)] [(.int (1 : Int32))])) _
    refine XS.ifNo X1.here hx rfl (hb hby d10_4) rfl ((if0 _ _).trans (feq (by decide : ¬ ((1 : Int32) = (0 : Int32)))).1) ?_
    show Steps p.tables e below (T1.setTop (mkF m 7 #[.val (.ref o0), .val (.int p1)] [])) _
    refine XS.aloadN X1.here hx rfl (hb hby d10_7) rfl rfl ?_
    show Steps p.tables e below (T1.setTop (mkF m 8 #[.val (.ref o0), .val (.int p1)] [(.ref o0)])) _
    refine st2 _ ?_
    show Steps p.tables e below (T2.setTop (mkF m 11 #[.val (.ref o0), .val (.int p1)] [(.ref wB)])) _
    refine XS.iloadN X2.here hx rfl (hb hby d10_11) rfl ?_
    show Steps p.tables e below (T2.setTop (mkF m 12 #[.val (.ref o0), .val (.int p1)] [(.int p1), (.ref wB)])) _
    refine st3 _ ?_
    exact k)
  obtain ⟨fs, hr, hrun, hended, hW, hsame⟩ := X3.leave (v := some (.int (nar .char (own_rd cs p1 &&& (255 : Int32))))) (fun h => by rw [Bd.returns] at h; cases h)
  refine ⟨_, _, pre4 _ ?_, hrun, hended, _, _, rfl, ?_, ⟨_, rfl⟩, hW, hsame.mono (by decide) (by decide)⟩
  · exact retN X3 hx (t := .char) Bd.returns (by simp) (hb hby d10_15) hr
  · show Q10 Z o0 p1 wC wF wB kb cs ch h0 n0 _ T3.heap _
    rw [hh3]
    exact ⟨by rw [own_nc1, hch], N3, rfl⟩
theorem pn_3 : plainName "com/example/sensor_access_indicators/sensoraccessindicators/dbus/MarshallingTypeEndPinLaw" = true := by first | (simp [plainName, overriddenIn]; done) | decide +kernel
theorem d2_0 : decode method_2_code 0 = .ok (.iload_n 0, 1) := by decide +kernel
theorem d2_1 : decode method_2_code 1 = .ok (.sipush 255, 3) := by decide +kernel
theorem d2_4 : decode method_2_code 4 = .ok (.iand, 1) := by decide +kernel
theorem d2_5 : decode method_2_code 5 = .ok (.i2c, 1) := by decide +kernel
theorem d2_6 : decode method_2_code 6 = .ok (.istore_n 1, 1) := by decide +kernel
theorem d2_7 : decode method_2_code 7 = .ok (.iload_n 1, 1) := by decide +kernel
theorem d2_8 : decode method_2_code 8 = .ok (.bipush 97, 2) := by decide +kernel
theorem d2_10 : decode method_2_code 10 = .ok (.if_icmp .eq 15, 3) := by decide +kernel
theorem d2_25 : decode method_2_code 25 = .ok (.bipush 121, 2) := by decide +kernel
theorem d2_27 : decode method_2_code 27 = .ok (.ireturn, 1) := by decide +kernel
theorem d2_13 : decode method_2_code 13 = .ok (.iload_n 1, 1) := by decide +kernel
theorem d2_14 : decode method_2_code 14 = .ok (.bipush 40, 2) := by decide +kernel
theorem d2_16 : decode method_2_code 16 = .ok (.if_icmp .eq 9, 3) := by decide +kernel
theorem d2_19 : decode method_2_code 19 = .ok (.iload_n 1, 1) := by decide +kernel
theorem d2_20 : decode method_2_code 20 = .ok (.bipush 123, 2) := by decide +kernel
theorem d2_22 : decode method_2_code 22 = .ok (.if_icmp .ne 6, 3) := by decide +kernel
theorem d2_28 : decode method_2_code 28 = .ok (.iload_n 1, 1) := by decide +kernel
theorem d2_29 : decode method_2_code 29 = .ok (.ireturn, 1) := by decide +kernel
theorem ef_2 (m : MethodId) (x0 : Int32) : entryFrame m #[(.int x0)] 2 = mkF m 0 #[.val (.int x0), .unset] [] := by first | (simp [entryFrame, mkF, argsToLocals, Value.category]; done) | rfl
def Q2 (Z : State) (p0 : Int32) (h0 : Heap) (n0 : Nat) (v : Option Value) (h : Heap) (L : List Loc) : Prop := v = some (.int (own_top p0)) ∧ Fr n0 L ∧ h = h0
set_option maxRecDepth 65536 in
set_option maxHeartbeats 40000000 in
theorem rm2 (l : Launch) (Z : State) (a0 : Array Value) (hw : ∀ d ∈ tables_1, d.before a0 Z = true) (ws : List Jvm.Cond) (p0 : Int32) (h0 : Heap) (n0 : Nat) (Z0 : n0 ≤ h0.size) :
    MetFree l (⟨"com/example/sensor_access_indicators/sensoraccessindicators/dbus/MarshallingTypeEndPinLaw", "top", "(I)C"⟩ : MethodName) (head1 (Jvm.Cond.code (⟨"com/example/sensor_access_indicators/sensoraccessindicators/dbus/MarshallingTypeEndPinLaw", "top", "(I)C"⟩ : MethodName) method_2_code 2 (some .char) :: ws) ({ frames := 0, cells := 0, slots := 0, locals := 0 } : Room)) (fun a U => a = #[(.int p0)] ∧ Z.Warmed39 U.vm ∧ U.heap = h0) (fun _ _ _ _ _ => True) (fun _ U o U' => ∃ v L, o = .returned v ∧ Q2 Z p0 h0 n0 v U'.heap L ∧ FrameEnd U o U' L ({ frames := 0, cells := 0, slots := 0, locals := 0 } : Room).cells ({ frames := 0, cells := 0, slots := 0, locals := 0 } : Room).slots) := by
  refine MetFree.of_bodySF (plainFor_of_name pn_3) hisR ?_
  intro p e s m args below meth c s₁ Bd hml0 hP hK
  obtain ⟨rfl, hZ, hh⟩ := hP
  have hx := Bd.exec
  have hby := Bd.bytes
  have hml : c.maxLocals = 2 := hml0
  have hown : s.vm.findClass "com/example/sensor_access_indicators/sensoraccessindicators/dbus/MarshallingTypeEndPinLaw" = some m.cls := findClass_of_methodNamed Bd.named
  have hnm := (name_of_methodNamed Bd.named Bd.method).1
  have X0 : Stand p l e ({ frames := 0, cells := 0, slots := 0, locals := 0 } : Room) s m #[(.int p0)] below meth c s₁ [] 0 0 := Stand.of_body Bd
  have e0 : s₁.heap = h0 := by rw [← hh, Bd.state]; rfl
  have N0 := Fr.nil n0
  have pre0 : ∀ t, Steps p.tables e below (s₁.setTop (mkF m 0 #[.val (.int p0), .unset] [])) t → Steps p.tables e below (s₁.setTop (entryFrame m #[(.int p0)] 2)) t := fun t k => castTop (ef_2 m p0) k
  obtain ⟨v1_0, hv1, prem1⟩ : ∃ (v1_0 : Int32), v1_0 = (p0 &&& (255 : Int32)) ∧ ∀ t, Steps p.tables e below (s₁.setTop (mkF m 7 #[.val (.int p0), .val (.int v1_0)] [])) t → Steps p.tables e below (s₁.setTop (entryFrame m #[(.int p0)] 2)) t := by
    have pre2 : ∀ t, Steps p.tables e below (s₁.setTop (mkF m 7 #[.val (.int p0), .val (.int ((p0 &&& (255 : Int32)).toUInt32.toUInt16.toUInt32.toInt32))] [])) t → Steps p.tables e below (s₁.setTop (entryFrame m #[(.int p0)] 2)) t := fun t k => pre0 t (by
      show Steps p.tables e below (s₁.setTop (mkF m 0 #[.val (.int p0), .unset] [])) _
      refine XS.iloadN X0.here hx rfl (hb hby d2_0) rfl ?_
      show Steps p.tables e below (s₁.setTop (mkF m 1 #[.val (.int p0), .unset] [(.int p0)])) _
      refine XS.sipush X0.here hx rfl (hb hby d2_1) ?_
      show Steps p.tables e below (s₁.setTop (mkF m 4 #[.val (.int p0), .unset] [(.int (255 : Int32)), (.int p0)])) _
      refine XS.iand X0.here hx rfl (hb hby d2_4) rfl ?_
      show Steps p.tables e below (s₁.setTop (mkF m 5 #[.val (.int p0), .unset] [(.int (p0 &&& (255 : Int32)))])) _
      refine XS.i2c X0.here hx rfl (hb hby d2_5) rfl ?_
      show Steps p.tables e below (s₁.setTop (mkF m 6 #[.val (.int p0), .unset] [(.int ((p0 &&& (255 : Int32)).toUInt32.toUInt16.toUInt32.toInt32))])) _
      refine XS.istoreN X0.here hx rfl (hb hby d2_6) rfl (l' := #[.val (.int p0), .val (.int ((p0 &&& (255 : Int32)).toUInt32.toUInt16.toUInt32.toInt32))]) rfl ?_
      exact k)
    exact ⟨((p0 &&& (255 : Int32)).toUInt32.toUInt16.toUInt32.toInt32), (i2c_mask p0), pre2⟩
  subst hv1
  have pre3 : ∀ t, Steps p.tables e below (s₁.setTop (mkF m 10 #[.val (.int p0), .val (.int (p0 &&& (255 : Int32)))] [(.int (97 : Int32)), (.int (p0 &&& (255 : Int32)))])) t → Steps p.tables e below (s₁.setTop (entryFrame m #[(.int p0)] 2)) t := fun t k => prem1 t (by
    show Steps p.tables e below (s₁.setTop (mkF m 7 #[.val (.int p0), .val (.int (p0 &&& (255 : Int32)))] [])) _
    refine XS.iloadN X0.here hx rfl (hb hby d2_7) rfl ?_
    show Steps p.tables e below (s₁.setTop (mkF m 8 #[.val (.int p0), .val (.int (p0 &&& (255 : Int32)))] [(.int (p0 &&& (255 : Int32)))])) _
    refine XS.bipush X0.here hx rfl (hb hby d2_8) ?_
    exact k)
  by_cases hc10_4 : (p0 &&& (255 : Int32)) = (97 : Int32)
  · have pre5 : ∀ t, Steps p.tables e below (s₁.setTop (mkF m 27 #[.val (.int p0), .val (.int (p0 &&& (255 : Int32)))] [(.int (121 : Int32))])) t → Steps p.tables e below (s₁.setTop (entryFrame m #[(.int p0)] 2)) t := fun t k => pre3 t (by
      show Steps p.tables e below (s₁.setTop (mkF m 10 #[.val (.int p0), .val (.int (p0 &&& (255 : Int32)))] [(.int (97 : Int32)), (.int (p0 &&& (255 : Int32)))])) _
      refine XS.icmpYes X0.here hx rfl (pc0 := 10) (pc' := 25) rfl (hb hby d2_10) rfl (teq hc10_4).1 (by decide) (by decide) ?_
      show Steps p.tables e below (s₁.setTop (mkF m 25 #[.val (.int p0), .val (.int (p0 &&& (255 : Int32)))] [])) _
      refine XS.bipush X0.here hx rfl (hb hby d2_25) ?_
      exact k)
    obtain ⟨fs, hr, hrun, hended, hW, hsame⟩ := X0.leave (v := some (.int (121 : Int32))) (fun h => by rw [Bd.returns] at h; cases h)
    refine ⟨_, _, pre5 _ ?_, hrun, hended, _, _, rfl, ?_, ⟨_, rfl⟩, hW, hsame.mono (by decide) (by decide)⟩
    · exact retN X0 hx (t := .char) Bd.returns (by simp) (hb hby d2_27) hr
    · show Q2 Z p0 h0 n0 _ s₁.heap _
      rw [e0]
      exact ⟨by rw [own_top, if_pos (Or.inl hc10_4)], N0, rfl⟩
  · have pre6 : ∀ t, Steps p.tables e below (s₁.setTop (mkF m 16 #[.val (.int p0), .val (.int (p0 &&& (255 : Int32)))] [(.int (40 : Int32)), (.int (p0 &&& (255 : Int32)))])) t → Steps p.tables e below (s₁.setTop (entryFrame m #[(.int p0)] 2)) t := fun t k => pre3 t (by
      show Steps p.tables e below (s₁.setTop (mkF m 10 #[.val (.int p0), .val (.int (p0 &&& (255 : Int32)))] [(.int (97 : Int32)), (.int (p0 &&& (255 : Int32)))])) _
      refine XS.icmpNo X0.here hx rfl (hb hby d2_10) rfl (feq hc10_4).1 ?_
      show Steps p.tables e below (s₁.setTop (mkF m 13 #[.val (.int p0), .val (.int (p0 &&& (255 : Int32)))] [])) _
      refine XS.iloadN X0.here hx rfl (hb hby d2_13) rfl ?_
      show Steps p.tables e below (s₁.setTop (mkF m 14 #[.val (.int p0), .val (.int (p0 &&& (255 : Int32)))] [(.int (p0 &&& (255 : Int32)))])) _
      refine XS.bipush X0.here hx rfl (hb hby d2_14) ?_
      exact k)
    by_cases hc16_7 : (p0 &&& (255 : Int32)) = (40 : Int32)
    · have pre8 : ∀ t, Steps p.tables e below (s₁.setTop (mkF m 27 #[.val (.int p0), .val (.int (p0 &&& (255 : Int32)))] [(.int (121 : Int32))])) t → Steps p.tables e below (s₁.setTop (entryFrame m #[(.int p0)] 2)) t := fun t k => pre6 t (by
        show Steps p.tables e below (s₁.setTop (mkF m 16 #[.val (.int p0), .val (.int (p0 &&& (255 : Int32)))] [(.int (40 : Int32)), (.int (p0 &&& (255 : Int32)))])) _
        refine XS.icmpYes X0.here hx rfl (pc0 := 16) (pc' := 25) rfl (hb hby d2_16) rfl (teq hc16_7).1 (by decide) (by decide) ?_
        show Steps p.tables e below (s₁.setTop (mkF m 25 #[.val (.int p0), .val (.int (p0 &&& (255 : Int32)))] [])) _
        refine XS.bipush X0.here hx rfl (hb hby d2_25) ?_
        exact k)
      obtain ⟨fs, hr, hrun, hended, hW, hsame⟩ := X0.leave (v := some (.int (121 : Int32))) (fun h => by rw [Bd.returns] at h; cases h)
      refine ⟨_, _, pre8 _ ?_, hrun, hended, _, _, rfl, ?_, ⟨_, rfl⟩, hW, hsame.mono (by decide) (by decide)⟩
      · exact retN X0 hx (t := .char) Bd.returns (by simp) (hb hby d2_27) hr
      · show Q2 Z p0 h0 n0 _ s₁.heap _
        rw [e0]
        exact ⟨by rw [own_top, if_pos (Or.inr (Or.inl hc16_7))], N0, rfl⟩
    · have pre9 : ∀ t, Steps p.tables e below (s₁.setTop (mkF m 22 #[.val (.int p0), .val (.int (p0 &&& (255 : Int32)))] [(.int (123 : Int32)), (.int (p0 &&& (255 : Int32)))])) t → Steps p.tables e below (s₁.setTop (entryFrame m #[(.int p0)] 2)) t := fun t k => pre6 t (by
        show Steps p.tables e below (s₁.setTop (mkF m 16 #[.val (.int p0), .val (.int (p0 &&& (255 : Int32)))] [(.int (40 : Int32)), (.int (p0 &&& (255 : Int32)))])) _
        refine XS.icmpNo X0.here hx rfl (hb hby d2_16) rfl (feq hc16_7).1 ?_
        show Steps p.tables e below (s₁.setTop (mkF m 19 #[.val (.int p0), .val (.int (p0 &&& (255 : Int32)))] [])) _
        refine XS.iloadN X0.here hx rfl (hb hby d2_19) rfl ?_
        show Steps p.tables e below (s₁.setTop (mkF m 20 #[.val (.int p0), .val (.int (p0 &&& (255 : Int32)))] [(.int (p0 &&& (255 : Int32)))])) _
        refine XS.bipush X0.here hx rfl (hb hby d2_20) ?_
        exact k)
      by_cases hc22_10 : (p0 &&& (255 : Int32)) = (123 : Int32)
      · have pre11 : ∀ t, Steps p.tables e below (s₁.setTop (mkF m 27 #[.val (.int p0), .val (.int (p0 &&& (255 : Int32)))] [(.int (121 : Int32))])) t → Steps p.tables e below (s₁.setTop (entryFrame m #[(.int p0)] 2)) t := fun t k => pre9 t (by
          show Steps p.tables e below (s₁.setTop (mkF m 22 #[.val (.int p0), .val (.int (p0 &&& (255 : Int32)))] [(.int (123 : Int32)), (.int (p0 &&& (255 : Int32)))])) _
          refine XS.icmpNo X0.here hx rfl (hb hby d2_22) rfl (teq hc22_10).2 ?_
          show Steps p.tables e below (s₁.setTop (mkF m 25 #[.val (.int p0), .val (.int (p0 &&& (255 : Int32)))] [])) _
          refine XS.bipush X0.here hx rfl (hb hby d2_25) ?_
          exact k)
        obtain ⟨fs, hr, hrun, hended, hW, hsame⟩ := X0.leave (v := some (.int (121 : Int32))) (fun h => by rw [Bd.returns] at h; cases h)
        refine ⟨_, _, pre11 _ ?_, hrun, hended, _, _, rfl, ?_, ⟨_, rfl⟩, hW, hsame.mono (by decide) (by decide)⟩
        · exact retN X0 hx (t := .char) Bd.returns (by simp) (hb hby d2_27) hr
        · show Q2 Z p0 h0 n0 _ s₁.heap _
          rw [e0]
          exact ⟨by rw [own_top, if_pos (Or.inr (Or.inr (hc22_10)))], N0, rfl⟩
      · have pre12 : ∀ t, Steps p.tables e below (s₁.setTop (mkF m 29 #[.val (.int p0), .val (.int (p0 &&& (255 : Int32)))] [(.int (p0 &&& (255 : Int32)))])) t → Steps p.tables e below (s₁.setTop (entryFrame m #[(.int p0)] 2)) t := fun t k => pre9 t (by
          show Steps p.tables e below (s₁.setTop (mkF m 22 #[.val (.int p0), .val (.int (p0 &&& (255 : Int32)))] [(.int (123 : Int32)), (.int (p0 &&& (255 : Int32)))])) _
          refine XS.icmpYes X0.here hx rfl (pc0 := 22) (pc' := 28) rfl (hb hby d2_22) rfl (feq hc22_10).2 (by decide) (by decide) ?_
          show Steps p.tables e below (s₁.setTop (mkF m 28 #[.val (.int p0), .val (.int (p0 &&& (255 : Int32)))] [])) _
          refine XS.iloadN X0.here hx rfl (hb hby d2_28) rfl ?_
          exact k)
        obtain ⟨fs, hr, hrun, hended, hW, hsame⟩ := X0.leave (v := some (.int (nar .char (p0 &&& (255 : Int32))))) (fun h => by rw [Bd.returns] at h; cases h)
        refine ⟨_, _, pre12 _ ?_, hrun, hended, _, _, rfl, ?_, ⟨_, rfl⟩, hW, hsame.mono (by decide) (by decide)⟩
        · exact retN X0 hx (t := .char) Bd.returns (by simp) (hb hby d2_29) hr
        · show Q2 Z p0 h0 n0 _ s₁.heap _
          rw [e0]
          exact ⟨by rw [own_top, if_neg (by rintro (q | q | q) <;> contradiction), own_nc1], N0, rfl⟩
theorem d16_0 : decode method_3_code 0 = .ok (.iload_n 0, 1) := by decide +kernel
theorem d16_1 : decode method_3_code 1 = .ok (.sipush 255, 3) := by decide +kernel
theorem d16_4 : decode method_3_code 4 = .ok (.iand, 1) := by decide +kernel
theorem d16_5 : decode method_3_code 5 = .ok (.i2c, 1) := by decide +kernel
theorem d16_6 : decode method_3_code 6 = .ok (.istore_n 1, 1) := by decide +kernel
theorem d16_7 : decode method_3_code 7 = .ok (.iload_n 1, 1) := by decide +kernel
theorem d16_8 : decode method_3_code 8 = .ok (.bipush 97, 2) := by decide +kernel
theorem d16_10 : decode method_3_code 10 = .ok (.if_icmp .eq 27, 3) := by decide +kernel
theorem d16_37 : decode method_3_code 37 = .ok (.bipush 105, 2) := by decide +kernel
theorem d16_39 : decode method_3_code 39 = .ok (.ireturn, 1) := by decide +kernel
theorem d16_13 : decode method_3_code 13 = .ok (.iload_n 1, 1) := by decide +kernel
theorem d16_14 : decode method_3_code 14 = .ok (.bipush 40, 2) := by decide +kernel
theorem d16_16 : decode method_3_code 16 = .ok (.if_icmp .eq 21, 3) := by decide +kernel
theorem d16_19 : decode method_3_code 19 = .ok (.iload_n 1, 1) := by decide +kernel
theorem d16_20 : decode method_3_code 20 = .ok (.bipush 123, 2) := by decide +kernel
theorem d16_22 : decode method_3_code 22 = .ok (.if_icmp .eq 15, 3) := by decide +kernel
theorem d16_25 : decode method_3_code 25 = .ok (.iload_n 1, 1) := by decide +kernel
theorem d16_26 : decode method_3_code 26 = .ok (.bipush 41, 2) := by decide +kernel
theorem d16_28 : decode method_3_code 28 = .ok (.if_icmp .eq 9, 3) := by decide +kernel
theorem d16_31 : decode method_3_code 31 = .ok (.iload_n 1, 1) := by decide +kernel
theorem d16_32 : decode method_3_code 32 = .ok (.bipush 125, 2) := by decide +kernel
theorem d16_34 : decode method_3_code 34 = .ok (.if_icmp .ne 6, 3) := by decide +kernel
theorem d16_40 : decode method_3_code 40 = .ok (.iload_n 1, 1) := by decide +kernel
theorem d16_41 : decode method_3_code 41 = .ok (.ireturn, 1) := by decide +kernel
theorem ef_16 (m : MethodId) (x0 : Int32) : entryFrame m #[(.int x0)] 2 = mkF m 0 #[.val (.int x0), .unset] [] := by first | (simp [entryFrame, mkF, argsToLocals, Value.category]; done) | rfl
def Q16 (Z : State) (p0 : Int32) (h0 : Heap) (n0 : Nat) (v : Option Value) (h : Heap) (L : List Loc) : Prop := v = some (.int (own_inner p0)) ∧ Fr n0 L ∧ h = h0
set_option maxRecDepth 65536 in
set_option maxHeartbeats 40000000 in
theorem rm16 (l : Launch) (Z : State) (a0 : Array Value) (hw : ∀ d ∈ tables_1, d.before a0 Z = true) (ws : List Jvm.Cond) (p0 : Int32) (h0 : Heap) (n0 : Nat) (Z0 : n0 ≤ h0.size) :
    MetFree l (⟨"com/example/sensor_access_indicators/sensoraccessindicators/dbus/MarshallingTypeEndPinLaw", "inner", "(I)C"⟩ : MethodName) (head1 (Jvm.Cond.code (⟨"com/example/sensor_access_indicators/sensoraccessindicators/dbus/MarshallingTypeEndPinLaw", "inner", "(I)C"⟩ : MethodName) method_3_code 2 (some .char) :: ws) ({ frames := 0, cells := 0, slots := 0, locals := 0 } : Room)) (fun a U => a = #[(.int p0)] ∧ Z.Warmed39 U.vm ∧ U.heap = h0) (fun _ _ _ _ _ => True) (fun _ U o U' => ∃ v L, o = .returned v ∧ Q16 Z p0 h0 n0 v U'.heap L ∧ FrameEnd U o U' L ({ frames := 0, cells := 0, slots := 0, locals := 0 } : Room).cells ({ frames := 0, cells := 0, slots := 0, locals := 0 } : Room).slots) := by
  refine MetFree.of_bodySF (plainFor_of_name pn_3) hisR ?_
  intro p e s m args below meth c s₁ Bd hml0 hP hK
  obtain ⟨rfl, hZ, hh⟩ := hP
  have hx := Bd.exec
  have hby := Bd.bytes
  have hml : c.maxLocals = 2 := hml0
  have hown : s.vm.findClass "com/example/sensor_access_indicators/sensoraccessindicators/dbus/MarshallingTypeEndPinLaw" = some m.cls := findClass_of_methodNamed Bd.named
  have hnm := (name_of_methodNamed Bd.named Bd.method).1
  have X0 : Stand p l e ({ frames := 0, cells := 0, slots := 0, locals := 0 } : Room) s m #[(.int p0)] below meth c s₁ [] 0 0 := Stand.of_body Bd
  have e0 : s₁.heap = h0 := by rw [← hh, Bd.state]; rfl
  have N0 := Fr.nil n0
  have pre0 : ∀ t, Steps p.tables e below (s₁.setTop (mkF m 0 #[.val (.int p0), .unset] [])) t → Steps p.tables e below (s₁.setTop (entryFrame m #[(.int p0)] 2)) t := fun t k => castTop (ef_16 m p0) k
  obtain ⟨v1_0, hv1, prem1⟩ : ∃ (v1_0 : Int32), v1_0 = (p0 &&& (255 : Int32)) ∧ ∀ t, Steps p.tables e below (s₁.setTop (mkF m 7 #[.val (.int p0), .val (.int v1_0)] [])) t → Steps p.tables e below (s₁.setTop (entryFrame m #[(.int p0)] 2)) t := by
    have pre2 : ∀ t, Steps p.tables e below (s₁.setTop (mkF m 7 #[.val (.int p0), .val (.int ((p0 &&& (255 : Int32)).toUInt32.toUInt16.toUInt32.toInt32))] [])) t → Steps p.tables e below (s₁.setTop (entryFrame m #[(.int p0)] 2)) t := fun t k => pre0 t (by
      show Steps p.tables e below (s₁.setTop (mkF m 0 #[.val (.int p0), .unset] [])) _
      refine XS.iloadN X0.here hx rfl (hb hby d16_0) rfl ?_
      show Steps p.tables e below (s₁.setTop (mkF m 1 #[.val (.int p0), .unset] [(.int p0)])) _
      refine XS.sipush X0.here hx rfl (hb hby d16_1) ?_
      show Steps p.tables e below (s₁.setTop (mkF m 4 #[.val (.int p0), .unset] [(.int (255 : Int32)), (.int p0)])) _
      refine XS.iand X0.here hx rfl (hb hby d16_4) rfl ?_
      show Steps p.tables e below (s₁.setTop (mkF m 5 #[.val (.int p0), .unset] [(.int (p0 &&& (255 : Int32)))])) _
      refine XS.i2c X0.here hx rfl (hb hby d16_5) rfl ?_
      show Steps p.tables e below (s₁.setTop (mkF m 6 #[.val (.int p0), .unset] [(.int ((p0 &&& (255 : Int32)).toUInt32.toUInt16.toUInt32.toInt32))])) _
      refine XS.istoreN X0.here hx rfl (hb hby d16_6) rfl (l' := #[.val (.int p0), .val (.int ((p0 &&& (255 : Int32)).toUInt32.toUInt16.toUInt32.toInt32))]) rfl ?_
      exact k)
    exact ⟨((p0 &&& (255 : Int32)).toUInt32.toUInt16.toUInt32.toInt32), (i2c_mask p0), pre2⟩
  subst hv1
  have pre3 : ∀ t, Steps p.tables e below (s₁.setTop (mkF m 10 #[.val (.int p0), .val (.int (p0 &&& (255 : Int32)))] [(.int (97 : Int32)), (.int (p0 &&& (255 : Int32)))])) t → Steps p.tables e below (s₁.setTop (entryFrame m #[(.int p0)] 2)) t := fun t k => prem1 t (by
    show Steps p.tables e below (s₁.setTop (mkF m 7 #[.val (.int p0), .val (.int (p0 &&& (255 : Int32)))] [])) _
    refine XS.iloadN X0.here hx rfl (hb hby d16_7) rfl ?_
    show Steps p.tables e below (s₁.setTop (mkF m 8 #[.val (.int p0), .val (.int (p0 &&& (255 : Int32)))] [(.int (p0 &&& (255 : Int32)))])) _
    refine XS.bipush X0.here hx rfl (hb hby d16_8) ?_
    exact k)
  by_cases hc10_4 : (p0 &&& (255 : Int32)) = (97 : Int32)
  · have pre5 : ∀ t, Steps p.tables e below (s₁.setTop (mkF m 39 #[.val (.int p0), .val (.int (p0 &&& (255 : Int32)))] [(.int (105 : Int32))])) t → Steps p.tables e below (s₁.setTop (entryFrame m #[(.int p0)] 2)) t := fun t k => pre3 t (by
      show Steps p.tables e below (s₁.setTop (mkF m 10 #[.val (.int p0), .val (.int (p0 &&& (255 : Int32)))] [(.int (97 : Int32)), (.int (p0 &&& (255 : Int32)))])) _
      refine XS.icmpYes X0.here hx rfl (pc0 := 10) (pc' := 37) rfl (hb hby d16_10) rfl (teq hc10_4).1 (by decide) (by decide) ?_
      show Steps p.tables e below (s₁.setTop (mkF m 37 #[.val (.int p0), .val (.int (p0 &&& (255 : Int32)))] [])) _
      refine XS.bipush X0.here hx rfl (hb hby d16_37) ?_
      exact k)
    obtain ⟨fs, hr, hrun, hended, hW, hsame⟩ := X0.leave (v := some (.int (105 : Int32))) (fun h => by rw [Bd.returns] at h; cases h)
    refine ⟨_, _, pre5 _ ?_, hrun, hended, _, _, rfl, ?_, ⟨_, rfl⟩, hW, hsame.mono (by decide) (by decide)⟩
    · exact retN X0 hx (t := .char) Bd.returns (by simp) (hb hby d16_39) hr
    · show Q16 Z p0 h0 n0 _ s₁.heap _
      rw [e0]
      exact ⟨by rw [own_inner, if_pos (Or.inl hc10_4)], N0, rfl⟩
  · have pre6 : ∀ t, Steps p.tables e below (s₁.setTop (mkF m 16 #[.val (.int p0), .val (.int (p0 &&& (255 : Int32)))] [(.int (40 : Int32)), (.int (p0 &&& (255 : Int32)))])) t → Steps p.tables e below (s₁.setTop (entryFrame m #[(.int p0)] 2)) t := fun t k => pre3 t (by
      show Steps p.tables e below (s₁.setTop (mkF m 10 #[.val (.int p0), .val (.int (p0 &&& (255 : Int32)))] [(.int (97 : Int32)), (.int (p0 &&& (255 : Int32)))])) _
      refine XS.icmpNo X0.here hx rfl (hb hby d16_10) rfl (feq hc10_4).1 ?_
      show Steps p.tables e below (s₁.setTop (mkF m 13 #[.val (.int p0), .val (.int (p0 &&& (255 : Int32)))] [])) _
      refine XS.iloadN X0.here hx rfl (hb hby d16_13) rfl ?_
      show Steps p.tables e below (s₁.setTop (mkF m 14 #[.val (.int p0), .val (.int (p0 &&& (255 : Int32)))] [(.int (p0 &&& (255 : Int32)))])) _
      refine XS.bipush X0.here hx rfl (hb hby d16_14) ?_
      exact k)
    by_cases hc16_7 : (p0 &&& (255 : Int32)) = (40 : Int32)
    · have pre8 : ∀ t, Steps p.tables e below (s₁.setTop (mkF m 39 #[.val (.int p0), .val (.int (p0 &&& (255 : Int32)))] [(.int (105 : Int32))])) t → Steps p.tables e below (s₁.setTop (entryFrame m #[(.int p0)] 2)) t := fun t k => pre6 t (by
        show Steps p.tables e below (s₁.setTop (mkF m 16 #[.val (.int p0), .val (.int (p0 &&& (255 : Int32)))] [(.int (40 : Int32)), (.int (p0 &&& (255 : Int32)))])) _
        refine XS.icmpYes X0.here hx rfl (pc0 := 16) (pc' := 37) rfl (hb hby d16_16) rfl (teq hc16_7).1 (by decide) (by decide) ?_
        show Steps p.tables e below (s₁.setTop (mkF m 37 #[.val (.int p0), .val (.int (p0 &&& (255 : Int32)))] [])) _
        refine XS.bipush X0.here hx rfl (hb hby d16_37) ?_
        exact k)
      obtain ⟨fs, hr, hrun, hended, hW, hsame⟩ := X0.leave (v := some (.int (105 : Int32))) (fun h => by rw [Bd.returns] at h; cases h)
      refine ⟨_, _, pre8 _ ?_, hrun, hended, _, _, rfl, ?_, ⟨_, rfl⟩, hW, hsame.mono (by decide) (by decide)⟩
      · exact retN X0 hx (t := .char) Bd.returns (by simp) (hb hby d16_39) hr
      · show Q16 Z p0 h0 n0 _ s₁.heap _
        rw [e0]
        exact ⟨by rw [own_inner, if_pos (Or.inr (Or.inl hc16_7))], N0, rfl⟩
    · have pre9 : ∀ t, Steps p.tables e below (s₁.setTop (mkF m 22 #[.val (.int p0), .val (.int (p0 &&& (255 : Int32)))] [(.int (123 : Int32)), (.int (p0 &&& (255 : Int32)))])) t → Steps p.tables e below (s₁.setTop (entryFrame m #[(.int p0)] 2)) t := fun t k => pre6 t (by
        show Steps p.tables e below (s₁.setTop (mkF m 16 #[.val (.int p0), .val (.int (p0 &&& (255 : Int32)))] [(.int (40 : Int32)), (.int (p0 &&& (255 : Int32)))])) _
        refine XS.icmpNo X0.here hx rfl (hb hby d16_16) rfl (feq hc16_7).1 ?_
        show Steps p.tables e below (s₁.setTop (mkF m 19 #[.val (.int p0), .val (.int (p0 &&& (255 : Int32)))] [])) _
        refine XS.iloadN X0.here hx rfl (hb hby d16_19) rfl ?_
        show Steps p.tables e below (s₁.setTop (mkF m 20 #[.val (.int p0), .val (.int (p0 &&& (255 : Int32)))] [(.int (p0 &&& (255 : Int32)))])) _
        refine XS.bipush X0.here hx rfl (hb hby d16_20) ?_
        exact k)
      by_cases hc22_10 : (p0 &&& (255 : Int32)) = (123 : Int32)
      · have pre11 : ∀ t, Steps p.tables e below (s₁.setTop (mkF m 39 #[.val (.int p0), .val (.int (p0 &&& (255 : Int32)))] [(.int (105 : Int32))])) t → Steps p.tables e below (s₁.setTop (entryFrame m #[(.int p0)] 2)) t := fun t k => pre9 t (by
          show Steps p.tables e below (s₁.setTop (mkF m 22 #[.val (.int p0), .val (.int (p0 &&& (255 : Int32)))] [(.int (123 : Int32)), (.int (p0 &&& (255 : Int32)))])) _
          refine XS.icmpYes X0.here hx rfl (pc0 := 22) (pc' := 37) rfl (hb hby d16_22) rfl (teq hc22_10).1 (by decide) (by decide) ?_
          show Steps p.tables e below (s₁.setTop (mkF m 37 #[.val (.int p0), .val (.int (p0 &&& (255 : Int32)))] [])) _
          refine XS.bipush X0.here hx rfl (hb hby d16_37) ?_
          exact k)
        obtain ⟨fs, hr, hrun, hended, hW, hsame⟩ := X0.leave (v := some (.int (105 : Int32))) (fun h => by rw [Bd.returns] at h; cases h)
        refine ⟨_, _, pre11 _ ?_, hrun, hended, _, _, rfl, ?_, ⟨_, rfl⟩, hW, hsame.mono (by decide) (by decide)⟩
        · exact retN X0 hx (t := .char) Bd.returns (by simp) (hb hby d16_39) hr
        · show Q16 Z p0 h0 n0 _ s₁.heap _
          rw [e0]
          exact ⟨by rw [own_inner, if_pos (Or.inr (Or.inr (Or.inl hc22_10)))], N0, rfl⟩
      · have pre12 : ∀ t, Steps p.tables e below (s₁.setTop (mkF m 28 #[.val (.int p0), .val (.int (p0 &&& (255 : Int32)))] [(.int (41 : Int32)), (.int (p0 &&& (255 : Int32)))])) t → Steps p.tables e below (s₁.setTop (entryFrame m #[(.int p0)] 2)) t := fun t k => pre9 t (by
          show Steps p.tables e below (s₁.setTop (mkF m 22 #[.val (.int p0), .val (.int (p0 &&& (255 : Int32)))] [(.int (123 : Int32)), (.int (p0 &&& (255 : Int32)))])) _
          refine XS.icmpNo X0.here hx rfl (hb hby d16_22) rfl (feq hc22_10).1 ?_
          show Steps p.tables e below (s₁.setTop (mkF m 25 #[.val (.int p0), .val (.int (p0 &&& (255 : Int32)))] [])) _
          refine XS.iloadN X0.here hx rfl (hb hby d16_25) rfl ?_
          show Steps p.tables e below (s₁.setTop (mkF m 26 #[.val (.int p0), .val (.int (p0 &&& (255 : Int32)))] [(.int (p0 &&& (255 : Int32)))])) _
          refine XS.bipush X0.here hx rfl (hb hby d16_26) ?_
          exact k)
        by_cases hc28_13 : (p0 &&& (255 : Int32)) = (41 : Int32)
        · have pre14 : ∀ t, Steps p.tables e below (s₁.setTop (mkF m 39 #[.val (.int p0), .val (.int (p0 &&& (255 : Int32)))] [(.int (105 : Int32))])) t → Steps p.tables e below (s₁.setTop (entryFrame m #[(.int p0)] 2)) t := fun t k => pre12 t (by
            show Steps p.tables e below (s₁.setTop (mkF m 28 #[.val (.int p0), .val (.int (p0 &&& (255 : Int32)))] [(.int (41 : Int32)), (.int (p0 &&& (255 : Int32)))])) _
            refine XS.icmpYes X0.here hx rfl (pc0 := 28) (pc' := 37) rfl (hb hby d16_28) rfl (teq hc28_13).1 (by decide) (by decide) ?_
            show Steps p.tables e below (s₁.setTop (mkF m 37 #[.val (.int p0), .val (.int (p0 &&& (255 : Int32)))] [])) _
            refine XS.bipush X0.here hx rfl (hb hby d16_37) ?_
            exact k)
          obtain ⟨fs, hr, hrun, hended, hW, hsame⟩ := X0.leave (v := some (.int (105 : Int32))) (fun h => by rw [Bd.returns] at h; cases h)
          refine ⟨_, _, pre14 _ ?_, hrun, hended, _, _, rfl, ?_, ⟨_, rfl⟩, hW, hsame.mono (by decide) (by decide)⟩
          · exact retN X0 hx (t := .char) Bd.returns (by simp) (hb hby d16_39) hr
          · show Q16 Z p0 h0 n0 _ s₁.heap _
            rw [e0]
            exact ⟨by rw [own_inner, if_pos (Or.inr (Or.inr (Or.inr (Or.inl hc28_13))))], N0, rfl⟩
        · have pre15 : ∀ t, Steps p.tables e below (s₁.setTop (mkF m 34 #[.val (.int p0), .val (.int (p0 &&& (255 : Int32)))] [(.int (125 : Int32)), (.int (p0 &&& (255 : Int32)))])) t → Steps p.tables e below (s₁.setTop (entryFrame m #[(.int p0)] 2)) t := fun t k => pre12 t (by
            show Steps p.tables e below (s₁.setTop (mkF m 28 #[.val (.int p0), .val (.int (p0 &&& (255 : Int32)))] [(.int (41 : Int32)), (.int (p0 &&& (255 : Int32)))])) _
            refine XS.icmpNo X0.here hx rfl (hb hby d16_28) rfl (feq hc28_13).1 ?_
            show Steps p.tables e below (s₁.setTop (mkF m 31 #[.val (.int p0), .val (.int (p0 &&& (255 : Int32)))] [])) _
            refine XS.iloadN X0.here hx rfl (hb hby d16_31) rfl ?_
            show Steps p.tables e below (s₁.setTop (mkF m 32 #[.val (.int p0), .val (.int (p0 &&& (255 : Int32)))] [(.int (p0 &&& (255 : Int32)))])) _
            refine XS.bipush X0.here hx rfl (hb hby d16_32) ?_
            exact k)
          by_cases hc34_16 : (p0 &&& (255 : Int32)) = (125 : Int32)
          · have pre17 : ∀ t, Steps p.tables e below (s₁.setTop (mkF m 39 #[.val (.int p0), .val (.int (p0 &&& (255 : Int32)))] [(.int (105 : Int32))])) t → Steps p.tables e below (s₁.setTop (entryFrame m #[(.int p0)] 2)) t := fun t k => pre15 t (by
              show Steps p.tables e below (s₁.setTop (mkF m 34 #[.val (.int p0), .val (.int (p0 &&& (255 : Int32)))] [(.int (125 : Int32)), (.int (p0 &&& (255 : Int32)))])) _
              refine XS.icmpNo X0.here hx rfl (hb hby d16_34) rfl (teq hc34_16).2 ?_
              show Steps p.tables e below (s₁.setTop (mkF m 37 #[.val (.int p0), .val (.int (p0 &&& (255 : Int32)))] [])) _
              refine XS.bipush X0.here hx rfl (hb hby d16_37) ?_
              exact k)
            obtain ⟨fs, hr, hrun, hended, hW, hsame⟩ := X0.leave (v := some (.int (105 : Int32))) (fun h => by rw [Bd.returns] at h; cases h)
            refine ⟨_, _, pre17 _ ?_, hrun, hended, _, _, rfl, ?_, ⟨_, rfl⟩, hW, hsame.mono (by decide) (by decide)⟩
            · exact retN X0 hx (t := .char) Bd.returns (by simp) (hb hby d16_39) hr
            · show Q16 Z p0 h0 n0 _ s₁.heap _
              rw [e0]
              exact ⟨by rw [own_inner, if_pos (Or.inr (Or.inr (Or.inr (Or.inr (hc34_16)))))], N0, rfl⟩
          · have pre18 : ∀ t, Steps p.tables e below (s₁.setTop (mkF m 41 #[.val (.int p0), .val (.int (p0 &&& (255 : Int32)))] [(.int (p0 &&& (255 : Int32)))])) t → Steps p.tables e below (s₁.setTop (entryFrame m #[(.int p0)] 2)) t := fun t k => pre15 t (by
              show Steps p.tables e below (s₁.setTop (mkF m 34 #[.val (.int p0), .val (.int (p0 &&& (255 : Int32)))] [(.int (125 : Int32)), (.int (p0 &&& (255 : Int32)))])) _
              refine XS.icmpYes X0.here hx rfl (pc0 := 34) (pc' := 40) rfl (hb hby d16_34) rfl (feq hc34_16).2 (by decide) (by decide) ?_
              show Steps p.tables e below (s₁.setTop (mkF m 40 #[.val (.int p0), .val (.int (p0 &&& (255 : Int32)))] [])) _
              refine XS.iloadN X0.here hx rfl (hb hby d16_40) rfl ?_
              exact k)
            obtain ⟨fs, hr, hrun, hended, hW, hsame⟩ := X0.leave (v := some (.int (nar .char (p0 &&& (255 : Int32))))) (fun h => by rw [Bd.returns] at h; cases h)
            refine ⟨_, _, pre18 _ ?_, hrun, hended, _, _, rfl, ?_, ⟨_, rfl⟩, hW, hsame.mono (by decide) (by decide)⟩
            · exact retN X0 hx (t := .char) Bd.returns (by simp) (hb hby d16_41) hr
            · show Q16 Z p0 h0 n0 _ s₁.heap _
              rw [e0]
              exact ⟨by rw [own_inner, if_neg (by rintro (q | q | q | q | q) <;> contradiction), own_nc1], N0, rfl⟩
theorem d1_0 : decode method_4_code 0 = .ok (.iload_n 1, 1) := by decide +kernel
theorem d1_1 : decode method_4_code 1 = .ok (.istore_n 3, 1) := by decide +kernel
theorem d1_2 : decode method_4_code 2 = .ok (.iload_n 2, 1) := by decide +kernel
theorem d1_3 : decode method_4_code 3 = .ok (.ifCond .le 12, 3) := by decide +kernel
theorem d1_6 : decode method_4_code 6 = .ok (.aload_n 0, 1) := by decide +kernel
theorem d1_7 : decode method_4_code 7 = .ok (.iload_n 3, 1) := by decide +kernel
theorem d1_8 : decode method_4_code 8 = .ok (.bipush 97, 2) := by decide +kernel
theorem d1_10 : decode method_4_code 10 = .ok (.castore, 1) := by decide +kernel
theorem d1_11 : decode method_4_code 11 = .ok (.iload_n 3, 1) := by decide +kernel
theorem d1_12 : decode method_4_code 12 = .ok (.iconst 1, 1) := by decide +kernel
theorem d1_13 : decode method_4_code 13 = .ok (.iadd, 1) := by decide +kernel
theorem d1_14 : decode method_4_code 14 = .ok (.istore_n 3, 1) := by decide +kernel
theorem d1_15 : decode method_4_code 15 = .ok (.iload_n 2, 1) := by decide +kernel
theorem d1_16 : decode method_4_code 16 = .ok (.iconst 1, 1) := by decide +kernel
theorem d1_17 : decode method_4_code 17 = .ok (.if_icmp .le 12, 3) := by decide +kernel
theorem d1_20 : decode method_4_code 20 = .ok (.aload_n 0, 1) := by decide +kernel
theorem d1_21 : decode method_4_code 21 = .ok (.iload_n 3, 1) := by decide +kernel
theorem d1_22 : decode method_4_code 22 = .ok (.bipush 97, 2) := by decide +kernel
theorem d1_24 : decode method_4_code 24 = .ok (.castore, 1) := by decide +kernel
theorem d1_25 : decode method_4_code 25 = .ok (.iload_n 3, 1) := by decide +kernel
theorem d1_26 : decode method_4_code 26 = .ok (.iconst 1, 1) := by decide +kernel
theorem d1_27 : decode method_4_code 27 = .ok (.iadd, 1) := by decide +kernel
theorem d1_28 : decode method_4_code 28 = .ok (.istore_n 3, 1) := by decide +kernel
theorem d1_29 : decode method_4_code 29 = .ok (.iload_n 2, 1) := by decide +kernel
theorem d1_30 : decode method_4_code 30 = .ok (.iconst 2, 1) := by decide +kernel
theorem d1_31 : decode method_4_code 31 = .ok (.if_icmp .le 12, 3) := by decide +kernel
theorem d1_34 : decode method_4_code 34 = .ok (.aload_n 0, 1) := by decide +kernel
theorem d1_35 : decode method_4_code 35 = .ok (.iload_n 3, 1) := by decide +kernel
theorem d1_36 : decode method_4_code 36 = .ok (.bipush 97, 2) := by decide +kernel
theorem d1_38 : decode method_4_code 38 = .ok (.castore, 1) := by decide +kernel
theorem d1_39 : decode method_4_code 39 = .ok (.iload_n 3, 1) := by decide +kernel
theorem d1_40 : decode method_4_code 40 = .ok (.iconst 1, 1) := by decide +kernel
theorem d1_41 : decode method_4_code 41 = .ok (.iadd, 1) := by decide +kernel
theorem d1_42 : decode method_4_code 42 = .ok (.istore_n 3, 1) := by decide +kernel
theorem d1_43 : decode method_4_code 43 = .ok (.iload_n 3, 1) := by decide +kernel
theorem d1_44 : decode method_4_code 44 = .ok (.ireturn, 1) := by decide +kernel
theorem ef_1 (m : MethodId) (x0 : Addr) (x1 : Int32) (x2 : Int32) : entryFrame m #[(.ref x0), (.int x1), (.int x2)] 4 = mkF m 0 #[.val (.ref x0), .val (.int x1), .val (.int x2), .unset] [] := by first | (simp [entryFrame, mkF, argsToLocals, Value.category]; done) | rfl
def Q1 (Z : State) (o0 : Addr) (p1 : Int32) (p2 : Int32) (ls : List Int32) (kc : ClassId) (h0 : Heap) (n0 : Nat) (v : Option Value) (h : Heap) (L : List Loc) : Prop := v = some (.int (own_aE p1 p2)) ∧ Fr n0 L ∧ Keep h0 h [o0] ∧ own_A Z h o0 kc .char (24 : Int32) (own_aL ls p1 p2)
set_option maxRecDepth 65536 in
set_option maxHeartbeats 40000000 in
theorem rm1 (l : Launch) (Z : State) (a0 : Array Value) (hw : ∀ d ∈ tables_1, d.before a0 Z = true) (ws : List Jvm.Cond) (o0 : Addr) (p1 : Int32) (p2 : Int32) (ls : List Int32) (kc : ClassId) (h0 : Heap) (n0 : Nat) (Z0 : n0 ≤ h0.size) (V_o0 : own_A Z h0 o0 kc .char (24 : Int32) ls) (g_o0 : n0 ≤ o0) (hBy : own_by ls) (hP : own_p p1 20) (hK : own_p p2 3) :
    MetFree l (⟨"com/example/sensor_access_indicators/sensoraccessindicators/dbus/MarshallingTypeEndPinLaw", "arrays", "([CII)I"⟩ : MethodName) (head1 (Jvm.Cond.code (⟨"com/example/sensor_access_indicators/sensoraccessindicators/dbus/MarshallingTypeEndPinLaw", "arrays", "([CII)I"⟩ : MethodName) method_4_code 4 (some .int) :: ws) ({ frames := 0, cells := 0, slots := 0, locals := 0 } : Room)) (fun a U => a = #[(.ref o0), (.int p1), (.int p2)] ∧ Z.Warmed39 U.vm ∧ U.heap = h0) (fun _ _ _ _ _ => True) (fun _ U o U' => ∃ v L, o = .returned v ∧ Q1 Z o0 p1 p2 ls kc h0 n0 v U'.heap L ∧ FrameEnd U o U' L ({ frames := 0, cells := 0, slots := 0, locals := 0 } : Room).cells ({ frames := 0, cells := 0, slots := 0, locals := 0 } : Room).slots) := by
  refine MetFree.of_bodySF (plainFor_of_name pn_3) hisR ?_
  intro p e s m args below meth c s₁ Bd hml0 hP hK
  obtain ⟨rfl, hZ, hh⟩ := hP
  have hx := Bd.exec
  have hby := Bd.bytes
  have hml : c.maxLocals = 4 := hml0
  have hown : s.vm.findClass "com/example/sensor_access_indicators/sensoraccessindicators/dbus/MarshallingTypeEndPinLaw" = some m.cls := findClass_of_methodNamed Bd.named
  have hnm := (name_of_methodNamed Bd.named Bd.method).1
  have X0 : Stand p l e ({ frames := 0, cells := 0, slots := 0, locals := 0 } : Room) s m #[(.ref o0), (.int p1), (.int p2)] below meth c s₁ [] 0 0 := Stand.of_body Bd
  have e0 : s₁.heap = h0 := by rw [← hh, Bd.state]; rfl
  have N0 := Fr.nil n0
  have pre0 : ∀ t, Steps p.tables e below (s₁.setTop (mkF m 0 #[.val (.ref o0), .val (.int p1), .val (.int p2), .unset] [])) t → Steps p.tables e below (s₁.setTop (entryFrame m #[(.ref o0), (.int p1), (.int p2)] 4)) t := fun t k => castTop (ef_1 m o0 p1 p2) k
  have pre1 : ∀ t, Steps p.tables e below (s₁.setTop (mkF m 3 #[.val (.ref o0), .val (.int p1), .val (.int p2), .val (.int p1)] [(.int p2)])) t → Steps p.tables e below (s₁.setTop (entryFrame m #[(.ref o0), (.int p1), (.int p2)] 4)) t := fun t k => pre0 t (by
    show Steps p.tables e below (s₁.setTop (mkF m 0 #[.val (.ref o0), .val (.int p1), .val (.int p2), .unset] [])) _
    refine XS.iloadN X0.here hx rfl (hb hby d1_0) rfl ?_
    show Steps p.tables e below (s₁.setTop (mkF m 1 #[.val (.ref o0), .val (.int p1), .val (.int p2), .unset] [(.int p1)])) _
    refine XS.istoreN X0.here hx rfl (hb hby d1_1) rfl (l' := #[.val (.ref o0), .val (.int p1), .val (.int p2), .val (.int p1)]) rfl ?_
    show Steps p.tables e below (s₁.setTop (mkF m 2 #[.val (.ref o0), .val (.int p1), .val (.int p2), .val (.int p1)] [])) _
    refine XS.iloadN X0.here hx rfl (hb hby d1_2) rfl ?_
    exact k)
  by_cases hc3_2 : (0 : Int32) < p2
  · obtain ⟨c3, Ar3, hin3, -⟩ := own_read V_o0 (own_three hP).1
    obtain ⟨T4, h4, X4, e4, W4, st4⟩ := stC X0 hx hZ e0 Ar3 (j := p1) hin3 (g := (mkF m 10 #[.val (.ref o0), .val (.int p1), .val (.int p2), .val (.int p1)] [(.int (97 : Int32)), (.int p1), (.ref o0)])) rfl rfl (hb hby d1_10)
    have V4 : own_A Z h4 o0 kc .char (24 : Int32) (own_wr ls p1 (97 : Int32)) := own_writeC V_o0 (own_three hP).1 (by decide) W4
    have KK4 : Keep h0 h4 [o0] := (Keep.refl h0 [o0]).wr W4 (Or.inl (List.mem_of_getElem? (i := 0) rfl))
    have N4 := Fr.snoc X4 N0 g_o0
    have pre5 : ∀ t, Steps p.tables e below (T4.setTop (mkF m 17 #[.val (.ref o0), .val (.int p1), .val (.int p2), .val (.int (p1 + (1 : Int32)))] [(.int (1 : Int32)), (.int p2)])) t → Steps p.tables e below (s₁.setTop (entryFrame m #[(.ref o0), (.int p1), (.int p2)] 4)) t := fun t k => pre1 t (by
      show Steps p.tables e below (s₁.setTop (mkF m 3 #[.val (.ref o0), .val (.int p1), .val (.int p2), .val (.int p1)] [(.int p2)])) _
      refine XS.ifNo X0.here hx rfl (hb hby d1_3) rfl ((if0 _ _).trans (tlt hc3_2).2.2.2) ?_
      show Steps p.tables e below (s₁.setTop (mkF m 6 #[.val (.ref o0), .val (.int p1), .val (.int p2), .val (.int p1)] [])) _
      refine XS.aloadN X0.here hx rfl (hb hby d1_6) rfl rfl ?_
      show Steps p.tables e below (s₁.setTop (mkF m 7 #[.val (.ref o0), .val (.int p1), .val (.int p2), .val (.int p1)] [(.ref o0)])) _
      refine XS.iloadN X0.here hx rfl (hb hby d1_7) rfl ?_
      show Steps p.tables e below (s₁.setTop (mkF m 8 #[.val (.ref o0), .val (.int p1), .val (.int p2), .val (.int p1)] [(.int p1), (.ref o0)])) _
      refine XS.bipush X0.here hx rfl (hb hby d1_8) ?_
      show Steps p.tables e below (s₁.setTop (mkF m 10 #[.val (.ref o0), .val (.int p1), .val (.int p2), .val (.int p1)] [(.int (97 : Int32)), (.int p1), (.ref o0)])) _
      refine st4 _ ?_
      show Steps p.tables e below (T4.setTop (mkF m 11 #[.val (.ref o0), .val (.int p1), .val (.int p2), .val (.int p1)] [])) _
      refine XS.iloadN X4.here hx rfl (hb hby d1_11) rfl ?_
      show Steps p.tables e below (T4.setTop (mkF m 12 #[.val (.ref o0), .val (.int p1), .val (.int p2), .val (.int p1)] [(.int p1)])) _
      refine XS.iconst X4.here hx rfl (hb hby d1_12) ?_
      show Steps p.tables e below (T4.setTop (mkF m 13 #[.val (.ref o0), .val (.int p1), .val (.int p2), .val (.int p1)] [(.int (1 : Int32)), (.int p1)])) _
      refine XS.iadd X4.here hx rfl (hb hby d1_13) rfl ?_
      show Steps p.tables e below (T4.setTop (mkF m 14 #[.val (.ref o0), .val (.int p1), .val (.int p2), .val (.int p1)] [(.int (p1 + (1 : Int32)))])) _
      refine XS.istoreN X4.here hx rfl (hb hby d1_14) rfl (l' := #[.val (.ref o0), .val (.int p1), .val (.int p2), .val (.int (p1 + (1 : Int32)))]) rfl ?_
      show Steps p.tables e below (T4.setTop (mkF m 15 #[.val (.ref o0), .val (.int p1), .val (.int p2), .val (.int (p1 + (1 : Int32)))] [])) _
      refine XS.iloadN X4.here hx rfl (hb hby d1_15) rfl ?_
      show Steps p.tables e below (T4.setTop (mkF m 16 #[.val (.ref o0), .val (.int p1), .val (.int p2), .val (.int (p1 + (1 : Int32)))] [(.int p2)])) _
      refine XS.iconst X4.here hx rfl (hb hby d1_16) ?_
      exact k)
    by_cases hc17_6 : (1 : Int32) < p2
    · obtain ⟨c7, Ar7, hin7, -⟩ := own_read V4 (own_three hP).2.1
      obtain ⟨T8, h8, X8, e8, W8, st8⟩ := stC X4 hx hZ e4 Ar7 (j := (p1 + (1 : Int32))) hin7 (g := (mkF m 24 #[.val (.ref o0), .val (.int p1), .val (.int p2), .val (.int (p1 + (1 : Int32)))] [(.int (97 : Int32)), (.int (p1 + (1 : Int32))), (.ref o0)])) rfl rfl (hb hby d1_24)
      have V8 : own_A Z h8 o0 kc .char (24 : Int32) (own_wr (own_wr ls p1 (97 : Int32)) (p1 + (1 : Int32)) (97 : Int32)) := own_writeC V4 (own_three hP).2.1 (by decide) W8
      have KK8 : Keep h0 h8 [o0] := KK4.wr W8 (Or.inl (List.mem_of_getElem? (i := 0) rfl))
      have N8 := Fr.snoc X8 N4 g_o0
      have pre9 : ∀ t, Steps p.tables e below (T8.setTop (mkF m 31 #[.val (.ref o0), .val (.int p1), .val (.int p2), .val (.int ((p1 + (1 : Int32)) + (1 : Int32)))] [(.int (2 : Int32)), (.int p2)])) t → Steps p.tables e below (s₁.setTop (entryFrame m #[(.ref o0), (.int p1), (.int p2)] 4)) t := fun t k => pre5 t (by
        show Steps p.tables e below (T4.setTop (mkF m 17 #[.val (.ref o0), .val (.int p1), .val (.int p2), .val (.int (p1 + (1 : Int32)))] [(.int (1 : Int32)), (.int p2)])) _
        refine XS.icmpNo X4.here hx rfl (hb hby d1_17) rfl (tlt hc17_6).2.2.2 ?_
        show Steps p.tables e below (T4.setTop (mkF m 20 #[.val (.ref o0), .val (.int p1), .val (.int p2), .val (.int (p1 + (1 : Int32)))] [])) _
        refine XS.aloadN X4.here hx rfl (hb hby d1_20) rfl rfl ?_
        show Steps p.tables e below (T4.setTop (mkF m 21 #[.val (.ref o0), .val (.int p1), .val (.int p2), .val (.int (p1 + (1 : Int32)))] [(.ref o0)])) _
        refine XS.iloadN X4.here hx rfl (hb hby d1_21) rfl ?_
        show Steps p.tables e below (T4.setTop (mkF m 22 #[.val (.ref o0), .val (.int p1), .val (.int p2), .val (.int (p1 + (1 : Int32)))] [(.int (p1 + (1 : Int32))), (.ref o0)])) _
        refine XS.bipush X4.here hx rfl (hb hby d1_22) ?_
        show Steps p.tables e below (T4.setTop (mkF m 24 #[.val (.ref o0), .val (.int p1), .val (.int p2), .val (.int (p1 + (1 : Int32)))] [(.int (97 : Int32)), (.int (p1 + (1 : Int32))), (.ref o0)])) _
        refine st8 _ ?_
        show Steps p.tables e below (T8.setTop (mkF m 25 #[.val (.ref o0), .val (.int p1), .val (.int p2), .val (.int (p1 + (1 : Int32)))] [])) _
        refine XS.iloadN X8.here hx rfl (hb hby d1_25) rfl ?_
        show Steps p.tables e below (T8.setTop (mkF m 26 #[.val (.ref o0), .val (.int p1), .val (.int p2), .val (.int (p1 + (1 : Int32)))] [(.int (p1 + (1 : Int32)))])) _
        refine XS.iconst X8.here hx rfl (hb hby d1_26) ?_
        show Steps p.tables e below (T8.setTop (mkF m 27 #[.val (.ref o0), .val (.int p1), .val (.int p2), .val (.int (p1 + (1 : Int32)))] [(.int (1 : Int32)), (.int (p1 + (1 : Int32)))])) _
        refine XS.iadd X8.here hx rfl (hb hby d1_27) rfl ?_
        show Steps p.tables e below (T8.setTop (mkF m 28 #[.val (.ref o0), .val (.int p1), .val (.int p2), .val (.int (p1 + (1 : Int32)))] [(.int ((p1 + (1 : Int32)) + (1 : Int32)))])) _
        refine XS.istoreN X8.here hx rfl (hb hby d1_28) rfl (l' := #[.val (.ref o0), .val (.int p1), .val (.int p2), .val (.int ((p1 + (1 : Int32)) + (1 : Int32)))]) rfl ?_
        show Steps p.tables e below (T8.setTop (mkF m 29 #[.val (.ref o0), .val (.int p1), .val (.int p2), .val (.int ((p1 + (1 : Int32)) + (1 : Int32)))] [])) _
        refine XS.iloadN X8.here hx rfl (hb hby d1_29) rfl ?_
        show Steps p.tables e below (T8.setTop (mkF m 30 #[.val (.ref o0), .val (.int p1), .val (.int p2), .val (.int ((p1 + (1 : Int32)) + (1 : Int32)))] [(.int p2)])) _
        refine XS.iconst X8.here hx rfl (hb hby d1_30) ?_
        exact k)
      by_cases hc31_10 : (2 : Int32) < p2
      · obtain ⟨c11, Ar11, hin11, -⟩ := own_read V8 (own_three hP).2.2.1
        obtain ⟨T12, h12, X12, e12, W12, st12⟩ := stC X8 hx hZ e8 Ar11 (j := ((p1 + (1 : Int32)) + (1 : Int32))) hin11 (g := (mkF m 38 #[.val (.ref o0), .val (.int p1), .val (.int p2), .val (.int ((p1 + (1 : Int32)) + (1 : Int32)))] [(.int (97 : Int32)), (.int ((p1 + (1 : Int32)) + (1 : Int32))), (.ref o0)])) rfl rfl (hb hby d1_38)
        have V12 : own_A Z h12 o0 kc .char (24 : Int32) (own_wr (own_wr (own_wr ls p1 (97 : Int32)) (p1 + (1 : Int32)) (97 : Int32)) ((p1 + (1 : Int32)) + (1 : Int32)) (97 : Int32)) := own_writeC V8 (own_three hP).2.2.1 (by decide) W12
        have KK12 : Keep h0 h12 [o0] := KK8.wr W12 (Or.inl (List.mem_of_getElem? (i := 0) rfl))
        have N12 := Fr.snoc X12 N8 g_o0
        have pre13 : ∀ t, Steps p.tables e below (T12.setTop (mkF m 44 #[.val (.ref o0), .val (.int p1), .val (.int p2), .val (.int (((p1 + (1 : Int32)) + (1 : Int32)) + (1 : Int32)))] [(.int (((p1 + (1 : Int32)) + (1 : Int32)) + (1 : Int32)))])) t → Steps p.tables e below (s₁.setTop (entryFrame m #[(.ref o0), (.int p1), (.int p2)] 4)) t := fun t k => pre9 t (by
          show Steps p.tables e below (T8.setTop (mkF m 31 #[.val (.ref o0), .val (.int p1), .val (.int p2), .val (.int ((p1 + (1 : Int32)) + (1 : Int32)))] [(.int (2 : Int32)), (.int p2)])) _
          refine XS.icmpNo X8.here hx rfl (hb hby d1_31) rfl (tlt hc31_10).2.2.2 ?_
          show Steps p.tables e below (T8.setTop (mkF m 34 #[.val (.ref o0), .val (.int p1), .val (.int p2), .val (.int ((p1 + (1 : Int32)) + (1 : Int32)))] [])) _
          refine XS.aloadN X8.here hx rfl (hb hby d1_34) rfl rfl ?_
          show Steps p.tables e below (T8.setTop (mkF m 35 #[.val (.ref o0), .val (.int p1), .val (.int p2), .val (.int ((p1 + (1 : Int32)) + (1 : Int32)))] [(.ref o0)])) _
          refine XS.iloadN X8.here hx rfl (hb hby d1_35) rfl ?_
          show Steps p.tables e below (T8.setTop (mkF m 36 #[.val (.ref o0), .val (.int p1), .val (.int p2), .val (.int ((p1 + (1 : Int32)) + (1 : Int32)))] [(.int ((p1 + (1 : Int32)) + (1 : Int32))), (.ref o0)])) _
          refine XS.bipush X8.here hx rfl (hb hby d1_36) ?_
          show Steps p.tables e below (T8.setTop (mkF m 38 #[.val (.ref o0), .val (.int p1), .val (.int p2), .val (.int ((p1 + (1 : Int32)) + (1 : Int32)))] [(.int (97 : Int32)), (.int ((p1 + (1 : Int32)) + (1 : Int32))), (.ref o0)])) _
          refine st12 _ ?_
          show Steps p.tables e below (T12.setTop (mkF m 39 #[.val (.ref o0), .val (.int p1), .val (.int p2), .val (.int ((p1 + (1 : Int32)) + (1 : Int32)))] [])) _
          refine XS.iloadN X12.here hx rfl (hb hby d1_39) rfl ?_
          show Steps p.tables e below (T12.setTop (mkF m 40 #[.val (.ref o0), .val (.int p1), .val (.int p2), .val (.int ((p1 + (1 : Int32)) + (1 : Int32)))] [(.int ((p1 + (1 : Int32)) + (1 : Int32)))])) _
          refine XS.iconst X12.here hx rfl (hb hby d1_40) ?_
          show Steps p.tables e below (T12.setTop (mkF m 41 #[.val (.ref o0), .val (.int p1), .val (.int p2), .val (.int ((p1 + (1 : Int32)) + (1 : Int32)))] [(.int (1 : Int32)), (.int ((p1 + (1 : Int32)) + (1 : Int32)))])) _
          refine XS.iadd X12.here hx rfl (hb hby d1_41) rfl ?_
          show Steps p.tables e below (T12.setTop (mkF m 42 #[.val (.ref o0), .val (.int p1), .val (.int p2), .val (.int ((p1 + (1 : Int32)) + (1 : Int32)))] [(.int (((p1 + (1 : Int32)) + (1 : Int32)) + (1 : Int32)))])) _
          refine XS.istoreN X12.here hx rfl (hb hby d1_42) rfl (l' := #[.val (.ref o0), .val (.int p1), .val (.int p2), .val (.int (((p1 + (1 : Int32)) + (1 : Int32)) + (1 : Int32)))]) rfl ?_
          show Steps p.tables e below (T12.setTop (mkF m 43 #[.val (.ref o0), .val (.int p1), .val (.int p2), .val (.int (((p1 + (1 : Int32)) + (1 : Int32)) + (1 : Int32)))] [])) _
          refine XS.iloadN X12.here hx rfl (hb hby d1_43) rfl ?_
          exact k)
        obtain ⟨fs, hr, hrun, hended, hW, hsame⟩ := X12.leave (v := some (.int (((p1 + (1 : Int32)) + (1 : Int32)) + (1 : Int32)))) (fun h => by rw [Bd.returns] at h; cases h)
        refine ⟨_, _, pre13 _ ?_, hrun, hended, _, _, rfl, ?_, ⟨_, rfl⟩, hW, hsame.mono (by decide) (by decide)⟩
        · exact retI X12 hx Bd.returns (hb hby d1_44) hr
        · show Q1 Z o0 p1 p2 ls kc h0 n0 _ T12.heap _
          rw [e12]
          have eL : own_aL ls p1 p2 = (own_wr (own_wr (own_wr ls p1 (97 : Int32)) (p1 + (1 : Int32)) (97 : Int32)) ((p1 + (1 : Int32)) + (1 : Int32)) (97 : Int32)) := by unfold own_aL; rw [if_pos hc3_2, if_pos hc17_6, if_pos hc31_10]
          have eE : own_aE p1 p2 = (((p1 + (1 : Int32)) + (1 : Int32)) + (1 : Int32)) := by unfold own_aE; rw [if_pos hc3_2, if_pos hc17_6, if_pos hc31_10]
          exact ⟨by rw [eE], N12, KK12, by rw [eL]; exact V12⟩
      · have pre14 : ∀ t, Steps p.tables e below (T8.setTop (mkF m 44 #[.val (.ref o0), .val (.int p1), .val (.int p2), .val (.int ((p1 + (1 : Int32)) + (1 : Int32)))] [(.int ((p1 + (1 : Int32)) + (1 : Int32)))])) t → Steps p.tables e below (s₁.setTop (entryFrame m #[(.ref o0), (.int p1), (.int p2)] 4)) t := fun t k => pre9 t (by
          show Steps p.tables e below (T8.setTop (mkF m 31 #[.val (.ref o0), .val (.int p1), .val (.int p2), .val (.int ((p1 + (1 : Int32)) + (1 : Int32)))] [(.int (2 : Int32)), (.int p2)])) _
          refine XS.icmpYes X8.here hx rfl (pc0 := 31) (pc' := 43) rfl (hb hby d1_31) rfl (flt hc31_10).2.2.2 (by decide) (by decide) ?_
          show Steps p.tables e below (T8.setTop (mkF m 43 #[.val (.ref o0), .val (.int p1), .val (.int p2), .val (.int ((p1 + (1 : Int32)) + (1 : Int32)))] [])) _
          refine XS.iloadN X8.here hx rfl (hb hby d1_43) rfl ?_
          exact k)
        obtain ⟨fs, hr, hrun, hended, hW, hsame⟩ := X8.leave (v := some (.int ((p1 + (1 : Int32)) + (1 : Int32)))) (fun h => by rw [Bd.returns] at h; cases h)
        refine ⟨_, _, pre14 _ ?_, hrun, hended, _, _, rfl, ?_, ⟨_, rfl⟩, hW, hsame.mono (by decide) (by decide)⟩
        · exact retI X8 hx Bd.returns (hb hby d1_44) hr
        · show Q1 Z o0 p1 p2 ls kc h0 n0 _ T8.heap _
          rw [e8]
          have eL : own_aL ls p1 p2 = (own_wr (own_wr ls p1 (97 : Int32)) (p1 + (1 : Int32)) (97 : Int32)) := by unfold own_aL; rw [if_pos hc3_2, if_pos hc17_6, if_neg hc31_10]
          have eE : own_aE p1 p2 = ((p1 + (1 : Int32)) + (1 : Int32)) := by unfold own_aE; rw [if_pos hc3_2, if_pos hc17_6, if_neg hc31_10]
          exact ⟨by rw [eE], N8, KK8, by rw [eL]; exact V8⟩
    · have pre15 : ∀ t, Steps p.tables e below (T4.setTop (mkF m 44 #[.val (.ref o0), .val (.int p1), .val (.int p2), .val (.int (p1 + (1 : Int32)))] [(.int (p1 + (1 : Int32)))])) t → Steps p.tables e below (s₁.setTop (entryFrame m #[(.ref o0), (.int p1), (.int p2)] 4)) t := fun t k => pre5 t (by
        show Steps p.tables e below (T4.setTop (mkF m 17 #[.val (.ref o0), .val (.int p1), .val (.int p2), .val (.int (p1 + (1 : Int32)))] [(.int (1 : Int32)), (.int p2)])) _
        refine XS.icmpYes X4.here hx rfl (pc0 := 17) (pc' := 29) rfl (hb hby d1_17) rfl (flt hc17_6).2.2.2 (by decide) (by decide) ?_
        show Steps p.tables e below (T4.setTop (mkF m 29 #[.val (.ref o0), .val (.int p1), .val (.int p2), .val (.int (p1 + (1 : Int32)))] [])) _
        refine XS.iloadN X4.here hx rfl (hb hby d1_29) rfl ?_
        show Steps p.tables e below (T4.setTop (mkF m 30 #[.val (.ref o0), .val (.int p1), .val (.int p2), .val (.int (p1 + (1 : Int32)))] [(.int p2)])) _
        refine XS.iconst X4.here hx rfl (hb hby d1_30) ?_
        show Steps p.tables e below (T4.setTop (mkF m 31 #[.val (.ref o0), .val (.int p1), .val (.int p2), .val (.int (p1 + (1 : Int32)))] [(.int (2 : Int32)), (.int p2)])) _
        refine XS.icmpYes X4.here hx rfl (pc0 := 31) (pc' := 43) rfl (hb hby d1_31) rfl (flt (fun q => hc17_6 (by simp only [Int32.lt_iff_toInt_lt, Int32.reduceToInt] at q ⊢; omega))).2.2.2 (by decide) (by decide) ?_
        show Steps p.tables e below (T4.setTop (mkF m 43 #[.val (.ref o0), .val (.int p1), .val (.int p2), .val (.int (p1 + (1 : Int32)))] [])) _
        refine XS.iloadN X4.here hx rfl (hb hby d1_43) rfl ?_
        exact k)
      obtain ⟨fs, hr, hrun, hended, hW, hsame⟩ := X4.leave (v := some (.int (p1 + (1 : Int32)))) (fun h => by rw [Bd.returns] at h; cases h)
      refine ⟨_, _, pre15 _ ?_, hrun, hended, _, _, rfl, ?_, ⟨_, rfl⟩, hW, hsame.mono (by decide) (by decide)⟩
      · exact retI X4 hx Bd.returns (hb hby d1_44) hr
      · show Q1 Z o0 p1 p2 ls kc h0 n0 _ T4.heap _
        rw [e4]
        have eL : own_aL ls p1 p2 = (own_wr ls p1 (97 : Int32)) := by unfold own_aL; rw [if_pos hc3_2, if_neg hc17_6]
        have eE : own_aE p1 p2 = (p1 + (1 : Int32)) := by unfold own_aE; rw [if_pos hc3_2, if_neg hc17_6]
        exact ⟨by rw [eE], N4, KK4, by rw [eL]; exact V4⟩
  · have pre16 : ∀ t, Steps p.tables e below (s₁.setTop (mkF m 44 #[.val (.ref o0), .val (.int p1), .val (.int p2), .val (.int p1)] [(.int p1)])) t → Steps p.tables e below (s₁.setTop (entryFrame m #[(.ref o0), (.int p1), (.int p2)] 4)) t := fun t k => pre1 t (by
      show Steps p.tables e below (s₁.setTop (mkF m 3 #[.val (.ref o0), .val (.int p1), .val (.int p2), .val (.int p1)] [(.int p2)])) _
      refine XS.ifYes X0.here hx rfl (pc0 := 3) (pc' := 15) rfl (hb hby d1_3) rfl ((if0 _ _).trans (flt hc3_2).2.2.2) (by decide) (by decide) ?_
      show Steps p.tables e below (s₁.setTop (mkF m 15 #[.val (.ref o0), .val (.int p1), .val (.int p2), .val (.int p1)] [])) _
      refine XS.iloadN X0.here hx rfl (hb hby d1_15) rfl ?_
      show Steps p.tables e below (s₁.setTop (mkF m 16 #[.val (.ref o0), .val (.int p1), .val (.int p2), .val (.int p1)] [(.int p2)])) _
      refine XS.iconst X0.here hx rfl (hb hby d1_16) ?_
      show Steps p.tables e below (s₁.setTop (mkF m 17 #[.val (.ref o0), .val (.int p1), .val (.int p2), .val (.int p1)] [(.int (1 : Int32)), (.int p2)])) _
      refine XS.icmpYes X0.here hx rfl (pc0 := 17) (pc' := 29) rfl (hb hby d1_17) rfl (flt (fun q => hc3_2 (by simp only [Int32.lt_iff_toInt_lt, Int32.reduceToInt] at q ⊢; omega))).2.2.2 (by decide) (by decide) ?_
      show Steps p.tables e below (s₁.setTop (mkF m 29 #[.val (.ref o0), .val (.int p1), .val (.int p2), .val (.int p1)] [])) _
      refine XS.iloadN X0.here hx rfl (hb hby d1_29) rfl ?_
      show Steps p.tables e below (s₁.setTop (mkF m 30 #[.val (.ref o0), .val (.int p1), .val (.int p2), .val (.int p1)] [(.int p2)])) _
      refine XS.iconst X0.here hx rfl (hb hby d1_30) ?_
      show Steps p.tables e below (s₁.setTop (mkF m 31 #[.val (.ref o0), .val (.int p1), .val (.int p2), .val (.int p1)] [(.int (2 : Int32)), (.int p2)])) _
      refine XS.icmpYes X0.here hx rfl (pc0 := 31) (pc' := 43) rfl (hb hby d1_31) rfl (flt (fun q => hc3_2 (by simp only [Int32.lt_iff_toInt_lt, Int32.reduceToInt] at q ⊢; omega))).2.2.2 (by decide) (by decide) ?_
      show Steps p.tables e below (s₁.setTop (mkF m 43 #[.val (.ref o0), .val (.int p1), .val (.int p2), .val (.int p1)] [])) _
      refine XS.iloadN X0.here hx rfl (hb hby d1_43) rfl ?_
      exact k)
    obtain ⟨fs, hr, hrun, hended, hW, hsame⟩ := X0.leave (v := some (.int p1)) (fun h => by rw [Bd.returns] at h; cases h)
    refine ⟨_, _, pre16 _ ?_, hrun, hended, _, _, rfl, ?_, ⟨_, rfl⟩, hW, hsame.mono (by decide) (by decide)⟩
    · exact retI X0 hx Bd.returns (hb hby d1_44) hr
    · show Q1 Z o0 p1 p2 ls kc h0 n0 _ s₁.heap _
      rw [e0]
      have eL : own_aL ls p1 p2 = ls := by unfold own_aL; rw [if_neg hc3_2]
      have eE : own_aE p1 p2 = p1 := by unfold own_aE; rw [if_neg hc3_2]
      exact ⟨by rw [eE], N0, (Keep.refl h0 [o0]), by rw [eL]; exact V_o0⟩
theorem d15_0 : decode method_5_code 0 = .ok (.aload_n 0, 1) := by decide +kernel
theorem d15_1 : decode method_5_code 1 = .ok (.iload_n 1, 1) := by decide +kernel
theorem d15_2 : decode method_5_code 2 = .ok (.iload_n 2, 1) := by decide +kernel
theorem pd_4 : parseMethodDescriptor "([CII)I" = some ⟨[(.array .char), .int, .int], some .int⟩ := by decide +kernel
theorem d15_3 : decode method_5_code 3 = .ok (.invokestatic 7, 3) := by decide +kernel
theorem d15_6 : decode method_5_code 6 = .ok (.istore 5, 2) := by decide +kernel
theorem d15_8 : decode method_5_code 8 = .ok (.iload_n 3, 1) := by decide +kernel
theorem d15_9 : decode method_5_code 9 = .ok (.ifCond .ne 17, 3) := by decide +kernel
theorem d15_12 : decode method_5_code 12 = .ok (.aload_n 0, 1) := by decide +kernel
theorem d15_13 : decode method_5_code 13 = .ok (.iload 5, 2) := by decide +kernel
theorem d15_15 : decode method_5_code 15 = .ok (.iload 4, 2) := by decide +kernel
theorem pd_5 : parseMethodDescriptor "(I)C" = some ⟨[.int], some .char⟩ := by decide +kernel
theorem d15_17 : decode method_5_code 17 = .ok (.invokestatic 13, 3) := by decide +kernel
theorem d15_20 : decode method_5_code 20 = .ok (.castore, 1) := by decide +kernel
theorem d15_21 : decode method_5_code 21 = .ok (.iload 5, 2) := by decide +kernel
theorem d15_23 : decode method_5_code 23 = .ok (.iconst 1, 1) := by decide +kernel
theorem d15_24 : decode method_5_code 24 = .ok (.iadd, 1) := by decide +kernel
theorem d15_25 : decode method_5_code 25 = .ok (.ireturn, 1) := by decide +kernel
theorem d15_26 : decode method_5_code 26 = .ok (.iload_n 3, 1) := by decide +kernel
theorem d15_27 : decode method_5_code 27 = .ok (.iconst 1, 1) := by decide +kernel
theorem d15_28 : decode method_5_code 28 = .ok (.if_icmp .ne 33, 3) := by decide +kernel
theorem d15_31 : decode method_5_code 31 = .ok (.aload_n 0, 1) := by decide +kernel
theorem d15_32 : decode method_5_code 32 = .ok (.iload 5, 2) := by decide +kernel
theorem d15_34 : decode method_5_code 34 = .ok (.bipush 40, 2) := by decide +kernel
theorem d15_36 : decode method_5_code 36 = .ok (.castore, 1) := by decide +kernel
theorem d15_37 : decode method_5_code 37 = .ok (.aload_n 0, 1) := by decide +kernel
theorem d15_38 : decode method_5_code 38 = .ok (.iload 5, 2) := by decide +kernel
theorem d15_40 : decode method_5_code 40 = .ok (.iconst 1, 1) := by decide +kernel
theorem d15_41 : decode method_5_code 41 = .ok (.iadd, 1) := by decide +kernel
theorem d15_42 : decode method_5_code 42 = .ok (.iload 4, 2) := by decide +kernel
theorem d15_44 : decode method_5_code 44 = .ok (.invokestatic 13, 3) := by decide +kernel
theorem d15_47 : decode method_5_code 47 = .ok (.castore, 1) := by decide +kernel
theorem d15_48 : decode method_5_code 48 = .ok (.aload_n 0, 1) := by decide +kernel
theorem d15_49 : decode method_5_code 49 = .ok (.iload 5, 2) := by decide +kernel
theorem d15_51 : decode method_5_code 51 = .ok (.iconst 2, 1) := by decide +kernel
theorem d15_52 : decode method_5_code 52 = .ok (.iadd, 1) := by decide +kernel
theorem d15_53 : decode method_5_code 53 = .ok (.bipush 41, 2) := by decide +kernel
theorem d15_55 : decode method_5_code 55 = .ok (.castore, 1) := by decide +kernel
theorem d15_56 : decode method_5_code 56 = .ok (.iload 5, 2) := by decide +kernel
theorem d15_58 : decode method_5_code 58 = .ok (.iconst 3, 1) := by decide +kernel
theorem d15_59 : decode method_5_code 59 = .ok (.iadd, 1) := by decide +kernel
theorem d15_60 : decode method_5_code 60 = .ok (.ireturn, 1) := by decide +kernel
theorem d15_61 : decode method_5_code 61 = .ok (.iload_n 3, 1) := by decide +kernel
theorem d15_62 : decode method_5_code 62 = .ok (.iconst 2, 1) := by decide +kernel
theorem d15_63 : decode method_5_code 63 = .ok (.if_icmp .ne 47, 3) := by decide +kernel
theorem d15_66 : decode method_5_code 66 = .ok (.aload_n 0, 1) := by decide +kernel
theorem d15_67 : decode method_5_code 67 = .ok (.iload 5, 2) := by decide +kernel
theorem d15_69 : decode method_5_code 69 = .ok (.bipush 123, 2) := by decide +kernel
theorem d15_71 : decode method_5_code 71 = .ok (.castore, 1) := by decide +kernel
theorem d15_72 : decode method_5_code 72 = .ok (.aload_n 0, 1) := by decide +kernel
theorem d15_73 : decode method_5_code 73 = .ok (.iload 5, 2) := by decide +kernel
theorem d15_75 : decode method_5_code 75 = .ok (.iconst 1, 1) := by decide +kernel
theorem d15_76 : decode method_5_code 76 = .ok (.iadd, 1) := by decide +kernel
theorem d15_77 : decode method_5_code 77 = .ok (.iload 4, 2) := by decide +kernel
theorem d15_79 : decode method_5_code 79 = .ok (.invokestatic 13, 3) := by decide +kernel
theorem d15_82 : decode method_5_code 82 = .ok (.castore, 1) := by decide +kernel
theorem d15_83 : decode method_5_code 83 = .ok (.aload_n 0, 1) := by decide +kernel
theorem d15_84 : decode method_5_code 84 = .ok (.iload 5, 2) := by decide +kernel
theorem d15_86 : decode method_5_code 86 = .ok (.iconst 2, 1) := by decide +kernel
theorem d15_87 : decode method_5_code 87 = .ok (.iadd, 1) := by decide +kernel
theorem d15_88 : decode method_5_code 88 = .ok (.iload 4, 2) := by decide +kernel
theorem d15_90 : decode method_5_code 90 = .ok (.bipush 8, 2) := by decide +kernel
theorem d15_92 : decode method_5_code 92 = .ok (.iushr, 1) := by decide +kernel
theorem d15_93 : decode method_5_code 93 = .ok (.invokestatic 13, 3) := by decide +kernel
theorem d15_96 : decode method_5_code 96 = .ok (.castore, 1) := by decide +kernel
theorem d15_97 : decode method_5_code 97 = .ok (.aload_n 0, 1) := by decide +kernel
theorem d15_98 : decode method_5_code 98 = .ok (.iload 5, 2) := by decide +kernel
theorem d15_100 : decode method_5_code 100 = .ok (.iconst 3, 1) := by decide +kernel
theorem d15_101 : decode method_5_code 101 = .ok (.iadd, 1) := by decide +kernel
theorem d15_102 : decode method_5_code 102 = .ok (.bipush 125, 2) := by decide +kernel
theorem d15_104 : decode method_5_code 104 = .ok (.castore, 1) := by decide +kernel
theorem d15_105 : decode method_5_code 105 = .ok (.iload 5, 2) := by decide +kernel
theorem d15_107 : decode method_5_code 107 = .ok (.iconst 4, 1) := by decide +kernel
theorem d15_108 : decode method_5_code 108 = .ok (.iadd, 1) := by decide +kernel
theorem d15_109 : decode method_5_code 109 = .ok (.ireturn, 1) := by decide +kernel
theorem d15_110 : decode method_5_code 110 = .ok (.aload_n 0, 1) := by decide +kernel
theorem d15_111 : decode method_5_code 111 = .ok (.iload 5, 2) := by decide +kernel
theorem d15_113 : decode method_5_code 113 = .ok (.bipush 40, 2) := by decide +kernel
theorem d15_115 : decode method_5_code 115 = .ok (.castore, 1) := by decide +kernel
theorem d15_116 : decode method_5_code 116 = .ok (.aload_n 0, 1) := by decide +kernel
theorem d15_117 : decode method_5_code 117 = .ok (.iload 5, 2) := by decide +kernel
theorem d15_119 : decode method_5_code 119 = .ok (.iconst 1, 1) := by decide +kernel
theorem d15_120 : decode method_5_code 120 = .ok (.iadd, 1) := by decide +kernel
theorem d15_121 : decode method_5_code 121 = .ok (.bipush 41, 2) := by decide +kernel
theorem d15_123 : decode method_5_code 123 = .ok (.castore, 1) := by decide +kernel
theorem d15_124 : decode method_5_code 124 = .ok (.iload 5, 2) := by decide +kernel
theorem d15_126 : decode method_5_code 126 = .ok (.iconst 2, 1) := by decide +kernel
theorem d15_127 : decode method_5_code 127 = .ok (.iadd, 1) := by decide +kernel
theorem d15_128 : decode method_5_code 128 = .ok (.ireturn, 1) := by decide +kernel
theorem ef_15 (m : MethodId) (x0 : Addr) (x1 : Int32) (x2 : Int32) (x3 : Int32) (x4 : Int32) : entryFrame m #[(.ref x0), (.int x1), (.int x2), (.int x3), (.int x4)] 6 = mkF m 0 #[.val (.ref x0), .val (.int x1), .val (.int x2), .val (.int x3), .val (.int x4), .unset] [] := by first | (simp [entryFrame, mkF, argsToLocals, Value.category]; done) | rfl
def Q15 (Z : State) (o0 : Addr) (p1 : Int32) (p2 : Int32) (p3 : Int32) (p4 : Int32) (ls : List Int32) (kc : ClassId) (h0 : Heap) (n0 : Nat) (v : Option Value) (h : Heap) (L : List Loc) : Prop := ∃ (l' : List Int32) (en : Int32), v = some (.int en) ∧ Fr n0 L ∧ Keep h0 h [o0] ∧ own_A Z h o0 kc .char (24 : Int32) l' ∧ own_fr ls l' p1 en
set_option maxRecDepth 65536 in
set_option maxHeartbeats 40000000 in
theorem rm15 (l : Launch) (Z : State) (a0 : Array Value) (hw : ∀ d ∈ tables_1, d.before a0 Z = true) (ws : List Jvm.Cond) (o0 : Addr) (p1 : Int32) (p2 : Int32) (p3 : Int32) (p4 : Int32) (ls : List Int32) (kc : ClassId) (h0 : Heap) (n0 : Nat) (Z0 : n0 ≤ h0.size) (V_o0 : own_A Z h0 o0 kc .char (24 : Int32) ls) (g_o0 : n0 ≤ o0) (hBy : own_by ls) (hP : own_p p1 16) (hJ : own_p p2 3) :
    MetFree l (⟨"com/example/sensor_access_indicators/sensoraccessindicators/dbus/MarshallingTypeEndPinLaw", "field", "([CIIII)I"⟩ : MethodName) (head1 (Jvm.Cond.code (⟨"com/example/sensor_access_indicators/sensoraccessindicators/dbus/MarshallingTypeEndPinLaw", "field", "([CIIII)I"⟩ : MethodName) method_5_code 6 (some .int) :: ws) ({ frames := 1, cells := 0, slots := 0, locals := 24 } : Room)) (fun a U => a = #[(.ref o0), (.int p1), (.int p2), (.int p3), (.int p4)] ∧ Z.Warmed39 U.vm ∧ U.heap = h0) (fun _ _ _ _ _ => True) (fun _ U o U' => ∃ v L, o = .returned v ∧ Q15 Z o0 p1 p2 p3 p4 ls kc h0 n0 v U'.heap L ∧ FrameEnd U o U' L ({ frames := 1, cells := 0, slots := 0, locals := 24 } : Room).cells ({ frames := 1, cells := 0, slots := 0, locals := 24 } : Room).slots) := by
  refine MetFree.of_bodySF (plainFor_of_name pn_3) hisR ?_
  intro p e s m args below meth c s₁ Bd hml0 hP hK
  obtain ⟨rfl, hZ, hh⟩ := hP
  have hx := Bd.exec
  have hby := Bd.bytes
  have hml : c.maxLocals = 6 := hml0
  have hown : s.vm.findClass "com/example/sensor_access_indicators/sensoraccessindicators/dbus/MarshallingTypeEndPinLaw" = some m.cls := findClass_of_methodNamed Bd.named
  have hnm := (name_of_methodNamed Bd.named Bd.method).1
  have X0 : Stand p l e ({ frames := 1, cells := 0, slots := 0, locals := 24 } : Room) s m #[(.ref o0), (.int p1), (.int p2), (.int p3), (.int p4)] below meth c s₁ [] 0 0 := Stand.of_body Bd
  have e0 : s₁.heap = h0 := by rw [← hh, Bd.state]; rfl
  have N0 := Fr.nil n0
  have pre0 : ∀ t, Steps p.tables e below (s₁.setTop (mkF m 0 #[.val (.ref o0), .val (.int p1), .val (.int p2), .val (.int p3), .val (.int p4), .unset] [])) t → Steps p.tables e below (s₁.setTop (entryFrame m #[(.ref o0), (.int p1), (.int p2), (.int p3), (.int p4)] 6)) t := fun t k => castTop (ef_15 m o0 p1 p2 p3 p4) k
  obtain ⟨_, _, ⟨T1, L1, k1, n1⟩, -, X1, ⟨Lc1, hQ1, l1, y1, z1⟩, st1⟩ := Jvm.LawKit.callS X0 hx (y := (⟨"com/example/sensor_access_indicators/sensoraccessindicators/dbus/MarshallingTypeEndPinLaw", "arrays", "([CII)I"⟩ : MethodName)) hown (mvT hZ (hw _ (List.mem_of_getElem? (i := 2) rfl))) (mvT hZ (hw _ (List.mem_of_getElem? (i := 3) rfl))) (mvT hZ (hw _ (List.mem_of_getElem? (i := 4) rfl))) (mvT hZ (hw _ (List.mem_of_getElem? (i := 5) rfl))) (by decide) (backOf (W := 0) (rm1 l Z a0 hw [] o0 p1 p2 ls kc h0 n0 Z0 V_o0 g_o0 hBy ⟨hP.1, by have := hP.2; omega⟩ hJ) hZ (hw _ (List.mem_of_getElem? (i := 5) rfl)) (hw _ (List.mem_of_getElem? (i := 4) rfl)) (by decide) (by decide)) (g := (mkF m 3 #[.val (.ref o0), .val (.int p1), .val (.int p2), .val (.int p3), .val (.int p4), .unset] [(.int p2), (.int p1), (.ref o0)])) rfl (by rw [hml]; rfl) (argsL := [(.ref o0), (.int p1), (.int p2)]) (rest := []) (lenOf pd_4 rfl) rfl (by show 2 * 0 + _ ≤ _; exact Nat.le_of_eq rfl) (hb hby d15_3) (fun _ _ => ⟨rfl, e0, (by decide : 0 + 0 ≤ _), (by decide : 0 + 0 ≤ _)⟩)
  dsimp only [Pt.U, Pt.locs, Pt.cells, Pt.slots] at X1 l1 y1 z1 st1 hQ1
  subst l1 y1 z1
  obtain ⟨rfl, N1q, K1, P1_0⟩ := hQ1
  have N1 := Fr.app N0 N1q
  have KK1 : Keep h0 T1.heap [o0] := (Keep.refl h0 [o0]).trans K1 (allS (Or.inl (List.mem_of_getElem? (i := 0) rfl)) all0)
  have pre2 : ∀ t, Steps p.tables e below (T1.setTop (mkF m 9 #[.val (.ref o0), .val (.int p1), .val (.int p2), .val (.int p3), .val (.int p4), .val (.int (own_aE p1 p2))] [(.int p3)])) t → Steps p.tables e below (s₁.setTop (entryFrame m #[(.ref o0), (.int p1), (.int p2), (.int p3), (.int p4)] 6)) t := fun t k => pre0 t (by
    show Steps p.tables e below (s₁.setTop (mkF m 0 #[.val (.ref o0), .val (.int p1), .val (.int p2), .val (.int p3), .val (.int p4), .unset] [])) _
    refine XS.aloadN X0.here hx rfl (hb hby d15_0) rfl rfl ?_
    show Steps p.tables e below (s₁.setTop (mkF m 1 #[.val (.ref o0), .val (.int p1), .val (.int p2), .val (.int p3), .val (.int p4), .unset] [(.ref o0)])) _
    refine XS.iloadN X0.here hx rfl (hb hby d15_1) rfl ?_
    show Steps p.tables e below (s₁.setTop (mkF m 2 #[.val (.ref o0), .val (.int p1), .val (.int p2), .val (.int p3), .val (.int p4), .unset] [(.int p1), (.ref o0)])) _
    refine XS.iloadN X0.here hx rfl (hb hby d15_2) rfl ?_
    show Steps p.tables e below (s₁.setTop (mkF m 3 #[.val (.ref o0), .val (.int p1), .val (.int p2), .val (.int p3), .val (.int p4), .unset] [(.int p2), (.int p1), (.ref o0)])) _
    refine st1 _ ?_
    show Steps p.tables e below (T1.setTop (mkF m 6 #[.val (.ref o0), .val (.int p1), .val (.int p2), .val (.int p3), .val (.int p4), .unset] [(.int (own_aE p1 p2))])) _
    refine XS.istore X1.here hx rfl (hb hby d15_6) rfl (l' := #[.val (.ref o0), .val (.int p1), .val (.int p2), .val (.int p3), .val (.int p4), .val (.int (own_aE p1 p2))]) rfl ?_
    show Steps p.tables e below (T1.setTop (mkF m 8 #[.val (.ref o0), .val (.int p1), .val (.int p2), .val (.int p3), .val (.int p4), .val (.int (own_aE p1 p2))] [])) _
    refine XS.iloadN X1.here hx rfl (hb hby d15_8) rfl ?_
    exact k)
  by_cases hc9_3 : p3 = (0 : Int32)
  · obtain ⟨_, _, ⟨T4, L4, k4, n4⟩, -, X4, ⟨Lc4, hQ4, l4, y4, z4⟩, st4⟩ := Jvm.LawKit.callS X1 hx (y := (⟨"com/example/sensor_access_indicators/sensoraccessindicators/dbus/MarshallingTypeEndPinLaw", "inner", "(I)C"⟩ : MethodName)) hown (mvT hZ (hw _ (List.mem_of_getElem? (i := 68) rfl))) (mvT hZ (hw _ (List.mem_of_getElem? (i := 69) rfl))) (mvT hZ (hw _ (List.mem_of_getElem? (i := 4) rfl))) (mvT hZ (hw _ (List.mem_of_getElem? (i := 70) rfl))) (by decide) (backOf (W := 2) (rm16 l Z a0 hw [] p4 T1.heap n0 (Nat.le_trans Z0 K1.1) ) hZ (hw _ (List.mem_of_getElem? (i := 70) rfl)) (hw _ (List.mem_of_getElem? (i := 4) rfl)) (by decide) (by decide)) (g := (mkF m 17 #[.val (.ref o0), .val (.int p1), .val (.int p2), .val (.int p3), .val (.int p4), .val (.int (own_aE p1 p2))] [(.int p4), (.int (own_aE p1 p2)), (.ref o0)])) rfl (by rw [hml]; rfl) (argsL := [(.int p4)]) (rest := [(.int (own_aE p1 p2)), (.ref o0)]) (lenOf pd_5 rfl) rfl (by show 2 * 0 + _ ≤ _; exact Nat.le_of_eq rfl) (hb hby d15_17) (fun _ _ => ⟨rfl, rfl, (by decide : 0 + 0 ≤ _), (by decide : 0 + 0 ≤ _)⟩)
    dsimp only [Pt.U, Pt.locs, Pt.cells, Pt.slots] at X4 l4 y4 z4 st4 hQ4
    subst l4 y4 z4
    obtain ⟨rfl, N4q, hh4⟩ := hQ4
    have N4 := Fr.app N1 N4q
    obtain ⟨c5, Ar5, hin5, -⟩ := own_read P1_0 (own_q hBy hP hJ).2.1
    obtain ⟨T6, h6, X6, e6, W6, st6⟩ := stC X4 hx hZ hh4 Ar5 (j := (own_aE p1 p2)) hin5 (g := (mkF m 20 #[.val (.ref o0), .val (.int p1), .val (.int p2), .val (.int p3), .val (.int p4), .val (.int (own_aE p1 p2))] [(.int (own_inner p4)), (.int (own_aE p1 p2)), (.ref o0)])) rfl rfl (hb hby d15_20)
    have V6 : own_A Z h6 o0 kc .char (24 : Int32) (own_wr (own_aL ls p1 p2) (own_aE p1 p2) (own_inner p4)) := own_writeC P1_0 (own_q hBy hP hJ).2.1 (own_inner_c _).1 W6
    have KK6 : Keep h0 h6 [o0] := KK1.wr W6 (Or.inl (List.mem_of_getElem? (i := 0) rfl))
    have N6 := Fr.snoc X6 N4 g_o0
    have pre7 : ∀ t, Steps p.tables e below (T6.setTop (mkF m 25 #[.val (.ref o0), .val (.int p1), .val (.int p2), .val (.int p3), .val (.int p4), .val (.int (own_aE p1 p2))] [(.int ((own_aE p1 p2) + (1 : Int32)))])) t → Steps p.tables e below (s₁.setTop (entryFrame m #[(.ref o0), (.int p1), (.int p2), (.int p3), (.int p4)] 6)) t := fun t k => pre2 t (by
      show Steps p.tables e below (T1.setTop (mkF m 9 #[.val (.ref o0), .val (.int p1), .val (.int p2), .val (.int p3), .val (.int p4), .val (.int (own_aE p1 p2))] [(.int p3)])) _
      refine XS.ifNo X1.here hx rfl (hb hby d15_9) rfl ((if0 _ _).trans (teq hc9_3).2) ?_
      show Steps p.tables e below (T1.setTop (mkF m 12 #[.val (.ref o0), .val (.int p1), .val (.int p2), .val (.int p3), .val (.int p4), .val (.int (own_aE p1 p2))] [])) _
      refine XS.aloadN X1.here hx rfl (hb hby d15_12) rfl rfl ?_
      show Steps p.tables e below (T1.setTop (mkF m 13 #[.val (.ref o0), .val (.int p1), .val (.int p2), .val (.int p3), .val (.int p4), .val (.int (own_aE p1 p2))] [(.ref o0)])) _
      refine XS.iload X1.here hx rfl (hb hby d15_13) rfl ?_
      show Steps p.tables e below (T1.setTop (mkF m 15 #[.val (.ref o0), .val (.int p1), .val (.int p2), .val (.int p3), .val (.int p4), .val (.int (own_aE p1 p2))] [(.int (own_aE p1 p2)), (.ref o0)])) _
      refine XS.iload X1.here hx rfl (hb hby d15_15) rfl ?_
      show Steps p.tables e below (T1.setTop (mkF m 17 #[.val (.ref o0), .val (.int p1), .val (.int p2), .val (.int p3), .val (.int p4), .val (.int (own_aE p1 p2))] [(.int p4), (.int (own_aE p1 p2)), (.ref o0)])) _
      refine st4 _ ?_
      show Steps p.tables e below (T4.setTop (mkF m 20 #[.val (.ref o0), .val (.int p1), .val (.int p2), .val (.int p3), .val (.int p4), .val (.int (own_aE p1 p2))] [(.int (own_inner p4)), (.int (own_aE p1 p2)), (.ref o0)])) _
      refine st6 _ ?_
      show Steps p.tables e below (T6.setTop (mkF m 21 #[.val (.ref o0), .val (.int p1), .val (.int p2), .val (.int p3), .val (.int p4), .val (.int (own_aE p1 p2))] [])) _
      refine XS.iload X6.here hx rfl (hb hby d15_21) rfl ?_
      show Steps p.tables e below (T6.setTop (mkF m 23 #[.val (.ref o0), .val (.int p1), .val (.int p2), .val (.int p3), .val (.int p4), .val (.int (own_aE p1 p2))] [(.int (own_aE p1 p2))])) _
      refine XS.iconst X6.here hx rfl (hb hby d15_23) ?_
      show Steps p.tables e below (T6.setTop (mkF m 24 #[.val (.ref o0), .val (.int p1), .val (.int p2), .val (.int p3), .val (.int p4), .val (.int (own_aE p1 p2))] [(.int (1 : Int32)), (.int (own_aE p1 p2))])) _
      refine XS.iadd X6.here hx rfl (hb hby d15_24) rfl ?_
      exact k)
    obtain ⟨fs, hr, hrun, hended, hW, hsame⟩ := X6.leave (v := some (.int ((own_aE p1 p2) + (1 : Int32)))) (fun h => by rw [Bd.returns] at h; cases h)
    refine ⟨_, _, pre7 _ ?_, hrun, hended, _, _, rfl, ?_, ⟨_, rfl⟩, hW, hsame.mono (by decide) (by decide)⟩
    · exact retI X6 hx Bd.returns (hb hby d15_25) hr
    · show Q15 Z o0 p1 p2 p3 p4 ls kc h0 n0 _ T6.heap _
      rw [e6]
      exact ⟨_, _, rfl, N6, KK6, V6, own_f0 p4 hBy hP hJ⟩
  · have pre8 : ∀ t, Steps p.tables e below (T1.setTop (mkF m 28 #[.val (.ref o0), .val (.int p1), .val (.int p2), .val (.int p3), .val (.int p4), .val (.int (own_aE p1 p2))] [(.int (1 : Int32)), (.int p3)])) t → Steps p.tables e below (s₁.setTop (entryFrame m #[(.ref o0), (.int p1), (.int p2), (.int p3), (.int p4)] 6)) t := fun t k => pre2 t (by
      show Steps p.tables e below (T1.setTop (mkF m 9 #[.val (.ref o0), .val (.int p1), .val (.int p2), .val (.int p3), .val (.int p4), .val (.int (own_aE p1 p2))] [(.int p3)])) _
      refine XS.ifYes X1.here hx rfl (pc0 := 9) (pc' := 26) rfl (hb hby d15_9) rfl ((if0 _ _).trans (feq hc9_3).2) (by decide) (by decide) ?_
      show Steps p.tables e below (T1.setTop (mkF m 26 #[.val (.ref o0), .val (.int p1), .val (.int p2), .val (.int p3), .val (.int p4), .val (.int (own_aE p1 p2))] [])) _
      refine XS.iloadN X1.here hx rfl (hb hby d15_26) rfl ?_
      show Steps p.tables e below (T1.setTop (mkF m 27 #[.val (.ref o0), .val (.int p1), .val (.int p2), .val (.int p3), .val (.int p4), .val (.int (own_aE p1 p2))] [(.int p3)])) _
      refine XS.iconst X1.here hx rfl (hb hby d15_27) ?_
      exact k)
    by_cases hc28_9 : p3 = (1 : Int32)
    · obtain ⟨c10, Ar10, hin10, -⟩ := own_read P1_0 (own_q hBy hP hJ).2.1
      obtain ⟨T11, h11, X11, e11, W11, st11⟩ := stC X1 hx hZ rfl Ar10 (j := (own_aE p1 p2)) hin10 (g := (mkF m 36 #[.val (.ref o0), .val (.int p1), .val (.int p2), .val (.int p3), .val (.int p4), .val (.int (own_aE p1 p2))] [(.int (40 : Int32)), (.int (own_aE p1 p2)), (.ref o0)])) rfl rfl (hb hby d15_36)
      have V11 : own_A Z h11 o0 kc .char (24 : Int32) (own_wr (own_aL ls p1 p2) (own_aE p1 p2) (40 : Int32)) := own_writeC P1_0 (own_q hBy hP hJ).2.1 (by decide) W11
      have KK11 : Keep h0 h11 [o0] := KK1.wr W11 (Or.inl (List.mem_of_getElem? (i := 0) rfl))
      have N11 := Fr.snoc X11 N1 g_o0
      obtain ⟨_, _, ⟨T12, L12, k12, n12⟩, -, X12, ⟨Lc12, hQ12, l12, y12, z12⟩, st12⟩ := Jvm.LawKit.callS X11 hx (y := (⟨"com/example/sensor_access_indicators/sensoraccessindicators/dbus/MarshallingTypeEndPinLaw", "inner", "(I)C"⟩ : MethodName)) hown (mvT hZ (hw _ (List.mem_of_getElem? (i := 68) rfl))) (mvT hZ (hw _ (List.mem_of_getElem? (i := 69) rfl))) (mvT hZ (hw _ (List.mem_of_getElem? (i := 4) rfl))) (mvT hZ (hw _ (List.mem_of_getElem? (i := 70) rfl))) (by decide) (backOf (W := 2) (rm16 l Z a0 hw [] p4 h11 n0 (Nat.le_trans (Nat.le_trans Z0 K1.1) (Keep.of_wr W11).1) ) hZ (hw _ (List.mem_of_getElem? (i := 70) rfl)) (hw _ (List.mem_of_getElem? (i := 4) rfl)) (by decide) (by decide)) (g := (mkF m 44 #[.val (.ref o0), .val (.int p1), .val (.int p2), .val (.int p3), .val (.int p4), .val (.int (own_aE p1 p2))] [(.int p4), (.int ((own_aE p1 p2) + (1 : Int32))), (.ref o0)])) rfl (by rw [hml]; rfl) (argsL := [(.int p4)]) (rest := [(.int ((own_aE p1 p2) + (1 : Int32))), (.ref o0)]) (lenOf pd_5 rfl) rfl (by show 2 * 0 + _ ≤ _; exact Nat.le_of_eq rfl) (hb hby d15_44) (fun _ _ => ⟨rfl, e11, (by decide : 0 + 0 ≤ _), (by decide : 0 + 0 ≤ _)⟩)
      dsimp only [Pt.U, Pt.locs, Pt.cells, Pt.slots] at X12 l12 y12 z12 st12 hQ12
      subst l12 y12 z12
      obtain ⟨rfl, N12q, hh12⟩ := hQ12
      have N12 := Fr.app N11 N12q
      obtain ⟨c13, Ar13, hin13, -⟩ := own_read V11 (own_q hBy hP hJ).2.2.1
      obtain ⟨T14, h14, X14, e14, W14, st14⟩ := stC X12 hx hZ hh12 Ar13 (j := ((own_aE p1 p2) + (1 : Int32))) hin13 (g := (mkF m 47 #[.val (.ref o0), .val (.int p1), .val (.int p2), .val (.int p3), .val (.int p4), .val (.int (own_aE p1 p2))] [(.int (own_inner p4)), (.int ((own_aE p1 p2) + (1 : Int32))), (.ref o0)])) rfl rfl (hb hby d15_47)
      have V14 : own_A Z h14 o0 kc .char (24 : Int32) (own_wr (own_wr (own_aL ls p1 p2) (own_aE p1 p2) (40 : Int32)) ((own_aE p1 p2) + (1 : Int32)) (own_inner p4)) := own_writeC V11 (own_q hBy hP hJ).2.2.1 (own_inner_c _).1 W14
      have KK14 : Keep h0 h14 [o0] := KK11.wr W14 (Or.inl (List.mem_of_getElem? (i := 0) rfl))
      have N14 := Fr.snoc X14 N12 g_o0
      obtain ⟨c15, Ar15, hin15, -⟩ := own_read V14 (own_q hBy hP hJ).2.2.2.1
      obtain ⟨T16, h16, X16, e16, W16, st16⟩ := stC X14 hx hZ e14 Ar15 (j := ((own_aE p1 p2) + (2 : Int32))) hin15 (g := (mkF m 55 #[.val (.ref o0), .val (.int p1), .val (.int p2), .val (.int p3), .val (.int p4), .val (.int (own_aE p1 p2))] [(.int (41 : Int32)), (.int ((own_aE p1 p2) + (2 : Int32))), (.ref o0)])) rfl rfl (hb hby d15_55)
      have V16 : own_A Z h16 o0 kc .char (24 : Int32) (own_wr (own_wr (own_wr (own_aL ls p1 p2) (own_aE p1 p2) (40 : Int32)) ((own_aE p1 p2) + (1 : Int32)) (own_inner p4)) ((own_aE p1 p2) + (2 : Int32)) (41 : Int32)) := own_writeC V14 (own_q hBy hP hJ).2.2.2.1 (by decide) W16
      have KK16 : Keep h0 h16 [o0] := KK14.wr W16 (Or.inl (List.mem_of_getElem? (i := 0) rfl))
      have N16 := Fr.snoc X16 N14 g_o0
      have pre17 : ∀ t, Steps p.tables e below (T16.setTop (mkF m 60 #[.val (.ref o0), .val (.int p1), .val (.int p2), .val (.int p3), .val (.int p4), .val (.int (own_aE p1 p2))] [(.int ((own_aE p1 p2) + (3 : Int32)))])) t → Steps p.tables e below (s₁.setTop (entryFrame m #[(.ref o0), (.int p1), (.int p2), (.int p3), (.int p4)] 6)) t := fun t k => pre8 t (by
        show Steps p.tables e below (T1.setTop (mkF m 28 #[.val (.ref o0), .val (.int p1), .val (.int p2), .val (.int p3), .val (.int p4), .val (.int (own_aE p1 p2))] [(.int (1 : Int32)), (.int p3)])) _
        refine XS.icmpNo X1.here hx rfl (hb hby d15_28) rfl (teq hc28_9).2 ?_
        show Steps p.tables e below (T1.setTop (mkF m 31 #[.val (.ref o0), .val (.int p1), .val (.int p2), .val (.int p3), .val (.int p4), .val (.int (own_aE p1 p2))] [])) _
        refine XS.aloadN X1.here hx rfl (hb hby d15_31) rfl rfl ?_
        show Steps p.tables e below (T1.setTop (mkF m 32 #[.val (.ref o0), .val (.int p1), .val (.int p2), .val (.int p3), .val (.int p4), .val (.int (own_aE p1 p2))] [(.ref o0)])) _
        refine XS.iload X1.here hx rfl (hb hby d15_32) rfl ?_
        show Steps p.tables e below (T1.setTop (mkF m 34 #[.val (.ref o0), .val (.int p1), .val (.int p2), .val (.int p3), .val (.int p4), .val (.int (own_aE p1 p2))] [(.int (own_aE p1 p2)), (.ref o0)])) _
        refine XS.bipush X1.here hx rfl (hb hby d15_34) ?_
        show Steps p.tables e below (T1.setTop (mkF m 36 #[.val (.ref o0), .val (.int p1), .val (.int p2), .val (.int p3), .val (.int p4), .val (.int (own_aE p1 p2))] [(.int (40 : Int32)), (.int (own_aE p1 p2)), (.ref o0)])) _
        refine st11 _ ?_
        show Steps p.tables e below (T11.setTop (mkF m 37 #[.val (.ref o0), .val (.int p1), .val (.int p2), .val (.int p3), .val (.int p4), .val (.int (own_aE p1 p2))] [])) _
        refine XS.aloadN X11.here hx rfl (hb hby d15_37) rfl rfl ?_
        show Steps p.tables e below (T11.setTop (mkF m 38 #[.val (.ref o0), .val (.int p1), .val (.int p2), .val (.int p3), .val (.int p4), .val (.int (own_aE p1 p2))] [(.ref o0)])) _
        refine XS.iload X11.here hx rfl (hb hby d15_38) rfl ?_
        show Steps p.tables e below (T11.setTop (mkF m 40 #[.val (.ref o0), .val (.int p1), .val (.int p2), .val (.int p3), .val (.int p4), .val (.int (own_aE p1 p2))] [(.int (own_aE p1 p2)), (.ref o0)])) _
        refine XS.iconst X11.here hx rfl (hb hby d15_40) ?_
        show Steps p.tables e below (T11.setTop (mkF m 41 #[.val (.ref o0), .val (.int p1), .val (.int p2), .val (.int p3), .val (.int p4), .val (.int (own_aE p1 p2))] [(.int (1 : Int32)), (.int (own_aE p1 p2)), (.ref o0)])) _
        refine XS.iadd X11.here hx rfl (hb hby d15_41) rfl ?_
        show Steps p.tables e below (T11.setTop (mkF m 42 #[.val (.ref o0), .val (.int p1), .val (.int p2), .val (.int p3), .val (.int p4), .val (.int (own_aE p1 p2))] [(.int ((own_aE p1 p2) + (1 : Int32))), (.ref o0)])) _
        refine XS.iload X11.here hx rfl (hb hby d15_42) rfl ?_
        show Steps p.tables e below (T11.setTop (mkF m 44 #[.val (.ref o0), .val (.int p1), .val (.int p2), .val (.int p3), .val (.int p4), .val (.int (own_aE p1 p2))] [(.int p4), (.int ((own_aE p1 p2) + (1 : Int32))), (.ref o0)])) _
        refine st12 _ ?_
        show Steps p.tables e below (T12.setTop (mkF m 47 #[.val (.ref o0), .val (.int p1), .val (.int p2), .val (.int p3), .val (.int p4), .val (.int (own_aE p1 p2))] [(.int (own_inner p4)), (.int ((own_aE p1 p2) + (1 : Int32))), (.ref o0)])) _
        refine st14 _ ?_
        show Steps p.tables e below (T14.setTop (mkF m 48 #[.val (.ref o0), .val (.int p1), .val (.int p2), .val (.int p3), .val (.int p4), .val (.int (own_aE p1 p2))] [])) _
        refine XS.aloadN X14.here hx rfl (hb hby d15_48) rfl rfl ?_
        show Steps p.tables e below (T14.setTop (mkF m 49 #[.val (.ref o0), .val (.int p1), .val (.int p2), .val (.int p3), .val (.int p4), .val (.int (own_aE p1 p2))] [(.ref o0)])) _
        refine XS.iload X14.here hx rfl (hb hby d15_49) rfl ?_
        show Steps p.tables e below (T14.setTop (mkF m 51 #[.val (.ref o0), .val (.int p1), .val (.int p2), .val (.int p3), .val (.int p4), .val (.int (own_aE p1 p2))] [(.int (own_aE p1 p2)), (.ref o0)])) _
        refine XS.iconst X14.here hx rfl (hb hby d15_51) ?_
        show Steps p.tables e below (T14.setTop (mkF m 52 #[.val (.ref o0), .val (.int p1), .val (.int p2), .val (.int p3), .val (.int p4), .val (.int (own_aE p1 p2))] [(.int (2 : Int32)), (.int (own_aE p1 p2)), (.ref o0)])) _
        refine XS.iadd X14.here hx rfl (hb hby d15_52) rfl ?_
        show Steps p.tables e below (T14.setTop (mkF m 53 #[.val (.ref o0), .val (.int p1), .val (.int p2), .val (.int p3), .val (.int p4), .val (.int (own_aE p1 p2))] [(.int ((own_aE p1 p2) + (2 : Int32))), (.ref o0)])) _
        refine XS.bipush X14.here hx rfl (hb hby d15_53) ?_
        show Steps p.tables e below (T14.setTop (mkF m 55 #[.val (.ref o0), .val (.int p1), .val (.int p2), .val (.int p3), .val (.int p4), .val (.int (own_aE p1 p2))] [(.int (41 : Int32)), (.int ((own_aE p1 p2) + (2 : Int32))), (.ref o0)])) _
        refine st16 _ ?_
        show Steps p.tables e below (T16.setTop (mkF m 56 #[.val (.ref o0), .val (.int p1), .val (.int p2), .val (.int p3), .val (.int p4), .val (.int (own_aE p1 p2))] [])) _
        refine XS.iload X16.here hx rfl (hb hby d15_56) rfl ?_
        show Steps p.tables e below (T16.setTop (mkF m 58 #[.val (.ref o0), .val (.int p1), .val (.int p2), .val (.int p3), .val (.int p4), .val (.int (own_aE p1 p2))] [(.int (own_aE p1 p2))])) _
        refine XS.iconst X16.here hx rfl (hb hby d15_58) ?_
        show Steps p.tables e below (T16.setTop (mkF m 59 #[.val (.ref o0), .val (.int p1), .val (.int p2), .val (.int p3), .val (.int p4), .val (.int (own_aE p1 p2))] [(.int (3 : Int32)), (.int (own_aE p1 p2))])) _
        refine XS.iadd X16.here hx rfl (hb hby d15_59) rfl ?_
        exact k)
      obtain ⟨fs, hr, hrun, hended, hW, hsame⟩ := X16.leave (v := some (.int ((own_aE p1 p2) + (3 : Int32)))) (fun h => by rw [Bd.returns] at h; cases h)
      refine ⟨_, _, pre17 _ ?_, hrun, hended, _, _, rfl, ?_, ⟨_, rfl⟩, hW, hsame.mono (by decide) (by decide)⟩
      · exact retI X16 hx Bd.returns (hb hby d15_60) hr
      · show Q15 Z o0 p1 p2 p3 p4 ls kc h0 n0 _ T16.heap _
        rw [e16]
        exact ⟨_, _, rfl, N16, KK16, V16, own_f1 p4 hBy hP hJ⟩
    · have pre18 : ∀ t, Steps p.tables e below (T1.setTop (mkF m 63 #[.val (.ref o0), .val (.int p1), .val (.int p2), .val (.int p3), .val (.int p4), .val (.int (own_aE p1 p2))] [(.int (2 : Int32)), (.int p3)])) t → Steps p.tables e below (s₁.setTop (entryFrame m #[(.ref o0), (.int p1), (.int p2), (.int p3), (.int p4)] 6)) t := fun t k => pre8 t (by
        show Steps p.tables e below (T1.setTop (mkF m 28 #[.val (.ref o0), .val (.int p1), .val (.int p2), .val (.int p3), .val (.int p4), .val (.int (own_aE p1 p2))] [(.int (1 : Int32)), (.int p3)])) _
        refine XS.icmpYes X1.here hx rfl (pc0 := 28) (pc' := 61) rfl (hb hby d15_28) rfl (feq hc28_9).2 (by decide) (by decide) ?_
        show Steps p.tables e below (T1.setTop (mkF m 61 #[.val (.ref o0), .val (.int p1), .val (.int p2), .val (.int p3), .val (.int p4), .val (.int (own_aE p1 p2))] [])) _
        refine XS.iloadN X1.here hx rfl (hb hby d15_61) rfl ?_
        show Steps p.tables e below (T1.setTop (mkF m 62 #[.val (.ref o0), .val (.int p1), .val (.int p2), .val (.int p3), .val (.int p4), .val (.int (own_aE p1 p2))] [(.int p3)])) _
        refine XS.iconst X1.here hx rfl (hb hby d15_62) ?_
        exact k)
      by_cases hc63_19 : p3 = (2 : Int32)
      · obtain ⟨c20, Ar20, hin20, -⟩ := own_read P1_0 (own_q hBy hP hJ).2.1
        obtain ⟨T21, h21, X21, e21, W21, st21⟩ := stC X1 hx hZ rfl Ar20 (j := (own_aE p1 p2)) hin20 (g := (mkF m 71 #[.val (.ref o0), .val (.int p1), .val (.int p2), .val (.int p3), .val (.int p4), .val (.int (own_aE p1 p2))] [(.int (123 : Int32)), (.int (own_aE p1 p2)), (.ref o0)])) rfl rfl (hb hby d15_71)
        have V21 : own_A Z h21 o0 kc .char (24 : Int32) (own_wr (own_aL ls p1 p2) (own_aE p1 p2) (123 : Int32)) := own_writeC P1_0 (own_q hBy hP hJ).2.1 (by decide) W21
        have KK21 : Keep h0 h21 [o0] := KK1.wr W21 (Or.inl (List.mem_of_getElem? (i := 0) rfl))
        have N21 := Fr.snoc X21 N1 g_o0
        obtain ⟨_, _, ⟨T22, L22, k22, n22⟩, -, X22, ⟨Lc22, hQ22, l22, y22, z22⟩, st22⟩ := Jvm.LawKit.callS X21 hx (y := (⟨"com/example/sensor_access_indicators/sensoraccessindicators/dbus/MarshallingTypeEndPinLaw", "inner", "(I)C"⟩ : MethodName)) hown (mvT hZ (hw _ (List.mem_of_getElem? (i := 68) rfl))) (mvT hZ (hw _ (List.mem_of_getElem? (i := 69) rfl))) (mvT hZ (hw _ (List.mem_of_getElem? (i := 4) rfl))) (mvT hZ (hw _ (List.mem_of_getElem? (i := 70) rfl))) (by decide) (backOf (W := 2) (rm16 l Z a0 hw [] p4 h21 n0 (Nat.le_trans (Nat.le_trans Z0 K1.1) (Keep.of_wr W21).1) ) hZ (hw _ (List.mem_of_getElem? (i := 70) rfl)) (hw _ (List.mem_of_getElem? (i := 4) rfl)) (by decide) (by decide)) (g := (mkF m 79 #[.val (.ref o0), .val (.int p1), .val (.int p2), .val (.int p3), .val (.int p4), .val (.int (own_aE p1 p2))] [(.int p4), (.int ((own_aE p1 p2) + (1 : Int32))), (.ref o0)])) rfl (by rw [hml]; rfl) (argsL := [(.int p4)]) (rest := [(.int ((own_aE p1 p2) + (1 : Int32))), (.ref o0)]) (lenOf pd_5 rfl) rfl (by show 2 * 0 + _ ≤ _; exact Nat.le_of_eq rfl) (hb hby d15_79) (fun _ _ => ⟨rfl, e21, (by decide : 0 + 0 ≤ _), (by decide : 0 + 0 ≤ _)⟩)
        dsimp only [Pt.U, Pt.locs, Pt.cells, Pt.slots] at X22 l22 y22 z22 st22 hQ22
        subst l22 y22 z22
        obtain ⟨rfl, N22q, hh22⟩ := hQ22
        have N22 := Fr.app N21 N22q
        obtain ⟨c23, Ar23, hin23, -⟩ := own_read V21 (own_q hBy hP hJ).2.2.1
        obtain ⟨T24, h24, X24, e24, W24, st24⟩ := stC X22 hx hZ hh22 Ar23 (j := ((own_aE p1 p2) + (1 : Int32))) hin23 (g := (mkF m 82 #[.val (.ref o0), .val (.int p1), .val (.int p2), .val (.int p3), .val (.int p4), .val (.int (own_aE p1 p2))] [(.int (own_inner p4)), (.int ((own_aE p1 p2) + (1 : Int32))), (.ref o0)])) rfl rfl (hb hby d15_82)
        have V24 : own_A Z h24 o0 kc .char (24 : Int32) (own_wr (own_wr (own_aL ls p1 p2) (own_aE p1 p2) (123 : Int32)) ((own_aE p1 p2) + (1 : Int32)) (own_inner p4)) := own_writeC V21 (own_q hBy hP hJ).2.2.1 (own_inner_c _).1 W24
        have KK24 : Keep h0 h24 [o0] := KK21.wr W24 (Or.inl (List.mem_of_getElem? (i := 0) rfl))
        have N24 := Fr.snoc X24 N22 g_o0
        obtain ⟨_, _, ⟨T25, L25, k25, n25⟩, -, X25, ⟨Lc25, hQ25, l25, y25, z25⟩, st25⟩ := Jvm.LawKit.callS X24 hx (y := (⟨"com/example/sensor_access_indicators/sensoraccessindicators/dbus/MarshallingTypeEndPinLaw", "inner", "(I)C"⟩ : MethodName)) hown (mvT hZ (hw _ (List.mem_of_getElem? (i := 68) rfl))) (mvT hZ (hw _ (List.mem_of_getElem? (i := 69) rfl))) (mvT hZ (hw _ (List.mem_of_getElem? (i := 4) rfl))) (mvT hZ (hw _ (List.mem_of_getElem? (i := 70) rfl))) (by decide) (backOf (W := 2) (rm16 l Z a0 hw [] ((p4.toUInt32 >>> ((8 : Int32) &&& 31).toUInt32).toInt32) h24 n0 (Nat.le_trans (Nat.le_trans (Nat.le_trans Z0 K1.1) (Keep.of_wr W21).1) (Keep.of_wr W24).1) ) hZ (hw _ (List.mem_of_getElem? (i := 70) rfl)) (hw _ (List.mem_of_getElem? (i := 4) rfl)) (by decide) (by decide)) (g := (mkF m 93 #[.val (.ref o0), .val (.int p1), .val (.int p2), .val (.int p3), .val (.int p4), .val (.int (own_aE p1 p2))] [(.int ((p4.toUInt32 >>> ((8 : Int32) &&& 31).toUInt32).toInt32)), (.int ((own_aE p1 p2) + (2 : Int32))), (.ref o0)])) rfl (by rw [hml]; rfl) (argsL := [(.int ((p4.toUInt32 >>> ((8 : Int32) &&& 31).toUInt32).toInt32))]) (rest := [(.int ((own_aE p1 p2) + (2 : Int32))), (.ref o0)]) (lenOf pd_5 rfl) rfl (by show 2 * 0 + _ ≤ _; exact Nat.le_of_eq rfl) (hb hby d15_93) (fun _ _ => ⟨rfl, e24, (by decide : 0 + 0 ≤ _), (by decide : 0 + 0 ≤ _)⟩)
        dsimp only [Pt.U, Pt.locs, Pt.cells, Pt.slots] at X25 l25 y25 z25 st25 hQ25
        subst l25 y25 z25
        obtain ⟨rfl, N25q, hh25⟩ := hQ25
        have N25 := Fr.app N24 N25q
        obtain ⟨c26, Ar26, hin26, -⟩ := own_read V24 (own_q hBy hP hJ).2.2.2.1
        obtain ⟨T27, h27, X27, e27, W27, st27⟩ := stC X25 hx hZ hh25 Ar26 (j := ((own_aE p1 p2) + (2 : Int32))) hin26 (g := (mkF m 96 #[.val (.ref o0), .val (.int p1), .val (.int p2), .val (.int p3), .val (.int p4), .val (.int (own_aE p1 p2))] [(.int (own_inner ((p4.toUInt32 >>> ((8 : Int32) &&& 31).toUInt32).toInt32))), (.int ((own_aE p1 p2) + (2 : Int32))), (.ref o0)])) rfl rfl (hb hby d15_96)
        have V27 : own_A Z h27 o0 kc .char (24 : Int32) (own_wr (own_wr (own_wr (own_aL ls p1 p2) (own_aE p1 p2) (123 : Int32)) ((own_aE p1 p2) + (1 : Int32)) (own_inner p4)) ((own_aE p1 p2) + (2 : Int32)) (own_inner ((p4.toUInt32 >>> ((8 : Int32) &&& 31).toUInt32).toInt32))) := own_writeC V24 (own_q hBy hP hJ).2.2.2.1 (own_inner_c _).1 W27
        have KK27 : Keep h0 h27 [o0] := KK24.wr W27 (Or.inl (List.mem_of_getElem? (i := 0) rfl))
        have N27 := Fr.snoc X27 N25 g_o0
        obtain ⟨c28, Ar28, hin28, -⟩ := own_read V27 (own_q hBy hP hJ).2.2.2.2.1
        obtain ⟨T29, h29, X29, e29, W29, st29⟩ := stC X27 hx hZ e27 Ar28 (j := ((own_aE p1 p2) + (3 : Int32))) hin28 (g := (mkF m 104 #[.val (.ref o0), .val (.int p1), .val (.int p2), .val (.int p3), .val (.int p4), .val (.int (own_aE p1 p2))] [(.int (125 : Int32)), (.int ((own_aE p1 p2) + (3 : Int32))), (.ref o0)])) rfl rfl (hb hby d15_104)
        have V29 : own_A Z h29 o0 kc .char (24 : Int32) (own_wr (own_wr (own_wr (own_wr (own_aL ls p1 p2) (own_aE p1 p2) (123 : Int32)) ((own_aE p1 p2) + (1 : Int32)) (own_inner p4)) ((own_aE p1 p2) + (2 : Int32)) (own_inner ((p4.toUInt32 >>> ((8 : Int32) &&& 31).toUInt32).toInt32))) ((own_aE p1 p2) + (3 : Int32)) (125 : Int32)) := own_writeC V27 (own_q hBy hP hJ).2.2.2.2.1 (by decide) W29
        have KK29 : Keep h0 h29 [o0] := KK27.wr W29 (Or.inl (List.mem_of_getElem? (i := 0) rfl))
        have N29 := Fr.snoc X29 N27 g_o0
        have pre30 : ∀ t, Steps p.tables e below (T29.setTop (mkF m 109 #[.val (.ref o0), .val (.int p1), .val (.int p2), .val (.int p3), .val (.int p4), .val (.int (own_aE p1 p2))] [(.int ((own_aE p1 p2) + (4 : Int32)))])) t → Steps p.tables e below (s₁.setTop (entryFrame m #[(.ref o0), (.int p1), (.int p2), (.int p3), (.int p4)] 6)) t := fun t k => pre18 t (by
          show Steps p.tables e below (T1.setTop (mkF m 63 #[.val (.ref o0), .val (.int p1), .val (.int p2), .val (.int p3), .val (.int p4), .val (.int (own_aE p1 p2))] [(.int (2 : Int32)), (.int p3)])) _
          refine XS.icmpNo X1.here hx rfl (hb hby d15_63) rfl (teq hc63_19).2 ?_
          show Steps p.tables e below (T1.setTop (mkF m 66 #[.val (.ref o0), .val (.int p1), .val (.int p2), .val (.int p3), .val (.int p4), .val (.int (own_aE p1 p2))] [])) _
          refine XS.aloadN X1.here hx rfl (hb hby d15_66) rfl rfl ?_
          show Steps p.tables e below (T1.setTop (mkF m 67 #[.val (.ref o0), .val (.int p1), .val (.int p2), .val (.int p3), .val (.int p4), .val (.int (own_aE p1 p2))] [(.ref o0)])) _
          refine XS.iload X1.here hx rfl (hb hby d15_67) rfl ?_
          show Steps p.tables e below (T1.setTop (mkF m 69 #[.val (.ref o0), .val (.int p1), .val (.int p2), .val (.int p3), .val (.int p4), .val (.int (own_aE p1 p2))] [(.int (own_aE p1 p2)), (.ref o0)])) _
          refine XS.bipush X1.here hx rfl (hb hby d15_69) ?_
          show Steps p.tables e below (T1.setTop (mkF m 71 #[.val (.ref o0), .val (.int p1), .val (.int p2), .val (.int p3), .val (.int p4), .val (.int (own_aE p1 p2))] [(.int (123 : Int32)), (.int (own_aE p1 p2)), (.ref o0)])) _
          refine st21 _ ?_
          show Steps p.tables e below (T21.setTop (mkF m 72 #[.val (.ref o0), .val (.int p1), .val (.int p2), .val (.int p3), .val (.int p4), .val (.int (own_aE p1 p2))] [])) _
          refine XS.aloadN X21.here hx rfl (hb hby d15_72) rfl rfl ?_
          show Steps p.tables e below (T21.setTop (mkF m 73 #[.val (.ref o0), .val (.int p1), .val (.int p2), .val (.int p3), .val (.int p4), .val (.int (own_aE p1 p2))] [(.ref o0)])) _
          refine XS.iload X21.here hx rfl (hb hby d15_73) rfl ?_
          show Steps p.tables e below (T21.setTop (mkF m 75 #[.val (.ref o0), .val (.int p1), .val (.int p2), .val (.int p3), .val (.int p4), .val (.int (own_aE p1 p2))] [(.int (own_aE p1 p2)), (.ref o0)])) _
          refine XS.iconst X21.here hx rfl (hb hby d15_75) ?_
          show Steps p.tables e below (T21.setTop (mkF m 76 #[.val (.ref o0), .val (.int p1), .val (.int p2), .val (.int p3), .val (.int p4), .val (.int (own_aE p1 p2))] [(.int (1 : Int32)), (.int (own_aE p1 p2)), (.ref o0)])) _
          refine XS.iadd X21.here hx rfl (hb hby d15_76) rfl ?_
          show Steps p.tables e below (T21.setTop (mkF m 77 #[.val (.ref o0), .val (.int p1), .val (.int p2), .val (.int p3), .val (.int p4), .val (.int (own_aE p1 p2))] [(.int ((own_aE p1 p2) + (1 : Int32))), (.ref o0)])) _
          refine XS.iload X21.here hx rfl (hb hby d15_77) rfl ?_
          show Steps p.tables e below (T21.setTop (mkF m 79 #[.val (.ref o0), .val (.int p1), .val (.int p2), .val (.int p3), .val (.int p4), .val (.int (own_aE p1 p2))] [(.int p4), (.int ((own_aE p1 p2) + (1 : Int32))), (.ref o0)])) _
          refine st22 _ ?_
          show Steps p.tables e below (T22.setTop (mkF m 82 #[.val (.ref o0), .val (.int p1), .val (.int p2), .val (.int p3), .val (.int p4), .val (.int (own_aE p1 p2))] [(.int (own_inner p4)), (.int ((own_aE p1 p2) + (1 : Int32))), (.ref o0)])) _
          refine st24 _ ?_
          show Steps p.tables e below (T24.setTop (mkF m 83 #[.val (.ref o0), .val (.int p1), .val (.int p2), .val (.int p3), .val (.int p4), .val (.int (own_aE p1 p2))] [])) _
          refine XS.aloadN X24.here hx rfl (hb hby d15_83) rfl rfl ?_
          show Steps p.tables e below (T24.setTop (mkF m 84 #[.val (.ref o0), .val (.int p1), .val (.int p2), .val (.int p3), .val (.int p4), .val (.int (own_aE p1 p2))] [(.ref o0)])) _
          refine XS.iload X24.here hx rfl (hb hby d15_84) rfl ?_
          show Steps p.tables e below (T24.setTop (mkF m 86 #[.val (.ref o0), .val (.int p1), .val (.int p2), .val (.int p3), .val (.int p4), .val (.int (own_aE p1 p2))] [(.int (own_aE p1 p2)), (.ref o0)])) _
          refine XS.iconst X24.here hx rfl (hb hby d15_86) ?_
          show Steps p.tables e below (T24.setTop (mkF m 87 #[.val (.ref o0), .val (.int p1), .val (.int p2), .val (.int p3), .val (.int p4), .val (.int (own_aE p1 p2))] [(.int (2 : Int32)), (.int (own_aE p1 p2)), (.ref o0)])) _
          refine XS.iadd X24.here hx rfl (hb hby d15_87) rfl ?_
          show Steps p.tables e below (T24.setTop (mkF m 88 #[.val (.ref o0), .val (.int p1), .val (.int p2), .val (.int p3), .val (.int p4), .val (.int (own_aE p1 p2))] [(.int ((own_aE p1 p2) + (2 : Int32))), (.ref o0)])) _
          refine XS.iload X24.here hx rfl (hb hby d15_88) rfl ?_
          show Steps p.tables e below (T24.setTop (mkF m 90 #[.val (.ref o0), .val (.int p1), .val (.int p2), .val (.int p3), .val (.int p4), .val (.int (own_aE p1 p2))] [(.int p4), (.int ((own_aE p1 p2) + (2 : Int32))), (.ref o0)])) _
          refine XS.bipush X24.here hx rfl (hb hby d15_90) ?_
          show Steps p.tables e below (T24.setTop (mkF m 92 #[.val (.ref o0), .val (.int p1), .val (.int p2), .val (.int p3), .val (.int p4), .val (.int (own_aE p1 p2))] [(.int (8 : Int32)), (.int p4), (.int ((own_aE p1 p2) + (2 : Int32))), (.ref o0)])) _
          refine XS.iushr X24.here hx rfl (hb hby d15_92) rfl ?_
          show Steps p.tables e below (T24.setTop (mkF m 93 #[.val (.ref o0), .val (.int p1), .val (.int p2), .val (.int p3), .val (.int p4), .val (.int (own_aE p1 p2))] [(.int ((p4.toUInt32 >>> ((8 : Int32) &&& 31).toUInt32).toInt32)), (.int ((own_aE p1 p2) + (2 : Int32))), (.ref o0)])) _
          refine st25 _ ?_
          show Steps p.tables e below (T25.setTop (mkF m 96 #[.val (.ref o0), .val (.int p1), .val (.int p2), .val (.int p3), .val (.int p4), .val (.int (own_aE p1 p2))] [(.int (own_inner ((p4.toUInt32 >>> ((8 : Int32) &&& 31).toUInt32).toInt32))), (.int ((own_aE p1 p2) + (2 : Int32))), (.ref o0)])) _
          refine st27 _ ?_
          show Steps p.tables e below (T27.setTop (mkF m 97 #[.val (.ref o0), .val (.int p1), .val (.int p2), .val (.int p3), .val (.int p4), .val (.int (own_aE p1 p2))] [])) _
          refine XS.aloadN X27.here hx rfl (hb hby d15_97) rfl rfl ?_
          show Steps p.tables e below (T27.setTop (mkF m 98 #[.val (.ref o0), .val (.int p1), .val (.int p2), .val (.int p3), .val (.int p4), .val (.int (own_aE p1 p2))] [(.ref o0)])) _
          refine XS.iload X27.here hx rfl (hb hby d15_98) rfl ?_
          show Steps p.tables e below (T27.setTop (mkF m 100 #[.val (.ref o0), .val (.int p1), .val (.int p2), .val (.int p3), .val (.int p4), .val (.int (own_aE p1 p2))] [(.int (own_aE p1 p2)), (.ref o0)])) _
          refine XS.iconst X27.here hx rfl (hb hby d15_100) ?_
          show Steps p.tables e below (T27.setTop (mkF m 101 #[.val (.ref o0), .val (.int p1), .val (.int p2), .val (.int p3), .val (.int p4), .val (.int (own_aE p1 p2))] [(.int (3 : Int32)), (.int (own_aE p1 p2)), (.ref o0)])) _
          refine XS.iadd X27.here hx rfl (hb hby d15_101) rfl ?_
          show Steps p.tables e below (T27.setTop (mkF m 102 #[.val (.ref o0), .val (.int p1), .val (.int p2), .val (.int p3), .val (.int p4), .val (.int (own_aE p1 p2))] [(.int ((own_aE p1 p2) + (3 : Int32))), (.ref o0)])) _
          refine XS.bipush X27.here hx rfl (hb hby d15_102) ?_
          show Steps p.tables e below (T27.setTop (mkF m 104 #[.val (.ref o0), .val (.int p1), .val (.int p2), .val (.int p3), .val (.int p4), .val (.int (own_aE p1 p2))] [(.int (125 : Int32)), (.int ((own_aE p1 p2) + (3 : Int32))), (.ref o0)])) _
          refine st29 _ ?_
          show Steps p.tables e below (T29.setTop (mkF m 105 #[.val (.ref o0), .val (.int p1), .val (.int p2), .val (.int p3), .val (.int p4), .val (.int (own_aE p1 p2))] [])) _
          refine XS.iload X29.here hx rfl (hb hby d15_105) rfl ?_
          show Steps p.tables e below (T29.setTop (mkF m 107 #[.val (.ref o0), .val (.int p1), .val (.int p2), .val (.int p3), .val (.int p4), .val (.int (own_aE p1 p2))] [(.int (own_aE p1 p2))])) _
          refine XS.iconst X29.here hx rfl (hb hby d15_107) ?_
          show Steps p.tables e below (T29.setTop (mkF m 108 #[.val (.ref o0), .val (.int p1), .val (.int p2), .val (.int p3), .val (.int p4), .val (.int (own_aE p1 p2))] [(.int (4 : Int32)), (.int (own_aE p1 p2))])) _
          refine XS.iadd X29.here hx rfl (hb hby d15_108) rfl ?_
          exact k)
        obtain ⟨fs, hr, hrun, hended, hW, hsame⟩ := X29.leave (v := some (.int ((own_aE p1 p2) + (4 : Int32)))) (fun h => by rw [Bd.returns] at h; cases h)
        refine ⟨_, _, pre30 _ ?_, hrun, hended, _, _, rfl, ?_, ⟨_, rfl⟩, hW, hsame.mono (by decide) (by decide)⟩
        · exact retI X29 hx Bd.returns (hb hby d15_109) hr
        · show Q15 Z o0 p1 p2 p3 p4 ls kc h0 n0 _ T29.heap _
          rw [e29]
          exact ⟨_, _, rfl, N29, KK29, V29, own_f2 p4 _ hBy hP hJ⟩
      · obtain ⟨c31, Ar31, hin31, -⟩ := own_read P1_0 (own_q hBy hP hJ).2.1
        obtain ⟨T32, h32, X32, e32, W32, st32⟩ := stC X1 hx hZ rfl Ar31 (j := (own_aE p1 p2)) hin31 (g := (mkF m 115 #[.val (.ref o0), .val (.int p1), .val (.int p2), .val (.int p3), .val (.int p4), .val (.int (own_aE p1 p2))] [(.int (40 : Int32)), (.int (own_aE p1 p2)), (.ref o0)])) rfl rfl (hb hby d15_115)
        have V32 : own_A Z h32 o0 kc .char (24 : Int32) (own_wr (own_aL ls p1 p2) (own_aE p1 p2) (40 : Int32)) := own_writeC P1_0 (own_q hBy hP hJ).2.1 (by decide) W32
        have KK32 : Keep h0 h32 [o0] := KK1.wr W32 (Or.inl (List.mem_of_getElem? (i := 0) rfl))
        have N32 := Fr.snoc X32 N1 g_o0
        obtain ⟨c33, Ar33, hin33, -⟩ := own_read V32 (own_q hBy hP hJ).2.2.1
        obtain ⟨T34, h34, X34, e34, W34, st34⟩ := stC X32 hx hZ e32 Ar33 (j := ((own_aE p1 p2) + (1 : Int32))) hin33 (g := (mkF m 123 #[.val (.ref o0), .val (.int p1), .val (.int p2), .val (.int p3), .val (.int p4), .val (.int (own_aE p1 p2))] [(.int (41 : Int32)), (.int ((own_aE p1 p2) + (1 : Int32))), (.ref o0)])) rfl rfl (hb hby d15_123)
        have V34 : own_A Z h34 o0 kc .char (24 : Int32) (own_wr (own_wr (own_aL ls p1 p2) (own_aE p1 p2) (40 : Int32)) ((own_aE p1 p2) + (1 : Int32)) (41 : Int32)) := own_writeC V32 (own_q hBy hP hJ).2.2.1 (by decide) W34
        have KK34 : Keep h0 h34 [o0] := KK32.wr W34 (Or.inl (List.mem_of_getElem? (i := 0) rfl))
        have N34 := Fr.snoc X34 N32 g_o0
        have pre35 : ∀ t, Steps p.tables e below (T34.setTop (mkF m 128 #[.val (.ref o0), .val (.int p1), .val (.int p2), .val (.int p3), .val (.int p4), .val (.int (own_aE p1 p2))] [(.int ((own_aE p1 p2) + (2 : Int32)))])) t → Steps p.tables e below (s₁.setTop (entryFrame m #[(.ref o0), (.int p1), (.int p2), (.int p3), (.int p4)] 6)) t := fun t k => pre18 t (by
          show Steps p.tables e below (T1.setTop (mkF m 63 #[.val (.ref o0), .val (.int p1), .val (.int p2), .val (.int p3), .val (.int p4), .val (.int (own_aE p1 p2))] [(.int (2 : Int32)), (.int p3)])) _
          refine XS.icmpYes X1.here hx rfl (pc0 := 63) (pc' := 110) rfl (hb hby d15_63) rfl (feq hc63_19).2 (by decide) (by decide) ?_
          show Steps p.tables e below (T1.setTop (mkF m 110 #[.val (.ref o0), .val (.int p1), .val (.int p2), .val (.int p3), .val (.int p4), .val (.int (own_aE p1 p2))] [])) _
          refine XS.aloadN X1.here hx rfl (hb hby d15_110) rfl rfl ?_
          show Steps p.tables e below (T1.setTop (mkF m 111 #[.val (.ref o0), .val (.int p1), .val (.int p2), .val (.int p3), .val (.int p4), .val (.int (own_aE p1 p2))] [(.ref o0)])) _
          refine XS.iload X1.here hx rfl (hb hby d15_111) rfl ?_
          show Steps p.tables e below (T1.setTop (mkF m 113 #[.val (.ref o0), .val (.int p1), .val (.int p2), .val (.int p3), .val (.int p4), .val (.int (own_aE p1 p2))] [(.int (own_aE p1 p2)), (.ref o0)])) _
          refine XS.bipush X1.here hx rfl (hb hby d15_113) ?_
          show Steps p.tables e below (T1.setTop (mkF m 115 #[.val (.ref o0), .val (.int p1), .val (.int p2), .val (.int p3), .val (.int p4), .val (.int (own_aE p1 p2))] [(.int (40 : Int32)), (.int (own_aE p1 p2)), (.ref o0)])) _
          refine st32 _ ?_
          show Steps p.tables e below (T32.setTop (mkF m 116 #[.val (.ref o0), .val (.int p1), .val (.int p2), .val (.int p3), .val (.int p4), .val (.int (own_aE p1 p2))] [])) _
          refine XS.aloadN X32.here hx rfl (hb hby d15_116) rfl rfl ?_
          show Steps p.tables e below (T32.setTop (mkF m 117 #[.val (.ref o0), .val (.int p1), .val (.int p2), .val (.int p3), .val (.int p4), .val (.int (own_aE p1 p2))] [(.ref o0)])) _
          refine XS.iload X32.here hx rfl (hb hby d15_117) rfl ?_
          show Steps p.tables e below (T32.setTop (mkF m 119 #[.val (.ref o0), .val (.int p1), .val (.int p2), .val (.int p3), .val (.int p4), .val (.int (own_aE p1 p2))] [(.int (own_aE p1 p2)), (.ref o0)])) _
          refine XS.iconst X32.here hx rfl (hb hby d15_119) ?_
          show Steps p.tables e below (T32.setTop (mkF m 120 #[.val (.ref o0), .val (.int p1), .val (.int p2), .val (.int p3), .val (.int p4), .val (.int (own_aE p1 p2))] [(.int (1 : Int32)), (.int (own_aE p1 p2)), (.ref o0)])) _
          refine XS.iadd X32.here hx rfl (hb hby d15_120) rfl ?_
          show Steps p.tables e below (T32.setTop (mkF m 121 #[.val (.ref o0), .val (.int p1), .val (.int p2), .val (.int p3), .val (.int p4), .val (.int (own_aE p1 p2))] [(.int ((own_aE p1 p2) + (1 : Int32))), (.ref o0)])) _
          refine XS.bipush X32.here hx rfl (hb hby d15_121) ?_
          show Steps p.tables e below (T32.setTop (mkF m 123 #[.val (.ref o0), .val (.int p1), .val (.int p2), .val (.int p3), .val (.int p4), .val (.int (own_aE p1 p2))] [(.int (41 : Int32)), (.int ((own_aE p1 p2) + (1 : Int32))), (.ref o0)])) _
          refine st34 _ ?_
          show Steps p.tables e below (T34.setTop (mkF m 124 #[.val (.ref o0), .val (.int p1), .val (.int p2), .val (.int p3), .val (.int p4), .val (.int (own_aE p1 p2))] [])) _
          refine XS.iload X34.here hx rfl (hb hby d15_124) rfl ?_
          show Steps p.tables e below (T34.setTop (mkF m 126 #[.val (.ref o0), .val (.int p1), .val (.int p2), .val (.int p3), .val (.int p4), .val (.int (own_aE p1 p2))] [(.int (own_aE p1 p2))])) _
          refine XS.iconst X34.here hx rfl (hb hby d15_126) ?_
          show Steps p.tables e below (T34.setTop (mkF m 127 #[.val (.ref o0), .val (.int p1), .val (.int p2), .val (.int p3), .val (.int p4), .val (.int (own_aE p1 p2))] [(.int (2 : Int32)), (.int (own_aE p1 p2))])) _
          refine XS.iadd X34.here hx rfl (hb hby d15_127) rfl ?_
          exact k)
        obtain ⟨fs, hr, hrun, hended, hW, hsame⟩ := X34.leave (v := some (.int ((own_aE p1 p2) + (2 : Int32)))) (fun h => by rw [Bd.returns] at h; cases h)
        refine ⟨_, _, pre35 _ ?_, hrun, hended, _, _, rfl, ?_, ⟨_, rfl⟩, hW, hsame.mono (by decide) (by decide)⟩
        · exact retI X34 hx Bd.returns (hb hby d15_128) hr
        · show Q15 Z o0 p1 p2 p3 p4 ls kc h0 n0 _ T34.heap _
          rw [e34]
          exact ⟨_, _, rfl, N34, KK34, V34, own_f3 hBy hP hJ⟩
theorem pn_4 : plainName "com/example/sensor_access_indicators/sensoraccessindicators/dbus/Marshalling" = true := by first | (simp [plainName, overriddenIn]; done) | decide +kernel
theorem d9_0 : decode prog_48_method_2_code 0 = .ok (.aload_n 0, 1) := by decide +kernel
theorem d9_1 : decode prog_48_method_2_code 1 = .ok (.iload_n 1, 1) := by decide +kernel
theorem d9_2 : decode prog_48_method_2_code 2 = .ok (.invokevirtual 7, 3) := by decide +kernel
theorem d9_5 : decode prog_48_method_2_code 5 = .ok (.istore_n 2, 1) := by decide +kernel
theorem d9_6 : decode prog_48_method_2_code 6 = .ok (.iload_n 2, 1) := by decide +kernel
theorem d9_7 : decode prog_48_method_2_code 7 = .ok (.bipush 97, 2) := by decide +kernel
theorem d9_9 : decode prog_48_method_2_code 9 = .ok (.if_icmp .ne 11, 3) := by decide +kernel
theorem d9_12 : decode prog_48_method_2_code 12 = .ok (.aload_n 0, 1) := by decide +kernel
theorem d9_13 : decode prog_48_method_2_code 13 = .ok (.iload_n 1, 1) := by decide +kernel
theorem d9_14 : decode prog_48_method_2_code 14 = .ok (.iconst 1, 1) := by decide +kernel
theorem d9_15 : decode prog_48_method_2_code 15 = .ok (.iadd, 1) := by decide +kernel
theorem pd_6 : parseMethodDescriptor "(Ljava/lang/String;I)I" = some ⟨[(.object "java/lang/String"), .int], some .int⟩ := by decide +kernel
theorem d9_16 : decode prog_48_method_2_code 16 = .ok (.invokestatic 13, 3) := by decide +kernel
theorem d9_19 : decode prog_48_method_2_code 19 = .ok (.ireturn, 1) := by decide +kernel
theorem d9_20 : decode prog_48_method_2_code 20 = .ok (.iload_n 2, 1) := by decide +kernel
theorem d9_21 : decode prog_48_method_2_code 21 = .ok (.bipush 40, 2) := by decide +kernel
theorem d9_23 : decode prog_48_method_2_code 23 = .ok (.if_icmp .eq 13, 3) := by decide +kernel
theorem d9_26 : decode prog_48_method_2_code 26 = .ok (.iload_n 2, 1) := by decide +kernel
theorem d9_27 : decode prog_48_method_2_code 27 = .ok (.bipush 123, 2) := by decide +kernel
theorem d9_29 : decode prog_48_method_2_code 29 = .ok (.if_icmp .eq 7, 3) := by decide +kernel
theorem d9_32 : decode prog_48_method_2_code 32 = .ok (.iload_n 1, 1) := by decide +kernel
theorem d9_33 : decode prog_48_method_2_code 33 = .ok (.iconst 1, 1) := by decide +kernel
theorem d9_34 : decode prog_48_method_2_code 34 = .ok (.iadd, 1) := by decide +kernel
theorem d9_35 : decode prog_48_method_2_code 35 = .ok (.ireturn, 1) := by decide +kernel
theorem d9_36 : decode prog_48_method_2_code 36 = .ok (.iload_n 2, 1) := by decide +kernel
theorem d9_37 : decode prog_48_method_2_code 37 = .ok (.bipush 40, 2) := by decide +kernel
theorem d9_39 : decode prog_48_method_2_code 39 = .ok (.if_icmp .ne 8, 3) := by decide +kernel
theorem d9_42 : decode prog_48_method_2_code 42 = .ok (.bipush 41, 2) := by decide +kernel
theorem d9_44 : decode prog_48_method_2_code 44 = .ok (.goto 5, 3) := by decide +kernel
theorem d9_49 : decode prog_48_method_2_code 49 = .ok (.istore_n 3, 1) := by decide +kernel
theorem d9_50 : decode prog_48_method_2_code 50 = .ok (.iload_n 1, 1) := by decide +kernel
theorem d9_51 : decode prog_48_method_2_code 51 = .ok (.iconst 1, 1) := by decide +kernel
theorem d9_52 : decode prog_48_method_2_code 52 = .ok (.iadd, 1) := by decide +kernel
theorem d9_53 : decode prog_48_method_2_code 53 = .ok (.istore 4, 2) := by decide +kernel
theorem d9_55 : decode prog_48_method_2_code 55 = .ok (.aload_n 0, 1) := by decide +kernel
theorem d9_56 : decode prog_48_method_2_code 56 = .ok (.iload 4, 2) := by decide +kernel
theorem d9_58 : decode prog_48_method_2_code 58 = .ok (.invokevirtual 7, 3) := by decide +kernel
theorem d9_61 : decode prog_48_method_2_code 61 = .ok (.iload_n 3, 1) := by decide +kernel
theorem d9_62 : decode prog_48_method_2_code 62 = .ok (.if_icmp .eq 14, 3) := by decide +kernel
theorem d9_76 : decode prog_48_method_2_code 76 = .ok (.iload 4, 2) := by decide +kernel
theorem d9_78 : decode prog_48_method_2_code 78 = .ok (.iconst 1, 1) := by decide +kernel
theorem d9_79 : decode prog_48_method_2_code 79 = .ok (.iadd, 1) := by decide +kernel
theorem d9_80 : decode prog_48_method_2_code 80 = .ok (.ireturn, 1) := by decide +kernel
theorem d9_65 : decode prog_48_method_2_code 65 = .ok (.aload_n 0, 1) := by decide +kernel
theorem d9_66 : decode prog_48_method_2_code 66 = .ok (.iload 4, 2) := by decide +kernel
theorem d9_68 : decode prog_48_method_2_code 68 = .ok (.invokestatic 13, 3) := by decide +kernel
theorem d9_71 : decode prog_48_method_2_code 71 = .ok (.istore 4, 2) := by decide +kernel
theorem d9_73 : decode prog_48_method_2_code 73 = .ok (.goto (-18), 3) := by decide +kernel
theorem d9_47 : decode prog_48_method_2_code 47 = .ok (.bipush 125, 2) := by decide +kernel
theorem ef_9s (m : MethodId) (x0 : Addr) (x1 : Int32) : entryFrame m #[(.ref x0), (.int x1)] 5 = mkF m 0 #[.val (.ref x0), .val (.int x1), .unset, .unset, .unset] [] := by first | (simp [entryFrame, mkF, argsToLocals, Value.category]; done) | rfl
def Q9s (Z : State) (o0 : Addr) (p1 : Int32) (wC : Int32) (wF : Value) (wB : Addr) (kb : ClassId) (ls : List Int32) (en : Int32) (h0 : Heap) (n0 : Nat) (v : Option Value) (h : Heap) (L : List Loc) : Prop := v = some (.int en) ∧ Fr n0 L ∧ h = h0
set_option maxRecDepth 65536 in
set_option maxHeartbeats 40000000 in
theorem rm9s (l : Launch) (Z : State) (a0 : Array Value) (hw : ∀ d ∈ tables_1, d.before a0 Z = true) (ws : List Jvm.Cond) (o0 : Addr) (p1 : Int32) (wC : Int32) (wF : Value) (wB : Addr) (kb : ClassId) (ls : List Int32) (en : Int32) (h0 : Heap) (n0 : Nat) (Z0 : n0 ≤ h0.size) (F_coder_o0 : Fld Z h0 o0 "java/lang/String" "coder" "B" (.int (0 : Int32))) (F_value_o0 : Fld Z h0 o0 "java/lang/String" "value" "[B" (.ref wB)) (E_o0 : Exa Z h0 o0 "java/lang/String") (S_C : Sta Z h0 "java/lang/String" "COMPACT_STRINGS" "Z" (.int wC)) (hC : ¬ wC = (0 : Int32)) (S_F : Sta Z h0 "jdk/internal/util/Preconditions" "SIOOBE_FORMATTER" "Ljava/util/function/BiFunction;" wF) (hF : wF.isRef = true) (V_wB : own_A Z h0 wB kb .byte (24 : Int32) (ls.map (fun c => c.toInt8.toInt32))) (hBy : own_by ls) (f : Nat) (IH : ∀ (i y : Int32), own_ty ls f i y → MetFree l (⟨"com/example/sensor_access_indicators/sensoraccessindicators/dbus/Marshalling", "typeEnd", "(Ljava/lang/String;I)I"⟩ : MethodName) (head1 [Jvm.Cond.code (⟨"com/example/sensor_access_indicators/sensoraccessindicators/dbus/Marshalling", "typeEnd", "(Ljava/lang/String;I)I"⟩ : MethodName) prog_48_method_2_code 5 (some .int)] (own_room f)) (fun a U => a = #[.ref o0, .int i] ∧ Z.Warmed39 U.vm ∧ U.heap = h0) (fun _ _ _ _ _ => True) (fun _ U o U' => ∃ v L, o = .returned v ∧ Q9s Z o0 i wC wF wB kb ls y h0 n0 v U'.heap L ∧ FrameEnd U o U' L (own_room f).cells (own_room f).slots)) (hT : own_ty ls (f + 1) p1 en) :
    MetFree l (⟨"com/example/sensor_access_indicators/sensoraccessindicators/dbus/Marshalling", "typeEnd", "(Ljava/lang/String;I)I"⟩ : MethodName) (head1 (Jvm.Cond.code (⟨"com/example/sensor_access_indicators/sensoraccessindicators/dbus/Marshalling", "typeEnd", "(Ljava/lang/String;I)I"⟩ : MethodName) prog_48_method_2_code 5 (some .int) :: ws) (own_room (f + 1))) (fun a U => a = #[(.ref o0), (.int p1)] ∧ Z.Warmed39 U.vm ∧ U.heap = h0) (fun _ _ _ _ _ => True) (fun _ U o U' => ∃ v L, o = .returned v ∧ Q9s Z o0 p1 wC wF wB kb ls en h0 n0 v U'.heap L ∧ FrameEnd U o U' L (own_room (f + 1)).cells (own_room (f + 1)).slots) := by
  refine MetFree.of_bodySF (plainFor_of_name pn_4) hisR ?_
  intro p e s m args below meth c s₁ Bd hml0 hP hK
  obtain ⟨rfl, hZ, hh⟩ := hP
  have hx := Bd.exec
  have hby := Bd.bytes
  have hml : c.maxLocals = 5 := hml0
  have hown : s.vm.findClass "com/example/sensor_access_indicators/sensoraccessindicators/dbus/Marshalling" = some m.cls := findClass_of_methodNamed Bd.named
  have hnm := (name_of_methodNamed Bd.named Bd.method).1
  have X0 : Stand p l e (own_room (f + 1)) s m #[(.ref o0), (.int p1)] below meth c s₁ [] 0 0 := Stand.of_body Bd
  have e0 : s₁.heap = h0 := by rw [← hh, Bd.state]; rfl
  have N0 := Fr.nil n0
  have pre0 : ∀ t, Steps p.tables e below (s₁.setTop (mkF m 0 #[.val (.ref o0), .val (.int p1), .unset, .unset, .unset] [])) t → Steps p.tables e below (s₁.setTop (entryFrame m #[(.ref o0), (.int p1)] 5)) t := fun t k => castTop (ef_9s m o0 p1) k
  obtain ⟨hix, hty⟩ := hT
  obtain ⟨cq1, kq1, q1a, q1b, q1c⟩ := isOf hZ e0 E_o0
  obtain ⟨_, _, ⟨T1, L1, k1, n1⟩, -, X1, ⟨Lc1, hQ1, l1, y1, z1⟩, st1⟩ := X0.virtualBack hx (y := (⟨"java/lang/String", "charAt", "(I)C"⟩ : MethodName)) (z := (⟨"java/lang/String", "charAt", "(I)C"⟩ : MethodName)) hown (mvT hZ (hw _ (List.mem_of_getElem? (i := 42) rfl))) (mvT hZ (hw _ (List.mem_of_getElem? (i := 43) rfl))) (notFace_of_selects (args := #[]) (mvT hZ (hw _ (List.mem_of_getElem? (i := 45) rfl)))) (mvT hZ (hw _ (List.mem_of_getElem? (i := 45) rfl))) (mvT hZ (hw _ (List.mem_of_getElem? (i := 44) rfl))) (by decide) (backOf (W := 0) (rm10 l Z a0 hw [] o0 p1 wC wF wB kb (ls.map (fun c => c.toInt8.toInt32)) (own_rd ls p1) h0 n0 Z0 F_coder_o0 F_value_o0 E_o0 S_C hC S_F hF V_wB hix (own_ch hBy _)) hZ (hw _ (List.mem_of_getElem? (i := 46) rfl)) (hw _ (List.mem_of_getElem? (i := 11) rfl)) (by dsimp only [own_room]; omega) (by dsimp only [own_room]; omega)) q1a q1c (g := (mkF m 2 #[.val (.ref o0), .val (.int p1), .unset, .unset, .unset] [(.int p1), (.ref o0)])) rfl (by rw [hml]; rfl) (Steps.refl _) (argsL := [(.int p1)]) (rest := []) (lenOf pd_5 rfl) rfl (by show 2 * 0 + _ ≤ _; exact Nat.le_of_eq rfl) (hb hby d9_2) (fun _ _ => ⟨rfl, e0, (Nat.zero_le _ : 0 + 0 ≤ _), (Nat.zero_le _ : 0 + 0 ≤ _)⟩)
  dsimp only [Pt.U, Pt.locs, Pt.cells, Pt.slots] at X1 l1 y1 z1 st1 hQ1
  subst l1 y1 z1
  obtain ⟨rfl, N1q, hh1⟩ := hQ1
  have N1 := Fr.app N0 N1q
  have pre2 : ∀ t, Steps p.tables e below (T1.setTop (mkF m 5 #[.val (.ref o0), .val (.int p1), .unset, .unset, .unset] [(.int (own_rd ls p1))])) t → Steps p.tables e below (s₁.setTop (entryFrame m #[(.ref o0), (.int p1)] 5)) t := fun t k => pre0 t (by
    show Steps p.tables e below (s₁.setTop (mkF m 0 #[.val (.ref o0), .val (.int p1), .unset, .unset, .unset] [])) _
    refine XS.aloadN X0.here hx rfl (hb hby d9_0) rfl rfl ?_
    show Steps p.tables e below (s₁.setTop (mkF m 1 #[.val (.ref o0), .val (.int p1), .unset, .unset, .unset] [(.ref o0)])) _
    refine XS.iloadN X0.here hx rfl (hb hby d9_1) rfl ?_
    show Steps p.tables e below (s₁.setTop (mkF m 2 #[.val (.ref o0), .val (.int p1), .unset, .unset, .unset] [(.int p1), (.ref o0)])) _
    refine st1.trans ?_
    exact k)
  rcases hty with ⟨q1, q2⟩ | ⟨q1, q2, q3, hE⟩ | ⟨cl, ⟨b1, rfl⟩ | ⟨b0, b1, rfl⟩, q2, q3, ⟨q4, hE⟩ | ⟨q4, jj, q5, q6, q7, hE⟩ | ⟨q4, jj, q5, q6, q7, kk, q8, q9, qa, hE⟩⟩
  · obtain ⟨_, _, ⟨T3, L3, k3, n3⟩, -, X3, ⟨Lc3, hQ3, l3, y3, z3⟩, st3⟩ := Jvm.LawKit.callS X1 hx (y := (⟨"com/example/sensor_access_indicators/sensoraccessindicators/dbus/Marshalling", "typeEnd", "(Ljava/lang/String;I)I"⟩ : MethodName)) hown (mvT hZ (hw _ (List.mem_of_getElem? (i := 64) rfl))) (mvT hZ (hw _ (List.mem_of_getElem? (i := 39) rfl))) (mvT hZ (hw _ (List.mem_of_getElem? (i := 40) rfl))) (mvT hZ (hw _ (List.mem_of_getElem? (i := 41) rfl))) (by decide) (backOf (W := 0) (IH (p1 + (1 : Int32)) en q2) hZ (hw _ (List.mem_of_getElem? (i := 41) rfl)) (hw _ (List.mem_of_getElem? (i := 40) rfl)) (by dsimp only [own_room]; omega) (by dsimp only [own_room]; omega)) (g := (mkF m 16 #[.val (.ref o0), .val (.int p1), .val (.int (own_rd ls p1)), .unset, .unset] [(.int (p1 + (1 : Int32))), (.ref o0)])) rfl (by rw [hml]; rfl) (argsL := [(.ref o0), (.int (p1 + (1 : Int32)))]) (rest := []) (lenOf pd_6 rfl) rfl (by show 2 * 0 + _ ≤ _; exact Nat.le_of_eq rfl) (hb hby d9_16) (fun _ _ => ⟨rfl, hh1, (Nat.zero_le _ : 0 + 0 ≤ _), (Nat.zero_le _ : 0 + 0 ≤ _)⟩)
    dsimp only [Pt.U, Pt.locs, Pt.cells, Pt.slots] at X3 l3 y3 z3 st3 hQ3
    subst l3 y3 z3
    obtain ⟨rfl, N3q, hh3⟩ := hQ3
    have N3 := Fr.app N1 N3q
    have pre4 : ∀ t, Steps p.tables e below (T3.setTop (mkF m 19 #[.val (.ref o0), .val (.int p1), .val (.int (own_rd ls p1)), .unset, .unset] [(.int en)])) t → Steps p.tables e below (s₁.setTop (entryFrame m #[(.ref o0), (.int p1)] 5)) t := fun t k => pre2 t (by
      show Steps p.tables e below (T1.setTop (mkF m 5 #[.val (.ref o0), .val (.int p1), .unset, .unset, .unset] [(.int (own_rd ls p1))])) _
      refine XS.istoreN X1.here hx rfl (hb hby d9_5) rfl (l' := #[.val (.ref o0), .val (.int p1), .val (.int (own_rd ls p1)), .unset, .unset]) rfl ?_
      show Steps p.tables e below (T1.setTop (mkF m 6 #[.val (.ref o0), .val (.int p1), .val (.int (own_rd ls p1)), .unset, .unset] [])) _
      refine XS.iloadN X1.here hx rfl (hb hby d9_6) rfl ?_
      show Steps p.tables e below (T1.setTop (mkF m 7 #[.val (.ref o0), .val (.int p1), .val (.int (own_rd ls p1)), .unset, .unset] [(.int (own_rd ls p1))])) _
      refine XS.bipush X1.here hx rfl (hb hby d9_7) ?_
      show Steps p.tables e below (T1.setTop (mkF m 9 #[.val (.ref o0), .val (.int p1), .val (.int (own_rd ls p1)), .unset, .unset] [(.int (97 : Int32)), (.int (own_rd ls p1))])) _
      refine XS.icmpNo X1.here hx rfl (hb hby d9_9) rfl (teq q1).2 ?_
      show Steps p.tables e below (T1.setTop (mkF m 12 #[.val (.ref o0), .val (.int p1), .val (.int (own_rd ls p1)), .unset, .unset] [])) _
      refine XS.aloadN X1.here hx rfl (hb hby d9_12) rfl rfl ?_
      show Steps p.tables e below (T1.setTop (mkF m 13 #[.val (.ref o0), .val (.int p1), .val (.int (own_rd ls p1)), .unset, .unset] [(.ref o0)])) _
      refine XS.iloadN X1.here hx rfl (hb hby d9_13) rfl ?_
      show Steps p.tables e below (T1.setTop (mkF m 14 #[.val (.ref o0), .val (.int p1), .val (.int (own_rd ls p1)), .unset, .unset] [(.int p1), (.ref o0)])) _
      refine XS.iconst X1.here hx rfl (hb hby d9_14) ?_
      show Steps p.tables e below (T1.setTop (mkF m 15 #[.val (.ref o0), .val (.int p1), .val (.int (own_rd ls p1)), .unset, .unset] [(.int (1 : Int32)), (.int p1), (.ref o0)])) _
      refine XS.iadd X1.here hx rfl (hb hby d9_15) rfl ?_
      show Steps p.tables e below (T1.setTop (mkF m 16 #[.val (.ref o0), .val (.int p1), .val (.int (own_rd ls p1)), .unset, .unset] [(.int (p1 + (1 : Int32))), (.ref o0)])) _
      refine st3 _ ?_
      exact k)
    obtain ⟨fs, hr, hrun, hended, hW, hsame⟩ := X3.leave (v := some (.int en)) (fun h => by rw [Bd.returns] at h; cases h)
    refine ⟨_, _, pre4 _ ?_, hrun, hended, _, _, rfl, ?_, ⟨_, rfl⟩, hW, hsame.mono (Nat.zero_le _) (Nat.zero_le _)⟩
    · exact retI X3 hx Bd.returns (hb hby d9_19) hr
    · show Q9s Z o0 p1 wC wF wB kb ls en h0 n0 _ T3.heap _
      rw [hh3]
      exact ⟨rfl, N3, rfl⟩
  · have pre5 : ∀ t, Steps p.tables e below (T1.setTop (mkF m 35 #[.val (.ref o0), .val (.int p1), .val (.int (own_rd ls p1)), .unset, .unset] [(.int (p1 + (1 : Int32)))])) t → Steps p.tables e below (s₁.setTop (entryFrame m #[(.ref o0), (.int p1)] 5)) t := fun t k => pre2 t (by
      show Steps p.tables e below (T1.setTop (mkF m 5 #[.val (.ref o0), .val (.int p1), .unset, .unset, .unset] [(.int (own_rd ls p1))])) _
      refine XS.istoreN X1.here hx rfl (hb hby d9_5) rfl (l' := #[.val (.ref o0), .val (.int p1), .val (.int (own_rd ls p1)), .unset, .unset]) rfl ?_
      show Steps p.tables e below (T1.setTop (mkF m 6 #[.val (.ref o0), .val (.int p1), .val (.int (own_rd ls p1)), .unset, .unset] [])) _
      refine XS.iloadN X1.here hx rfl (hb hby d9_6) rfl ?_
      show Steps p.tables e below (T1.setTop (mkF m 7 #[.val (.ref o0), .val (.int p1), .val (.int (own_rd ls p1)), .unset, .unset] [(.int (own_rd ls p1))])) _
      refine XS.bipush X1.here hx rfl (hb hby d9_7) ?_
      show Steps p.tables e below (T1.setTop (mkF m 9 #[.val (.ref o0), .val (.int p1), .val (.int (own_rd ls p1)), .unset, .unset] [(.int (97 : Int32)), (.int (own_rd ls p1))])) _
      refine XS.icmpYes X1.here hx rfl (pc0 := 9) (pc' := 20) rfl (hb hby d9_9) rfl (feq q1).2 (by decide) (by decide) ?_
      show Steps p.tables e below (T1.setTop (mkF m 20 #[.val (.ref o0), .val (.int p1), .val (.int (own_rd ls p1)), .unset, .unset] [])) _
      refine XS.iloadN X1.here hx rfl (hb hby d9_20) rfl ?_
      show Steps p.tables e below (T1.setTop (mkF m 21 #[.val (.ref o0), .val (.int p1), .val (.int (own_rd ls p1)), .unset, .unset] [(.int (own_rd ls p1))])) _
      refine XS.bipush X1.here hx rfl (hb hby d9_21) ?_
      show Steps p.tables e below (T1.setTop (mkF m 23 #[.val (.ref o0), .val (.int p1), .val (.int (own_rd ls p1)), .unset, .unset] [(.int (40 : Int32)), (.int (own_rd ls p1))])) _
      refine XS.icmpNo X1.here hx rfl (hb hby d9_23) rfl (feq q2).1 ?_
      show Steps p.tables e below (T1.setTop (mkF m 26 #[.val (.ref o0), .val (.int p1), .val (.int (own_rd ls p1)), .unset, .unset] [])) _
      refine XS.iloadN X1.here hx rfl (hb hby d9_26) rfl ?_
      show Steps p.tables e below (T1.setTop (mkF m 27 #[.val (.ref o0), .val (.int p1), .val (.int (own_rd ls p1)), .unset, .unset] [(.int (own_rd ls p1))])) _
      refine XS.bipush X1.here hx rfl (hb hby d9_27) ?_
      show Steps p.tables e below (T1.setTop (mkF m 29 #[.val (.ref o0), .val (.int p1), .val (.int (own_rd ls p1)), .unset, .unset] [(.int (123 : Int32)), (.int (own_rd ls p1))])) _
      refine XS.icmpNo X1.here hx rfl (hb hby d9_29) rfl (feq q3).1 ?_
      show Steps p.tables e below (T1.setTop (mkF m 32 #[.val (.ref o0), .val (.int p1), .val (.int (own_rd ls p1)), .unset, .unset] [])) _
      refine XS.iloadN X1.here hx rfl (hb hby d9_32) rfl ?_
      show Steps p.tables e below (T1.setTop (mkF m 33 #[.val (.ref o0), .val (.int p1), .val (.int (own_rd ls p1)), .unset, .unset] [(.int p1)])) _
      refine XS.iconst X1.here hx rfl (hb hby d9_33) ?_
      show Steps p.tables e below (T1.setTop (mkF m 34 #[.val (.ref o0), .val (.int p1), .val (.int (own_rd ls p1)), .unset, .unset] [(.int (1 : Int32)), (.int p1)])) _
      refine XS.iadd X1.here hx rfl (hb hby d9_34) rfl ?_
      exact k)
    obtain ⟨fs, hr, hrun, hended, hW, hsame⟩ := X1.leave (v := some (.int (p1 + (1 : Int32)))) (fun h => by rw [Bd.returns] at h; cases h)
    refine ⟨_, _, pre5 _ ?_, hrun, hended, _, _, rfl, ?_, ⟨_, rfl⟩, hW, hsame.mono (Nat.zero_le _) (Nat.zero_le _)⟩
    · exact retI X1 hx Bd.returns (hb hby d9_35) hr
    · show Q9s Z o0 p1 wC wF wB kb ls en h0 n0 _ T1.heap _
      rw [hh1]
      exact ⟨by rw [hE], N1, rfl⟩
  · obtain ⟨cq6, kq6, q6a, q6b, q6c⟩ := isOf hZ hh1 E_o0
    obtain ⟨_, _, ⟨T6, L6, k6, n6⟩, -, X6, ⟨Lc6, hQ6, l6, y6, z6⟩, st6⟩ := X1.virtualBack hx (y := (⟨"java/lang/String", "charAt", "(I)C"⟩ : MethodName)) (z := (⟨"java/lang/String", "charAt", "(I)C"⟩ : MethodName)) hown (mvT hZ (hw _ (List.mem_of_getElem? (i := 42) rfl))) (mvT hZ (hw _ (List.mem_of_getElem? (i := 43) rfl))) (notFace_of_selects (args := #[]) (mvT hZ (hw _ (List.mem_of_getElem? (i := 45) rfl)))) (mvT hZ (hw _ (List.mem_of_getElem? (i := 45) rfl))) (mvT hZ (hw _ (List.mem_of_getElem? (i := 44) rfl))) (by decide) (backOf (W := 0) (rm10 l Z a0 hw [] o0 (p1 + (1 : Int32)) wC wF wB kb (ls.map (fun c => c.toInt8.toInt32)) (own_rd ls (p1 + (1 : Int32))) h0 n0 Z0 F_coder_o0 F_value_o0 E_o0 S_C hC S_F hF V_wB q3 (own_ch hBy _)) hZ (hw _ (List.mem_of_getElem? (i := 46) rfl)) (hw _ (List.mem_of_getElem? (i := 11) rfl)) (by dsimp only [own_room]; omega) (by dsimp only [own_room]; omega)) q6a q6c (g := (mkF m 58 #[.val (.ref o0), .val (.int p1), .val (.int (own_rd ls p1)), .val (.int (41 : Int32)), .val (.int (p1 + (1 : Int32)))] [(.int (p1 + (1 : Int32))), (.ref o0)])) rfl (by rw [hml]; rfl) (Steps.refl _) (argsL := [(.int (p1 + (1 : Int32)))]) (rest := []) (lenOf pd_5 rfl) rfl (by show 2 * 0 + _ ≤ _; exact Nat.le_of_eq rfl) (hb hby d9_58) (fun _ _ => ⟨rfl, hh1, (Nat.zero_le _ : 0 + 0 ≤ _), (Nat.zero_le _ : 0 + 0 ≤ _)⟩)
    dsimp only [Pt.U, Pt.locs, Pt.cells, Pt.slots] at X6 l6 y6 z6 st6 hQ6
    subst l6 y6 z6
    obtain ⟨rfl, N6q, hh6⟩ := hQ6
    have N6 := Fr.app N1 N6q
    have pre7 : ∀ t, Steps p.tables e below (T6.setTop (mkF m 80 #[.val (.ref o0), .val (.int p1), .val (.int (own_rd ls p1)), .val (.int (41 : Int32)), .val (.int (p1 + (1 : Int32)))] [(.int ((p1 + (1 : Int32)) + (1 : Int32)))])) t → Steps p.tables e below (s₁.setTop (entryFrame m #[(.ref o0), (.int p1)] 5)) t := fun t k => pre2 t (by
      show Steps p.tables e below (T1.setTop (mkF m 5 #[.val (.ref o0), .val (.int p1), .unset, .unset, .unset] [(.int (own_rd ls p1))])) _
      refine XS.istoreN X1.here hx rfl (hb hby d9_5) rfl (l' := #[.val (.ref o0), .val (.int p1), .val (.int (own_rd ls p1)), .unset, .unset]) rfl ?_
      show Steps p.tables e below (T1.setTop (mkF m 6 #[.val (.ref o0), .val (.int p1), .val (.int (own_rd ls p1)), .unset, .unset] [])) _
      refine XS.iloadN X1.here hx rfl (hb hby d9_6) rfl ?_
      show Steps p.tables e below (T1.setTop (mkF m 7 #[.val (.ref o0), .val (.int p1), .val (.int (own_rd ls p1)), .unset, .unset] [(.int (own_rd ls p1))])) _
      refine XS.bipush X1.here hx rfl (hb hby d9_7) ?_
      show Steps p.tables e below (T1.setTop (mkF m 9 #[.val (.ref o0), .val (.int p1), .val (.int (own_rd ls p1)), .unset, .unset] [(.int (97 : Int32)), (.int (own_rd ls p1))])) _
      refine XS.icmpYes X1.here hx rfl (pc0 := 9) (pc' := 20) rfl (hb hby d9_9) rfl (feq q2).2 (by decide) (by decide) ?_
      show Steps p.tables e below (T1.setTop (mkF m 20 #[.val (.ref o0), .val (.int p1), .val (.int (own_rd ls p1)), .unset, .unset] [])) _
      refine XS.iloadN X1.here hx rfl (hb hby d9_20) rfl ?_
      show Steps p.tables e below (T1.setTop (mkF m 21 #[.val (.ref o0), .val (.int p1), .val (.int (own_rd ls p1)), .unset, .unset] [(.int (own_rd ls p1))])) _
      refine XS.bipush X1.here hx rfl (hb hby d9_21) ?_
      show Steps p.tables e below (T1.setTop (mkF m 23 #[.val (.ref o0), .val (.int p1), .val (.int (own_rd ls p1)), .unset, .unset] [(.int (40 : Int32)), (.int (own_rd ls p1))])) _
      refine XS.icmpYes X1.here hx rfl (pc0 := 23) (pc' := 36) rfl (hb hby d9_23) rfl (teq b1).1 (by decide) (by decide) ?_
      show Steps p.tables e below (T1.setTop (mkF m 36 #[.val (.ref o0), .val (.int p1), .val (.int (own_rd ls p1)), .unset, .unset] [])) _
      refine XS.iloadN X1.here hx rfl (hb hby d9_36) rfl ?_
      show Steps p.tables e below (T1.setTop (mkF m 37 #[.val (.ref o0), .val (.int p1), .val (.int (own_rd ls p1)), .unset, .unset] [(.int (own_rd ls p1))])) _
      refine XS.bipush X1.here hx rfl (hb hby d9_37) ?_
      show Steps p.tables e below (T1.setTop (mkF m 39 #[.val (.ref o0), .val (.int p1), .val (.int (own_rd ls p1)), .unset, .unset] [(.int (40 : Int32)), (.int (own_rd ls p1))])) _
      refine XS.icmpNo X1.here hx rfl (hb hby d9_39) rfl (teq b1).2 ?_
      show Steps p.tables e below (T1.setTop (mkF m 42 #[.val (.ref o0), .val (.int p1), .val (.int (own_rd ls p1)), .unset, .unset] [])) _
      refine XS.bipush X1.here hx rfl (hb hby d9_42) ?_
      show Steps p.tables e below (T1.setTop (mkF m 44 #[.val (.ref o0), .val (.int p1), .val (.int (own_rd ls p1)), .unset, .unset] [(.int (41 : Int32))])) _
      refine XS.goto X1.here hx rfl (pc0 := 44) (pc' := 49) rfl (hb hby d9_44) (by decide) (by decide) ?_
      show Steps p.tables e below (T1.setTop (mkF m 49 #[.val (.ref o0), .val (.int p1), .val (.int (own_rd ls p1)), .unset, .unset] [(.int (41 : Int32))])) _
      refine XS.istoreN X1.here hx rfl (hb hby d9_49) rfl (l' := #[.val (.ref o0), .val (.int p1), .val (.int (own_rd ls p1)), .val (.int (41 : Int32)), .unset]) rfl ?_
      show Steps p.tables e below (T1.setTop (mkF m 50 #[.val (.ref o0), .val (.int p1), .val (.int (own_rd ls p1)), .val (.int (41 : Int32)), .unset] [])) _
      refine XS.iloadN X1.here hx rfl (hb hby d9_50) rfl ?_
      show Steps p.tables e below (T1.setTop (mkF m 51 #[.val (.ref o0), .val (.int p1), .val (.int (own_rd ls p1)), .val (.int (41 : Int32)), .unset] [(.int p1)])) _
      refine XS.iconst X1.here hx rfl (hb hby d9_51) ?_
      show Steps p.tables e below (T1.setTop (mkF m 52 #[.val (.ref o0), .val (.int p1), .val (.int (own_rd ls p1)), .val (.int (41 : Int32)), .unset] [(.int (1 : Int32)), (.int p1)])) _
      refine XS.iadd X1.here hx rfl (hb hby d9_52) rfl ?_
      show Steps p.tables e below (T1.setTop (mkF m 53 #[.val (.ref o0), .val (.int p1), .val (.int (own_rd ls p1)), .val (.int (41 : Int32)), .unset] [(.int (p1 + (1 : Int32)))])) _
      refine XS.istore X1.here hx rfl (hb hby d9_53) rfl (l' := #[.val (.ref o0), .val (.int p1), .val (.int (own_rd ls p1)), .val (.int (41 : Int32)), .val (.int (p1 + (1 : Int32)))]) rfl ?_
      show Steps p.tables e below (T1.setTop (mkF m 55 #[.val (.ref o0), .val (.int p1), .val (.int (own_rd ls p1)), .val (.int (41 : Int32)), .val (.int (p1 + (1 : Int32)))] [])) _
      refine XS.aloadN X1.here hx rfl (hb hby d9_55) rfl rfl ?_
      show Steps p.tables e below (T1.setTop (mkF m 56 #[.val (.ref o0), .val (.int p1), .val (.int (own_rd ls p1)), .val (.int (41 : Int32)), .val (.int (p1 + (1 : Int32)))] [(.ref o0)])) _
      refine XS.iload X1.here hx rfl (hb hby d9_56) rfl ?_
      show Steps p.tables e below (T1.setTop (mkF m 58 #[.val (.ref o0), .val (.int p1), .val (.int (own_rd ls p1)), .val (.int (41 : Int32)), .val (.int (p1 + (1 : Int32)))] [(.int (p1 + (1 : Int32))), (.ref o0)])) _
      refine st6.trans ?_
      show Steps p.tables e below (T6.setTop (mkF m 61 #[.val (.ref o0), .val (.int p1), .val (.int (own_rd ls p1)), .val (.int (41 : Int32)), .val (.int (p1 + (1 : Int32)))] [(.int (own_rd ls (p1 + (1 : Int32))))])) _
      refine XS.iloadN X6.here hx rfl (hb hby d9_61) rfl ?_
      show Steps p.tables e below (T6.setTop (mkF m 62 #[.val (.ref o0), .val (.int p1), .val (.int (own_rd ls p1)), .val (.int (41 : Int32)), .val (.int (p1 + (1 : Int32)))] [(.int (41 : Int32)), (.int (own_rd ls (p1 + (1 : Int32))))])) _
      refine XS.icmpYes X6.here hx rfl (pc0 := 62) (pc' := 76) rfl (hb hby d9_62) rfl (teq q4).1 (by decide) (by decide) ?_
      show Steps p.tables e below (T6.setTop (mkF m 76 #[.val (.ref o0), .val (.int p1), .val (.int (own_rd ls p1)), .val (.int (41 : Int32)), .val (.int (p1 + (1 : Int32)))] [])) _
      refine XS.iload X6.here hx rfl (hb hby d9_76) rfl ?_
      show Steps p.tables e below (T6.setTop (mkF m 78 #[.val (.ref o0), .val (.int p1), .val (.int (own_rd ls p1)), .val (.int (41 : Int32)), .val (.int (p1 + (1 : Int32)))] [(.int (p1 + (1 : Int32)))])) _
      refine XS.iconst X6.here hx rfl (hb hby d9_78) ?_
      show Steps p.tables e below (T6.setTop (mkF m 79 #[.val (.ref o0), .val (.int p1), .val (.int (own_rd ls p1)), .val (.int (41 : Int32)), .val (.int (p1 + (1 : Int32)))] [(.int (1 : Int32)), (.int (p1 + (1 : Int32)))])) _
      refine XS.iadd X6.here hx rfl (hb hby d9_79) rfl ?_
      exact k)
    obtain ⟨fs, hr, hrun, hended, hW, hsame⟩ := X6.leave (v := some (.int ((p1 + (1 : Int32)) + (1 : Int32)))) (fun h => by rw [Bd.returns] at h; cases h)
    refine ⟨_, _, pre7 _ ?_, hrun, hended, _, _, rfl, ?_, ⟨_, rfl⟩, hW, hsame.mono (Nat.zero_le _) (Nat.zero_le _)⟩
    · exact retI X6 hx Bd.returns (hb hby d9_80) hr
    · show Q9s Z o0 p1 wC wF wB kb ls en h0 n0 _ T6.heap _
      rw [hh6]
      exact ⟨by rw [hE], N6, rfl⟩
  · obtain ⟨cq8, kq8, q8a, q8b, q8c⟩ := isOf hZ hh1 E_o0
    obtain ⟨_, _, ⟨T8, L8, k8, n8⟩, -, X8, ⟨Lc8, hQ8, l8, y8, z8⟩, st8⟩ := X1.virtualBack hx (y := (⟨"java/lang/String", "charAt", "(I)C"⟩ : MethodName)) (z := (⟨"java/lang/String", "charAt", "(I)C"⟩ : MethodName)) hown (mvT hZ (hw _ (List.mem_of_getElem? (i := 42) rfl))) (mvT hZ (hw _ (List.mem_of_getElem? (i := 43) rfl))) (notFace_of_selects (args := #[]) (mvT hZ (hw _ (List.mem_of_getElem? (i := 45) rfl)))) (mvT hZ (hw _ (List.mem_of_getElem? (i := 45) rfl))) (mvT hZ (hw _ (List.mem_of_getElem? (i := 44) rfl))) (by decide) (backOf (W := 0) (rm10 l Z a0 hw [] o0 (p1 + (1 : Int32)) wC wF wB kb (ls.map (fun c => c.toInt8.toInt32)) (own_rd ls (p1 + (1 : Int32))) h0 n0 Z0 F_coder_o0 F_value_o0 E_o0 S_C hC S_F hF V_wB q3 (own_ch hBy _)) hZ (hw _ (List.mem_of_getElem? (i := 46) rfl)) (hw _ (List.mem_of_getElem? (i := 11) rfl)) (by dsimp only [own_room]; omega) (by dsimp only [own_room]; omega)) q8a q8c (g := (mkF m 58 #[.val (.ref o0), .val (.int p1), .val (.int (own_rd ls p1)), .val (.int (41 : Int32)), .val (.int (p1 + (1 : Int32)))] [(.int (p1 + (1 : Int32))), (.ref o0)])) rfl (by rw [hml]; rfl) (Steps.refl _) (argsL := [(.int (p1 + (1 : Int32)))]) (rest := []) (lenOf pd_5 rfl) rfl (by show 2 * 0 + _ ≤ _; exact Nat.le_of_eq rfl) (hb hby d9_58) (fun _ _ => ⟨rfl, hh1, (Nat.zero_le _ : 0 + 0 ≤ _), (Nat.zero_le _ : 0 + 0 ≤ _)⟩)
    dsimp only [Pt.U, Pt.locs, Pt.cells, Pt.slots] at X8 l8 y8 z8 st8 hQ8
    subst l8 y8 z8
    obtain ⟨rfl, N8q, hh8⟩ := hQ8
    have N8 := Fr.app N1 N8q
    obtain ⟨_, _, ⟨T9, L9, k9, n9⟩, -, X9, ⟨Lc9, hQ9, l9, y9, z9⟩, st9⟩ := Jvm.LawKit.callS X8 hx (y := (⟨"com/example/sensor_access_indicators/sensoraccessindicators/dbus/Marshalling", "typeEnd", "(Ljava/lang/String;I)I"⟩ : MethodName)) hown (mvT hZ (hw _ (List.mem_of_getElem? (i := 64) rfl))) (mvT hZ (hw _ (List.mem_of_getElem? (i := 39) rfl))) (mvT hZ (hw _ (List.mem_of_getElem? (i := 40) rfl))) (mvT hZ (hw _ (List.mem_of_getElem? (i := 41) rfl))) (by decide) (backOf (W := 0) (IH (p1 + (1 : Int32)) jj q5) hZ (hw _ (List.mem_of_getElem? (i := 41) rfl)) (hw _ (List.mem_of_getElem? (i := 40) rfl)) (by dsimp only [own_room]; omega) (by dsimp only [own_room]; omega)) (g := (mkF m 68 #[.val (.ref o0), .val (.int p1), .val (.int (own_rd ls p1)), .val (.int (41 : Int32)), .val (.int (p1 + (1 : Int32)))] [(.int (p1 + (1 : Int32))), (.ref o0)])) rfl (by rw [hml]; rfl) (argsL := [(.ref o0), (.int (p1 + (1 : Int32)))]) (rest := []) (lenOf pd_6 rfl) rfl (by show 2 * 0 + _ ≤ _; exact Nat.le_of_eq rfl) (hb hby d9_68) (fun _ _ => ⟨rfl, hh8, (Nat.zero_le _ : 0 + 0 ≤ _), (Nat.zero_le _ : 0 + 0 ≤ _)⟩)
    dsimp only [Pt.U, Pt.locs, Pt.cells, Pt.slots] at X9 l9 y9 z9 st9 hQ9
    subst l9 y9 z9
    obtain ⟨rfl, N9q, hh9⟩ := hQ9
    have N9 := Fr.app N8 N9q
    obtain ⟨cq10, kq10, q10a, q10b, q10c⟩ := isOf hZ hh9 E_o0
    obtain ⟨_, _, ⟨T10, L10, k10, n10⟩, -, X10, ⟨Lc10, hQ10, l10, y10, z10⟩, st10⟩ := X9.virtualBack hx (y := (⟨"java/lang/String", "charAt", "(I)C"⟩ : MethodName)) (z := (⟨"java/lang/String", "charAt", "(I)C"⟩ : MethodName)) hown (mvT hZ (hw _ (List.mem_of_getElem? (i := 42) rfl))) (mvT hZ (hw _ (List.mem_of_getElem? (i := 43) rfl))) (notFace_of_selects (args := #[]) (mvT hZ (hw _ (List.mem_of_getElem? (i := 45) rfl)))) (mvT hZ (hw _ (List.mem_of_getElem? (i := 45) rfl))) (mvT hZ (hw _ (List.mem_of_getElem? (i := 44) rfl))) (by decide) (backOf (W := 0) (rm10 l Z a0 hw [] o0 jj wC wF wB kb (ls.map (fun c => c.toInt8.toInt32)) (own_rd ls jj) h0 n0 Z0 F_coder_o0 F_value_o0 E_o0 S_C hC S_F hF V_wB q6 (own_ch hBy _)) hZ (hw _ (List.mem_of_getElem? (i := 46) rfl)) (hw _ (List.mem_of_getElem? (i := 11) rfl)) (by dsimp only [own_room]; omega) (by dsimp only [own_room]; omega)) q10a q10c (g := (mkF m 58 #[.val (.ref o0), .val (.int p1), .val (.int (own_rd ls p1)), .val (.int (41 : Int32)), .val (.int jj)] [(.int jj), (.ref o0)])) rfl (by rw [hml]; rfl) (Steps.refl _) (argsL := [(.int jj)]) (rest := []) (lenOf pd_5 rfl) rfl (by show 2 * 0 + _ ≤ _; exact Nat.le_of_eq rfl) (hb hby d9_58) (fun _ _ => ⟨rfl, hh9, (Nat.zero_le _ : 0 + 0 ≤ _), (Nat.zero_le _ : 0 + 0 ≤ _)⟩)
    dsimp only [Pt.U, Pt.locs, Pt.cells, Pt.slots] at X10 l10 y10 z10 st10 hQ10
    subst l10 y10 z10
    obtain ⟨rfl, N10q, hh10⟩ := hQ10
    have N10 := Fr.app N9 N10q
    have pre11 : ∀ t, Steps p.tables e below (T10.setTop (mkF m 80 #[.val (.ref o0), .val (.int p1), .val (.int (own_rd ls p1)), .val (.int (41 : Int32)), .val (.int jj)] [(.int (jj + (1 : Int32)))])) t → Steps p.tables e below (s₁.setTop (entryFrame m #[(.ref o0), (.int p1)] 5)) t := fun t k => pre2 t (by
      show Steps p.tables e below (T1.setTop (mkF m 5 #[.val (.ref o0), .val (.int p1), .unset, .unset, .unset] [(.int (own_rd ls p1))])) _
      refine XS.istoreN X1.here hx rfl (hb hby d9_5) rfl (l' := #[.val (.ref o0), .val (.int p1), .val (.int (own_rd ls p1)), .unset, .unset]) rfl ?_
      show Steps p.tables e below (T1.setTop (mkF m 6 #[.val (.ref o0), .val (.int p1), .val (.int (own_rd ls p1)), .unset, .unset] [])) _
      refine XS.iloadN X1.here hx rfl (hb hby d9_6) rfl ?_
      show Steps p.tables e below (T1.setTop (mkF m 7 #[.val (.ref o0), .val (.int p1), .val (.int (own_rd ls p1)), .unset, .unset] [(.int (own_rd ls p1))])) _
      refine XS.bipush X1.here hx rfl (hb hby d9_7) ?_
      show Steps p.tables e below (T1.setTop (mkF m 9 #[.val (.ref o0), .val (.int p1), .val (.int (own_rd ls p1)), .unset, .unset] [(.int (97 : Int32)), (.int (own_rd ls p1))])) _
      refine XS.icmpYes X1.here hx rfl (pc0 := 9) (pc' := 20) rfl (hb hby d9_9) rfl (feq q2).2 (by decide) (by decide) ?_
      show Steps p.tables e below (T1.setTop (mkF m 20 #[.val (.ref o0), .val (.int p1), .val (.int (own_rd ls p1)), .unset, .unset] [])) _
      refine XS.iloadN X1.here hx rfl (hb hby d9_20) rfl ?_
      show Steps p.tables e below (T1.setTop (mkF m 21 #[.val (.ref o0), .val (.int p1), .val (.int (own_rd ls p1)), .unset, .unset] [(.int (own_rd ls p1))])) _
      refine XS.bipush X1.here hx rfl (hb hby d9_21) ?_
      show Steps p.tables e below (T1.setTop (mkF m 23 #[.val (.ref o0), .val (.int p1), .val (.int (own_rd ls p1)), .unset, .unset] [(.int (40 : Int32)), (.int (own_rd ls p1))])) _
      refine XS.icmpYes X1.here hx rfl (pc0 := 23) (pc' := 36) rfl (hb hby d9_23) rfl (teq b1).1 (by decide) (by decide) ?_
      show Steps p.tables e below (T1.setTop (mkF m 36 #[.val (.ref o0), .val (.int p1), .val (.int (own_rd ls p1)), .unset, .unset] [])) _
      refine XS.iloadN X1.here hx rfl (hb hby d9_36) rfl ?_
      show Steps p.tables e below (T1.setTop (mkF m 37 #[.val (.ref o0), .val (.int p1), .val (.int (own_rd ls p1)), .unset, .unset] [(.int (own_rd ls p1))])) _
      refine XS.bipush X1.here hx rfl (hb hby d9_37) ?_
      show Steps p.tables e below (T1.setTop (mkF m 39 #[.val (.ref o0), .val (.int p1), .val (.int (own_rd ls p1)), .unset, .unset] [(.int (40 : Int32)), (.int (own_rd ls p1))])) _
      refine XS.icmpNo X1.here hx rfl (hb hby d9_39) rfl (teq b1).2 ?_
      show Steps p.tables e below (T1.setTop (mkF m 42 #[.val (.ref o0), .val (.int p1), .val (.int (own_rd ls p1)), .unset, .unset] [])) _
      refine XS.bipush X1.here hx rfl (hb hby d9_42) ?_
      show Steps p.tables e below (T1.setTop (mkF m 44 #[.val (.ref o0), .val (.int p1), .val (.int (own_rd ls p1)), .unset, .unset] [(.int (41 : Int32))])) _
      refine XS.goto X1.here hx rfl (pc0 := 44) (pc' := 49) rfl (hb hby d9_44) (by decide) (by decide) ?_
      show Steps p.tables e below (T1.setTop (mkF m 49 #[.val (.ref o0), .val (.int p1), .val (.int (own_rd ls p1)), .unset, .unset] [(.int (41 : Int32))])) _
      refine XS.istoreN X1.here hx rfl (hb hby d9_49) rfl (l' := #[.val (.ref o0), .val (.int p1), .val (.int (own_rd ls p1)), .val (.int (41 : Int32)), .unset]) rfl ?_
      show Steps p.tables e below (T1.setTop (mkF m 50 #[.val (.ref o0), .val (.int p1), .val (.int (own_rd ls p1)), .val (.int (41 : Int32)), .unset] [])) _
      refine XS.iloadN X1.here hx rfl (hb hby d9_50) rfl ?_
      show Steps p.tables e below (T1.setTop (mkF m 51 #[.val (.ref o0), .val (.int p1), .val (.int (own_rd ls p1)), .val (.int (41 : Int32)), .unset] [(.int p1)])) _
      refine XS.iconst X1.here hx rfl (hb hby d9_51) ?_
      show Steps p.tables e below (T1.setTop (mkF m 52 #[.val (.ref o0), .val (.int p1), .val (.int (own_rd ls p1)), .val (.int (41 : Int32)), .unset] [(.int (1 : Int32)), (.int p1)])) _
      refine XS.iadd X1.here hx rfl (hb hby d9_52) rfl ?_
      show Steps p.tables e below (T1.setTop (mkF m 53 #[.val (.ref o0), .val (.int p1), .val (.int (own_rd ls p1)), .val (.int (41 : Int32)), .unset] [(.int (p1 + (1 : Int32)))])) _
      refine XS.istore X1.here hx rfl (hb hby d9_53) rfl (l' := #[.val (.ref o0), .val (.int p1), .val (.int (own_rd ls p1)), .val (.int (41 : Int32)), .val (.int (p1 + (1 : Int32)))]) rfl ?_
      show Steps p.tables e below (T1.setTop (mkF m 55 #[.val (.ref o0), .val (.int p1), .val (.int (own_rd ls p1)), .val (.int (41 : Int32)), .val (.int (p1 + (1 : Int32)))] [])) _
      refine XS.aloadN X1.here hx rfl (hb hby d9_55) rfl rfl ?_
      show Steps p.tables e below (T1.setTop (mkF m 56 #[.val (.ref o0), .val (.int p1), .val (.int (own_rd ls p1)), .val (.int (41 : Int32)), .val (.int (p1 + (1 : Int32)))] [(.ref o0)])) _
      refine XS.iload X1.here hx rfl (hb hby d9_56) rfl ?_
      show Steps p.tables e below (T1.setTop (mkF m 58 #[.val (.ref o0), .val (.int p1), .val (.int (own_rd ls p1)), .val (.int (41 : Int32)), .val (.int (p1 + (1 : Int32)))] [(.int (p1 + (1 : Int32))), (.ref o0)])) _
      refine st8.trans ?_
      show Steps p.tables e below (T8.setTop (mkF m 61 #[.val (.ref o0), .val (.int p1), .val (.int (own_rd ls p1)), .val (.int (41 : Int32)), .val (.int (p1 + (1 : Int32)))] [(.int (own_rd ls (p1 + (1 : Int32))))])) _
      refine XS.iloadN X8.here hx rfl (hb hby d9_61) rfl ?_
      show Steps p.tables e below (T8.setTop (mkF m 62 #[.val (.ref o0), .val (.int p1), .val (.int (own_rd ls p1)), .val (.int (41 : Int32)), .val (.int (p1 + (1 : Int32)))] [(.int (41 : Int32)), (.int (own_rd ls (p1 + (1 : Int32))))])) _
      refine XS.icmpNo X8.here hx rfl (hb hby d9_62) rfl (feq q4).1 ?_
      show Steps p.tables e below (T8.setTop (mkF m 65 #[.val (.ref o0), .val (.int p1), .val (.int (own_rd ls p1)), .val (.int (41 : Int32)), .val (.int (p1 + (1 : Int32)))] [])) _
      refine XS.aloadN X8.here hx rfl (hb hby d9_65) rfl rfl ?_
      show Steps p.tables e below (T8.setTop (mkF m 66 #[.val (.ref o0), .val (.int p1), .val (.int (own_rd ls p1)), .val (.int (41 : Int32)), .val (.int (p1 + (1 : Int32)))] [(.ref o0)])) _
      refine XS.iload X8.here hx rfl (hb hby d9_66) rfl ?_
      show Steps p.tables e below (T8.setTop (mkF m 68 #[.val (.ref o0), .val (.int p1), .val (.int (own_rd ls p1)), .val (.int (41 : Int32)), .val (.int (p1 + (1 : Int32)))] [(.int (p1 + (1 : Int32))), (.ref o0)])) _
      refine st9 _ ?_
      show Steps p.tables e below (T9.setTop (mkF m 71 #[.val (.ref o0), .val (.int p1), .val (.int (own_rd ls p1)), .val (.int (41 : Int32)), .val (.int (p1 + (1 : Int32)))] [(.int jj)])) _
      refine XS.istore X9.here hx rfl (hb hby d9_71) rfl (l' := #[.val (.ref o0), .val (.int p1), .val (.int (own_rd ls p1)), .val (.int (41 : Int32)), .val (.int jj)]) rfl ?_
      show Steps p.tables e below (T9.setTop (mkF m 73 #[.val (.ref o0), .val (.int p1), .val (.int (own_rd ls p1)), .val (.int (41 : Int32)), .val (.int jj)] [])) _
      refine XS.goto X9.here hx rfl (pc0 := 73) (pc' := 55) rfl (hb hby d9_73) (by decide) (by decide) ?_
      show Steps p.tables e below (T9.setTop (mkF m 55 #[.val (.ref o0), .val (.int p1), .val (.int (own_rd ls p1)), .val (.int (41 : Int32)), .val (.int jj)] [])) _
      refine XS.aloadN X9.here hx rfl (hb hby d9_55) rfl rfl ?_
      show Steps p.tables e below (T9.setTop (mkF m 56 #[.val (.ref o0), .val (.int p1), .val (.int (own_rd ls p1)), .val (.int (41 : Int32)), .val (.int jj)] [(.ref o0)])) _
      refine XS.iload X9.here hx rfl (hb hby d9_56) rfl ?_
      show Steps p.tables e below (T9.setTop (mkF m 58 #[.val (.ref o0), .val (.int p1), .val (.int (own_rd ls p1)), .val (.int (41 : Int32)), .val (.int jj)] [(.int jj), (.ref o0)])) _
      refine st10.trans ?_
      show Steps p.tables e below (T10.setTop (mkF m 61 #[.val (.ref o0), .val (.int p1), .val (.int (own_rd ls p1)), .val (.int (41 : Int32)), .val (.int jj)] [(.int (own_rd ls jj))])) _
      refine XS.iloadN X10.here hx rfl (hb hby d9_61) rfl ?_
      show Steps p.tables e below (T10.setTop (mkF m 62 #[.val (.ref o0), .val (.int p1), .val (.int (own_rd ls p1)), .val (.int (41 : Int32)), .val (.int jj)] [(.int (41 : Int32)), (.int (own_rd ls jj))])) _
      refine XS.icmpYes X10.here hx rfl (pc0 := 62) (pc' := 76) rfl (hb hby d9_62) rfl (teq q7).1 (by decide) (by decide) ?_
      show Steps p.tables e below (T10.setTop (mkF m 76 #[.val (.ref o0), .val (.int p1), .val (.int (own_rd ls p1)), .val (.int (41 : Int32)), .val (.int jj)] [])) _
      refine XS.iload X10.here hx rfl (hb hby d9_76) rfl ?_
      show Steps p.tables e below (T10.setTop (mkF m 78 #[.val (.ref o0), .val (.int p1), .val (.int (own_rd ls p1)), .val (.int (41 : Int32)), .val (.int jj)] [(.int jj)])) _
      refine XS.iconst X10.here hx rfl (hb hby d9_78) ?_
      show Steps p.tables e below (T10.setTop (mkF m 79 #[.val (.ref o0), .val (.int p1), .val (.int (own_rd ls p1)), .val (.int (41 : Int32)), .val (.int jj)] [(.int (1 : Int32)), (.int jj)])) _
      refine XS.iadd X10.here hx rfl (hb hby d9_79) rfl ?_
      exact k)
    obtain ⟨fs, hr, hrun, hended, hW, hsame⟩ := X10.leave (v := some (.int (jj + (1 : Int32)))) (fun h => by rw [Bd.returns] at h; cases h)
    refine ⟨_, _, pre11 _ ?_, hrun, hended, _, _, rfl, ?_, ⟨_, rfl⟩, hW, hsame.mono (Nat.zero_le _) (Nat.zero_le _)⟩
    · exact retI X10 hx Bd.returns (hb hby d9_80) hr
    · show Q9s Z o0 p1 wC wF wB kb ls en h0 n0 _ T10.heap _
      rw [hh10]
      exact ⟨by rw [hE], N10, rfl⟩
  · obtain ⟨cq12, kq12, q12a, q12b, q12c⟩ := isOf hZ hh1 E_o0
    obtain ⟨_, _, ⟨T12, L12, k12, n12⟩, -, X12, ⟨Lc12, hQ12, l12, y12, z12⟩, st12⟩ := X1.virtualBack hx (y := (⟨"java/lang/String", "charAt", "(I)C"⟩ : MethodName)) (z := (⟨"java/lang/String", "charAt", "(I)C"⟩ : MethodName)) hown (mvT hZ (hw _ (List.mem_of_getElem? (i := 42) rfl))) (mvT hZ (hw _ (List.mem_of_getElem? (i := 43) rfl))) (notFace_of_selects (args := #[]) (mvT hZ (hw _ (List.mem_of_getElem? (i := 45) rfl)))) (mvT hZ (hw _ (List.mem_of_getElem? (i := 45) rfl))) (mvT hZ (hw _ (List.mem_of_getElem? (i := 44) rfl))) (by decide) (backOf (W := 0) (rm10 l Z a0 hw [] o0 (p1 + (1 : Int32)) wC wF wB kb (ls.map (fun c => c.toInt8.toInt32)) (own_rd ls (p1 + (1 : Int32))) h0 n0 Z0 F_coder_o0 F_value_o0 E_o0 S_C hC S_F hF V_wB q3 (own_ch hBy _)) hZ (hw _ (List.mem_of_getElem? (i := 46) rfl)) (hw _ (List.mem_of_getElem? (i := 11) rfl)) (by dsimp only [own_room]; omega) (by dsimp only [own_room]; omega)) q12a q12c (g := (mkF m 58 #[.val (.ref o0), .val (.int p1), .val (.int (own_rd ls p1)), .val (.int (41 : Int32)), .val (.int (p1 + (1 : Int32)))] [(.int (p1 + (1 : Int32))), (.ref o0)])) rfl (by rw [hml]; rfl) (Steps.refl _) (argsL := [(.int (p1 + (1 : Int32)))]) (rest := []) (lenOf pd_5 rfl) rfl (by show 2 * 0 + _ ≤ _; exact Nat.le_of_eq rfl) (hb hby d9_58) (fun _ _ => ⟨rfl, hh1, (Nat.zero_le _ : 0 + 0 ≤ _), (Nat.zero_le _ : 0 + 0 ≤ _)⟩)
    dsimp only [Pt.U, Pt.locs, Pt.cells, Pt.slots] at X12 l12 y12 z12 st12 hQ12
    subst l12 y12 z12
    obtain ⟨rfl, N12q, hh12⟩ := hQ12
    have N12 := Fr.app N1 N12q
    obtain ⟨_, _, ⟨T13, L13, k13, n13⟩, -, X13, ⟨Lc13, hQ13, l13, y13, z13⟩, st13⟩ := Jvm.LawKit.callS X12 hx (y := (⟨"com/example/sensor_access_indicators/sensoraccessindicators/dbus/Marshalling", "typeEnd", "(Ljava/lang/String;I)I"⟩ : MethodName)) hown (mvT hZ (hw _ (List.mem_of_getElem? (i := 64) rfl))) (mvT hZ (hw _ (List.mem_of_getElem? (i := 39) rfl))) (mvT hZ (hw _ (List.mem_of_getElem? (i := 40) rfl))) (mvT hZ (hw _ (List.mem_of_getElem? (i := 41) rfl))) (by decide) (backOf (W := 0) (IH (p1 + (1 : Int32)) jj q5) hZ (hw _ (List.mem_of_getElem? (i := 41) rfl)) (hw _ (List.mem_of_getElem? (i := 40) rfl)) (by dsimp only [own_room]; omega) (by dsimp only [own_room]; omega)) (g := (mkF m 68 #[.val (.ref o0), .val (.int p1), .val (.int (own_rd ls p1)), .val (.int (41 : Int32)), .val (.int (p1 + (1 : Int32)))] [(.int (p1 + (1 : Int32))), (.ref o0)])) rfl (by rw [hml]; rfl) (argsL := [(.ref o0), (.int (p1 + (1 : Int32)))]) (rest := []) (lenOf pd_6 rfl) rfl (by show 2 * 0 + _ ≤ _; exact Nat.le_of_eq rfl) (hb hby d9_68) (fun _ _ => ⟨rfl, hh12, (Nat.zero_le _ : 0 + 0 ≤ _), (Nat.zero_le _ : 0 + 0 ≤ _)⟩)
    dsimp only [Pt.U, Pt.locs, Pt.cells, Pt.slots] at X13 l13 y13 z13 st13 hQ13
    subst l13 y13 z13
    obtain ⟨rfl, N13q, hh13⟩ := hQ13
    have N13 := Fr.app N12 N13q
    obtain ⟨cq14, kq14, q14a, q14b, q14c⟩ := isOf hZ hh13 E_o0
    obtain ⟨_, _, ⟨T14, L14, k14, n14⟩, -, X14, ⟨Lc14, hQ14, l14, y14, z14⟩, st14⟩ := X13.virtualBack hx (y := (⟨"java/lang/String", "charAt", "(I)C"⟩ : MethodName)) (z := (⟨"java/lang/String", "charAt", "(I)C"⟩ : MethodName)) hown (mvT hZ (hw _ (List.mem_of_getElem? (i := 42) rfl))) (mvT hZ (hw _ (List.mem_of_getElem? (i := 43) rfl))) (notFace_of_selects (args := #[]) (mvT hZ (hw _ (List.mem_of_getElem? (i := 45) rfl)))) (mvT hZ (hw _ (List.mem_of_getElem? (i := 45) rfl))) (mvT hZ (hw _ (List.mem_of_getElem? (i := 44) rfl))) (by decide) (backOf (W := 0) (rm10 l Z a0 hw [] o0 jj wC wF wB kb (ls.map (fun c => c.toInt8.toInt32)) (own_rd ls jj) h0 n0 Z0 F_coder_o0 F_value_o0 E_o0 S_C hC S_F hF V_wB q6 (own_ch hBy _)) hZ (hw _ (List.mem_of_getElem? (i := 46) rfl)) (hw _ (List.mem_of_getElem? (i := 11) rfl)) (by dsimp only [own_room]; omega) (by dsimp only [own_room]; omega)) q14a q14c (g := (mkF m 58 #[.val (.ref o0), .val (.int p1), .val (.int (own_rd ls p1)), .val (.int (41 : Int32)), .val (.int jj)] [(.int jj), (.ref o0)])) rfl (by rw [hml]; rfl) (Steps.refl _) (argsL := [(.int jj)]) (rest := []) (lenOf pd_5 rfl) rfl (by show 2 * 0 + _ ≤ _; exact Nat.le_of_eq rfl) (hb hby d9_58) (fun _ _ => ⟨rfl, hh13, (Nat.zero_le _ : 0 + 0 ≤ _), (Nat.zero_le _ : 0 + 0 ≤ _)⟩)
    dsimp only [Pt.U, Pt.locs, Pt.cells, Pt.slots] at X14 l14 y14 z14 st14 hQ14
    subst l14 y14 z14
    obtain ⟨rfl, N14q, hh14⟩ := hQ14
    have N14 := Fr.app N13 N14q
    obtain ⟨_, _, ⟨T15, L15, k15, n15⟩, -, X15, ⟨Lc15, hQ15, l15, y15, z15⟩, st15⟩ := Jvm.LawKit.callS X14 hx (y := (⟨"com/example/sensor_access_indicators/sensoraccessindicators/dbus/Marshalling", "typeEnd", "(Ljava/lang/String;I)I"⟩ : MethodName)) hown (mvT hZ (hw _ (List.mem_of_getElem? (i := 64) rfl))) (mvT hZ (hw _ (List.mem_of_getElem? (i := 39) rfl))) (mvT hZ (hw _ (List.mem_of_getElem? (i := 40) rfl))) (mvT hZ (hw _ (List.mem_of_getElem? (i := 41) rfl))) (by decide) (backOf (W := 0) (IH jj kk q8) hZ (hw _ (List.mem_of_getElem? (i := 41) rfl)) (hw _ (List.mem_of_getElem? (i := 40) rfl)) (by dsimp only [own_room]; omega) (by dsimp only [own_room]; omega)) (g := (mkF m 68 #[.val (.ref o0), .val (.int p1), .val (.int (own_rd ls p1)), .val (.int (41 : Int32)), .val (.int jj)] [(.int jj), (.ref o0)])) rfl (by rw [hml]; rfl) (argsL := [(.ref o0), (.int jj)]) (rest := []) (lenOf pd_6 rfl) rfl (by show 2 * 0 + _ ≤ _; exact Nat.le_of_eq rfl) (hb hby d9_68) (fun _ _ => ⟨rfl, hh14, (Nat.zero_le _ : 0 + 0 ≤ _), (Nat.zero_le _ : 0 + 0 ≤ _)⟩)
    dsimp only [Pt.U, Pt.locs, Pt.cells, Pt.slots] at X15 l15 y15 z15 st15 hQ15
    subst l15 y15 z15
    obtain ⟨rfl, N15q, hh15⟩ := hQ15
    have N15 := Fr.app N14 N15q
    obtain ⟨cq16, kq16, q16a, q16b, q16c⟩ := isOf hZ hh15 E_o0
    obtain ⟨_, _, ⟨T16, L16, k16, n16⟩, -, X16, ⟨Lc16, hQ16, l16, y16, z16⟩, st16⟩ := X15.virtualBack hx (y := (⟨"java/lang/String", "charAt", "(I)C"⟩ : MethodName)) (z := (⟨"java/lang/String", "charAt", "(I)C"⟩ : MethodName)) hown (mvT hZ (hw _ (List.mem_of_getElem? (i := 42) rfl))) (mvT hZ (hw _ (List.mem_of_getElem? (i := 43) rfl))) (notFace_of_selects (args := #[]) (mvT hZ (hw _ (List.mem_of_getElem? (i := 45) rfl)))) (mvT hZ (hw _ (List.mem_of_getElem? (i := 45) rfl))) (mvT hZ (hw _ (List.mem_of_getElem? (i := 44) rfl))) (by decide) (backOf (W := 0) (rm10 l Z a0 hw [] o0 kk wC wF wB kb (ls.map (fun c => c.toInt8.toInt32)) (own_rd ls kk) h0 n0 Z0 F_coder_o0 F_value_o0 E_o0 S_C hC S_F hF V_wB q9 (own_ch hBy _)) hZ (hw _ (List.mem_of_getElem? (i := 46) rfl)) (hw _ (List.mem_of_getElem? (i := 11) rfl)) (by dsimp only [own_room]; omega) (by dsimp only [own_room]; omega)) q16a q16c (g := (mkF m 58 #[.val (.ref o0), .val (.int p1), .val (.int (own_rd ls p1)), .val (.int (41 : Int32)), .val (.int kk)] [(.int kk), (.ref o0)])) rfl (by rw [hml]; rfl) (Steps.refl _) (argsL := [(.int kk)]) (rest := []) (lenOf pd_5 rfl) rfl (by show 2 * 0 + _ ≤ _; exact Nat.le_of_eq rfl) (hb hby d9_58) (fun _ _ => ⟨rfl, hh15, (Nat.zero_le _ : 0 + 0 ≤ _), (Nat.zero_le _ : 0 + 0 ≤ _)⟩)
    dsimp only [Pt.U, Pt.locs, Pt.cells, Pt.slots] at X16 l16 y16 z16 st16 hQ16
    subst l16 y16 z16
    obtain ⟨rfl, N16q, hh16⟩ := hQ16
    have N16 := Fr.app N15 N16q
    have pre17 : ∀ t, Steps p.tables e below (T16.setTop (mkF m 80 #[.val (.ref o0), .val (.int p1), .val (.int (own_rd ls p1)), .val (.int (41 : Int32)), .val (.int kk)] [(.int (kk + (1 : Int32)))])) t → Steps p.tables e below (s₁.setTop (entryFrame m #[(.ref o0), (.int p1)] 5)) t := fun t k => pre2 t (by
      show Steps p.tables e below (T1.setTop (mkF m 5 #[.val (.ref o0), .val (.int p1), .unset, .unset, .unset] [(.int (own_rd ls p1))])) _
      refine XS.istoreN X1.here hx rfl (hb hby d9_5) rfl (l' := #[.val (.ref o0), .val (.int p1), .val (.int (own_rd ls p1)), .unset, .unset]) rfl ?_
      show Steps p.tables e below (T1.setTop (mkF m 6 #[.val (.ref o0), .val (.int p1), .val (.int (own_rd ls p1)), .unset, .unset] [])) _
      refine XS.iloadN X1.here hx rfl (hb hby d9_6) rfl ?_
      show Steps p.tables e below (T1.setTop (mkF m 7 #[.val (.ref o0), .val (.int p1), .val (.int (own_rd ls p1)), .unset, .unset] [(.int (own_rd ls p1))])) _
      refine XS.bipush X1.here hx rfl (hb hby d9_7) ?_
      show Steps p.tables e below (T1.setTop (mkF m 9 #[.val (.ref o0), .val (.int p1), .val (.int (own_rd ls p1)), .unset, .unset] [(.int (97 : Int32)), (.int (own_rd ls p1))])) _
      refine XS.icmpYes X1.here hx rfl (pc0 := 9) (pc' := 20) rfl (hb hby d9_9) rfl (feq q2).2 (by decide) (by decide) ?_
      show Steps p.tables e below (T1.setTop (mkF m 20 #[.val (.ref o0), .val (.int p1), .val (.int (own_rd ls p1)), .unset, .unset] [])) _
      refine XS.iloadN X1.here hx rfl (hb hby d9_20) rfl ?_
      show Steps p.tables e below (T1.setTop (mkF m 21 #[.val (.ref o0), .val (.int p1), .val (.int (own_rd ls p1)), .unset, .unset] [(.int (own_rd ls p1))])) _
      refine XS.bipush X1.here hx rfl (hb hby d9_21) ?_
      show Steps p.tables e below (T1.setTop (mkF m 23 #[.val (.ref o0), .val (.int p1), .val (.int (own_rd ls p1)), .unset, .unset] [(.int (40 : Int32)), (.int (own_rd ls p1))])) _
      refine XS.icmpYes X1.here hx rfl (pc0 := 23) (pc' := 36) rfl (hb hby d9_23) rfl (teq b1).1 (by decide) (by decide) ?_
      show Steps p.tables e below (T1.setTop (mkF m 36 #[.val (.ref o0), .val (.int p1), .val (.int (own_rd ls p1)), .unset, .unset] [])) _
      refine XS.iloadN X1.here hx rfl (hb hby d9_36) rfl ?_
      show Steps p.tables e below (T1.setTop (mkF m 37 #[.val (.ref o0), .val (.int p1), .val (.int (own_rd ls p1)), .unset, .unset] [(.int (own_rd ls p1))])) _
      refine XS.bipush X1.here hx rfl (hb hby d9_37) ?_
      show Steps p.tables e below (T1.setTop (mkF m 39 #[.val (.ref o0), .val (.int p1), .val (.int (own_rd ls p1)), .unset, .unset] [(.int (40 : Int32)), (.int (own_rd ls p1))])) _
      refine XS.icmpNo X1.here hx rfl (hb hby d9_39) rfl (teq b1).2 ?_
      show Steps p.tables e below (T1.setTop (mkF m 42 #[.val (.ref o0), .val (.int p1), .val (.int (own_rd ls p1)), .unset, .unset] [])) _
      refine XS.bipush X1.here hx rfl (hb hby d9_42) ?_
      show Steps p.tables e below (T1.setTop (mkF m 44 #[.val (.ref o0), .val (.int p1), .val (.int (own_rd ls p1)), .unset, .unset] [(.int (41 : Int32))])) _
      refine XS.goto X1.here hx rfl (pc0 := 44) (pc' := 49) rfl (hb hby d9_44) (by decide) (by decide) ?_
      show Steps p.tables e below (T1.setTop (mkF m 49 #[.val (.ref o0), .val (.int p1), .val (.int (own_rd ls p1)), .unset, .unset] [(.int (41 : Int32))])) _
      refine XS.istoreN X1.here hx rfl (hb hby d9_49) rfl (l' := #[.val (.ref o0), .val (.int p1), .val (.int (own_rd ls p1)), .val (.int (41 : Int32)), .unset]) rfl ?_
      show Steps p.tables e below (T1.setTop (mkF m 50 #[.val (.ref o0), .val (.int p1), .val (.int (own_rd ls p1)), .val (.int (41 : Int32)), .unset] [])) _
      refine XS.iloadN X1.here hx rfl (hb hby d9_50) rfl ?_
      show Steps p.tables e below (T1.setTop (mkF m 51 #[.val (.ref o0), .val (.int p1), .val (.int (own_rd ls p1)), .val (.int (41 : Int32)), .unset] [(.int p1)])) _
      refine XS.iconst X1.here hx rfl (hb hby d9_51) ?_
      show Steps p.tables e below (T1.setTop (mkF m 52 #[.val (.ref o0), .val (.int p1), .val (.int (own_rd ls p1)), .val (.int (41 : Int32)), .unset] [(.int (1 : Int32)), (.int p1)])) _
      refine XS.iadd X1.here hx rfl (hb hby d9_52) rfl ?_
      show Steps p.tables e below (T1.setTop (mkF m 53 #[.val (.ref o0), .val (.int p1), .val (.int (own_rd ls p1)), .val (.int (41 : Int32)), .unset] [(.int (p1 + (1 : Int32)))])) _
      refine XS.istore X1.here hx rfl (hb hby d9_53) rfl (l' := #[.val (.ref o0), .val (.int p1), .val (.int (own_rd ls p1)), .val (.int (41 : Int32)), .val (.int (p1 + (1 : Int32)))]) rfl ?_
      show Steps p.tables e below (T1.setTop (mkF m 55 #[.val (.ref o0), .val (.int p1), .val (.int (own_rd ls p1)), .val (.int (41 : Int32)), .val (.int (p1 + (1 : Int32)))] [])) _
      refine XS.aloadN X1.here hx rfl (hb hby d9_55) rfl rfl ?_
      show Steps p.tables e below (T1.setTop (mkF m 56 #[.val (.ref o0), .val (.int p1), .val (.int (own_rd ls p1)), .val (.int (41 : Int32)), .val (.int (p1 + (1 : Int32)))] [(.ref o0)])) _
      refine XS.iload X1.here hx rfl (hb hby d9_56) rfl ?_
      show Steps p.tables e below (T1.setTop (mkF m 58 #[.val (.ref o0), .val (.int p1), .val (.int (own_rd ls p1)), .val (.int (41 : Int32)), .val (.int (p1 + (1 : Int32)))] [(.int (p1 + (1 : Int32))), (.ref o0)])) _
      refine st12.trans ?_
      show Steps p.tables e below (T12.setTop (mkF m 61 #[.val (.ref o0), .val (.int p1), .val (.int (own_rd ls p1)), .val (.int (41 : Int32)), .val (.int (p1 + (1 : Int32)))] [(.int (own_rd ls (p1 + (1 : Int32))))])) _
      refine XS.iloadN X12.here hx rfl (hb hby d9_61) rfl ?_
      show Steps p.tables e below (T12.setTop (mkF m 62 #[.val (.ref o0), .val (.int p1), .val (.int (own_rd ls p1)), .val (.int (41 : Int32)), .val (.int (p1 + (1 : Int32)))] [(.int (41 : Int32)), (.int (own_rd ls (p1 + (1 : Int32))))])) _
      refine XS.icmpNo X12.here hx rfl (hb hby d9_62) rfl (feq q4).1 ?_
      show Steps p.tables e below (T12.setTop (mkF m 65 #[.val (.ref o0), .val (.int p1), .val (.int (own_rd ls p1)), .val (.int (41 : Int32)), .val (.int (p1 + (1 : Int32)))] [])) _
      refine XS.aloadN X12.here hx rfl (hb hby d9_65) rfl rfl ?_
      show Steps p.tables e below (T12.setTop (mkF m 66 #[.val (.ref o0), .val (.int p1), .val (.int (own_rd ls p1)), .val (.int (41 : Int32)), .val (.int (p1 + (1 : Int32)))] [(.ref o0)])) _
      refine XS.iload X12.here hx rfl (hb hby d9_66) rfl ?_
      show Steps p.tables e below (T12.setTop (mkF m 68 #[.val (.ref o0), .val (.int p1), .val (.int (own_rd ls p1)), .val (.int (41 : Int32)), .val (.int (p1 + (1 : Int32)))] [(.int (p1 + (1 : Int32))), (.ref o0)])) _
      refine st13 _ ?_
      show Steps p.tables e below (T13.setTop (mkF m 71 #[.val (.ref o0), .val (.int p1), .val (.int (own_rd ls p1)), .val (.int (41 : Int32)), .val (.int (p1 + (1 : Int32)))] [(.int jj)])) _
      refine XS.istore X13.here hx rfl (hb hby d9_71) rfl (l' := #[.val (.ref o0), .val (.int p1), .val (.int (own_rd ls p1)), .val (.int (41 : Int32)), .val (.int jj)]) rfl ?_
      show Steps p.tables e below (T13.setTop (mkF m 73 #[.val (.ref o0), .val (.int p1), .val (.int (own_rd ls p1)), .val (.int (41 : Int32)), .val (.int jj)] [])) _
      refine XS.goto X13.here hx rfl (pc0 := 73) (pc' := 55) rfl (hb hby d9_73) (by decide) (by decide) ?_
      show Steps p.tables e below (T13.setTop (mkF m 55 #[.val (.ref o0), .val (.int p1), .val (.int (own_rd ls p1)), .val (.int (41 : Int32)), .val (.int jj)] [])) _
      refine XS.aloadN X13.here hx rfl (hb hby d9_55) rfl rfl ?_
      show Steps p.tables e below (T13.setTop (mkF m 56 #[.val (.ref o0), .val (.int p1), .val (.int (own_rd ls p1)), .val (.int (41 : Int32)), .val (.int jj)] [(.ref o0)])) _
      refine XS.iload X13.here hx rfl (hb hby d9_56) rfl ?_
      show Steps p.tables e below (T13.setTop (mkF m 58 #[.val (.ref o0), .val (.int p1), .val (.int (own_rd ls p1)), .val (.int (41 : Int32)), .val (.int jj)] [(.int jj), (.ref o0)])) _
      refine st14.trans ?_
      show Steps p.tables e below (T14.setTop (mkF m 61 #[.val (.ref o0), .val (.int p1), .val (.int (own_rd ls p1)), .val (.int (41 : Int32)), .val (.int jj)] [(.int (own_rd ls jj))])) _
      refine XS.iloadN X14.here hx rfl (hb hby d9_61) rfl ?_
      show Steps p.tables e below (T14.setTop (mkF m 62 #[.val (.ref o0), .val (.int p1), .val (.int (own_rd ls p1)), .val (.int (41 : Int32)), .val (.int jj)] [(.int (41 : Int32)), (.int (own_rd ls jj))])) _
      refine XS.icmpNo X14.here hx rfl (hb hby d9_62) rfl (feq q7).1 ?_
      show Steps p.tables e below (T14.setTop (mkF m 65 #[.val (.ref o0), .val (.int p1), .val (.int (own_rd ls p1)), .val (.int (41 : Int32)), .val (.int jj)] [])) _
      refine XS.aloadN X14.here hx rfl (hb hby d9_65) rfl rfl ?_
      show Steps p.tables e below (T14.setTop (mkF m 66 #[.val (.ref o0), .val (.int p1), .val (.int (own_rd ls p1)), .val (.int (41 : Int32)), .val (.int jj)] [(.ref o0)])) _
      refine XS.iload X14.here hx rfl (hb hby d9_66) rfl ?_
      show Steps p.tables e below (T14.setTop (mkF m 68 #[.val (.ref o0), .val (.int p1), .val (.int (own_rd ls p1)), .val (.int (41 : Int32)), .val (.int jj)] [(.int jj), (.ref o0)])) _
      refine st15 _ ?_
      show Steps p.tables e below (T15.setTop (mkF m 71 #[.val (.ref o0), .val (.int p1), .val (.int (own_rd ls p1)), .val (.int (41 : Int32)), .val (.int jj)] [(.int kk)])) _
      refine XS.istore X15.here hx rfl (hb hby d9_71) rfl (l' := #[.val (.ref o0), .val (.int p1), .val (.int (own_rd ls p1)), .val (.int (41 : Int32)), .val (.int kk)]) rfl ?_
      show Steps p.tables e below (T15.setTop (mkF m 73 #[.val (.ref o0), .val (.int p1), .val (.int (own_rd ls p1)), .val (.int (41 : Int32)), .val (.int kk)] [])) _
      refine XS.goto X15.here hx rfl (pc0 := 73) (pc' := 55) rfl (hb hby d9_73) (by decide) (by decide) ?_
      show Steps p.tables e below (T15.setTop (mkF m 55 #[.val (.ref o0), .val (.int p1), .val (.int (own_rd ls p1)), .val (.int (41 : Int32)), .val (.int kk)] [])) _
      refine XS.aloadN X15.here hx rfl (hb hby d9_55) rfl rfl ?_
      show Steps p.tables e below (T15.setTop (mkF m 56 #[.val (.ref o0), .val (.int p1), .val (.int (own_rd ls p1)), .val (.int (41 : Int32)), .val (.int kk)] [(.ref o0)])) _
      refine XS.iload X15.here hx rfl (hb hby d9_56) rfl ?_
      show Steps p.tables e below (T15.setTop (mkF m 58 #[.val (.ref o0), .val (.int p1), .val (.int (own_rd ls p1)), .val (.int (41 : Int32)), .val (.int kk)] [(.int kk), (.ref o0)])) _
      refine st16.trans ?_
      show Steps p.tables e below (T16.setTop (mkF m 61 #[.val (.ref o0), .val (.int p1), .val (.int (own_rd ls p1)), .val (.int (41 : Int32)), .val (.int kk)] [(.int (own_rd ls kk))])) _
      refine XS.iloadN X16.here hx rfl (hb hby d9_61) rfl ?_
      show Steps p.tables e below (T16.setTop (mkF m 62 #[.val (.ref o0), .val (.int p1), .val (.int (own_rd ls p1)), .val (.int (41 : Int32)), .val (.int kk)] [(.int (41 : Int32)), (.int (own_rd ls kk))])) _
      refine XS.icmpYes X16.here hx rfl (pc0 := 62) (pc' := 76) rfl (hb hby d9_62) rfl (teq qa).1 (by decide) (by decide) ?_
      show Steps p.tables e below (T16.setTop (mkF m 76 #[.val (.ref o0), .val (.int p1), .val (.int (own_rd ls p1)), .val (.int (41 : Int32)), .val (.int kk)] [])) _
      refine XS.iload X16.here hx rfl (hb hby d9_76) rfl ?_
      show Steps p.tables e below (T16.setTop (mkF m 78 #[.val (.ref o0), .val (.int p1), .val (.int (own_rd ls p1)), .val (.int (41 : Int32)), .val (.int kk)] [(.int kk)])) _
      refine XS.iconst X16.here hx rfl (hb hby d9_78) ?_
      show Steps p.tables e below (T16.setTop (mkF m 79 #[.val (.ref o0), .val (.int p1), .val (.int (own_rd ls p1)), .val (.int (41 : Int32)), .val (.int kk)] [(.int (1 : Int32)), (.int kk)])) _
      refine XS.iadd X16.here hx rfl (hb hby d9_79) rfl ?_
      exact k)
    obtain ⟨fs, hr, hrun, hended, hW, hsame⟩ := X16.leave (v := some (.int (kk + (1 : Int32)))) (fun h => by rw [Bd.returns] at h; cases h)
    refine ⟨_, _, pre17 _ ?_, hrun, hended, _, _, rfl, ?_, ⟨_, rfl⟩, hW, hsame.mono (Nat.zero_le _) (Nat.zero_le _)⟩
    · exact retI X16 hx Bd.returns (hb hby d9_80) hr
    · show Q9s Z o0 p1 wC wF wB kb ls en h0 n0 _ T16.heap _
      rw [hh16]
      exact ⟨by rw [hE], N16, rfl⟩
  · obtain ⟨cq18, kq18, q18a, q18b, q18c⟩ := isOf hZ hh1 E_o0
    obtain ⟨_, _, ⟨T18, L18, k18, n18⟩, -, X18, ⟨Lc18, hQ18, l18, y18, z18⟩, st18⟩ := X1.virtualBack hx (y := (⟨"java/lang/String", "charAt", "(I)C"⟩ : MethodName)) (z := (⟨"java/lang/String", "charAt", "(I)C"⟩ : MethodName)) hown (mvT hZ (hw _ (List.mem_of_getElem? (i := 42) rfl))) (mvT hZ (hw _ (List.mem_of_getElem? (i := 43) rfl))) (notFace_of_selects (args := #[]) (mvT hZ (hw _ (List.mem_of_getElem? (i := 45) rfl)))) (mvT hZ (hw _ (List.mem_of_getElem? (i := 45) rfl))) (mvT hZ (hw _ (List.mem_of_getElem? (i := 44) rfl))) (by decide) (backOf (W := 0) (rm10 l Z a0 hw [] o0 (p1 + (1 : Int32)) wC wF wB kb (ls.map (fun c => c.toInt8.toInt32)) (own_rd ls (p1 + (1 : Int32))) h0 n0 Z0 F_coder_o0 F_value_o0 E_o0 S_C hC S_F hF V_wB q3 (own_ch hBy _)) hZ (hw _ (List.mem_of_getElem? (i := 46) rfl)) (hw _ (List.mem_of_getElem? (i := 11) rfl)) (by dsimp only [own_room]; omega) (by dsimp only [own_room]; omega)) q18a q18c (g := (mkF m 58 #[.val (.ref o0), .val (.int p1), .val (.int (own_rd ls p1)), .val (.int (125 : Int32)), .val (.int (p1 + (1 : Int32)))] [(.int (p1 + (1 : Int32))), (.ref o0)])) rfl (by rw [hml]; rfl) (Steps.refl _) (argsL := [(.int (p1 + (1 : Int32)))]) (rest := []) (lenOf pd_5 rfl) rfl (by show 2 * 0 + _ ≤ _; exact Nat.le_of_eq rfl) (hb hby d9_58) (fun _ _ => ⟨rfl, hh1, (Nat.zero_le _ : 0 + 0 ≤ _), (Nat.zero_le _ : 0 + 0 ≤ _)⟩)
    dsimp only [Pt.U, Pt.locs, Pt.cells, Pt.slots] at X18 l18 y18 z18 st18 hQ18
    subst l18 y18 z18
    obtain ⟨rfl, N18q, hh18⟩ := hQ18
    have N18 := Fr.app N1 N18q
    have pre19 : ∀ t, Steps p.tables e below (T18.setTop (mkF m 80 #[.val (.ref o0), .val (.int p1), .val (.int (own_rd ls p1)), .val (.int (125 : Int32)), .val (.int (p1 + (1 : Int32)))] [(.int ((p1 + (1 : Int32)) + (1 : Int32)))])) t → Steps p.tables e below (s₁.setTop (entryFrame m #[(.ref o0), (.int p1)] 5)) t := fun t k => pre2 t (by
      show Steps p.tables e below (T1.setTop (mkF m 5 #[.val (.ref o0), .val (.int p1), .unset, .unset, .unset] [(.int (own_rd ls p1))])) _
      refine XS.istoreN X1.here hx rfl (hb hby d9_5) rfl (l' := #[.val (.ref o0), .val (.int p1), .val (.int (own_rd ls p1)), .unset, .unset]) rfl ?_
      show Steps p.tables e below (T1.setTop (mkF m 6 #[.val (.ref o0), .val (.int p1), .val (.int (own_rd ls p1)), .unset, .unset] [])) _
      refine XS.iloadN X1.here hx rfl (hb hby d9_6) rfl ?_
      show Steps p.tables e below (T1.setTop (mkF m 7 #[.val (.ref o0), .val (.int p1), .val (.int (own_rd ls p1)), .unset, .unset] [(.int (own_rd ls p1))])) _
      refine XS.bipush X1.here hx rfl (hb hby d9_7) ?_
      show Steps p.tables e below (T1.setTop (mkF m 9 #[.val (.ref o0), .val (.int p1), .val (.int (own_rd ls p1)), .unset, .unset] [(.int (97 : Int32)), (.int (own_rd ls p1))])) _
      refine XS.icmpYes X1.here hx rfl (pc0 := 9) (pc' := 20) rfl (hb hby d9_9) rfl (feq q2).2 (by decide) (by decide) ?_
      show Steps p.tables e below (T1.setTop (mkF m 20 #[.val (.ref o0), .val (.int p1), .val (.int (own_rd ls p1)), .unset, .unset] [])) _
      refine XS.iloadN X1.here hx rfl (hb hby d9_20) rfl ?_
      show Steps p.tables e below (T1.setTop (mkF m 21 #[.val (.ref o0), .val (.int p1), .val (.int (own_rd ls p1)), .unset, .unset] [(.int (own_rd ls p1))])) _
      refine XS.bipush X1.here hx rfl (hb hby d9_21) ?_
      show Steps p.tables e below (T1.setTop (mkF m 23 #[.val (.ref o0), .val (.int p1), .val (.int (own_rd ls p1)), .unset, .unset] [(.int (40 : Int32)), (.int (own_rd ls p1))])) _
      refine XS.icmpNo X1.here hx rfl (hb hby d9_23) rfl (feq b0).1 ?_
      show Steps p.tables e below (T1.setTop (mkF m 26 #[.val (.ref o0), .val (.int p1), .val (.int (own_rd ls p1)), .unset, .unset] [])) _
      refine XS.iloadN X1.here hx rfl (hb hby d9_26) rfl ?_
      show Steps p.tables e below (T1.setTop (mkF m 27 #[.val (.ref o0), .val (.int p1), .val (.int (own_rd ls p1)), .unset, .unset] [(.int (own_rd ls p1))])) _
      refine XS.bipush X1.here hx rfl (hb hby d9_27) ?_
      show Steps p.tables e below (T1.setTop (mkF m 29 #[.val (.ref o0), .val (.int p1), .val (.int (own_rd ls p1)), .unset, .unset] [(.int (123 : Int32)), (.int (own_rd ls p1))])) _
      refine XS.icmpYes X1.here hx rfl (pc0 := 29) (pc' := 36) rfl (hb hby d9_29) rfl (teq b1).1 (by decide) (by decide) ?_
      show Steps p.tables e below (T1.setTop (mkF m 36 #[.val (.ref o0), .val (.int p1), .val (.int (own_rd ls p1)), .unset, .unset] [])) _
      refine XS.iloadN X1.here hx rfl (hb hby d9_36) rfl ?_
      show Steps p.tables e below (T1.setTop (mkF m 37 #[.val (.ref o0), .val (.int p1), .val (.int (own_rd ls p1)), .unset, .unset] [(.int (own_rd ls p1))])) _
      refine XS.bipush X1.here hx rfl (hb hby d9_37) ?_
      show Steps p.tables e below (T1.setTop (mkF m 39 #[.val (.ref o0), .val (.int p1), .val (.int (own_rd ls p1)), .unset, .unset] [(.int (40 : Int32)), (.int (own_rd ls p1))])) _
      refine XS.icmpYes X1.here hx rfl (pc0 := 39) (pc' := 47) rfl (hb hby d9_39) rfl (feq b0).2 (by decide) (by decide) ?_
      show Steps p.tables e below (T1.setTop (mkF m 47 #[.val (.ref o0), .val (.int p1), .val (.int (own_rd ls p1)), .unset, .unset] [])) _
      refine XS.bipush X1.here hx rfl (hb hby d9_47) ?_
      show Steps p.tables e below (T1.setTop (mkF m 49 #[.val (.ref o0), .val (.int p1), .val (.int (own_rd ls p1)), .unset, .unset] [(.int (125 : Int32))])) _
      refine XS.istoreN X1.here hx rfl (hb hby d9_49) rfl (l' := #[.val (.ref o0), .val (.int p1), .val (.int (own_rd ls p1)), .val (.int (125 : Int32)), .unset]) rfl ?_
      show Steps p.tables e below (T1.setTop (mkF m 50 #[.val (.ref o0), .val (.int p1), .val (.int (own_rd ls p1)), .val (.int (125 : Int32)), .unset] [])) _
      refine XS.iloadN X1.here hx rfl (hb hby d9_50) rfl ?_
      show Steps p.tables e below (T1.setTop (mkF m 51 #[.val (.ref o0), .val (.int p1), .val (.int (own_rd ls p1)), .val (.int (125 : Int32)), .unset] [(.int p1)])) _
      refine XS.iconst X1.here hx rfl (hb hby d9_51) ?_
      show Steps p.tables e below (T1.setTop (mkF m 52 #[.val (.ref o0), .val (.int p1), .val (.int (own_rd ls p1)), .val (.int (125 : Int32)), .unset] [(.int (1 : Int32)), (.int p1)])) _
      refine XS.iadd X1.here hx rfl (hb hby d9_52) rfl ?_
      show Steps p.tables e below (T1.setTop (mkF m 53 #[.val (.ref o0), .val (.int p1), .val (.int (own_rd ls p1)), .val (.int (125 : Int32)), .unset] [(.int (p1 + (1 : Int32)))])) _
      refine XS.istore X1.here hx rfl (hb hby d9_53) rfl (l' := #[.val (.ref o0), .val (.int p1), .val (.int (own_rd ls p1)), .val (.int (125 : Int32)), .val (.int (p1 + (1 : Int32)))]) rfl ?_
      show Steps p.tables e below (T1.setTop (mkF m 55 #[.val (.ref o0), .val (.int p1), .val (.int (own_rd ls p1)), .val (.int (125 : Int32)), .val (.int (p1 + (1 : Int32)))] [])) _
      refine XS.aloadN X1.here hx rfl (hb hby d9_55) rfl rfl ?_
      show Steps p.tables e below (T1.setTop (mkF m 56 #[.val (.ref o0), .val (.int p1), .val (.int (own_rd ls p1)), .val (.int (125 : Int32)), .val (.int (p1 + (1 : Int32)))] [(.ref o0)])) _
      refine XS.iload X1.here hx rfl (hb hby d9_56) rfl ?_
      show Steps p.tables e below (T1.setTop (mkF m 58 #[.val (.ref o0), .val (.int p1), .val (.int (own_rd ls p1)), .val (.int (125 : Int32)), .val (.int (p1 + (1 : Int32)))] [(.int (p1 + (1 : Int32))), (.ref o0)])) _
      refine st18.trans ?_
      show Steps p.tables e below (T18.setTop (mkF m 61 #[.val (.ref o0), .val (.int p1), .val (.int (own_rd ls p1)), .val (.int (125 : Int32)), .val (.int (p1 + (1 : Int32)))] [(.int (own_rd ls (p1 + (1 : Int32))))])) _
      refine XS.iloadN X18.here hx rfl (hb hby d9_61) rfl ?_
      show Steps p.tables e below (T18.setTop (mkF m 62 #[.val (.ref o0), .val (.int p1), .val (.int (own_rd ls p1)), .val (.int (125 : Int32)), .val (.int (p1 + (1 : Int32)))] [(.int (125 : Int32)), (.int (own_rd ls (p1 + (1 : Int32))))])) _
      refine XS.icmpYes X18.here hx rfl (pc0 := 62) (pc' := 76) rfl (hb hby d9_62) rfl (teq q4).1 (by decide) (by decide) ?_
      show Steps p.tables e below (T18.setTop (mkF m 76 #[.val (.ref o0), .val (.int p1), .val (.int (own_rd ls p1)), .val (.int (125 : Int32)), .val (.int (p1 + (1 : Int32)))] [])) _
      refine XS.iload X18.here hx rfl (hb hby d9_76) rfl ?_
      show Steps p.tables e below (T18.setTop (mkF m 78 #[.val (.ref o0), .val (.int p1), .val (.int (own_rd ls p1)), .val (.int (125 : Int32)), .val (.int (p1 + (1 : Int32)))] [(.int (p1 + (1 : Int32)))])) _
      refine XS.iconst X18.here hx rfl (hb hby d9_78) ?_
      show Steps p.tables e below (T18.setTop (mkF m 79 #[.val (.ref o0), .val (.int p1), .val (.int (own_rd ls p1)), .val (.int (125 : Int32)), .val (.int (p1 + (1 : Int32)))] [(.int (1 : Int32)), (.int (p1 + (1 : Int32)))])) _
      refine XS.iadd X18.here hx rfl (hb hby d9_79) rfl ?_
      exact k)
    obtain ⟨fs, hr, hrun, hended, hW, hsame⟩ := X18.leave (v := some (.int ((p1 + (1 : Int32)) + (1 : Int32)))) (fun h => by rw [Bd.returns] at h; cases h)
    refine ⟨_, _, pre19 _ ?_, hrun, hended, _, _, rfl, ?_, ⟨_, rfl⟩, hW, hsame.mono (Nat.zero_le _) (Nat.zero_le _)⟩
    · exact retI X18 hx Bd.returns (hb hby d9_80) hr
    · show Q9s Z o0 p1 wC wF wB kb ls en h0 n0 _ T18.heap _
      rw [hh18]
      exact ⟨by rw [hE], N18, rfl⟩
  · obtain ⟨cq20, kq20, q20a, q20b, q20c⟩ := isOf hZ hh1 E_o0
    obtain ⟨_, _, ⟨T20, L20, k20, n20⟩, -, X20, ⟨Lc20, hQ20, l20, y20, z20⟩, st20⟩ := X1.virtualBack hx (y := (⟨"java/lang/String", "charAt", "(I)C"⟩ : MethodName)) (z := (⟨"java/lang/String", "charAt", "(I)C"⟩ : MethodName)) hown (mvT hZ (hw _ (List.mem_of_getElem? (i := 42) rfl))) (mvT hZ (hw _ (List.mem_of_getElem? (i := 43) rfl))) (notFace_of_selects (args := #[]) (mvT hZ (hw _ (List.mem_of_getElem? (i := 45) rfl)))) (mvT hZ (hw _ (List.mem_of_getElem? (i := 45) rfl))) (mvT hZ (hw _ (List.mem_of_getElem? (i := 44) rfl))) (by decide) (backOf (W := 0) (rm10 l Z a0 hw [] o0 (p1 + (1 : Int32)) wC wF wB kb (ls.map (fun c => c.toInt8.toInt32)) (own_rd ls (p1 + (1 : Int32))) h0 n0 Z0 F_coder_o0 F_value_o0 E_o0 S_C hC S_F hF V_wB q3 (own_ch hBy _)) hZ (hw _ (List.mem_of_getElem? (i := 46) rfl)) (hw _ (List.mem_of_getElem? (i := 11) rfl)) (by dsimp only [own_room]; omega) (by dsimp only [own_room]; omega)) q20a q20c (g := (mkF m 58 #[.val (.ref o0), .val (.int p1), .val (.int (own_rd ls p1)), .val (.int (125 : Int32)), .val (.int (p1 + (1 : Int32)))] [(.int (p1 + (1 : Int32))), (.ref o0)])) rfl (by rw [hml]; rfl) (Steps.refl _) (argsL := [(.int (p1 + (1 : Int32)))]) (rest := []) (lenOf pd_5 rfl) rfl (by show 2 * 0 + _ ≤ _; exact Nat.le_of_eq rfl) (hb hby d9_58) (fun _ _ => ⟨rfl, hh1, (Nat.zero_le _ : 0 + 0 ≤ _), (Nat.zero_le _ : 0 + 0 ≤ _)⟩)
    dsimp only [Pt.U, Pt.locs, Pt.cells, Pt.slots] at X20 l20 y20 z20 st20 hQ20
    subst l20 y20 z20
    obtain ⟨rfl, N20q, hh20⟩ := hQ20
    have N20 := Fr.app N1 N20q
    obtain ⟨_, _, ⟨T21, L21, k21, n21⟩, -, X21, ⟨Lc21, hQ21, l21, y21, z21⟩, st21⟩ := Jvm.LawKit.callS X20 hx (y := (⟨"com/example/sensor_access_indicators/sensoraccessindicators/dbus/Marshalling", "typeEnd", "(Ljava/lang/String;I)I"⟩ : MethodName)) hown (mvT hZ (hw _ (List.mem_of_getElem? (i := 64) rfl))) (mvT hZ (hw _ (List.mem_of_getElem? (i := 39) rfl))) (mvT hZ (hw _ (List.mem_of_getElem? (i := 40) rfl))) (mvT hZ (hw _ (List.mem_of_getElem? (i := 41) rfl))) (by decide) (backOf (W := 0) (IH (p1 + (1 : Int32)) jj q5) hZ (hw _ (List.mem_of_getElem? (i := 41) rfl)) (hw _ (List.mem_of_getElem? (i := 40) rfl)) (by dsimp only [own_room]; omega) (by dsimp only [own_room]; omega)) (g := (mkF m 68 #[.val (.ref o0), .val (.int p1), .val (.int (own_rd ls p1)), .val (.int (125 : Int32)), .val (.int (p1 + (1 : Int32)))] [(.int (p1 + (1 : Int32))), (.ref o0)])) rfl (by rw [hml]; rfl) (argsL := [(.ref o0), (.int (p1 + (1 : Int32)))]) (rest := []) (lenOf pd_6 rfl) rfl (by show 2 * 0 + _ ≤ _; exact Nat.le_of_eq rfl) (hb hby d9_68) (fun _ _ => ⟨rfl, hh20, (Nat.zero_le _ : 0 + 0 ≤ _), (Nat.zero_le _ : 0 + 0 ≤ _)⟩)
    dsimp only [Pt.U, Pt.locs, Pt.cells, Pt.slots] at X21 l21 y21 z21 st21 hQ21
    subst l21 y21 z21
    obtain ⟨rfl, N21q, hh21⟩ := hQ21
    have N21 := Fr.app N20 N21q
    obtain ⟨cq22, kq22, q22a, q22b, q22c⟩ := isOf hZ hh21 E_o0
    obtain ⟨_, _, ⟨T22, L22, k22, n22⟩, -, X22, ⟨Lc22, hQ22, l22, y22, z22⟩, st22⟩ := X21.virtualBack hx (y := (⟨"java/lang/String", "charAt", "(I)C"⟩ : MethodName)) (z := (⟨"java/lang/String", "charAt", "(I)C"⟩ : MethodName)) hown (mvT hZ (hw _ (List.mem_of_getElem? (i := 42) rfl))) (mvT hZ (hw _ (List.mem_of_getElem? (i := 43) rfl))) (notFace_of_selects (args := #[]) (mvT hZ (hw _ (List.mem_of_getElem? (i := 45) rfl)))) (mvT hZ (hw _ (List.mem_of_getElem? (i := 45) rfl))) (mvT hZ (hw _ (List.mem_of_getElem? (i := 44) rfl))) (by decide) (backOf (W := 0) (rm10 l Z a0 hw [] o0 jj wC wF wB kb (ls.map (fun c => c.toInt8.toInt32)) (own_rd ls jj) h0 n0 Z0 F_coder_o0 F_value_o0 E_o0 S_C hC S_F hF V_wB q6 (own_ch hBy _)) hZ (hw _ (List.mem_of_getElem? (i := 46) rfl)) (hw _ (List.mem_of_getElem? (i := 11) rfl)) (by dsimp only [own_room]; omega) (by dsimp only [own_room]; omega)) q22a q22c (g := (mkF m 58 #[.val (.ref o0), .val (.int p1), .val (.int (own_rd ls p1)), .val (.int (125 : Int32)), .val (.int jj)] [(.int jj), (.ref o0)])) rfl (by rw [hml]; rfl) (Steps.refl _) (argsL := [(.int jj)]) (rest := []) (lenOf pd_5 rfl) rfl (by show 2 * 0 + _ ≤ _; exact Nat.le_of_eq rfl) (hb hby d9_58) (fun _ _ => ⟨rfl, hh21, (Nat.zero_le _ : 0 + 0 ≤ _), (Nat.zero_le _ : 0 + 0 ≤ _)⟩)
    dsimp only [Pt.U, Pt.locs, Pt.cells, Pt.slots] at X22 l22 y22 z22 st22 hQ22
    subst l22 y22 z22
    obtain ⟨rfl, N22q, hh22⟩ := hQ22
    have N22 := Fr.app N21 N22q
    have pre23 : ∀ t, Steps p.tables e below (T22.setTop (mkF m 80 #[.val (.ref o0), .val (.int p1), .val (.int (own_rd ls p1)), .val (.int (125 : Int32)), .val (.int jj)] [(.int (jj + (1 : Int32)))])) t → Steps p.tables e below (s₁.setTop (entryFrame m #[(.ref o0), (.int p1)] 5)) t := fun t k => pre2 t (by
      show Steps p.tables e below (T1.setTop (mkF m 5 #[.val (.ref o0), .val (.int p1), .unset, .unset, .unset] [(.int (own_rd ls p1))])) _
      refine XS.istoreN X1.here hx rfl (hb hby d9_5) rfl (l' := #[.val (.ref o0), .val (.int p1), .val (.int (own_rd ls p1)), .unset, .unset]) rfl ?_
      show Steps p.tables e below (T1.setTop (mkF m 6 #[.val (.ref o0), .val (.int p1), .val (.int (own_rd ls p1)), .unset, .unset] [])) _
      refine XS.iloadN X1.here hx rfl (hb hby d9_6) rfl ?_
      show Steps p.tables e below (T1.setTop (mkF m 7 #[.val (.ref o0), .val (.int p1), .val (.int (own_rd ls p1)), .unset, .unset] [(.int (own_rd ls p1))])) _
      refine XS.bipush X1.here hx rfl (hb hby d9_7) ?_
      show Steps p.tables e below (T1.setTop (mkF m 9 #[.val (.ref o0), .val (.int p1), .val (.int (own_rd ls p1)), .unset, .unset] [(.int (97 : Int32)), (.int (own_rd ls p1))])) _
      refine XS.icmpYes X1.here hx rfl (pc0 := 9) (pc' := 20) rfl (hb hby d9_9) rfl (feq q2).2 (by decide) (by decide) ?_
      show Steps p.tables e below (T1.setTop (mkF m 20 #[.val (.ref o0), .val (.int p1), .val (.int (own_rd ls p1)), .unset, .unset] [])) _
      refine XS.iloadN X1.here hx rfl (hb hby d9_20) rfl ?_
      show Steps p.tables e below (T1.setTop (mkF m 21 #[.val (.ref o0), .val (.int p1), .val (.int (own_rd ls p1)), .unset, .unset] [(.int (own_rd ls p1))])) _
      refine XS.bipush X1.here hx rfl (hb hby d9_21) ?_
      show Steps p.tables e below (T1.setTop (mkF m 23 #[.val (.ref o0), .val (.int p1), .val (.int (own_rd ls p1)), .unset, .unset] [(.int (40 : Int32)), (.int (own_rd ls p1))])) _
      refine XS.icmpNo X1.here hx rfl (hb hby d9_23) rfl (feq b0).1 ?_
      show Steps p.tables e below (T1.setTop (mkF m 26 #[.val (.ref o0), .val (.int p1), .val (.int (own_rd ls p1)), .unset, .unset] [])) _
      refine XS.iloadN X1.here hx rfl (hb hby d9_26) rfl ?_
      show Steps p.tables e below (T1.setTop (mkF m 27 #[.val (.ref o0), .val (.int p1), .val (.int (own_rd ls p1)), .unset, .unset] [(.int (own_rd ls p1))])) _
      refine XS.bipush X1.here hx rfl (hb hby d9_27) ?_
      show Steps p.tables e below (T1.setTop (mkF m 29 #[.val (.ref o0), .val (.int p1), .val (.int (own_rd ls p1)), .unset, .unset] [(.int (123 : Int32)), (.int (own_rd ls p1))])) _
      refine XS.icmpYes X1.here hx rfl (pc0 := 29) (pc' := 36) rfl (hb hby d9_29) rfl (teq b1).1 (by decide) (by decide) ?_
      show Steps p.tables e below (T1.setTop (mkF m 36 #[.val (.ref o0), .val (.int p1), .val (.int (own_rd ls p1)), .unset, .unset] [])) _
      refine XS.iloadN X1.here hx rfl (hb hby d9_36) rfl ?_
      show Steps p.tables e below (T1.setTop (mkF m 37 #[.val (.ref o0), .val (.int p1), .val (.int (own_rd ls p1)), .unset, .unset] [(.int (own_rd ls p1))])) _
      refine XS.bipush X1.here hx rfl (hb hby d9_37) ?_
      show Steps p.tables e below (T1.setTop (mkF m 39 #[.val (.ref o0), .val (.int p1), .val (.int (own_rd ls p1)), .unset, .unset] [(.int (40 : Int32)), (.int (own_rd ls p1))])) _
      refine XS.icmpYes X1.here hx rfl (pc0 := 39) (pc' := 47) rfl (hb hby d9_39) rfl (feq b0).2 (by decide) (by decide) ?_
      show Steps p.tables e below (T1.setTop (mkF m 47 #[.val (.ref o0), .val (.int p1), .val (.int (own_rd ls p1)), .unset, .unset] [])) _
      refine XS.bipush X1.here hx rfl (hb hby d9_47) ?_
      show Steps p.tables e below (T1.setTop (mkF m 49 #[.val (.ref o0), .val (.int p1), .val (.int (own_rd ls p1)), .unset, .unset] [(.int (125 : Int32))])) _
      refine XS.istoreN X1.here hx rfl (hb hby d9_49) rfl (l' := #[.val (.ref o0), .val (.int p1), .val (.int (own_rd ls p1)), .val (.int (125 : Int32)), .unset]) rfl ?_
      show Steps p.tables e below (T1.setTop (mkF m 50 #[.val (.ref o0), .val (.int p1), .val (.int (own_rd ls p1)), .val (.int (125 : Int32)), .unset] [])) _
      refine XS.iloadN X1.here hx rfl (hb hby d9_50) rfl ?_
      show Steps p.tables e below (T1.setTop (mkF m 51 #[.val (.ref o0), .val (.int p1), .val (.int (own_rd ls p1)), .val (.int (125 : Int32)), .unset] [(.int p1)])) _
      refine XS.iconst X1.here hx rfl (hb hby d9_51) ?_
      show Steps p.tables e below (T1.setTop (mkF m 52 #[.val (.ref o0), .val (.int p1), .val (.int (own_rd ls p1)), .val (.int (125 : Int32)), .unset] [(.int (1 : Int32)), (.int p1)])) _
      refine XS.iadd X1.here hx rfl (hb hby d9_52) rfl ?_
      show Steps p.tables e below (T1.setTop (mkF m 53 #[.val (.ref o0), .val (.int p1), .val (.int (own_rd ls p1)), .val (.int (125 : Int32)), .unset] [(.int (p1 + (1 : Int32)))])) _
      refine XS.istore X1.here hx rfl (hb hby d9_53) rfl (l' := #[.val (.ref o0), .val (.int p1), .val (.int (own_rd ls p1)), .val (.int (125 : Int32)), .val (.int (p1 + (1 : Int32)))]) rfl ?_
      show Steps p.tables e below (T1.setTop (mkF m 55 #[.val (.ref o0), .val (.int p1), .val (.int (own_rd ls p1)), .val (.int (125 : Int32)), .val (.int (p1 + (1 : Int32)))] [])) _
      refine XS.aloadN X1.here hx rfl (hb hby d9_55) rfl rfl ?_
      show Steps p.tables e below (T1.setTop (mkF m 56 #[.val (.ref o0), .val (.int p1), .val (.int (own_rd ls p1)), .val (.int (125 : Int32)), .val (.int (p1 + (1 : Int32)))] [(.ref o0)])) _
      refine XS.iload X1.here hx rfl (hb hby d9_56) rfl ?_
      show Steps p.tables e below (T1.setTop (mkF m 58 #[.val (.ref o0), .val (.int p1), .val (.int (own_rd ls p1)), .val (.int (125 : Int32)), .val (.int (p1 + (1 : Int32)))] [(.int (p1 + (1 : Int32))), (.ref o0)])) _
      refine st20.trans ?_
      show Steps p.tables e below (T20.setTop (mkF m 61 #[.val (.ref o0), .val (.int p1), .val (.int (own_rd ls p1)), .val (.int (125 : Int32)), .val (.int (p1 + (1 : Int32)))] [(.int (own_rd ls (p1 + (1 : Int32))))])) _
      refine XS.iloadN X20.here hx rfl (hb hby d9_61) rfl ?_
      show Steps p.tables e below (T20.setTop (mkF m 62 #[.val (.ref o0), .val (.int p1), .val (.int (own_rd ls p1)), .val (.int (125 : Int32)), .val (.int (p1 + (1 : Int32)))] [(.int (125 : Int32)), (.int (own_rd ls (p1 + (1 : Int32))))])) _
      refine XS.icmpNo X20.here hx rfl (hb hby d9_62) rfl (feq q4).1 ?_
      show Steps p.tables e below (T20.setTop (mkF m 65 #[.val (.ref o0), .val (.int p1), .val (.int (own_rd ls p1)), .val (.int (125 : Int32)), .val (.int (p1 + (1 : Int32)))] [])) _
      refine XS.aloadN X20.here hx rfl (hb hby d9_65) rfl rfl ?_
      show Steps p.tables e below (T20.setTop (mkF m 66 #[.val (.ref o0), .val (.int p1), .val (.int (own_rd ls p1)), .val (.int (125 : Int32)), .val (.int (p1 + (1 : Int32)))] [(.ref o0)])) _
      refine XS.iload X20.here hx rfl (hb hby d9_66) rfl ?_
      show Steps p.tables e below (T20.setTop (mkF m 68 #[.val (.ref o0), .val (.int p1), .val (.int (own_rd ls p1)), .val (.int (125 : Int32)), .val (.int (p1 + (1 : Int32)))] [(.int (p1 + (1 : Int32))), (.ref o0)])) _
      refine st21 _ ?_
      show Steps p.tables e below (T21.setTop (mkF m 71 #[.val (.ref o0), .val (.int p1), .val (.int (own_rd ls p1)), .val (.int (125 : Int32)), .val (.int (p1 + (1 : Int32)))] [(.int jj)])) _
      refine XS.istore X21.here hx rfl (hb hby d9_71) rfl (l' := #[.val (.ref o0), .val (.int p1), .val (.int (own_rd ls p1)), .val (.int (125 : Int32)), .val (.int jj)]) rfl ?_
      show Steps p.tables e below (T21.setTop (mkF m 73 #[.val (.ref o0), .val (.int p1), .val (.int (own_rd ls p1)), .val (.int (125 : Int32)), .val (.int jj)] [])) _
      refine XS.goto X21.here hx rfl (pc0 := 73) (pc' := 55) rfl (hb hby d9_73) (by decide) (by decide) ?_
      show Steps p.tables e below (T21.setTop (mkF m 55 #[.val (.ref o0), .val (.int p1), .val (.int (own_rd ls p1)), .val (.int (125 : Int32)), .val (.int jj)] [])) _
      refine XS.aloadN X21.here hx rfl (hb hby d9_55) rfl rfl ?_
      show Steps p.tables e below (T21.setTop (mkF m 56 #[.val (.ref o0), .val (.int p1), .val (.int (own_rd ls p1)), .val (.int (125 : Int32)), .val (.int jj)] [(.ref o0)])) _
      refine XS.iload X21.here hx rfl (hb hby d9_56) rfl ?_
      show Steps p.tables e below (T21.setTop (mkF m 58 #[.val (.ref o0), .val (.int p1), .val (.int (own_rd ls p1)), .val (.int (125 : Int32)), .val (.int jj)] [(.int jj), (.ref o0)])) _
      refine st22.trans ?_
      show Steps p.tables e below (T22.setTop (mkF m 61 #[.val (.ref o0), .val (.int p1), .val (.int (own_rd ls p1)), .val (.int (125 : Int32)), .val (.int jj)] [(.int (own_rd ls jj))])) _
      refine XS.iloadN X22.here hx rfl (hb hby d9_61) rfl ?_
      show Steps p.tables e below (T22.setTop (mkF m 62 #[.val (.ref o0), .val (.int p1), .val (.int (own_rd ls p1)), .val (.int (125 : Int32)), .val (.int jj)] [(.int (125 : Int32)), (.int (own_rd ls jj))])) _
      refine XS.icmpYes X22.here hx rfl (pc0 := 62) (pc' := 76) rfl (hb hby d9_62) rfl (teq q7).1 (by decide) (by decide) ?_
      show Steps p.tables e below (T22.setTop (mkF m 76 #[.val (.ref o0), .val (.int p1), .val (.int (own_rd ls p1)), .val (.int (125 : Int32)), .val (.int jj)] [])) _
      refine XS.iload X22.here hx rfl (hb hby d9_76) rfl ?_
      show Steps p.tables e below (T22.setTop (mkF m 78 #[.val (.ref o0), .val (.int p1), .val (.int (own_rd ls p1)), .val (.int (125 : Int32)), .val (.int jj)] [(.int jj)])) _
      refine XS.iconst X22.here hx rfl (hb hby d9_78) ?_
      show Steps p.tables e below (T22.setTop (mkF m 79 #[.val (.ref o0), .val (.int p1), .val (.int (own_rd ls p1)), .val (.int (125 : Int32)), .val (.int jj)] [(.int (1 : Int32)), (.int jj)])) _
      refine XS.iadd X22.here hx rfl (hb hby d9_79) rfl ?_
      exact k)
    obtain ⟨fs, hr, hrun, hended, hW, hsame⟩ := X22.leave (v := some (.int (jj + (1 : Int32)))) (fun h => by rw [Bd.returns] at h; cases h)
    refine ⟨_, _, pre23 _ ?_, hrun, hended, _, _, rfl, ?_, ⟨_, rfl⟩, hW, hsame.mono (Nat.zero_le _) (Nat.zero_le _)⟩
    · exact retI X22 hx Bd.returns (hb hby d9_80) hr
    · show Q9s Z o0 p1 wC wF wB kb ls en h0 n0 _ T22.heap _
      rw [hh22]
      exact ⟨by rw [hE], N22, rfl⟩
  · obtain ⟨cq24, kq24, q24a, q24b, q24c⟩ := isOf hZ hh1 E_o0
    obtain ⟨_, _, ⟨T24, L24, k24, n24⟩, -, X24, ⟨Lc24, hQ24, l24, y24, z24⟩, st24⟩ := X1.virtualBack hx (y := (⟨"java/lang/String", "charAt", "(I)C"⟩ : MethodName)) (z := (⟨"java/lang/String", "charAt", "(I)C"⟩ : MethodName)) hown (mvT hZ (hw _ (List.mem_of_getElem? (i := 42) rfl))) (mvT hZ (hw _ (List.mem_of_getElem? (i := 43) rfl))) (notFace_of_selects (args := #[]) (mvT hZ (hw _ (List.mem_of_getElem? (i := 45) rfl)))) (mvT hZ (hw _ (List.mem_of_getElem? (i := 45) rfl))) (mvT hZ (hw _ (List.mem_of_getElem? (i := 44) rfl))) (by decide) (backOf (W := 0) (rm10 l Z a0 hw [] o0 (p1 + (1 : Int32)) wC wF wB kb (ls.map (fun c => c.toInt8.toInt32)) (own_rd ls (p1 + (1 : Int32))) h0 n0 Z0 F_coder_o0 F_value_o0 E_o0 S_C hC S_F hF V_wB q3 (own_ch hBy _)) hZ (hw _ (List.mem_of_getElem? (i := 46) rfl)) (hw _ (List.mem_of_getElem? (i := 11) rfl)) (by dsimp only [own_room]; omega) (by dsimp only [own_room]; omega)) q24a q24c (g := (mkF m 58 #[.val (.ref o0), .val (.int p1), .val (.int (own_rd ls p1)), .val (.int (125 : Int32)), .val (.int (p1 + (1 : Int32)))] [(.int (p1 + (1 : Int32))), (.ref o0)])) rfl (by rw [hml]; rfl) (Steps.refl _) (argsL := [(.int (p1 + (1 : Int32)))]) (rest := []) (lenOf pd_5 rfl) rfl (by show 2 * 0 + _ ≤ _; exact Nat.le_of_eq rfl) (hb hby d9_58) (fun _ _ => ⟨rfl, hh1, (Nat.zero_le _ : 0 + 0 ≤ _), (Nat.zero_le _ : 0 + 0 ≤ _)⟩)
    dsimp only [Pt.U, Pt.locs, Pt.cells, Pt.slots] at X24 l24 y24 z24 st24 hQ24
    subst l24 y24 z24
    obtain ⟨rfl, N24q, hh24⟩ := hQ24
    have N24 := Fr.app N1 N24q
    obtain ⟨_, _, ⟨T25, L25, k25, n25⟩, -, X25, ⟨Lc25, hQ25, l25, y25, z25⟩, st25⟩ := Jvm.LawKit.callS X24 hx (y := (⟨"com/example/sensor_access_indicators/sensoraccessindicators/dbus/Marshalling", "typeEnd", "(Ljava/lang/String;I)I"⟩ : MethodName)) hown (mvT hZ (hw _ (List.mem_of_getElem? (i := 64) rfl))) (mvT hZ (hw _ (List.mem_of_getElem? (i := 39) rfl))) (mvT hZ (hw _ (List.mem_of_getElem? (i := 40) rfl))) (mvT hZ (hw _ (List.mem_of_getElem? (i := 41) rfl))) (by decide) (backOf (W := 0) (IH (p1 + (1 : Int32)) jj q5) hZ (hw _ (List.mem_of_getElem? (i := 41) rfl)) (hw _ (List.mem_of_getElem? (i := 40) rfl)) (by dsimp only [own_room]; omega) (by dsimp only [own_room]; omega)) (g := (mkF m 68 #[.val (.ref o0), .val (.int p1), .val (.int (own_rd ls p1)), .val (.int (125 : Int32)), .val (.int (p1 + (1 : Int32)))] [(.int (p1 + (1 : Int32))), (.ref o0)])) rfl (by rw [hml]; rfl) (argsL := [(.ref o0), (.int (p1 + (1 : Int32)))]) (rest := []) (lenOf pd_6 rfl) rfl (by show 2 * 0 + _ ≤ _; exact Nat.le_of_eq rfl) (hb hby d9_68) (fun _ _ => ⟨rfl, hh24, (Nat.zero_le _ : 0 + 0 ≤ _), (Nat.zero_le _ : 0 + 0 ≤ _)⟩)
    dsimp only [Pt.U, Pt.locs, Pt.cells, Pt.slots] at X25 l25 y25 z25 st25 hQ25
    subst l25 y25 z25
    obtain ⟨rfl, N25q, hh25⟩ := hQ25
    have N25 := Fr.app N24 N25q
    obtain ⟨cq26, kq26, q26a, q26b, q26c⟩ := isOf hZ hh25 E_o0
    obtain ⟨_, _, ⟨T26, L26, k26, n26⟩, -, X26, ⟨Lc26, hQ26, l26, y26, z26⟩, st26⟩ := X25.virtualBack hx (y := (⟨"java/lang/String", "charAt", "(I)C"⟩ : MethodName)) (z := (⟨"java/lang/String", "charAt", "(I)C"⟩ : MethodName)) hown (mvT hZ (hw _ (List.mem_of_getElem? (i := 42) rfl))) (mvT hZ (hw _ (List.mem_of_getElem? (i := 43) rfl))) (notFace_of_selects (args := #[]) (mvT hZ (hw _ (List.mem_of_getElem? (i := 45) rfl)))) (mvT hZ (hw _ (List.mem_of_getElem? (i := 45) rfl))) (mvT hZ (hw _ (List.mem_of_getElem? (i := 44) rfl))) (by decide) (backOf (W := 0) (rm10 l Z a0 hw [] o0 jj wC wF wB kb (ls.map (fun c => c.toInt8.toInt32)) (own_rd ls jj) h0 n0 Z0 F_coder_o0 F_value_o0 E_o0 S_C hC S_F hF V_wB q6 (own_ch hBy _)) hZ (hw _ (List.mem_of_getElem? (i := 46) rfl)) (hw _ (List.mem_of_getElem? (i := 11) rfl)) (by dsimp only [own_room]; omega) (by dsimp only [own_room]; omega)) q26a q26c (g := (mkF m 58 #[.val (.ref o0), .val (.int p1), .val (.int (own_rd ls p1)), .val (.int (125 : Int32)), .val (.int jj)] [(.int jj), (.ref o0)])) rfl (by rw [hml]; rfl) (Steps.refl _) (argsL := [(.int jj)]) (rest := []) (lenOf pd_5 rfl) rfl (by show 2 * 0 + _ ≤ _; exact Nat.le_of_eq rfl) (hb hby d9_58) (fun _ _ => ⟨rfl, hh25, (Nat.zero_le _ : 0 + 0 ≤ _), (Nat.zero_le _ : 0 + 0 ≤ _)⟩)
    dsimp only [Pt.U, Pt.locs, Pt.cells, Pt.slots] at X26 l26 y26 z26 st26 hQ26
    subst l26 y26 z26
    obtain ⟨rfl, N26q, hh26⟩ := hQ26
    have N26 := Fr.app N25 N26q
    obtain ⟨_, _, ⟨T27, L27, k27, n27⟩, -, X27, ⟨Lc27, hQ27, l27, y27, z27⟩, st27⟩ := Jvm.LawKit.callS X26 hx (y := (⟨"com/example/sensor_access_indicators/sensoraccessindicators/dbus/Marshalling", "typeEnd", "(Ljava/lang/String;I)I"⟩ : MethodName)) hown (mvT hZ (hw _ (List.mem_of_getElem? (i := 64) rfl))) (mvT hZ (hw _ (List.mem_of_getElem? (i := 39) rfl))) (mvT hZ (hw _ (List.mem_of_getElem? (i := 40) rfl))) (mvT hZ (hw _ (List.mem_of_getElem? (i := 41) rfl))) (by decide) (backOf (W := 0) (IH jj kk q8) hZ (hw _ (List.mem_of_getElem? (i := 41) rfl)) (hw _ (List.mem_of_getElem? (i := 40) rfl)) (by dsimp only [own_room]; omega) (by dsimp only [own_room]; omega)) (g := (mkF m 68 #[.val (.ref o0), .val (.int p1), .val (.int (own_rd ls p1)), .val (.int (125 : Int32)), .val (.int jj)] [(.int jj), (.ref o0)])) rfl (by rw [hml]; rfl) (argsL := [(.ref o0), (.int jj)]) (rest := []) (lenOf pd_6 rfl) rfl (by show 2 * 0 + _ ≤ _; exact Nat.le_of_eq rfl) (hb hby d9_68) (fun _ _ => ⟨rfl, hh26, (Nat.zero_le _ : 0 + 0 ≤ _), (Nat.zero_le _ : 0 + 0 ≤ _)⟩)
    dsimp only [Pt.U, Pt.locs, Pt.cells, Pt.slots] at X27 l27 y27 z27 st27 hQ27
    subst l27 y27 z27
    obtain ⟨rfl, N27q, hh27⟩ := hQ27
    have N27 := Fr.app N26 N27q
    obtain ⟨cq28, kq28, q28a, q28b, q28c⟩ := isOf hZ hh27 E_o0
    obtain ⟨_, _, ⟨T28, L28, k28, n28⟩, -, X28, ⟨Lc28, hQ28, l28, y28, z28⟩, st28⟩ := X27.virtualBack hx (y := (⟨"java/lang/String", "charAt", "(I)C"⟩ : MethodName)) (z := (⟨"java/lang/String", "charAt", "(I)C"⟩ : MethodName)) hown (mvT hZ (hw _ (List.mem_of_getElem? (i := 42) rfl))) (mvT hZ (hw _ (List.mem_of_getElem? (i := 43) rfl))) (notFace_of_selects (args := #[]) (mvT hZ (hw _ (List.mem_of_getElem? (i := 45) rfl)))) (mvT hZ (hw _ (List.mem_of_getElem? (i := 45) rfl))) (mvT hZ (hw _ (List.mem_of_getElem? (i := 44) rfl))) (by decide) (backOf (W := 0) (rm10 l Z a0 hw [] o0 kk wC wF wB kb (ls.map (fun c => c.toInt8.toInt32)) (own_rd ls kk) h0 n0 Z0 F_coder_o0 F_value_o0 E_o0 S_C hC S_F hF V_wB q9 (own_ch hBy _)) hZ (hw _ (List.mem_of_getElem? (i := 46) rfl)) (hw _ (List.mem_of_getElem? (i := 11) rfl)) (by dsimp only [own_room]; omega) (by dsimp only [own_room]; omega)) q28a q28c (g := (mkF m 58 #[.val (.ref o0), .val (.int p1), .val (.int (own_rd ls p1)), .val (.int (125 : Int32)), .val (.int kk)] [(.int kk), (.ref o0)])) rfl (by rw [hml]; rfl) (Steps.refl _) (argsL := [(.int kk)]) (rest := []) (lenOf pd_5 rfl) rfl (by show 2 * 0 + _ ≤ _; exact Nat.le_of_eq rfl) (hb hby d9_58) (fun _ _ => ⟨rfl, hh27, (Nat.zero_le _ : 0 + 0 ≤ _), (Nat.zero_le _ : 0 + 0 ≤ _)⟩)
    dsimp only [Pt.U, Pt.locs, Pt.cells, Pt.slots] at X28 l28 y28 z28 st28 hQ28
    subst l28 y28 z28
    obtain ⟨rfl, N28q, hh28⟩ := hQ28
    have N28 := Fr.app N27 N28q
    have pre29 : ∀ t, Steps p.tables e below (T28.setTop (mkF m 80 #[.val (.ref o0), .val (.int p1), .val (.int (own_rd ls p1)), .val (.int (125 : Int32)), .val (.int kk)] [(.int (kk + (1 : Int32)))])) t → Steps p.tables e below (s₁.setTop (entryFrame m #[(.ref o0), (.int p1)] 5)) t := fun t k => pre2 t (by
      show Steps p.tables e below (T1.setTop (mkF m 5 #[.val (.ref o0), .val (.int p1), .unset, .unset, .unset] [(.int (own_rd ls p1))])) _
      refine XS.istoreN X1.here hx rfl (hb hby d9_5) rfl (l' := #[.val (.ref o0), .val (.int p1), .val (.int (own_rd ls p1)), .unset, .unset]) rfl ?_
      show Steps p.tables e below (T1.setTop (mkF m 6 #[.val (.ref o0), .val (.int p1), .val (.int (own_rd ls p1)), .unset, .unset] [])) _
      refine XS.iloadN X1.here hx rfl (hb hby d9_6) rfl ?_
      show Steps p.tables e below (T1.setTop (mkF m 7 #[.val (.ref o0), .val (.int p1), .val (.int (own_rd ls p1)), .unset, .unset] [(.int (own_rd ls p1))])) _
      refine XS.bipush X1.here hx rfl (hb hby d9_7) ?_
      show Steps p.tables e below (T1.setTop (mkF m 9 #[.val (.ref o0), .val (.int p1), .val (.int (own_rd ls p1)), .unset, .unset] [(.int (97 : Int32)), (.int (own_rd ls p1))])) _
      refine XS.icmpYes X1.here hx rfl (pc0 := 9) (pc' := 20) rfl (hb hby d9_9) rfl (feq q2).2 (by decide) (by decide) ?_
      show Steps p.tables e below (T1.setTop (mkF m 20 #[.val (.ref o0), .val (.int p1), .val (.int (own_rd ls p1)), .unset, .unset] [])) _
      refine XS.iloadN X1.here hx rfl (hb hby d9_20) rfl ?_
      show Steps p.tables e below (T1.setTop (mkF m 21 #[.val (.ref o0), .val (.int p1), .val (.int (own_rd ls p1)), .unset, .unset] [(.int (own_rd ls p1))])) _
      refine XS.bipush X1.here hx rfl (hb hby d9_21) ?_
      show Steps p.tables e below (T1.setTop (mkF m 23 #[.val (.ref o0), .val (.int p1), .val (.int (own_rd ls p1)), .unset, .unset] [(.int (40 : Int32)), (.int (own_rd ls p1))])) _
      refine XS.icmpNo X1.here hx rfl (hb hby d9_23) rfl (feq b0).1 ?_
      show Steps p.tables e below (T1.setTop (mkF m 26 #[.val (.ref o0), .val (.int p1), .val (.int (own_rd ls p1)), .unset, .unset] [])) _
      refine XS.iloadN X1.here hx rfl (hb hby d9_26) rfl ?_
      show Steps p.tables e below (T1.setTop (mkF m 27 #[.val (.ref o0), .val (.int p1), .val (.int (own_rd ls p1)), .unset, .unset] [(.int (own_rd ls p1))])) _
      refine XS.bipush X1.here hx rfl (hb hby d9_27) ?_
      show Steps p.tables e below (T1.setTop (mkF m 29 #[.val (.ref o0), .val (.int p1), .val (.int (own_rd ls p1)), .unset, .unset] [(.int (123 : Int32)), (.int (own_rd ls p1))])) _
      refine XS.icmpYes X1.here hx rfl (pc0 := 29) (pc' := 36) rfl (hb hby d9_29) rfl (teq b1).1 (by decide) (by decide) ?_
      show Steps p.tables e below (T1.setTop (mkF m 36 #[.val (.ref o0), .val (.int p1), .val (.int (own_rd ls p1)), .unset, .unset] [])) _
      refine XS.iloadN X1.here hx rfl (hb hby d9_36) rfl ?_
      show Steps p.tables e below (T1.setTop (mkF m 37 #[.val (.ref o0), .val (.int p1), .val (.int (own_rd ls p1)), .unset, .unset] [(.int (own_rd ls p1))])) _
      refine XS.bipush X1.here hx rfl (hb hby d9_37) ?_
      show Steps p.tables e below (T1.setTop (mkF m 39 #[.val (.ref o0), .val (.int p1), .val (.int (own_rd ls p1)), .unset, .unset] [(.int (40 : Int32)), (.int (own_rd ls p1))])) _
      refine XS.icmpYes X1.here hx rfl (pc0 := 39) (pc' := 47) rfl (hb hby d9_39) rfl (feq b0).2 (by decide) (by decide) ?_
      show Steps p.tables e below (T1.setTop (mkF m 47 #[.val (.ref o0), .val (.int p1), .val (.int (own_rd ls p1)), .unset, .unset] [])) _
      refine XS.bipush X1.here hx rfl (hb hby d9_47) ?_
      show Steps p.tables e below (T1.setTop (mkF m 49 #[.val (.ref o0), .val (.int p1), .val (.int (own_rd ls p1)), .unset, .unset] [(.int (125 : Int32))])) _
      refine XS.istoreN X1.here hx rfl (hb hby d9_49) rfl (l' := #[.val (.ref o0), .val (.int p1), .val (.int (own_rd ls p1)), .val (.int (125 : Int32)), .unset]) rfl ?_
      show Steps p.tables e below (T1.setTop (mkF m 50 #[.val (.ref o0), .val (.int p1), .val (.int (own_rd ls p1)), .val (.int (125 : Int32)), .unset] [])) _
      refine XS.iloadN X1.here hx rfl (hb hby d9_50) rfl ?_
      show Steps p.tables e below (T1.setTop (mkF m 51 #[.val (.ref o0), .val (.int p1), .val (.int (own_rd ls p1)), .val (.int (125 : Int32)), .unset] [(.int p1)])) _
      refine XS.iconst X1.here hx rfl (hb hby d9_51) ?_
      show Steps p.tables e below (T1.setTop (mkF m 52 #[.val (.ref o0), .val (.int p1), .val (.int (own_rd ls p1)), .val (.int (125 : Int32)), .unset] [(.int (1 : Int32)), (.int p1)])) _
      refine XS.iadd X1.here hx rfl (hb hby d9_52) rfl ?_
      show Steps p.tables e below (T1.setTop (mkF m 53 #[.val (.ref o0), .val (.int p1), .val (.int (own_rd ls p1)), .val (.int (125 : Int32)), .unset] [(.int (p1 + (1 : Int32)))])) _
      refine XS.istore X1.here hx rfl (hb hby d9_53) rfl (l' := #[.val (.ref o0), .val (.int p1), .val (.int (own_rd ls p1)), .val (.int (125 : Int32)), .val (.int (p1 + (1 : Int32)))]) rfl ?_
      show Steps p.tables e below (T1.setTop (mkF m 55 #[.val (.ref o0), .val (.int p1), .val (.int (own_rd ls p1)), .val (.int (125 : Int32)), .val (.int (p1 + (1 : Int32)))] [])) _
      refine XS.aloadN X1.here hx rfl (hb hby d9_55) rfl rfl ?_
      show Steps p.tables e below (T1.setTop (mkF m 56 #[.val (.ref o0), .val (.int p1), .val (.int (own_rd ls p1)), .val (.int (125 : Int32)), .val (.int (p1 + (1 : Int32)))] [(.ref o0)])) _
      refine XS.iload X1.here hx rfl (hb hby d9_56) rfl ?_
      show Steps p.tables e below (T1.setTop (mkF m 58 #[.val (.ref o0), .val (.int p1), .val (.int (own_rd ls p1)), .val (.int (125 : Int32)), .val (.int (p1 + (1 : Int32)))] [(.int (p1 + (1 : Int32))), (.ref o0)])) _
      refine st24.trans ?_
      show Steps p.tables e below (T24.setTop (mkF m 61 #[.val (.ref o0), .val (.int p1), .val (.int (own_rd ls p1)), .val (.int (125 : Int32)), .val (.int (p1 + (1 : Int32)))] [(.int (own_rd ls (p1 + (1 : Int32))))])) _
      refine XS.iloadN X24.here hx rfl (hb hby d9_61) rfl ?_
      show Steps p.tables e below (T24.setTop (mkF m 62 #[.val (.ref o0), .val (.int p1), .val (.int (own_rd ls p1)), .val (.int (125 : Int32)), .val (.int (p1 + (1 : Int32)))] [(.int (125 : Int32)), (.int (own_rd ls (p1 + (1 : Int32))))])) _
      refine XS.icmpNo X24.here hx rfl (hb hby d9_62) rfl (feq q4).1 ?_
      show Steps p.tables e below (T24.setTop (mkF m 65 #[.val (.ref o0), .val (.int p1), .val (.int (own_rd ls p1)), .val (.int (125 : Int32)), .val (.int (p1 + (1 : Int32)))] [])) _
      refine XS.aloadN X24.here hx rfl (hb hby d9_65) rfl rfl ?_
      show Steps p.tables e below (T24.setTop (mkF m 66 #[.val (.ref o0), .val (.int p1), .val (.int (own_rd ls p1)), .val (.int (125 : Int32)), .val (.int (p1 + (1 : Int32)))] [(.ref o0)])) _
      refine XS.iload X24.here hx rfl (hb hby d9_66) rfl ?_
      show Steps p.tables e below (T24.setTop (mkF m 68 #[.val (.ref o0), .val (.int p1), .val (.int (own_rd ls p1)), .val (.int (125 : Int32)), .val (.int (p1 + (1 : Int32)))] [(.int (p1 + (1 : Int32))), (.ref o0)])) _
      refine st25 _ ?_
      show Steps p.tables e below (T25.setTop (mkF m 71 #[.val (.ref o0), .val (.int p1), .val (.int (own_rd ls p1)), .val (.int (125 : Int32)), .val (.int (p1 + (1 : Int32)))] [(.int jj)])) _
      refine XS.istore X25.here hx rfl (hb hby d9_71) rfl (l' := #[.val (.ref o0), .val (.int p1), .val (.int (own_rd ls p1)), .val (.int (125 : Int32)), .val (.int jj)]) rfl ?_
      show Steps p.tables e below (T25.setTop (mkF m 73 #[.val (.ref o0), .val (.int p1), .val (.int (own_rd ls p1)), .val (.int (125 : Int32)), .val (.int jj)] [])) _
      refine XS.goto X25.here hx rfl (pc0 := 73) (pc' := 55) rfl (hb hby d9_73) (by decide) (by decide) ?_
      show Steps p.tables e below (T25.setTop (mkF m 55 #[.val (.ref o0), .val (.int p1), .val (.int (own_rd ls p1)), .val (.int (125 : Int32)), .val (.int jj)] [])) _
      refine XS.aloadN X25.here hx rfl (hb hby d9_55) rfl rfl ?_
      show Steps p.tables e below (T25.setTop (mkF m 56 #[.val (.ref o0), .val (.int p1), .val (.int (own_rd ls p1)), .val (.int (125 : Int32)), .val (.int jj)] [(.ref o0)])) _
      refine XS.iload X25.here hx rfl (hb hby d9_56) rfl ?_
      show Steps p.tables e below (T25.setTop (mkF m 58 #[.val (.ref o0), .val (.int p1), .val (.int (own_rd ls p1)), .val (.int (125 : Int32)), .val (.int jj)] [(.int jj), (.ref o0)])) _
      refine st26.trans ?_
      show Steps p.tables e below (T26.setTop (mkF m 61 #[.val (.ref o0), .val (.int p1), .val (.int (own_rd ls p1)), .val (.int (125 : Int32)), .val (.int jj)] [(.int (own_rd ls jj))])) _
      refine XS.iloadN X26.here hx rfl (hb hby d9_61) rfl ?_
      show Steps p.tables e below (T26.setTop (mkF m 62 #[.val (.ref o0), .val (.int p1), .val (.int (own_rd ls p1)), .val (.int (125 : Int32)), .val (.int jj)] [(.int (125 : Int32)), (.int (own_rd ls jj))])) _
      refine XS.icmpNo X26.here hx rfl (hb hby d9_62) rfl (feq q7).1 ?_
      show Steps p.tables e below (T26.setTop (mkF m 65 #[.val (.ref o0), .val (.int p1), .val (.int (own_rd ls p1)), .val (.int (125 : Int32)), .val (.int jj)] [])) _
      refine XS.aloadN X26.here hx rfl (hb hby d9_65) rfl rfl ?_
      show Steps p.tables e below (T26.setTop (mkF m 66 #[.val (.ref o0), .val (.int p1), .val (.int (own_rd ls p1)), .val (.int (125 : Int32)), .val (.int jj)] [(.ref o0)])) _
      refine XS.iload X26.here hx rfl (hb hby d9_66) rfl ?_
      show Steps p.tables e below (T26.setTop (mkF m 68 #[.val (.ref o0), .val (.int p1), .val (.int (own_rd ls p1)), .val (.int (125 : Int32)), .val (.int jj)] [(.int jj), (.ref o0)])) _
      refine st27 _ ?_
      show Steps p.tables e below (T27.setTop (mkF m 71 #[.val (.ref o0), .val (.int p1), .val (.int (own_rd ls p1)), .val (.int (125 : Int32)), .val (.int jj)] [(.int kk)])) _
      refine XS.istore X27.here hx rfl (hb hby d9_71) rfl (l' := #[.val (.ref o0), .val (.int p1), .val (.int (own_rd ls p1)), .val (.int (125 : Int32)), .val (.int kk)]) rfl ?_
      show Steps p.tables e below (T27.setTop (mkF m 73 #[.val (.ref o0), .val (.int p1), .val (.int (own_rd ls p1)), .val (.int (125 : Int32)), .val (.int kk)] [])) _
      refine XS.goto X27.here hx rfl (pc0 := 73) (pc' := 55) rfl (hb hby d9_73) (by decide) (by decide) ?_
      show Steps p.tables e below (T27.setTop (mkF m 55 #[.val (.ref o0), .val (.int p1), .val (.int (own_rd ls p1)), .val (.int (125 : Int32)), .val (.int kk)] [])) _
      refine XS.aloadN X27.here hx rfl (hb hby d9_55) rfl rfl ?_
      show Steps p.tables e below (T27.setTop (mkF m 56 #[.val (.ref o0), .val (.int p1), .val (.int (own_rd ls p1)), .val (.int (125 : Int32)), .val (.int kk)] [(.ref o0)])) _
      refine XS.iload X27.here hx rfl (hb hby d9_56) rfl ?_
      show Steps p.tables e below (T27.setTop (mkF m 58 #[.val (.ref o0), .val (.int p1), .val (.int (own_rd ls p1)), .val (.int (125 : Int32)), .val (.int kk)] [(.int kk), (.ref o0)])) _
      refine st28.trans ?_
      show Steps p.tables e below (T28.setTop (mkF m 61 #[.val (.ref o0), .val (.int p1), .val (.int (own_rd ls p1)), .val (.int (125 : Int32)), .val (.int kk)] [(.int (own_rd ls kk))])) _
      refine XS.iloadN X28.here hx rfl (hb hby d9_61) rfl ?_
      show Steps p.tables e below (T28.setTop (mkF m 62 #[.val (.ref o0), .val (.int p1), .val (.int (own_rd ls p1)), .val (.int (125 : Int32)), .val (.int kk)] [(.int (125 : Int32)), (.int (own_rd ls kk))])) _
      refine XS.icmpYes X28.here hx rfl (pc0 := 62) (pc' := 76) rfl (hb hby d9_62) rfl (teq qa).1 (by decide) (by decide) ?_
      show Steps p.tables e below (T28.setTop (mkF m 76 #[.val (.ref o0), .val (.int p1), .val (.int (own_rd ls p1)), .val (.int (125 : Int32)), .val (.int kk)] [])) _
      refine XS.iload X28.here hx rfl (hb hby d9_76) rfl ?_
      show Steps p.tables e below (T28.setTop (mkF m 78 #[.val (.ref o0), .val (.int p1), .val (.int (own_rd ls p1)), .val (.int (125 : Int32)), .val (.int kk)] [(.int kk)])) _
      refine XS.iconst X28.here hx rfl (hb hby d9_78) ?_
      show Steps p.tables e below (T28.setTop (mkF m 79 #[.val (.ref o0), .val (.int p1), .val (.int (own_rd ls p1)), .val (.int (125 : Int32)), .val (.int kk)] [(.int (1 : Int32)), (.int kk)])) _
      refine XS.iadd X28.here hx rfl (hb hby d9_79) rfl ?_
      exact k)
    obtain ⟨fs, hr, hrun, hended, hW, hsame⟩ := X28.leave (v := some (.int (kk + (1 : Int32)))) (fun h => by rw [Bd.returns] at h; cases h)
    refine ⟨_, _, pre29 _ ?_, hrun, hended, _, _, rfl, ?_, ⟨_, rfl⟩, hW, hsame.mono (Nat.zero_le _) (Nat.zero_le _)⟩
    · exact retI X28 hx Bd.returns (hb hby d9_80) hr
    · show Q9s Z o0 p1 wC wF wB kb ls en h0 n0 _ T28.heap _
      rw [hh28]
      exact ⟨by rw [hE], N28, rfl⟩
theorem rm9 (l : Launch) (Z : State) (a0 : Array Value) (hw : ∀ d ∈ tables_1, d.before a0 Z = true) (o0 : Addr) (wC : Int32) (wF : Value) (wB : Addr) (kb : ClassId) (ls : List Int32) (h0 : Heap) (n0 : Nat) (Z0 : n0 ≤ h0.size) (F_coder_o0 : Fld Z h0 o0 "java/lang/String" "coder" "B" (.int (0 : Int32))) (F_value_o0 : Fld Z h0 o0 "java/lang/String" "value" "[B" (.ref wB)) (E_o0 : Exa Z h0 o0 "java/lang/String") (S_C : Sta Z h0 "java/lang/String" "COMPACT_STRINGS" "Z" (.int wC)) (hC : ¬ wC = (0 : Int32)) (S_F : Sta Z h0 "jdk/internal/util/Preconditions" "SIOOBE_FORMATTER" "Ljava/util/function/BiFunction;" wF) (hF : wF.isRef = true) (V_wB : own_A Z h0 wB kb .byte (24 : Int32) (ls.map (fun c => c.toInt8.toInt32))) (hBy : own_by ls) : ∀ (f : Nat) (i y : Int32), own_ty ls f i y → MetFree l (⟨"com/example/sensor_access_indicators/sensoraccessindicators/dbus/Marshalling", "typeEnd", "(Ljava/lang/String;I)I"⟩ : MethodName) (head1 [Jvm.Cond.code (⟨"com/example/sensor_access_indicators/sensoraccessindicators/dbus/Marshalling", "typeEnd", "(Ljava/lang/String;I)I"⟩ : MethodName) prog_48_method_2_code 5 (some .int)] (own_room f)) (fun a U => a = #[.ref o0, .int i] ∧ Z.Warmed39 U.vm ∧ U.heap = h0) (fun _ _ _ _ _ => True) (fun _ U o U' => ∃ v L, o = .returned v ∧ Q9s Z o0 i wC wF wB kb ls y h0 n0 v U'.heap L ∧ FrameEnd U o U' L (own_room f).cells (own_room f).slots) := by
  intro f
  induction f with
  | zero => exact fun i y h => h.elim
  | succ f ih => exact fun i y h => rm9s l Z a0 hw [] o0 i wC wF wB kb ls y h0 n0 Z0 F_coder_o0 F_value_o0 E_o0 S_C hC S_F hF V_wB hBy f ih h
theorem pd_7 : parseMethodDescriptor "([C)V" = some ⟨[(.array .char)], none⟩ := by decide +kernel
theorem pd_8 : parseMethodDescriptor "([CIIII)I" = some ⟨[(.array .char), .int, .int, .int, .int], some .int⟩ := by decide +kernel
theorem ef_0 (m : MethodId) (x0 : Int32) (x1 : Int32) (x2 : Int32) (x3 : Int32) (x4 : Int64) : entryFrame m #[(.int x0), (.int x1), (.int x2), (.int x3), (.long x4)] maxLocals = mkF m 0 #[.val (.int x0), .val (.int x1), .val (.int x2), .val (.int x3), .val (.long x4), .second, .unset, .unset, .unset, .unset, .unset, .unset, .unset, .unset, .unset, .unset, .unset, .unset] [] := by first | (simp [entryFrame, mkF, argsToLocals, Value.category, maxLocals]; done) | rfl
def Q0 (Z : State) (p0 : Int32) (p1 : Int32) (p2 : Int32) (p3 : Int32) (q4 : Int64) (wC : Int32) (wF : Value) (h0 : Heap) (n0 : Nat) (v : Option Value) (h : Heap) (L : List Loc) : Prop := v = some (.int 1) ∧ Fr n0 L
set_option maxRecDepth 65536 in
set_option maxHeartbeats 40000000 in
theorem rm0 (l : Launch) (Z : State) (a0 : Array Value) (hw : ∀ d ∈ tables_1, d.before a0 Z = true) (ws : List Jvm.Cond) (p0 : Int32) (p1 : Int32) (p2 : Int32) (p3 : Int32) (q4 : Int64) (wC : Int32) (wF : Value) (h0 : Heap) (n0 : Nat) (Z0 : n0 ≤ h0.size) (O0 : Old Z n0 h0) (S_C : Sta Z Z.heap "java/lang/String" "COMPACT_STRINGS" "Z" (.int wC)) (hC : ¬ wC = (0 : Int32)) (S_F : Sta Z Z.heap "jdk/internal/util/Preconditions" "SIOOBE_FORMATTER" "Ljava/util/function/BiFunction;" wF) (hF : wF.isRef = true) :
    MetFree l x (head1 (Jvm.Cond.code x code maxLocals ret :: ws) room_1) (fun a U => a = #[(.int p0), (.int p1), (.int p2), (.int p3), (.long q4)] ∧ Z.Warmed39 U.vm ∧ U.heap = h0) (fun _ _ _ _ _ => True) (fun _ U o U' => ∃ v L, o = .returned v ∧ Q0 Z p0 p1 p2 p3 q4 wC wF h0 n0 v U'.heap L ∧ FrameEnd U o U' L room_1.cells room_1.slots) := by
  refine MetFree.of_bodySF (plainFor_of_name pn_3) hisR ?_
  intro p e s m args below meth c s₁ Bd hml0 hP hK
  obtain ⟨rfl, hZ, hh⟩ := hP
  have hx := Bd.exec
  have hby := Bd.bytes
  have hml : c.maxLocals = 18 := hml0
  have hown : s.vm.findClass "com/example/sensor_access_indicators/sensoraccessindicators/dbus/MarshallingTypeEndPinLaw" = some m.cls := findClass_of_methodNamed Bd.named
  have hnm := (name_of_methodNamed Bd.named Bd.method).1
  have X0 : Stand p l e room_1 s m #[(.int p0), (.int p1), (.int p2), (.int p3), (.long q4)] below meth c s₁ [] 0 0 := Stand.of_body Bd
  have e0 : s₁.heap = h0 := by rw [← hh, Bd.state]; rfl
  have N0 := Fr.nil n0
  have pre0 : ∀ t, Steps p.tables e below (s₁.setTop (mkF m 0 #[.val (.int p0), .val (.int p1), .val (.int p2), .val (.int p3), .val (.long q4), .second, .unset, .unset, .unset, .unset, .unset, .unset, .unset, .unset, .unset, .unset, .unset, .unset] [])) t → Steps p.tables e below (s₁.setTop (entryFrame m #[(.int p0), (.int p1), (.int p2), (.int p3), (.long q4)] maxLocals)) t := fun t k => castTop (ef_0 m p0 p1 p2 p3 q4) k
  obtain ⟨T1, h1, k1, X1, e1, E1, A1, st1⟩ := newP X0 hx hZ (hw _ (List.mem_of_getElem? (i := 0) rfl)) e0 (g := (mkF m 2 #[.val (.int p0), .val (.int p1), .val (.int p2), .val (.int p3), .val (.long q4), .second, .unset, .unset, .unset, .unset, .unset, .unset, .unset, .unset, .unset, .unset, .unset, .unset] [(.int (24 : Int32))])) rfl (hb hby at_2) rfl (by decide) (cap := 24) (by decide) (by decide) (by decide) (by decide)
  obtain ⟨b1, g1⟩ : ∃ z, z = h0.size := ⟨_, rfl⟩
  rw [← g1] at A1 st1
  have V_b1 : own_A Z h1 b1 k1 .char (24 : Int32) [(0 : Int32), (0 : Int32), (0 : Int32), (0 : Int32), (0 : Int32), (0 : Int32), (0 : Int32), (0 : Int32), (0 : Int32), (0 : Int32), (0 : Int32), (0 : Int32), (0 : Int32), (0 : Int32), (0 : Int32), (0 : Int32), (0 : Int32), (0 : Int32), (0 : Int32), (0 : Int32), (0 : Int32), (0 : Int32), (0 : Int32), (0 : Int32)] := own_new rfl ((Arv.new A1 (by decide)).pad (pad_rep [] _ 24))
  have g_b1 : n0 ≤ b1 := Nat.le_trans Z0 (Nat.le_of_eq g1.symm)
  have sz_b1 : h0.size ≤ b1 := Nat.le_trans (Keep.refl h0 []).1 (Nat.le_of_eq g1.symm)
  have KK1 : Keep h0 h1 [] := (Keep.refl h0 []).ext E1
  obtain ⟨c2, Ar2, hin2, -⟩ := own_read V_b1 (by decide : own_in (24 : Int32) (0 : Int32))
  obtain ⟨T3, h3, X3, e3, W3, st3⟩ := stC X1 hx hZ e1 Ar2 (j := (0 : Int32)) hin2 (g := (mkF m 17 #[.val (.int p0), .val (.int p1), .val (.int p2), .val (.int p3), .val (.long q4), .second, .val (.ref b1), .unset, .unset, .unset, .unset, .unset, .unset, .unset, .unset, .unset, .unset, .unset] [(.int (((q4 &&& (255 : Int64)).toInt32).toUInt32.toUInt16.toUInt32.toInt32)), (.int (0 : Int32)), (.ref b1)])) rfl rfl (hb hby at_17)
  have V3 : own_A Z h3 b1 k1 .char (24 : Int32) (own_wr [(0 : Int32), (0 : Int32), (0 : Int32), (0 : Int32), (0 : Int32), (0 : Int32), (0 : Int32), (0 : Int32), (0 : Int32), (0 : Int32), (0 : Int32), (0 : Int32), (0 : Int32), (0 : Int32), (0 : Int32), (0 : Int32), (0 : Int32), (0 : Int32), (0 : Int32), (0 : Int32), (0 : Int32), (0 : Int32), (0 : Int32), (0 : Int32)] (0 : Int32) (((q4 &&& (255 : Int64)).toInt32).toUInt32.toUInt16.toUInt32.toInt32)) := own_writeC V_b1 (by decide : own_in (24 : Int32) (0 : Int32)) (own_lb _) W3
  have KK3 : Keep h0 h3 [] := KK1.wr W3 (Or.inr sz_b1)
  have N3 := Fr.snoc X3 N0 g_b1
  obtain ⟨c4, Ar4, hin4, -⟩ := own_read V3 (by decide : own_in (24 : Int32) (1 : Int32))
  obtain ⟨T5, h5, X5, e5, W5, st5⟩ := stC X3 hx hZ e3 Ar4 (j := (1 : Int32)) hin4 (g := (mkF m 32 #[.val (.int p0), .val (.int p1), .val (.int p2), .val (.int p3), .val (.long q4), .second, .val (.ref b1), .unset, .unset, .unset, .unset, .unset, .unset, .unset, .unset, .unset, .unset, .unset] [(.int (((((q4.toUInt64 >>> ((8 : Int32) &&& 0x3f).toInt64.toUInt64).toInt64) &&& (255 : Int64)).toInt32).toUInt32.toUInt16.toUInt32.toInt32)), (.int (1 : Int32)), (.ref b1)])) rfl rfl (hb hby at_32)
  have V5 : own_A Z h5 b1 k1 .char (24 : Int32) (own_wr (own_wr [(0 : Int32), (0 : Int32), (0 : Int32), (0 : Int32), (0 : Int32), (0 : Int32), (0 : Int32), (0 : Int32), (0 : Int32), (0 : Int32), (0 : Int32), (0 : Int32), (0 : Int32), (0 : Int32), (0 : Int32), (0 : Int32), (0 : Int32), (0 : Int32), (0 : Int32), (0 : Int32), (0 : Int32), (0 : Int32), (0 : Int32), (0 : Int32)] (0 : Int32) (((q4 &&& (255 : Int64)).toInt32).toUInt32.toUInt16.toUInt32.toInt32)) (1 : Int32) (((((q4.toUInt64 >>> ((8 : Int32) &&& 0x3f).toInt64.toUInt64).toInt64) &&& (255 : Int64)).toInt32).toUInt32.toUInt16.toUInt32.toInt32)) := own_writeC V3 (by decide : own_in (24 : Int32) (1 : Int32)) (own_lb _) W5
  have KK5 : Keep h0 h5 [] := KK3.wr W5 (Or.inr sz_b1)
  have N5 := Fr.snoc X5 N3 g_b1
  obtain ⟨c6, Ar6, hin6, -⟩ := own_read V5 (by decide : own_in (24 : Int32) (2 : Int32))
  obtain ⟨T7, h7, X7, e7, W7, st7⟩ := stC X5 hx hZ e5 Ar6 (j := (2 : Int32)) hin6 (g := (mkF m 47 #[.val (.int p0), .val (.int p1), .val (.int p2), .val (.int p3), .val (.long q4), .second, .val (.ref b1), .unset, .unset, .unset, .unset, .unset, .unset, .unset, .unset, .unset, .unset, .unset] [(.int (((((q4.toUInt64 >>> ((16 : Int32) &&& 0x3f).toInt64.toUInt64).toInt64) &&& (255 : Int64)).toInt32).toUInt32.toUInt16.toUInt32.toInt32)), (.int (2 : Int32)), (.ref b1)])) rfl rfl (hb hby at_47)
  have V7 : own_A Z h7 b1 k1 .char (24 : Int32) (own_wr (own_wr (own_wr [(0 : Int32), (0 : Int32), (0 : Int32), (0 : Int32), (0 : Int32), (0 : Int32), (0 : Int32), (0 : Int32), (0 : Int32), (0 : Int32), (0 : Int32), (0 : Int32), (0 : Int32), (0 : Int32), (0 : Int32), (0 : Int32), (0 : Int32), (0 : Int32), (0 : Int32), (0 : Int32), (0 : Int32), (0 : Int32), (0 : Int32), (0 : Int32)] (0 : Int32) (((q4 &&& (255 : Int64)).toInt32).toUInt32.toUInt16.toUInt32.toInt32)) (1 : Int32) (((((q4.toUInt64 >>> ((8 : Int32) &&& 0x3f).toInt64.toUInt64).toInt64) &&& (255 : Int64)).toInt32).toUInt32.toUInt16.toUInt32.toInt32)) (2 : Int32) (((((q4.toUInt64 >>> ((16 : Int32) &&& 0x3f).toInt64.toUInt64).toInt64) &&& (255 : Int64)).toInt32).toUInt32.toUInt16.toUInt32.toInt32)) := own_writeC V5 (by decide : own_in (24 : Int32) (2 : Int32)) (own_lb _) W7
  have KK7 : Keep h0 h7 [] := KK5.wr W7 (Or.inr sz_b1)
  have N7 := Fr.snoc X7 N5 g_b1
  have pre8 : ∀ t, Steps p.tables e below (T7.setTop (mkF m 48 #[.val (.int p0), .val (.int p1), .val (.int p2), .val (.int p3), .val (.long q4), .second, .val (.ref b1), .unset, .unset, .unset, .unset, .unset, .unset, .unset, .unset, .unset, .unset, .unset] [])) t → Steps p.tables e below (s₁.setTop (entryFrame m #[(.int p0), (.int p1), (.int p2), (.int p3), (.long q4)] maxLocals)) t := fun t k => pre0 t (by
    show Steps p.tables e below (s₁.setTop (mkF m 0 #[.val (.int p0), .val (.int p1), .val (.int p2), .val (.int p3), .val (.long q4), .second, .unset, .unset, .unset, .unset, .unset, .unset, .unset, .unset, .unset, .unset, .unset, .unset] [])) _
    refine XS.bipush X0.here hx rfl (hb hby at_0) ?_
    show Steps p.tables e below (s₁.setTop (mkF m 2 #[.val (.int p0), .val (.int p1), .val (.int p2), .val (.int p3), .val (.long q4), .second, .unset, .unset, .unset, .unset, .unset, .unset, .unset, .unset, .unset, .unset, .unset, .unset] [(.int (24 : Int32))])) _
    refine st1 _ ?_
    show Steps p.tables e below (T1.setTop (mkF m 4 #[.val (.int p0), .val (.int p1), .val (.int p2), .val (.int p3), .val (.long q4), .second, .unset, .unset, .unset, .unset, .unset, .unset, .unset, .unset, .unset, .unset, .unset, .unset] [(.ref b1)])) _
    refine XS.astore X1.here hx rfl (hb hby at_4) rfl rfl (l' := #[.val (.int p0), .val (.int p1), .val (.int p2), .val (.int p3), .val (.long q4), .second, .val (.ref b1), .unset, .unset, .unset, .unset, .unset, .unset, .unset, .unset, .unset, .unset, .unset]) rfl ?_
    show Steps p.tables e below (T1.setTop (mkF m 6 #[.val (.int p0), .val (.int p1), .val (.int p2), .val (.int p3), .val (.long q4), .second, .val (.ref b1), .unset, .unset, .unset, .unset, .unset, .unset, .unset, .unset, .unset, .unset, .unset] [])) _
    refine XS.aload X1.here hx rfl (hb hby at_6) rfl rfl ?_
    show Steps p.tables e below (T1.setTop (mkF m 8 #[.val (.int p0), .val (.int p1), .val (.int p2), .val (.int p3), .val (.long q4), .second, .val (.ref b1), .unset, .unset, .unset, .unset, .unset, .unset, .unset, .unset, .unset, .unset, .unset] [(.ref b1)])) _
    refine XS.iconst X1.here hx rfl (hb hby at_8) ?_
    show Steps p.tables e below (T1.setTop (mkF m 9 #[.val (.int p0), .val (.int p1), .val (.int p2), .val (.int p3), .val (.long q4), .second, .val (.ref b1), .unset, .unset, .unset, .unset, .unset, .unset, .unset, .unset, .unset, .unset, .unset] [(.int (0 : Int32)), (.ref b1)])) _
    refine XS.lload X1.here hx rfl (hb hby at_9) rfl ?_
    show Steps p.tables e below (T1.setTop (mkF m 11 #[.val (.int p0), .val (.int p1), .val (.int p2), .val (.int p3), .val (.long q4), .second, .val (.ref b1), .unset, .unset, .unset, .unset, .unset, .unset, .unset, .unset, .unset, .unset, .unset] [(.long q4), (.int (0 : Int32)), (.ref b1)])) _
    refine X1.ldc2Long hx hown (mvT hZ (hw _ (List.mem_of_getElem? (i := 1) rfl))) (g := (mkF m 11 #[.val (.int p0), .val (.int p1), .val (.int p2), .val (.int p3), .val (.long q4), .second, .val (.ref b1), .unset, .unset, .unset, .unset, .unset, .unset, .unset, .unset, .unset, .unset, .unset] [(.long q4), (.int (0 : Int32)), (.ref b1)])) rfl (hb hby at_11) _ ?_
    show Steps p.tables e below (T1.setTop (mkF m 14 #[.val (.int p0), .val (.int p1), .val (.int p2), .val (.int p3), .val (.long q4), .second, .val (.ref b1), .unset, .unset, .unset, .unset, .unset, .unset, .unset, .unset, .unset, .unset, .unset] [(.long (255 : Int64)), (.long q4), (.int (0 : Int32)), (.ref b1)])) _
    refine XS.land X1.here hx rfl (hb hby at_14) rfl ?_
    show Steps p.tables e below (T1.setTop (mkF m 15 #[.val (.int p0), .val (.int p1), .val (.int p2), .val (.int p3), .val (.long q4), .second, .val (.ref b1), .unset, .unset, .unset, .unset, .unset, .unset, .unset, .unset, .unset, .unset, .unset] [(.long (q4 &&& (255 : Int64))), (.int (0 : Int32)), (.ref b1)])) _
    refine XS.l2i X1.here hx rfl (hb hby at_15) rfl ?_
    show Steps p.tables e below (T1.setTop (mkF m 16 #[.val (.int p0), .val (.int p1), .val (.int p2), .val (.int p3), .val (.long q4), .second, .val (.ref b1), .unset, .unset, .unset, .unset, .unset, .unset, .unset, .unset, .unset, .unset, .unset] [(.int ((q4 &&& (255 : Int64)).toInt32)), (.int (0 : Int32)), (.ref b1)])) _
    refine XS.i2c X1.here hx rfl (hb hby at_16) rfl ?_
    show Steps p.tables e below (T1.setTop (mkF m 17 #[.val (.int p0), .val (.int p1), .val (.int p2), .val (.int p3), .val (.long q4), .second, .val (.ref b1), .unset, .unset, .unset, .unset, .unset, .unset, .unset, .unset, .unset, .unset, .unset] [(.int (((q4 &&& (255 : Int64)).toInt32).toUInt32.toUInt16.toUInt32.toInt32)), (.int (0 : Int32)), (.ref b1)])) _
    refine st3 _ ?_
    show Steps p.tables e below (T3.setTop (mkF m 18 #[.val (.int p0), .val (.int p1), .val (.int p2), .val (.int p3), .val (.long q4), .second, .val (.ref b1), .unset, .unset, .unset, .unset, .unset, .unset, .unset, .unset, .unset, .unset, .unset] [])) _
    refine XS.aload X3.here hx rfl (hb hby at_18) rfl rfl ?_
    show Steps p.tables e below (T3.setTop (mkF m 20 #[.val (.int p0), .val (.int p1), .val (.int p2), .val (.int p3), .val (.long q4), .second, .val (.ref b1), .unset, .unset, .unset, .unset, .unset, .unset, .unset, .unset, .unset, .unset, .unset] [(.ref b1)])) _
    refine XS.iconst X3.here hx rfl (hb hby at_20) ?_
    show Steps p.tables e below (T3.setTop (mkF m 21 #[.val (.int p0), .val (.int p1), .val (.int p2), .val (.int p3), .val (.long q4), .second, .val (.ref b1), .unset, .unset, .unset, .unset, .unset, .unset, .unset, .unset, .unset, .unset, .unset] [(.int (1 : Int32)), (.ref b1)])) _
    refine XS.lload X3.here hx rfl (hb hby at_21) rfl ?_
    show Steps p.tables e below (T3.setTop (mkF m 23 #[.val (.int p0), .val (.int p1), .val (.int p2), .val (.int p3), .val (.long q4), .second, .val (.ref b1), .unset, .unset, .unset, .unset, .unset, .unset, .unset, .unset, .unset, .unset, .unset] [(.long q4), (.int (1 : Int32)), (.ref b1)])) _
    refine XS.bipush X3.here hx rfl (hb hby at_23) ?_
    show Steps p.tables e below (T3.setTop (mkF m 25 #[.val (.int p0), .val (.int p1), .val (.int p2), .val (.int p3), .val (.long q4), .second, .val (.ref b1), .unset, .unset, .unset, .unset, .unset, .unset, .unset, .unset, .unset, .unset, .unset] [(.int (8 : Int32)), (.long q4), (.int (1 : Int32)), (.ref b1)])) _
    refine XS.lushr X3.here hx rfl (hb hby at_25) rfl ?_
    show Steps p.tables e below (T3.setTop (mkF m 26 #[.val (.int p0), .val (.int p1), .val (.int p2), .val (.int p3), .val (.long q4), .second, .val (.ref b1), .unset, .unset, .unset, .unset, .unset, .unset, .unset, .unset, .unset, .unset, .unset] [(.long ((q4.toUInt64 >>> ((8 : Int32) &&& 0x3f).toInt64.toUInt64).toInt64)), (.int (1 : Int32)), (.ref b1)])) _
    refine X3.ldc2Long hx hown (mvT hZ (hw _ (List.mem_of_getElem? (i := 1) rfl))) (g := (mkF m 26 #[.val (.int p0), .val (.int p1), .val (.int p2), .val (.int p3), .val (.long q4), .second, .val (.ref b1), .unset, .unset, .unset, .unset, .unset, .unset, .unset, .unset, .unset, .unset, .unset] [(.long ((q4.toUInt64 >>> ((8 : Int32) &&& 0x3f).toInt64.toUInt64).toInt64)), (.int (1 : Int32)), (.ref b1)])) rfl (hb hby at_26) _ ?_
    show Steps p.tables e below (T3.setTop (mkF m 29 #[.val (.int p0), .val (.int p1), .val (.int p2), .val (.int p3), .val (.long q4), .second, .val (.ref b1), .unset, .unset, .unset, .unset, .unset, .unset, .unset, .unset, .unset, .unset, .unset] [(.long (255 : Int64)), (.long ((q4.toUInt64 >>> ((8 : Int32) &&& 0x3f).toInt64.toUInt64).toInt64)), (.int (1 : Int32)), (.ref b1)])) _
    refine XS.land X3.here hx rfl (hb hby at_29) rfl ?_
    show Steps p.tables e below (T3.setTop (mkF m 30 #[.val (.int p0), .val (.int p1), .val (.int p2), .val (.int p3), .val (.long q4), .second, .val (.ref b1), .unset, .unset, .unset, .unset, .unset, .unset, .unset, .unset, .unset, .unset, .unset] [(.long (((q4.toUInt64 >>> ((8 : Int32) &&& 0x3f).toInt64.toUInt64).toInt64) &&& (255 : Int64))), (.int (1 : Int32)), (.ref b1)])) _
    refine XS.l2i X3.here hx rfl (hb hby at_30) rfl ?_
    show Steps p.tables e below (T3.setTop (mkF m 31 #[.val (.int p0), .val (.int p1), .val (.int p2), .val (.int p3), .val (.long q4), .second, .val (.ref b1), .unset, .unset, .unset, .unset, .unset, .unset, .unset, .unset, .unset, .unset, .unset] [(.int ((((q4.toUInt64 >>> ((8 : Int32) &&& 0x3f).toInt64.toUInt64).toInt64) &&& (255 : Int64)).toInt32)), (.int (1 : Int32)), (.ref b1)])) _
    refine XS.i2c X3.here hx rfl (hb hby at_31) rfl ?_
    show Steps p.tables e below (T3.setTop (mkF m 32 #[.val (.int p0), .val (.int p1), .val (.int p2), .val (.int p3), .val (.long q4), .second, .val (.ref b1), .unset, .unset, .unset, .unset, .unset, .unset, .unset, .unset, .unset, .unset, .unset] [(.int (((((q4.toUInt64 >>> ((8 : Int32) &&& 0x3f).toInt64.toUInt64).toInt64) &&& (255 : Int64)).toInt32).toUInt32.toUInt16.toUInt32.toInt32)), (.int (1 : Int32)), (.ref b1)])) _
    refine st5 _ ?_
    show Steps p.tables e below (T5.setTop (mkF m 33 #[.val (.int p0), .val (.int p1), .val (.int p2), .val (.int p3), .val (.long q4), .second, .val (.ref b1), .unset, .unset, .unset, .unset, .unset, .unset, .unset, .unset, .unset, .unset, .unset] [])) _
    refine XS.aload X5.here hx rfl (hb hby at_33) rfl rfl ?_
    show Steps p.tables e below (T5.setTop (mkF m 35 #[.val (.int p0), .val (.int p1), .val (.int p2), .val (.int p3), .val (.long q4), .second, .val (.ref b1), .unset, .unset, .unset, .unset, .unset, .unset, .unset, .unset, .unset, .unset, .unset] [(.ref b1)])) _
    refine XS.iconst X5.here hx rfl (hb hby at_35) ?_
    show Steps p.tables e below (T5.setTop (mkF m 36 #[.val (.int p0), .val (.int p1), .val (.int p2), .val (.int p3), .val (.long q4), .second, .val (.ref b1), .unset, .unset, .unset, .unset, .unset, .unset, .unset, .unset, .unset, .unset, .unset] [(.int (2 : Int32)), (.ref b1)])) _
    refine XS.lload X5.here hx rfl (hb hby at_36) rfl ?_
    show Steps p.tables e below (T5.setTop (mkF m 38 #[.val (.int p0), .val (.int p1), .val (.int p2), .val (.int p3), .val (.long q4), .second, .val (.ref b1), .unset, .unset, .unset, .unset, .unset, .unset, .unset, .unset, .unset, .unset, .unset] [(.long q4), (.int (2 : Int32)), (.ref b1)])) _
    refine XS.bipush X5.here hx rfl (hb hby at_38) ?_
    show Steps p.tables e below (T5.setTop (mkF m 40 #[.val (.int p0), .val (.int p1), .val (.int p2), .val (.int p3), .val (.long q4), .second, .val (.ref b1), .unset, .unset, .unset, .unset, .unset, .unset, .unset, .unset, .unset, .unset, .unset] [(.int (16 : Int32)), (.long q4), (.int (2 : Int32)), (.ref b1)])) _
    refine XS.lushr X5.here hx rfl (hb hby at_40) rfl ?_
    show Steps p.tables e below (T5.setTop (mkF m 41 #[.val (.int p0), .val (.int p1), .val (.int p2), .val (.int p3), .val (.long q4), .second, .val (.ref b1), .unset, .unset, .unset, .unset, .unset, .unset, .unset, .unset, .unset, .unset, .unset] [(.long ((q4.toUInt64 >>> ((16 : Int32) &&& 0x3f).toInt64.toUInt64).toInt64)), (.int (2 : Int32)), (.ref b1)])) _
    refine X5.ldc2Long hx hown (mvT hZ (hw _ (List.mem_of_getElem? (i := 1) rfl))) (g := (mkF m 41 #[.val (.int p0), .val (.int p1), .val (.int p2), .val (.int p3), .val (.long q4), .second, .val (.ref b1), .unset, .unset, .unset, .unset, .unset, .unset, .unset, .unset, .unset, .unset, .unset] [(.long ((q4.toUInt64 >>> ((16 : Int32) &&& 0x3f).toInt64.toUInt64).toInt64)), (.int (2 : Int32)), (.ref b1)])) rfl (hb hby at_41) _ ?_
    show Steps p.tables e below (T5.setTop (mkF m 44 #[.val (.int p0), .val (.int p1), .val (.int p2), .val (.int p3), .val (.long q4), .second, .val (.ref b1), .unset, .unset, .unset, .unset, .unset, .unset, .unset, .unset, .unset, .unset, .unset] [(.long (255 : Int64)), (.long ((q4.toUInt64 >>> ((16 : Int32) &&& 0x3f).toInt64.toUInt64).toInt64)), (.int (2 : Int32)), (.ref b1)])) _
    refine XS.land X5.here hx rfl (hb hby at_44) rfl ?_
    show Steps p.tables e below (T5.setTop (mkF m 45 #[.val (.int p0), .val (.int p1), .val (.int p2), .val (.int p3), .val (.long q4), .second, .val (.ref b1), .unset, .unset, .unset, .unset, .unset, .unset, .unset, .unset, .unset, .unset, .unset] [(.long (((q4.toUInt64 >>> ((16 : Int32) &&& 0x3f).toInt64.toUInt64).toInt64) &&& (255 : Int64))), (.int (2 : Int32)), (.ref b1)])) _
    refine XS.l2i X5.here hx rfl (hb hby at_45) rfl ?_
    show Steps p.tables e below (T5.setTop (mkF m 46 #[.val (.int p0), .val (.int p1), .val (.int p2), .val (.int p3), .val (.long q4), .second, .val (.ref b1), .unset, .unset, .unset, .unset, .unset, .unset, .unset, .unset, .unset, .unset, .unset] [(.int ((((q4.toUInt64 >>> ((16 : Int32) &&& 0x3f).toInt64.toUInt64).toInt64) &&& (255 : Int64)).toInt32)), (.int (2 : Int32)), (.ref b1)])) _
    refine XS.i2c X5.here hx rfl (hb hby at_46) rfl ?_
    show Steps p.tables e below (T5.setTop (mkF m 47 #[.val (.int p0), .val (.int p1), .val (.int p2), .val (.int p3), .val (.long q4), .second, .val (.ref b1), .unset, .unset, .unset, .unset, .unset, .unset, .unset, .unset, .unset, .unset, .unset] [(.int (((((q4.toUInt64 >>> ((16 : Int32) &&& 0x3f).toInt64.toUInt64).toInt64) &&& (255 : Int64)).toInt32).toUInt32.toUInt16.toUInt32.toInt32)), (.int (2 : Int32)), (.ref b1)])) _
    refine st7 _ ?_
    exact k)
  obtain ⟨ls, hls, VL⟩ : ∃ ls : List Int32, own_by ls ∧ own_A Z h7 b1 k1 .char (24 : Int32) ls := ⟨_, own_by_wr (own_by_wr (own_by_wr own_z24 (own_lb _)) (own_lb _)) (own_lb _), V7⟩
  obtain ⟨v9_0, v9_1, v9_2, v9_3, v9_4, v9_5, v9_6, v9_7, hv9, prem9⟩ : ∃ (v9_0 : Int32) (v9_1 : Int32) (v9_2 : Int32) (v9_3 : Int32) (v9_4 : Int32) (v9_5 : Int32) (v9_6 : Int32) (v9_7 : Int32), (own_p v9_0 3 ∧ own_p v9_1 3 ∧ own_p v9_4 3 ∧ own_p v9_6 3) ∧ ∀ t, Steps p.tables e below (T7.setTop (mkF m 109 #[.val (.int p0), .val (.int p1), .val (.int p2), .val (.int p3), .val (.long q4), .second, .val (.ref b1), .val (.int v9_0), .val (.int v9_1), .val (.int v9_2), .val (.int v9_3), .val (.int v9_4), .val (.int v9_5), .val (.int v9_6), .val (.int v9_7), .unset, .unset, .unset] [])) t → Steps p.tables e below (s₁.setTop (entryFrame m #[(.int p0), (.int p1), (.int p2), (.int p3), (.long q4)] maxLocals)) t := by
    have pre10 : ∀ t, Steps p.tables e below (T7.setTop (mkF m 109 #[.val (.int p0), .val (.int p1), .val (.int p2), .val (.int p3), .val (.long q4), .second, .val (.ref b1), .val (.int (p0 &&& (3 : Int32))), .val (.int (((p0.toUInt32 >>> ((2 : Int32) &&& 31).toUInt32).toInt32) &&& (3 : Int32))), .val (.int (((p0.toUInt32 >>> ((4 : Int32) &&& 31).toUInt32).toInt32) &&& (3 : Int32))), .val (.int ((((p0.toUInt32 >>> ((6 : Int32) &&& 31).toUInt32).toInt32) &&& (3 : Int32)) % (3 : Int32))), .val (.int (((p0.toUInt32 >>> ((8 : Int32) &&& 31).toUInt32).toInt32) &&& (3 : Int32))), .val (.int (((p0.toUInt32 >>> ((10 : Int32) &&& 31).toUInt32).toInt32) &&& (3 : Int32))), .val (.int (((p0.toUInt32 >>> ((12 : Int32) &&& 31).toUInt32).toInt32) &&& (3 : Int32))), .val (.int (((p0.toUInt32 >>> ((14 : Int32) &&& 31).toUInt32).toInt32) &&& (3 : Int32))), .unset, .unset, .unset] [])) t → Steps p.tables e below (s₁.setTop (entryFrame m #[(.int p0), (.int p1), (.int p2), (.int p3), (.long q4)] maxLocals)) t := fun t k => pre8 t (by
      show Steps p.tables e below (T7.setTop (mkF m 48 #[.val (.int p0), .val (.int p1), .val (.int p2), .val (.int p3), .val (.long q4), .second, .val (.ref b1), .unset, .unset, .unset, .unset, .unset, .unset, .unset, .unset, .unset, .unset, .unset] [])) _
      refine XS.iloadN X7.here hx rfl (hb hby at_48) rfl ?_
      show Steps p.tables e below (T7.setTop (mkF m 49 #[.val (.int p0), .val (.int p1), .val (.int p2), .val (.int p3), .val (.long q4), .second, .val (.ref b1), .unset, .unset, .unset, .unset, .unset, .unset, .unset, .unset, .unset, .unset, .unset] [(.int p0)])) _
      refine XS.iconst X7.here hx rfl (hb hby at_49) ?_
      show Steps p.tables e below (T7.setTop (mkF m 50 #[.val (.int p0), .val (.int p1), .val (.int p2), .val (.int p3), .val (.long q4), .second, .val (.ref b1), .unset, .unset, .unset, .unset, .unset, .unset, .unset, .unset, .unset, .unset, .unset] [(.int (3 : Int32)), (.int p0)])) _
      refine XS.iand X7.here hx rfl (hb hby at_50) rfl ?_
      show Steps p.tables e below (T7.setTop (mkF m 51 #[.val (.int p0), .val (.int p1), .val (.int p2), .val (.int p3), .val (.long q4), .second, .val (.ref b1), .unset, .unset, .unset, .unset, .unset, .unset, .unset, .unset, .unset, .unset, .unset] [(.int (p0 &&& (3 : Int32)))])) _
      refine XS.istore X7.here hx rfl (hb hby at_51) rfl (l' := #[.val (.int p0), .val (.int p1), .val (.int p2), .val (.int p3), .val (.long q4), .second, .val (.ref b1), .val (.int (p0 &&& (3 : Int32))), .unset, .unset, .unset, .unset, .unset, .unset, .unset, .unset, .unset, .unset]) rfl ?_
      show Steps p.tables e below (T7.setTop (mkF m 53 #[.val (.int p0), .val (.int p1), .val (.int p2), .val (.int p3), .val (.long q4), .second, .val (.ref b1), .val (.int (p0 &&& (3 : Int32))), .unset, .unset, .unset, .unset, .unset, .unset, .unset, .unset, .unset, .unset] [])) _
      refine XS.iloadN X7.here hx rfl (hb hby at_53) rfl ?_
      show Steps p.tables e below (T7.setTop (mkF m 54 #[.val (.int p0), .val (.int p1), .val (.int p2), .val (.int p3), .val (.long q4), .second, .val (.ref b1), .val (.int (p0 &&& (3 : Int32))), .unset, .unset, .unset, .unset, .unset, .unset, .unset, .unset, .unset, .unset] [(.int p0)])) _
      refine XS.iconst X7.here hx rfl (hb hby at_54) ?_
      show Steps p.tables e below (T7.setTop (mkF m 55 #[.val (.int p0), .val (.int p1), .val (.int p2), .val (.int p3), .val (.long q4), .second, .val (.ref b1), .val (.int (p0 &&& (3 : Int32))), .unset, .unset, .unset, .unset, .unset, .unset, .unset, .unset, .unset, .unset] [(.int (2 : Int32)), (.int p0)])) _
      refine XS.iushr X7.here hx rfl (hb hby at_55) rfl ?_
      show Steps p.tables e below (T7.setTop (mkF m 56 #[.val (.int p0), .val (.int p1), .val (.int p2), .val (.int p3), .val (.long q4), .second, .val (.ref b1), .val (.int (p0 &&& (3 : Int32))), .unset, .unset, .unset, .unset, .unset, .unset, .unset, .unset, .unset, .unset] [(.int ((p0.toUInt32 >>> ((2 : Int32) &&& 31).toUInt32).toInt32))])) _
      refine XS.iconst X7.here hx rfl (hb hby at_56) ?_
      show Steps p.tables e below (T7.setTop (mkF m 57 #[.val (.int p0), .val (.int p1), .val (.int p2), .val (.int p3), .val (.long q4), .second, .val (.ref b1), .val (.int (p0 &&& (3 : Int32))), .unset, .unset, .unset, .unset, .unset, .unset, .unset, .unset, .unset, .unset] [(.int (3 : Int32)), (.int ((p0.toUInt32 >>> ((2 : Int32) &&& 31).toUInt32).toInt32))])) _
      refine XS.iand X7.here hx rfl (hb hby at_57) rfl ?_
      show Steps p.tables e below (T7.setTop (mkF m 58 #[.val (.int p0), .val (.int p1), .val (.int p2), .val (.int p3), .val (.long q4), .second, .val (.ref b1), .val (.int (p0 &&& (3 : Int32))), .unset, .unset, .unset, .unset, .unset, .unset, .unset, .unset, .unset, .unset] [(.int (((p0.toUInt32 >>> ((2 : Int32) &&& 31).toUInt32).toInt32) &&& (3 : Int32)))])) _
      refine XS.istore X7.here hx rfl (hb hby at_58) rfl (l' := #[.val (.int p0), .val (.int p1), .val (.int p2), .val (.int p3), .val (.long q4), .second, .val (.ref b1), .val (.int (p0 &&& (3 : Int32))), .val (.int (((p0.toUInt32 >>> ((2 : Int32) &&& 31).toUInt32).toInt32) &&& (3 : Int32))), .unset, .unset, .unset, .unset, .unset, .unset, .unset, .unset, .unset]) rfl ?_
      show Steps p.tables e below (T7.setTop (mkF m 60 #[.val (.int p0), .val (.int p1), .val (.int p2), .val (.int p3), .val (.long q4), .second, .val (.ref b1), .val (.int (p0 &&& (3 : Int32))), .val (.int (((p0.toUInt32 >>> ((2 : Int32) &&& 31).toUInt32).toInt32) &&& (3 : Int32))), .unset, .unset, .unset, .unset, .unset, .unset, .unset, .unset, .unset] [])) _
      refine XS.iloadN X7.here hx rfl (hb hby at_60) rfl ?_
      show Steps p.tables e below (T7.setTop (mkF m 61 #[.val (.int p0), .val (.int p1), .val (.int p2), .val (.int p3), .val (.long q4), .second, .val (.ref b1), .val (.int (p0 &&& (3 : Int32))), .val (.int (((p0.toUInt32 >>> ((2 : Int32) &&& 31).toUInt32).toInt32) &&& (3 : Int32))), .unset, .unset, .unset, .unset, .unset, .unset, .unset, .unset, .unset] [(.int p0)])) _
      refine XS.iconst X7.here hx rfl (hb hby at_61) ?_
      show Steps p.tables e below (T7.setTop (mkF m 62 #[.val (.int p0), .val (.int p1), .val (.int p2), .val (.int p3), .val (.long q4), .second, .val (.ref b1), .val (.int (p0 &&& (3 : Int32))), .val (.int (((p0.toUInt32 >>> ((2 : Int32) &&& 31).toUInt32).toInt32) &&& (3 : Int32))), .unset, .unset, .unset, .unset, .unset, .unset, .unset, .unset, .unset] [(.int (4 : Int32)), (.int p0)])) _
      refine XS.iushr X7.here hx rfl (hb hby at_62) rfl ?_
      show Steps p.tables e below (T7.setTop (mkF m 63 #[.val (.int p0), .val (.int p1), .val (.int p2), .val (.int p3), .val (.long q4), .second, .val (.ref b1), .val (.int (p0 &&& (3 : Int32))), .val (.int (((p0.toUInt32 >>> ((2 : Int32) &&& 31).toUInt32).toInt32) &&& (3 : Int32))), .unset, .unset, .unset, .unset, .unset, .unset, .unset, .unset, .unset] [(.int ((p0.toUInt32 >>> ((4 : Int32) &&& 31).toUInt32).toInt32))])) _
      refine XS.iconst X7.here hx rfl (hb hby at_63) ?_
      show Steps p.tables e below (T7.setTop (mkF m 64 #[.val (.int p0), .val (.int p1), .val (.int p2), .val (.int p3), .val (.long q4), .second, .val (.ref b1), .val (.int (p0 &&& (3 : Int32))), .val (.int (((p0.toUInt32 >>> ((2 : Int32) &&& 31).toUInt32).toInt32) &&& (3 : Int32))), .unset, .unset, .unset, .unset, .unset, .unset, .unset, .unset, .unset] [(.int (3 : Int32)), (.int ((p0.toUInt32 >>> ((4 : Int32) &&& 31).toUInt32).toInt32))])) _
      refine XS.iand X7.here hx rfl (hb hby at_64) rfl ?_
      show Steps p.tables e below (T7.setTop (mkF m 65 #[.val (.int p0), .val (.int p1), .val (.int p2), .val (.int p3), .val (.long q4), .second, .val (.ref b1), .val (.int (p0 &&& (3 : Int32))), .val (.int (((p0.toUInt32 >>> ((2 : Int32) &&& 31).toUInt32).toInt32) &&& (3 : Int32))), .unset, .unset, .unset, .unset, .unset, .unset, .unset, .unset, .unset] [(.int (((p0.toUInt32 >>> ((4 : Int32) &&& 31).toUInt32).toInt32) &&& (3 : Int32)))])) _
      refine XS.istore X7.here hx rfl (hb hby at_65) rfl (l' := #[.val (.int p0), .val (.int p1), .val (.int p2), .val (.int p3), .val (.long q4), .second, .val (.ref b1), .val (.int (p0 &&& (3 : Int32))), .val (.int (((p0.toUInt32 >>> ((2 : Int32) &&& 31).toUInt32).toInt32) &&& (3 : Int32))), .val (.int (((p0.toUInt32 >>> ((4 : Int32) &&& 31).toUInt32).toInt32) &&& (3 : Int32))), .unset, .unset, .unset, .unset, .unset, .unset, .unset, .unset]) rfl ?_
      show Steps p.tables e below (T7.setTop (mkF m 67 #[.val (.int p0), .val (.int p1), .val (.int p2), .val (.int p3), .val (.long q4), .second, .val (.ref b1), .val (.int (p0 &&& (3 : Int32))), .val (.int (((p0.toUInt32 >>> ((2 : Int32) &&& 31).toUInt32).toInt32) &&& (3 : Int32))), .val (.int (((p0.toUInt32 >>> ((4 : Int32) &&& 31).toUInt32).toInt32) &&& (3 : Int32))), .unset, .unset, .unset, .unset, .unset, .unset, .unset, .unset] [])) _
      refine XS.iloadN X7.here hx rfl (hb hby at_67) rfl ?_
      show Steps p.tables e below (T7.setTop (mkF m 68 #[.val (.int p0), .val (.int p1), .val (.int p2), .val (.int p3), .val (.long q4), .second, .val (.ref b1), .val (.int (p0 &&& (3 : Int32))), .val (.int (((p0.toUInt32 >>> ((2 : Int32) &&& 31).toUInt32).toInt32) &&& (3 : Int32))), .val (.int (((p0.toUInt32 >>> ((4 : Int32) &&& 31).toUInt32).toInt32) &&& (3 : Int32))), .unset, .unset, .unset, .unset, .unset, .unset, .unset, .unset] [(.int p0)])) _
      refine XS.bipush X7.here hx rfl (hb hby at_68) ?_
      show Steps p.tables e below (T7.setTop (mkF m 70 #[.val (.int p0), .val (.int p1), .val (.int p2), .val (.int p3), .val (.long q4), .second, .val (.ref b1), .val (.int (p0 &&& (3 : Int32))), .val (.int (((p0.toUInt32 >>> ((2 : Int32) &&& 31).toUInt32).toInt32) &&& (3 : Int32))), .val (.int (((p0.toUInt32 >>> ((4 : Int32) &&& 31).toUInt32).toInt32) &&& (3 : Int32))), .unset, .unset, .unset, .unset, .unset, .unset, .unset, .unset] [(.int (6 : Int32)), (.int p0)])) _
      refine XS.iushr X7.here hx rfl (hb hby at_70) rfl ?_
      show Steps p.tables e below (T7.setTop (mkF m 71 #[.val (.int p0), .val (.int p1), .val (.int p2), .val (.int p3), .val (.long q4), .second, .val (.ref b1), .val (.int (p0 &&& (3 : Int32))), .val (.int (((p0.toUInt32 >>> ((2 : Int32) &&& 31).toUInt32).toInt32) &&& (3 : Int32))), .val (.int (((p0.toUInt32 >>> ((4 : Int32) &&& 31).toUInt32).toInt32) &&& (3 : Int32))), .unset, .unset, .unset, .unset, .unset, .unset, .unset, .unset] [(.int ((p0.toUInt32 >>> ((6 : Int32) &&& 31).toUInt32).toInt32))])) _
      refine XS.iconst X7.here hx rfl (hb hby at_71) ?_
      show Steps p.tables e below (T7.setTop (mkF m 72 #[.val (.int p0), .val (.int p1), .val (.int p2), .val (.int p3), .val (.long q4), .second, .val (.ref b1), .val (.int (p0 &&& (3 : Int32))), .val (.int (((p0.toUInt32 >>> ((2 : Int32) &&& 31).toUInt32).toInt32) &&& (3 : Int32))), .val (.int (((p0.toUInt32 >>> ((4 : Int32) &&& 31).toUInt32).toInt32) &&& (3 : Int32))), .unset, .unset, .unset, .unset, .unset, .unset, .unset, .unset] [(.int (3 : Int32)), (.int ((p0.toUInt32 >>> ((6 : Int32) &&& 31).toUInt32).toInt32))])) _
      refine XS.iand X7.here hx rfl (hb hby at_72) rfl ?_
      show Steps p.tables e below (T7.setTop (mkF m 73 #[.val (.int p0), .val (.int p1), .val (.int p2), .val (.int p3), .val (.long q4), .second, .val (.ref b1), .val (.int (p0 &&& (3 : Int32))), .val (.int (((p0.toUInt32 >>> ((2 : Int32) &&& 31).toUInt32).toInt32) &&& (3 : Int32))), .val (.int (((p0.toUInt32 >>> ((4 : Int32) &&& 31).toUInt32).toInt32) &&& (3 : Int32))), .unset, .unset, .unset, .unset, .unset, .unset, .unset, .unset] [(.int (((p0.toUInt32 >>> ((6 : Int32) &&& 31).toUInt32).toInt32) &&& (3 : Int32)))])) _
      refine XS.iconst X7.here hx rfl (hb hby at_73) ?_
      show Steps p.tables e below (T7.setTop (mkF m 74 #[.val (.int p0), .val (.int p1), .val (.int p2), .val (.int p3), .val (.long q4), .second, .val (.ref b1), .val (.int (p0 &&& (3 : Int32))), .val (.int (((p0.toUInt32 >>> ((2 : Int32) &&& 31).toUInt32).toInt32) &&& (3 : Int32))), .val (.int (((p0.toUInt32 >>> ((4 : Int32) &&& 31).toUInt32).toInt32) &&& (3 : Int32))), .unset, .unset, .unset, .unset, .unset, .unset, .unset, .unset] [(.int (3 : Int32)), (.int (((p0.toUInt32 >>> ((6 : Int32) &&& 31).toUInt32).toInt32) &&& (3 : Int32)))])) _
      refine iremM X7 hx rfl (hb hby at_74) rfl (by decide) ?_
      show Steps p.tables e below (T7.setTop (mkF m 75 #[.val (.int p0), .val (.int p1), .val (.int p2), .val (.int p3), .val (.long q4), .second, .val (.ref b1), .val (.int (p0 &&& (3 : Int32))), .val (.int (((p0.toUInt32 >>> ((2 : Int32) &&& 31).toUInt32).toInt32) &&& (3 : Int32))), .val (.int (((p0.toUInt32 >>> ((4 : Int32) &&& 31).toUInt32).toInt32) &&& (3 : Int32))), .unset, .unset, .unset, .unset, .unset, .unset, .unset, .unset] [(.int ((((p0.toUInt32 >>> ((6 : Int32) &&& 31).toUInt32).toInt32) &&& (3 : Int32)) % (3 : Int32)))])) _
      refine XS.istore X7.here hx rfl (hb hby at_75) rfl (l' := #[.val (.int p0), .val (.int p1), .val (.int p2), .val (.int p3), .val (.long q4), .second, .val (.ref b1), .val (.int (p0 &&& (3 : Int32))), .val (.int (((p0.toUInt32 >>> ((2 : Int32) &&& 31).toUInt32).toInt32) &&& (3 : Int32))), .val (.int (((p0.toUInt32 >>> ((4 : Int32) &&& 31).toUInt32).toInt32) &&& (3 : Int32))), .val (.int ((((p0.toUInt32 >>> ((6 : Int32) &&& 31).toUInt32).toInt32) &&& (3 : Int32)) % (3 : Int32))), .unset, .unset, .unset, .unset, .unset, .unset, .unset]) rfl ?_
      show Steps p.tables e below (T7.setTop (mkF m 77 #[.val (.int p0), .val (.int p1), .val (.int p2), .val (.int p3), .val (.long q4), .second, .val (.ref b1), .val (.int (p0 &&& (3 : Int32))), .val (.int (((p0.toUInt32 >>> ((2 : Int32) &&& 31).toUInt32).toInt32) &&& (3 : Int32))), .val (.int (((p0.toUInt32 >>> ((4 : Int32) &&& 31).toUInt32).toInt32) &&& (3 : Int32))), .val (.int ((((p0.toUInt32 >>> ((6 : Int32) &&& 31).toUInt32).toInt32) &&& (3 : Int32)) % (3 : Int32))), .unset, .unset, .unset, .unset, .unset, .unset, .unset] [])) _
      refine XS.iloadN X7.here hx rfl (hb hby at_77) rfl ?_
      show Steps p.tables e below (T7.setTop (mkF m 78 #[.val (.int p0), .val (.int p1), .val (.int p2), .val (.int p3), .val (.long q4), .second, .val (.ref b1), .val (.int (p0 &&& (3 : Int32))), .val (.int (((p0.toUInt32 >>> ((2 : Int32) &&& 31).toUInt32).toInt32) &&& (3 : Int32))), .val (.int (((p0.toUInt32 >>> ((4 : Int32) &&& 31).toUInt32).toInt32) &&& (3 : Int32))), .val (.int ((((p0.toUInt32 >>> ((6 : Int32) &&& 31).toUInt32).toInt32) &&& (3 : Int32)) % (3 : Int32))), .unset, .unset, .unset, .unset, .unset, .unset, .unset] [(.int p0)])) _
      refine XS.bipush X7.here hx rfl (hb hby at_78) ?_
      show Steps p.tables e below (T7.setTop (mkF m 80 #[.val (.int p0), .val (.int p1), .val (.int p2), .val (.int p3), .val (.long q4), .second, .val (.ref b1), .val (.int (p0 &&& (3 : Int32))), .val (.int (((p0.toUInt32 >>> ((2 : Int32) &&& 31).toUInt32).toInt32) &&& (3 : Int32))), .val (.int (((p0.toUInt32 >>> ((4 : Int32) &&& 31).toUInt32).toInt32) &&& (3 : Int32))), .val (.int ((((p0.toUInt32 >>> ((6 : Int32) &&& 31).toUInt32).toInt32) &&& (3 : Int32)) % (3 : Int32))), .unset, .unset, .unset, .unset, .unset, .unset, .unset] [(.int (8 : Int32)), (.int p0)])) _
      refine XS.iushr X7.here hx rfl (hb hby at_80) rfl ?_
      show Steps p.tables e below (T7.setTop (mkF m 81 #[.val (.int p0), .val (.int p1), .val (.int p2), .val (.int p3), .val (.long q4), .second, .val (.ref b1), .val (.int (p0 &&& (3 : Int32))), .val (.int (((p0.toUInt32 >>> ((2 : Int32) &&& 31).toUInt32).toInt32) &&& (3 : Int32))), .val (.int (((p0.toUInt32 >>> ((4 : Int32) &&& 31).toUInt32).toInt32) &&& (3 : Int32))), .val (.int ((((p0.toUInt32 >>> ((6 : Int32) &&& 31).toUInt32).toInt32) &&& (3 : Int32)) % (3 : Int32))), .unset, .unset, .unset, .unset, .unset, .unset, .unset] [(.int ((p0.toUInt32 >>> ((8 : Int32) &&& 31).toUInt32).toInt32))])) _
      refine XS.iconst X7.here hx rfl (hb hby at_81) ?_
      show Steps p.tables e below (T7.setTop (mkF m 82 #[.val (.int p0), .val (.int p1), .val (.int p2), .val (.int p3), .val (.long q4), .second, .val (.ref b1), .val (.int (p0 &&& (3 : Int32))), .val (.int (((p0.toUInt32 >>> ((2 : Int32) &&& 31).toUInt32).toInt32) &&& (3 : Int32))), .val (.int (((p0.toUInt32 >>> ((4 : Int32) &&& 31).toUInt32).toInt32) &&& (3 : Int32))), .val (.int ((((p0.toUInt32 >>> ((6 : Int32) &&& 31).toUInt32).toInt32) &&& (3 : Int32)) % (3 : Int32))), .unset, .unset, .unset, .unset, .unset, .unset, .unset] [(.int (3 : Int32)), (.int ((p0.toUInt32 >>> ((8 : Int32) &&& 31).toUInt32).toInt32))])) _
      refine XS.iand X7.here hx rfl (hb hby at_82) rfl ?_
      show Steps p.tables e below (T7.setTop (mkF m 83 #[.val (.int p0), .val (.int p1), .val (.int p2), .val (.int p3), .val (.long q4), .second, .val (.ref b1), .val (.int (p0 &&& (3 : Int32))), .val (.int (((p0.toUInt32 >>> ((2 : Int32) &&& 31).toUInt32).toInt32) &&& (3 : Int32))), .val (.int (((p0.toUInt32 >>> ((4 : Int32) &&& 31).toUInt32).toInt32) &&& (3 : Int32))), .val (.int ((((p0.toUInt32 >>> ((6 : Int32) &&& 31).toUInt32).toInt32) &&& (3 : Int32)) % (3 : Int32))), .unset, .unset, .unset, .unset, .unset, .unset, .unset] [(.int (((p0.toUInt32 >>> ((8 : Int32) &&& 31).toUInt32).toInt32) &&& (3 : Int32)))])) _
      refine XS.istore X7.here hx rfl (hb hby at_83) rfl (l' := #[.val (.int p0), .val (.int p1), .val (.int p2), .val (.int p3), .val (.long q4), .second, .val (.ref b1), .val (.int (p0 &&& (3 : Int32))), .val (.int (((p0.toUInt32 >>> ((2 : Int32) &&& 31).toUInt32).toInt32) &&& (3 : Int32))), .val (.int (((p0.toUInt32 >>> ((4 : Int32) &&& 31).toUInt32).toInt32) &&& (3 : Int32))), .val (.int ((((p0.toUInt32 >>> ((6 : Int32) &&& 31).toUInt32).toInt32) &&& (3 : Int32)) % (3 : Int32))), .val (.int (((p0.toUInt32 >>> ((8 : Int32) &&& 31).toUInt32).toInt32) &&& (3 : Int32))), .unset, .unset, .unset, .unset, .unset, .unset]) rfl ?_
      show Steps p.tables e below (T7.setTop (mkF m 85 #[.val (.int p0), .val (.int p1), .val (.int p2), .val (.int p3), .val (.long q4), .second, .val (.ref b1), .val (.int (p0 &&& (3 : Int32))), .val (.int (((p0.toUInt32 >>> ((2 : Int32) &&& 31).toUInt32).toInt32) &&& (3 : Int32))), .val (.int (((p0.toUInt32 >>> ((4 : Int32) &&& 31).toUInt32).toInt32) &&& (3 : Int32))), .val (.int ((((p0.toUInt32 >>> ((6 : Int32) &&& 31).toUInt32).toInt32) &&& (3 : Int32)) % (3 : Int32))), .val (.int (((p0.toUInt32 >>> ((8 : Int32) &&& 31).toUInt32).toInt32) &&& (3 : Int32))), .unset, .unset, .unset, .unset, .unset, .unset] [])) _
      refine XS.iloadN X7.here hx rfl (hb hby at_85) rfl ?_
      show Steps p.tables e below (T7.setTop (mkF m 86 #[.val (.int p0), .val (.int p1), .val (.int p2), .val (.int p3), .val (.long q4), .second, .val (.ref b1), .val (.int (p0 &&& (3 : Int32))), .val (.int (((p0.toUInt32 >>> ((2 : Int32) &&& 31).toUInt32).toInt32) &&& (3 : Int32))), .val (.int (((p0.toUInt32 >>> ((4 : Int32) &&& 31).toUInt32).toInt32) &&& (3 : Int32))), .val (.int ((((p0.toUInt32 >>> ((6 : Int32) &&& 31).toUInt32).toInt32) &&& (3 : Int32)) % (3 : Int32))), .val (.int (((p0.toUInt32 >>> ((8 : Int32) &&& 31).toUInt32).toInt32) &&& (3 : Int32))), .unset, .unset, .unset, .unset, .unset, .unset] [(.int p0)])) _
      refine XS.bipush X7.here hx rfl (hb hby at_86) ?_
      show Steps p.tables e below (T7.setTop (mkF m 88 #[.val (.int p0), .val (.int p1), .val (.int p2), .val (.int p3), .val (.long q4), .second, .val (.ref b1), .val (.int (p0 &&& (3 : Int32))), .val (.int (((p0.toUInt32 >>> ((2 : Int32) &&& 31).toUInt32).toInt32) &&& (3 : Int32))), .val (.int (((p0.toUInt32 >>> ((4 : Int32) &&& 31).toUInt32).toInt32) &&& (3 : Int32))), .val (.int ((((p0.toUInt32 >>> ((6 : Int32) &&& 31).toUInt32).toInt32) &&& (3 : Int32)) % (3 : Int32))), .val (.int (((p0.toUInt32 >>> ((8 : Int32) &&& 31).toUInt32).toInt32) &&& (3 : Int32))), .unset, .unset, .unset, .unset, .unset, .unset] [(.int (10 : Int32)), (.int p0)])) _
      refine XS.iushr X7.here hx rfl (hb hby at_88) rfl ?_
      show Steps p.tables e below (T7.setTop (mkF m 89 #[.val (.int p0), .val (.int p1), .val (.int p2), .val (.int p3), .val (.long q4), .second, .val (.ref b1), .val (.int (p0 &&& (3 : Int32))), .val (.int (((p0.toUInt32 >>> ((2 : Int32) &&& 31).toUInt32).toInt32) &&& (3 : Int32))), .val (.int (((p0.toUInt32 >>> ((4 : Int32) &&& 31).toUInt32).toInt32) &&& (3 : Int32))), .val (.int ((((p0.toUInt32 >>> ((6 : Int32) &&& 31).toUInt32).toInt32) &&& (3 : Int32)) % (3 : Int32))), .val (.int (((p0.toUInt32 >>> ((8 : Int32) &&& 31).toUInt32).toInt32) &&& (3 : Int32))), .unset, .unset, .unset, .unset, .unset, .unset] [(.int ((p0.toUInt32 >>> ((10 : Int32) &&& 31).toUInt32).toInt32))])) _
      refine XS.iconst X7.here hx rfl (hb hby at_89) ?_
      show Steps p.tables e below (T7.setTop (mkF m 90 #[.val (.int p0), .val (.int p1), .val (.int p2), .val (.int p3), .val (.long q4), .second, .val (.ref b1), .val (.int (p0 &&& (3 : Int32))), .val (.int (((p0.toUInt32 >>> ((2 : Int32) &&& 31).toUInt32).toInt32) &&& (3 : Int32))), .val (.int (((p0.toUInt32 >>> ((4 : Int32) &&& 31).toUInt32).toInt32) &&& (3 : Int32))), .val (.int ((((p0.toUInt32 >>> ((6 : Int32) &&& 31).toUInt32).toInt32) &&& (3 : Int32)) % (3 : Int32))), .val (.int (((p0.toUInt32 >>> ((8 : Int32) &&& 31).toUInt32).toInt32) &&& (3 : Int32))), .unset, .unset, .unset, .unset, .unset, .unset] [(.int (3 : Int32)), (.int ((p0.toUInt32 >>> ((10 : Int32) &&& 31).toUInt32).toInt32))])) _
      refine XS.iand X7.here hx rfl (hb hby at_90) rfl ?_
      show Steps p.tables e below (T7.setTop (mkF m 91 #[.val (.int p0), .val (.int p1), .val (.int p2), .val (.int p3), .val (.long q4), .second, .val (.ref b1), .val (.int (p0 &&& (3 : Int32))), .val (.int (((p0.toUInt32 >>> ((2 : Int32) &&& 31).toUInt32).toInt32) &&& (3 : Int32))), .val (.int (((p0.toUInt32 >>> ((4 : Int32) &&& 31).toUInt32).toInt32) &&& (3 : Int32))), .val (.int ((((p0.toUInt32 >>> ((6 : Int32) &&& 31).toUInt32).toInt32) &&& (3 : Int32)) % (3 : Int32))), .val (.int (((p0.toUInt32 >>> ((8 : Int32) &&& 31).toUInt32).toInt32) &&& (3 : Int32))), .unset, .unset, .unset, .unset, .unset, .unset] [(.int (((p0.toUInt32 >>> ((10 : Int32) &&& 31).toUInt32).toInt32) &&& (3 : Int32)))])) _
      refine XS.istore X7.here hx rfl (hb hby at_91) rfl (l' := #[.val (.int p0), .val (.int p1), .val (.int p2), .val (.int p3), .val (.long q4), .second, .val (.ref b1), .val (.int (p0 &&& (3 : Int32))), .val (.int (((p0.toUInt32 >>> ((2 : Int32) &&& 31).toUInt32).toInt32) &&& (3 : Int32))), .val (.int (((p0.toUInt32 >>> ((4 : Int32) &&& 31).toUInt32).toInt32) &&& (3 : Int32))), .val (.int ((((p0.toUInt32 >>> ((6 : Int32) &&& 31).toUInt32).toInt32) &&& (3 : Int32)) % (3 : Int32))), .val (.int (((p0.toUInt32 >>> ((8 : Int32) &&& 31).toUInt32).toInt32) &&& (3 : Int32))), .val (.int (((p0.toUInt32 >>> ((10 : Int32) &&& 31).toUInt32).toInt32) &&& (3 : Int32))), .unset, .unset, .unset, .unset, .unset]) rfl ?_
      show Steps p.tables e below (T7.setTop (mkF m 93 #[.val (.int p0), .val (.int p1), .val (.int p2), .val (.int p3), .val (.long q4), .second, .val (.ref b1), .val (.int (p0 &&& (3 : Int32))), .val (.int (((p0.toUInt32 >>> ((2 : Int32) &&& 31).toUInt32).toInt32) &&& (3 : Int32))), .val (.int (((p0.toUInt32 >>> ((4 : Int32) &&& 31).toUInt32).toInt32) &&& (3 : Int32))), .val (.int ((((p0.toUInt32 >>> ((6 : Int32) &&& 31).toUInt32).toInt32) &&& (3 : Int32)) % (3 : Int32))), .val (.int (((p0.toUInt32 >>> ((8 : Int32) &&& 31).toUInt32).toInt32) &&& (3 : Int32))), .val (.int (((p0.toUInt32 >>> ((10 : Int32) &&& 31).toUInt32).toInt32) &&& (3 : Int32))), .unset, .unset, .unset, .unset, .unset] [])) _
      refine XS.iloadN X7.here hx rfl (hb hby at_93) rfl ?_
      show Steps p.tables e below (T7.setTop (mkF m 94 #[.val (.int p0), .val (.int p1), .val (.int p2), .val (.int p3), .val (.long q4), .second, .val (.ref b1), .val (.int (p0 &&& (3 : Int32))), .val (.int (((p0.toUInt32 >>> ((2 : Int32) &&& 31).toUInt32).toInt32) &&& (3 : Int32))), .val (.int (((p0.toUInt32 >>> ((4 : Int32) &&& 31).toUInt32).toInt32) &&& (3 : Int32))), .val (.int ((((p0.toUInt32 >>> ((6 : Int32) &&& 31).toUInt32).toInt32) &&& (3 : Int32)) % (3 : Int32))), .val (.int (((p0.toUInt32 >>> ((8 : Int32) &&& 31).toUInt32).toInt32) &&& (3 : Int32))), .val (.int (((p0.toUInt32 >>> ((10 : Int32) &&& 31).toUInt32).toInt32) &&& (3 : Int32))), .unset, .unset, .unset, .unset, .unset] [(.int p0)])) _
      refine XS.bipush X7.here hx rfl (hb hby at_94) ?_
      show Steps p.tables e below (T7.setTop (mkF m 96 #[.val (.int p0), .val (.int p1), .val (.int p2), .val (.int p3), .val (.long q4), .second, .val (.ref b1), .val (.int (p0 &&& (3 : Int32))), .val (.int (((p0.toUInt32 >>> ((2 : Int32) &&& 31).toUInt32).toInt32) &&& (3 : Int32))), .val (.int (((p0.toUInt32 >>> ((4 : Int32) &&& 31).toUInt32).toInt32) &&& (3 : Int32))), .val (.int ((((p0.toUInt32 >>> ((6 : Int32) &&& 31).toUInt32).toInt32) &&& (3 : Int32)) % (3 : Int32))), .val (.int (((p0.toUInt32 >>> ((8 : Int32) &&& 31).toUInt32).toInt32) &&& (3 : Int32))), .val (.int (((p0.toUInt32 >>> ((10 : Int32) &&& 31).toUInt32).toInt32) &&& (3 : Int32))), .unset, .unset, .unset, .unset, .unset] [(.int (12 : Int32)), (.int p0)])) _
      refine XS.iushr X7.here hx rfl (hb hby at_96) rfl ?_
      show Steps p.tables e below (T7.setTop (mkF m 97 #[.val (.int p0), .val (.int p1), .val (.int p2), .val (.int p3), .val (.long q4), .second, .val (.ref b1), .val (.int (p0 &&& (3 : Int32))), .val (.int (((p0.toUInt32 >>> ((2 : Int32) &&& 31).toUInt32).toInt32) &&& (3 : Int32))), .val (.int (((p0.toUInt32 >>> ((4 : Int32) &&& 31).toUInt32).toInt32) &&& (3 : Int32))), .val (.int ((((p0.toUInt32 >>> ((6 : Int32) &&& 31).toUInt32).toInt32) &&& (3 : Int32)) % (3 : Int32))), .val (.int (((p0.toUInt32 >>> ((8 : Int32) &&& 31).toUInt32).toInt32) &&& (3 : Int32))), .val (.int (((p0.toUInt32 >>> ((10 : Int32) &&& 31).toUInt32).toInt32) &&& (3 : Int32))), .unset, .unset, .unset, .unset, .unset] [(.int ((p0.toUInt32 >>> ((12 : Int32) &&& 31).toUInt32).toInt32))])) _
      refine XS.iconst X7.here hx rfl (hb hby at_97) ?_
      show Steps p.tables e below (T7.setTop (mkF m 98 #[.val (.int p0), .val (.int p1), .val (.int p2), .val (.int p3), .val (.long q4), .second, .val (.ref b1), .val (.int (p0 &&& (3 : Int32))), .val (.int (((p0.toUInt32 >>> ((2 : Int32) &&& 31).toUInt32).toInt32) &&& (3 : Int32))), .val (.int (((p0.toUInt32 >>> ((4 : Int32) &&& 31).toUInt32).toInt32) &&& (3 : Int32))), .val (.int ((((p0.toUInt32 >>> ((6 : Int32) &&& 31).toUInt32).toInt32) &&& (3 : Int32)) % (3 : Int32))), .val (.int (((p0.toUInt32 >>> ((8 : Int32) &&& 31).toUInt32).toInt32) &&& (3 : Int32))), .val (.int (((p0.toUInt32 >>> ((10 : Int32) &&& 31).toUInt32).toInt32) &&& (3 : Int32))), .unset, .unset, .unset, .unset, .unset] [(.int (3 : Int32)), (.int ((p0.toUInt32 >>> ((12 : Int32) &&& 31).toUInt32).toInt32))])) _
      refine XS.iand X7.here hx rfl (hb hby at_98) rfl ?_
      show Steps p.tables e below (T7.setTop (mkF m 99 #[.val (.int p0), .val (.int p1), .val (.int p2), .val (.int p3), .val (.long q4), .second, .val (.ref b1), .val (.int (p0 &&& (3 : Int32))), .val (.int (((p0.toUInt32 >>> ((2 : Int32) &&& 31).toUInt32).toInt32) &&& (3 : Int32))), .val (.int (((p0.toUInt32 >>> ((4 : Int32) &&& 31).toUInt32).toInt32) &&& (3 : Int32))), .val (.int ((((p0.toUInt32 >>> ((6 : Int32) &&& 31).toUInt32).toInt32) &&& (3 : Int32)) % (3 : Int32))), .val (.int (((p0.toUInt32 >>> ((8 : Int32) &&& 31).toUInt32).toInt32) &&& (3 : Int32))), .val (.int (((p0.toUInt32 >>> ((10 : Int32) &&& 31).toUInt32).toInt32) &&& (3 : Int32))), .unset, .unset, .unset, .unset, .unset] [(.int (((p0.toUInt32 >>> ((12 : Int32) &&& 31).toUInt32).toInt32) &&& (3 : Int32)))])) _
      refine XS.istore X7.here hx rfl (hb hby at_99) rfl (l' := #[.val (.int p0), .val (.int p1), .val (.int p2), .val (.int p3), .val (.long q4), .second, .val (.ref b1), .val (.int (p0 &&& (3 : Int32))), .val (.int (((p0.toUInt32 >>> ((2 : Int32) &&& 31).toUInt32).toInt32) &&& (3 : Int32))), .val (.int (((p0.toUInt32 >>> ((4 : Int32) &&& 31).toUInt32).toInt32) &&& (3 : Int32))), .val (.int ((((p0.toUInt32 >>> ((6 : Int32) &&& 31).toUInt32).toInt32) &&& (3 : Int32)) % (3 : Int32))), .val (.int (((p0.toUInt32 >>> ((8 : Int32) &&& 31).toUInt32).toInt32) &&& (3 : Int32))), .val (.int (((p0.toUInt32 >>> ((10 : Int32) &&& 31).toUInt32).toInt32) &&& (3 : Int32))), .val (.int (((p0.toUInt32 >>> ((12 : Int32) &&& 31).toUInt32).toInt32) &&& (3 : Int32))), .unset, .unset, .unset, .unset]) rfl ?_
      show Steps p.tables e below (T7.setTop (mkF m 101 #[.val (.int p0), .val (.int p1), .val (.int p2), .val (.int p3), .val (.long q4), .second, .val (.ref b1), .val (.int (p0 &&& (3 : Int32))), .val (.int (((p0.toUInt32 >>> ((2 : Int32) &&& 31).toUInt32).toInt32) &&& (3 : Int32))), .val (.int (((p0.toUInt32 >>> ((4 : Int32) &&& 31).toUInt32).toInt32) &&& (3 : Int32))), .val (.int ((((p0.toUInt32 >>> ((6 : Int32) &&& 31).toUInt32).toInt32) &&& (3 : Int32)) % (3 : Int32))), .val (.int (((p0.toUInt32 >>> ((8 : Int32) &&& 31).toUInt32).toInt32) &&& (3 : Int32))), .val (.int (((p0.toUInt32 >>> ((10 : Int32) &&& 31).toUInt32).toInt32) &&& (3 : Int32))), .val (.int (((p0.toUInt32 >>> ((12 : Int32) &&& 31).toUInt32).toInt32) &&& (3 : Int32))), .unset, .unset, .unset, .unset] [])) _
      refine XS.iloadN X7.here hx rfl (hb hby at_101) rfl ?_
      show Steps p.tables e below (T7.setTop (mkF m 102 #[.val (.int p0), .val (.int p1), .val (.int p2), .val (.int p3), .val (.long q4), .second, .val (.ref b1), .val (.int (p0 &&& (3 : Int32))), .val (.int (((p0.toUInt32 >>> ((2 : Int32) &&& 31).toUInt32).toInt32) &&& (3 : Int32))), .val (.int (((p0.toUInt32 >>> ((4 : Int32) &&& 31).toUInt32).toInt32) &&& (3 : Int32))), .val (.int ((((p0.toUInt32 >>> ((6 : Int32) &&& 31).toUInt32).toInt32) &&& (3 : Int32)) % (3 : Int32))), .val (.int (((p0.toUInt32 >>> ((8 : Int32) &&& 31).toUInt32).toInt32) &&& (3 : Int32))), .val (.int (((p0.toUInt32 >>> ((10 : Int32) &&& 31).toUInt32).toInt32) &&& (3 : Int32))), .val (.int (((p0.toUInt32 >>> ((12 : Int32) &&& 31).toUInt32).toInt32) &&& (3 : Int32))), .unset, .unset, .unset, .unset] [(.int p0)])) _
      refine XS.bipush X7.here hx rfl (hb hby at_102) ?_
      show Steps p.tables e below (T7.setTop (mkF m 104 #[.val (.int p0), .val (.int p1), .val (.int p2), .val (.int p3), .val (.long q4), .second, .val (.ref b1), .val (.int (p0 &&& (3 : Int32))), .val (.int (((p0.toUInt32 >>> ((2 : Int32) &&& 31).toUInt32).toInt32) &&& (3 : Int32))), .val (.int (((p0.toUInt32 >>> ((4 : Int32) &&& 31).toUInt32).toInt32) &&& (3 : Int32))), .val (.int ((((p0.toUInt32 >>> ((6 : Int32) &&& 31).toUInt32).toInt32) &&& (3 : Int32)) % (3 : Int32))), .val (.int (((p0.toUInt32 >>> ((8 : Int32) &&& 31).toUInt32).toInt32) &&& (3 : Int32))), .val (.int (((p0.toUInt32 >>> ((10 : Int32) &&& 31).toUInt32).toInt32) &&& (3 : Int32))), .val (.int (((p0.toUInt32 >>> ((12 : Int32) &&& 31).toUInt32).toInt32) &&& (3 : Int32))), .unset, .unset, .unset, .unset] [(.int (14 : Int32)), (.int p0)])) _
      refine XS.iushr X7.here hx rfl (hb hby at_104) rfl ?_
      show Steps p.tables e below (T7.setTop (mkF m 105 #[.val (.int p0), .val (.int p1), .val (.int p2), .val (.int p3), .val (.long q4), .second, .val (.ref b1), .val (.int (p0 &&& (3 : Int32))), .val (.int (((p0.toUInt32 >>> ((2 : Int32) &&& 31).toUInt32).toInt32) &&& (3 : Int32))), .val (.int (((p0.toUInt32 >>> ((4 : Int32) &&& 31).toUInt32).toInt32) &&& (3 : Int32))), .val (.int ((((p0.toUInt32 >>> ((6 : Int32) &&& 31).toUInt32).toInt32) &&& (3 : Int32)) % (3 : Int32))), .val (.int (((p0.toUInt32 >>> ((8 : Int32) &&& 31).toUInt32).toInt32) &&& (3 : Int32))), .val (.int (((p0.toUInt32 >>> ((10 : Int32) &&& 31).toUInt32).toInt32) &&& (3 : Int32))), .val (.int (((p0.toUInt32 >>> ((12 : Int32) &&& 31).toUInt32).toInt32) &&& (3 : Int32))), .unset, .unset, .unset, .unset] [(.int ((p0.toUInt32 >>> ((14 : Int32) &&& 31).toUInt32).toInt32))])) _
      refine XS.iconst X7.here hx rfl (hb hby at_105) ?_
      show Steps p.tables e below (T7.setTop (mkF m 106 #[.val (.int p0), .val (.int p1), .val (.int p2), .val (.int p3), .val (.long q4), .second, .val (.ref b1), .val (.int (p0 &&& (3 : Int32))), .val (.int (((p0.toUInt32 >>> ((2 : Int32) &&& 31).toUInt32).toInt32) &&& (3 : Int32))), .val (.int (((p0.toUInt32 >>> ((4 : Int32) &&& 31).toUInt32).toInt32) &&& (3 : Int32))), .val (.int ((((p0.toUInt32 >>> ((6 : Int32) &&& 31).toUInt32).toInt32) &&& (3 : Int32)) % (3 : Int32))), .val (.int (((p0.toUInt32 >>> ((8 : Int32) &&& 31).toUInt32).toInt32) &&& (3 : Int32))), .val (.int (((p0.toUInt32 >>> ((10 : Int32) &&& 31).toUInt32).toInt32) &&& (3 : Int32))), .val (.int (((p0.toUInt32 >>> ((12 : Int32) &&& 31).toUInt32).toInt32) &&& (3 : Int32))), .unset, .unset, .unset, .unset] [(.int (3 : Int32)), (.int ((p0.toUInt32 >>> ((14 : Int32) &&& 31).toUInt32).toInt32))])) _
      refine XS.iand X7.here hx rfl (hb hby at_106) rfl ?_
      show Steps p.tables e below (T7.setTop (mkF m 107 #[.val (.int p0), .val (.int p1), .val (.int p2), .val (.int p3), .val (.long q4), .second, .val (.ref b1), .val (.int (p0 &&& (3 : Int32))), .val (.int (((p0.toUInt32 >>> ((2 : Int32) &&& 31).toUInt32).toInt32) &&& (3 : Int32))), .val (.int (((p0.toUInt32 >>> ((4 : Int32) &&& 31).toUInt32).toInt32) &&& (3 : Int32))), .val (.int ((((p0.toUInt32 >>> ((6 : Int32) &&& 31).toUInt32).toInt32) &&& (3 : Int32)) % (3 : Int32))), .val (.int (((p0.toUInt32 >>> ((8 : Int32) &&& 31).toUInt32).toInt32) &&& (3 : Int32))), .val (.int (((p0.toUInt32 >>> ((10 : Int32) &&& 31).toUInt32).toInt32) &&& (3 : Int32))), .val (.int (((p0.toUInt32 >>> ((12 : Int32) &&& 31).toUInt32).toInt32) &&& (3 : Int32))), .unset, .unset, .unset, .unset] [(.int (((p0.toUInt32 >>> ((14 : Int32) &&& 31).toUInt32).toInt32) &&& (3 : Int32)))])) _
      refine XS.istore X7.here hx rfl (hb hby at_107) rfl (l' := #[.val (.int p0), .val (.int p1), .val (.int p2), .val (.int p3), .val (.long q4), .second, .val (.ref b1), .val (.int (p0 &&& (3 : Int32))), .val (.int (((p0.toUInt32 >>> ((2 : Int32) &&& 31).toUInt32).toInt32) &&& (3 : Int32))), .val (.int (((p0.toUInt32 >>> ((4 : Int32) &&& 31).toUInt32).toInt32) &&& (3 : Int32))), .val (.int ((((p0.toUInt32 >>> ((6 : Int32) &&& 31).toUInt32).toInt32) &&& (3 : Int32)) % (3 : Int32))), .val (.int (((p0.toUInt32 >>> ((8 : Int32) &&& 31).toUInt32).toInt32) &&& (3 : Int32))), .val (.int (((p0.toUInt32 >>> ((10 : Int32) &&& 31).toUInt32).toInt32) &&& (3 : Int32))), .val (.int (((p0.toUInt32 >>> ((12 : Int32) &&& 31).toUInt32).toInt32) &&& (3 : Int32))), .val (.int (((p0.toUInt32 >>> ((14 : Int32) &&& 31).toUInt32).toInt32) &&& (3 : Int32))), .unset, .unset, .unset]) rfl ?_
      exact k)
    exact ⟨(p0 &&& (3 : Int32)), (((p0.toUInt32 >>> ((2 : Int32) &&& 31).toUInt32).toInt32) &&& (3 : Int32)), (((p0.toUInt32 >>> ((4 : Int32) &&& 31).toUInt32).toInt32) &&& (3 : Int32)), ((((p0.toUInt32 >>> ((6 : Int32) &&& 31).toUInt32).toInt32) &&& (3 : Int32)) % (3 : Int32)), (((p0.toUInt32 >>> ((8 : Int32) &&& 31).toUInt32).toInt32) &&& (3 : Int32)), (((p0.toUInt32 >>> ((10 : Int32) &&& 31).toUInt32).toInt32) &&& (3 : Int32)), (((p0.toUInt32 >>> ((12 : Int32) &&& 31).toUInt32).toInt32) &&& (3 : Int32)), (((p0.toUInt32 >>> ((14 : Int32) &&& 31).toUInt32).toInt32) &&& (3 : Int32)), ⟨own_3 _, own_3 _, own_3 _, own_3 _⟩, pre10⟩
  obtain ⟨hst, hk, hj1, hj2⟩ := hv9
  obtain ⟨_, _, ⟨T11, L11, k11, n11⟩, -, X11, ⟨Lc11, hQ11, l11, y11, z11⟩, st11⟩ := Jvm.LawKit.callS X7 hx (y := (⟨"com/example/sensor_access_indicators/sensoraccessindicators/dbus/MarshallingTypeEndPinLaw", "arrays", "([CII)I"⟩ : MethodName)) hown (mvT hZ (hw _ (List.mem_of_getElem? (i := 2) rfl))) (mvT hZ (hw _ (List.mem_of_getElem? (i := 3) rfl))) (mvT hZ (hw _ (List.mem_of_getElem? (i := 4) rfl))) (mvT hZ (hw _ (List.mem_of_getElem? (i := 5) rfl))) (by decide) (backOf (W := 0) (rm1 l Z a0 hw [] b1 v9_0 v9_1 ls k1 h7 n0 (Nat.le_trans (Nat.le_trans (Nat.le_trans (Nat.le_trans Z0 E1.1) (Keep.of_wr W3).1) (Keep.of_wr W5).1) (Keep.of_wr W7).1) VL g_b1 hls ⟨hst.1, by have := hst.2; omega⟩ hk) hZ (hw _ (List.mem_of_getElem? (i := 5) rfl)) (hw _ (List.mem_of_getElem? (i := 4) rfl)) (by decide) (by decide)) (g := (mkF m 115 #[.val (.int p0), .val (.int p1), .val (.int p2), .val (.int p3), .val (.long q4), .second, .val (.ref b1), .val (.int v9_0), .val (.int v9_1), .val (.int v9_2), .val (.int v9_3), .val (.int v9_4), .val (.int v9_5), .val (.int v9_6), .val (.int v9_7), .unset, .unset, .unset] [(.int v9_1), (.int v9_0), (.ref b1)])) rfl (by rw [hml]; rfl) (argsL := [(.ref b1), (.int v9_0), (.int v9_1)]) (rest := []) (lenOf pd_4 rfl) rfl (by show 2 * 0 + _ ≤ _; exact Nat.le_of_eq rfl) (hb hby at_115) (fun _ _ => ⟨rfl, e7, (by decide : 1 + 0 ≤ _), (by decide : 24 + 0 ≤ _)⟩)
  dsimp only [Pt.U, Pt.locs, Pt.cells, Pt.slots] at X11 l11 y11 z11 st11 hQ11
  subst l11 y11 z11
  obtain ⟨rfl, N11q, K11, P11_0⟩ := hQ11
  have N11 := Fr.app N7 N11q
  have KK11 : Keep h0 T11.heap [] := KK7.trans K11 (allS (Or.inr sz_b1) all0)
  have pre12 : ∀ t, Steps p.tables e below (T11.setTop (mkF m 122 #[.val (.int p0), .val (.int p1), .val (.int p2), .val (.int p3), .val (.long q4), .second, .val (.ref b1), .val (.int v9_0), .val (.int v9_1), .val (.int v9_2), .val (.int v9_3), .val (.int v9_4), .val (.int v9_5), .val (.int v9_6), .val (.int v9_7), .val (.int (own_aE v9_0 v9_1)), .unset, .unset] [(.int v9_2)])) t → Steps p.tables e below (s₁.setTop (entryFrame m #[(.int p0), (.int p1), (.int p2), (.int p3), (.long q4)] maxLocals)) t := fun t k => prem9 t (by
    show Steps p.tables e below (T7.setTop (mkF m 109 #[.val (.int p0), .val (.int p1), .val (.int p2), .val (.int p3), .val (.long q4), .second, .val (.ref b1), .val (.int v9_0), .val (.int v9_1), .val (.int v9_2), .val (.int v9_3), .val (.int v9_4), .val (.int v9_5), .val (.int v9_6), .val (.int v9_7), .unset, .unset, .unset] [])) _
    refine XS.aload X7.here hx rfl (hb hby at_109) rfl rfl ?_
    show Steps p.tables e below (T7.setTop (mkF m 111 #[.val (.int p0), .val (.int p1), .val (.int p2), .val (.int p3), .val (.long q4), .second, .val (.ref b1), .val (.int v9_0), .val (.int v9_1), .val (.int v9_2), .val (.int v9_3), .val (.int v9_4), .val (.int v9_5), .val (.int v9_6), .val (.int v9_7), .unset, .unset, .unset] [(.ref b1)])) _
    refine XS.iload X7.here hx rfl (hb hby at_111) rfl ?_
    show Steps p.tables e below (T7.setTop (mkF m 113 #[.val (.int p0), .val (.int p1), .val (.int p2), .val (.int p3), .val (.long q4), .second, .val (.ref b1), .val (.int v9_0), .val (.int v9_1), .val (.int v9_2), .val (.int v9_3), .val (.int v9_4), .val (.int v9_5), .val (.int v9_6), .val (.int v9_7), .unset, .unset, .unset] [(.int v9_0), (.ref b1)])) _
    refine XS.iload X7.here hx rfl (hb hby at_113) rfl ?_
    show Steps p.tables e below (T7.setTop (mkF m 115 #[.val (.int p0), .val (.int p1), .val (.int p2), .val (.int p3), .val (.long q4), .second, .val (.ref b1), .val (.int v9_0), .val (.int v9_1), .val (.int v9_2), .val (.int v9_3), .val (.int v9_4), .val (.int v9_5), .val (.int v9_6), .val (.int v9_7), .unset, .unset, .unset] [(.int v9_1), (.int v9_0), (.ref b1)])) _
    refine st11 _ ?_
    show Steps p.tables e below (T11.setTop (mkF m 118 #[.val (.int p0), .val (.int p1), .val (.int p2), .val (.int p3), .val (.long q4), .second, .val (.ref b1), .val (.int v9_0), .val (.int v9_1), .val (.int v9_2), .val (.int v9_3), .val (.int v9_4), .val (.int v9_5), .val (.int v9_6), .val (.int v9_7), .unset, .unset, .unset] [(.int (own_aE v9_0 v9_1))])) _
    refine XS.istore X11.here hx rfl (hb hby at_118) rfl (l' := #[.val (.int p0), .val (.int p1), .val (.int p2), .val (.int p3), .val (.long q4), .second, .val (.ref b1), .val (.int v9_0), .val (.int v9_1), .val (.int v9_2), .val (.int v9_3), .val (.int v9_4), .val (.int v9_5), .val (.int v9_6), .val (.int v9_7), .val (.int (own_aE v9_0 v9_1)), .unset, .unset]) rfl ?_
    show Steps p.tables e below (T11.setTop (mkF m 120 #[.val (.int p0), .val (.int p1), .val (.int p2), .val (.int p3), .val (.long q4), .second, .val (.ref b1), .val (.int v9_0), .val (.int v9_1), .val (.int v9_2), .val (.int v9_3), .val (.int v9_4), .val (.int v9_5), .val (.int v9_6), .val (.int v9_7), .val (.int (own_aE v9_0 v9_1)), .unset, .unset] [])) _
    refine XS.iload X11.here hx rfl (hb hby at_120) rfl ?_
    exact k)
  by_cases hc122_13 : v9_2 = (0 : Int32)
  · obtain ⟨_, _, ⟨T14, L14, k14, n14⟩, -, X14, ⟨Lc14, hQ14, l14, y14, z14⟩, st14⟩ := Jvm.LawKit.callS X11 hx (y := (⟨"com/example/sensor_access_indicators/sensoraccessindicators/dbus/MarshallingTypeEndPinLaw", "top", "(I)C"⟩ : MethodName)) hown (mvT hZ (hw _ (List.mem_of_getElem? (i := 6) rfl))) (mvT hZ (hw _ (List.mem_of_getElem? (i := 7) rfl))) (mvT hZ (hw _ (List.mem_of_getElem? (i := 4) rfl))) (mvT hZ (hw _ (List.mem_of_getElem? (i := 8) rfl))) (by decide) (backOf (W := 2) (rm2 l Z a0 hw [] p1 T11.heap n0 (Nat.le_trans (Nat.le_trans (Nat.le_trans (Nat.le_trans (Nat.le_trans Z0 E1.1) (Keep.of_wr W3).1) (Keep.of_wr W5).1) (Keep.of_wr W7).1) K11.1) ) hZ (hw _ (List.mem_of_getElem? (i := 8) rfl)) (hw _ (List.mem_of_getElem? (i := 4) rfl)) (by decide) (by decide)) (g := (mkF m 130 #[.val (.int p0), .val (.int p1), .val (.int p2), .val (.int p3), .val (.long q4), .second, .val (.ref b1), .val (.int v9_0), .val (.int v9_1), .val (.int v9_2), .val (.int v9_3), .val (.int v9_4), .val (.int v9_5), .val (.int v9_6), .val (.int v9_7), .val (.int (own_aE v9_0 v9_1)), .unset, .unset] [(.int p1), (.int (own_aE v9_0 v9_1)), (.ref b1)])) rfl (by rw [hml]; rfl) (argsL := [(.int p1)]) (rest := [(.int (own_aE v9_0 v9_1)), (.ref b1)]) (lenOf pd_5 rfl) rfl (by show 2 * 0 + _ ≤ _; exact Nat.le_of_eq rfl) (hb hby at_130) (fun _ _ => ⟨rfl, rfl, (by decide : 1 + 0 ≤ _), (by decide : 24 + 0 ≤ _)⟩)
    dsimp only [Pt.U, Pt.locs, Pt.cells, Pt.slots] at X14 l14 y14 z14 st14 hQ14
    subst l14 y14 z14
    obtain ⟨rfl, N14q, hh14⟩ := hQ14
    have N14 := Fr.app N11 N14q
    obtain ⟨c15, Ar15, hin15, -⟩ := own_read P11_0 (own_pos hls hst hk).2.2.1
    obtain ⟨T16, h16, X16, e16, W16, st16⟩ := stC X14 hx hZ hh14 Ar15 (j := (own_aE v9_0 v9_1)) hin15 (g := (mkF m 133 #[.val (.int p0), .val (.int p1), .val (.int p2), .val (.int p3), .val (.long q4), .second, .val (.ref b1), .val (.int v9_0), .val (.int v9_1), .val (.int v9_2), .val (.int v9_3), .val (.int v9_4), .val (.int v9_5), .val (.int v9_6), .val (.int v9_7), .val (.int (own_aE v9_0 v9_1)), .unset, .unset] [(.int (own_top p1)), (.int (own_aE v9_0 v9_1)), (.ref b1)])) rfl rfl (hb hby at_133)
    have V16 : own_A Z h16 b1 k1 .char (24 : Int32) (own_wr (own_aL ls v9_0 v9_1) (own_aE v9_0 v9_1) (own_top p1)) := own_writeC P11_0 (own_pos hls hst hk).2.2.1 (own_top_c _).1 W16
    have KK16 : Keep h0 h16 [] := KK11.wr W16 (Or.inr sz_b1)
    have N16 := Fr.snoc X16 N14 g_b1
    obtain ⟨c17, Ar17, hin17, -⟩ := own_read V16 (own_pos hls hst hk).2.2.2.1
    obtain ⟨T18, h18, X18, e18, W18, st18⟩ := stC X16 hx hZ e16 Ar17 (j := ((own_aE v9_0 v9_1) + (1 : Int32))) hin17 (g := (mkF m 257 #[.val (.int p0), .val (.int p1), .val (.int p2), .val (.int p3), .val (.long q4), .second, .val (.ref b1), .val (.int v9_0), .val (.int v9_1), .val (.int v9_2), .val (.int v9_3), .val (.int v9_4), .val (.int v9_5), .val (.int v9_6), .val (.int v9_7), .val (.int ((own_aE v9_0 v9_1) + (1 : Int32))), .val (.int ((own_aE v9_0 v9_1) + (1 : Int32))), .unset] [(.int (((((q4.toUInt64 >>> ((24 : Int32) &&& 0x3f).toInt64.toUInt64).toInt64) &&& (255 : Int64)).toInt32).toUInt32.toUInt16.toUInt32.toInt32)), (.int ((own_aE v9_0 v9_1) + (1 : Int32))), (.ref b1)])) rfl rfl (hb hby at_257)
    have V18 : own_A Z h18 b1 k1 .char (24 : Int32) (own_wr (own_wr (own_aL ls v9_0 v9_1) (own_aE v9_0 v9_1) (own_top p1)) ((own_aE v9_0 v9_1) + (1 : Int32)) (((((q4.toUInt64 >>> ((24 : Int32) &&& 0x3f).toInt64.toUInt64).toInt64) &&& (255 : Int64)).toInt32).toUInt32.toUInt16.toUInt32.toInt32)) := own_writeC V16 (own_pos hls hst hk).2.2.2.1 (own_lb _) W18
    have KK18 : Keep h0 h18 [] := KK16.wr W18 (Or.inr sz_b1)
    have N18 := Fr.snoc X18 N16 g_b1
    have pre19 : ∀ t, Steps p.tables e below (T18.setTop (mkF m 258 #[.val (.int p0), .val (.int p1), .val (.int p2), .val (.int p3), .val (.long q4), .second, .val (.ref b1), .val (.int v9_0), .val (.int v9_1), .val (.int v9_2), .val (.int v9_3), .val (.int v9_4), .val (.int v9_5), .val (.int v9_6), .val (.int v9_7), .val (.int ((own_aE v9_0 v9_1) + (1 : Int32))), .val (.int ((own_aE v9_0 v9_1) + (1 : Int32))), .unset] [])) t → Steps p.tables e below (s₁.setTop (entryFrame m #[(.int p0), (.int p1), (.int p2), (.int p3), (.long q4)] maxLocals)) t := fun t k => pre12 t (by
      show Steps p.tables e below (T11.setTop (mkF m 122 #[.val (.int p0), .val (.int p1), .val (.int p2), .val (.int p3), .val (.long q4), .second, .val (.ref b1), .val (.int v9_0), .val (.int v9_1), .val (.int v9_2), .val (.int v9_3), .val (.int v9_4), .val (.int v9_5), .val (.int v9_6), .val (.int v9_7), .val (.int (own_aE v9_0 v9_1)), .unset, .unset] [(.int v9_2)])) _
      refine XS.ifNo X11.here hx rfl (hb hby at_122) rfl ((if0 _ _).trans (teq hc122_13).2) ?_
      show Steps p.tables e below (T11.setTop (mkF m 125 #[.val (.int p0), .val (.int p1), .val (.int p2), .val (.int p3), .val (.long q4), .second, .val (.ref b1), .val (.int v9_0), .val (.int v9_1), .val (.int v9_2), .val (.int v9_3), .val (.int v9_4), .val (.int v9_5), .val (.int v9_6), .val (.int v9_7), .val (.int (own_aE v9_0 v9_1)), .unset, .unset] [])) _
      refine XS.aload X11.here hx rfl (hb hby at_125) rfl rfl ?_
      show Steps p.tables e below (T11.setTop (mkF m 127 #[.val (.int p0), .val (.int p1), .val (.int p2), .val (.int p3), .val (.long q4), .second, .val (.ref b1), .val (.int v9_0), .val (.int v9_1), .val (.int v9_2), .val (.int v9_3), .val (.int v9_4), .val (.int v9_5), .val (.int v9_6), .val (.int v9_7), .val (.int (own_aE v9_0 v9_1)), .unset, .unset] [(.ref b1)])) _
      refine XS.iload X11.here hx rfl (hb hby at_127) rfl ?_
      show Steps p.tables e below (T11.setTop (mkF m 129 #[.val (.int p0), .val (.int p1), .val (.int p2), .val (.int p3), .val (.long q4), .second, .val (.ref b1), .val (.int v9_0), .val (.int v9_1), .val (.int v9_2), .val (.int v9_3), .val (.int v9_4), .val (.int v9_5), .val (.int v9_6), .val (.int v9_7), .val (.int (own_aE v9_0 v9_1)), .unset, .unset] [(.int (own_aE v9_0 v9_1)), (.ref b1)])) _
      refine XS.iloadN X11.here hx rfl (hb hby at_129) rfl ?_
      show Steps p.tables e below (T11.setTop (mkF m 130 #[.val (.int p0), .val (.int p1), .val (.int p2), .val (.int p3), .val (.long q4), .second, .val (.ref b1), .val (.int v9_0), .val (.int v9_1), .val (.int v9_2), .val (.int v9_3), .val (.int v9_4), .val (.int v9_5), .val (.int v9_6), .val (.int v9_7), .val (.int (own_aE v9_0 v9_1)), .unset, .unset] [(.int p1), (.int (own_aE v9_0 v9_1)), (.ref b1)])) _
      refine st14 _ ?_
      show Steps p.tables e below (T14.setTop (mkF m 133 #[.val (.int p0), .val (.int p1), .val (.int p2), .val (.int p3), .val (.long q4), .second, .val (.ref b1), .val (.int v9_0), .val (.int v9_1), .val (.int v9_2), .val (.int v9_3), .val (.int v9_4), .val (.int v9_5), .val (.int v9_6), .val (.int v9_7), .val (.int (own_aE v9_0 v9_1)), .unset, .unset] [(.int (own_top p1)), (.int (own_aE v9_0 v9_1)), (.ref b1)])) _
      refine st16 _ ?_
      show Steps p.tables e below (T16.setTop (mkF m 134 #[.val (.int p0), .val (.int p1), .val (.int p2), .val (.int p3), .val (.long q4), .second, .val (.ref b1), .val (.int v9_0), .val (.int v9_1), .val (.int v9_2), .val (.int v9_3), .val (.int v9_4), .val (.int v9_5), .val (.int v9_6), .val (.int v9_7), .val (.int (own_aE v9_0 v9_1)), .unset, .unset] [])) _
      refine XS.iload X16.here hx rfl (hb hby at_134) rfl ?_
      show Steps p.tables e below (T16.setTop (mkF m 136 #[.val (.int p0), .val (.int p1), .val (.int p2), .val (.int p3), .val (.long q4), .second, .val (.ref b1), .val (.int v9_0), .val (.int v9_1), .val (.int v9_2), .val (.int v9_3), .val (.int v9_4), .val (.int v9_5), .val (.int v9_6), .val (.int v9_7), .val (.int (own_aE v9_0 v9_1)), .unset, .unset] [(.int (own_aE v9_0 v9_1))])) _
      refine XS.iconst X16.here hx rfl (hb hby at_136) ?_
      show Steps p.tables e below (T16.setTop (mkF m 137 #[.val (.int p0), .val (.int p1), .val (.int p2), .val (.int p3), .val (.long q4), .second, .val (.ref b1), .val (.int v9_0), .val (.int v9_1), .val (.int v9_2), .val (.int v9_3), .val (.int v9_4), .val (.int v9_5), .val (.int v9_6), .val (.int v9_7), .val (.int (own_aE v9_0 v9_1)), .unset, .unset] [(.int (1 : Int32)), (.int (own_aE v9_0 v9_1))])) _
      refine XS.iadd X16.here hx rfl (hb hby at_137) rfl ?_
      show Steps p.tables e below (T16.setTop (mkF m 138 #[.val (.int p0), .val (.int p1), .val (.int p2), .val (.int p3), .val (.long q4), .second, .val (.ref b1), .val (.int v9_0), .val (.int v9_1), .val (.int v9_2), .val (.int v9_3), .val (.int v9_4), .val (.int v9_5), .val (.int v9_6), .val (.int v9_7), .val (.int (own_aE v9_0 v9_1)), .unset, .unset] [(.int ((own_aE v9_0 v9_1) + (1 : Int32)))])) _
      refine XS.istore X16.here hx rfl (hb hby at_138) rfl (l' := #[.val (.int p0), .val (.int p1), .val (.int p2), .val (.int p3), .val (.long q4), .second, .val (.ref b1), .val (.int v9_0), .val (.int v9_1), .val (.int v9_2), .val (.int v9_3), .val (.int v9_4), .val (.int v9_5), .val (.int v9_6), .val (.int v9_7), .val (.int ((own_aE v9_0 v9_1) + (1 : Int32))), .unset, .unset]) rfl ?_
      show Steps p.tables e below (T16.setTop (mkF m 140 #[.val (.int p0), .val (.int p1), .val (.int p2), .val (.int p3), .val (.long q4), .second, .val (.ref b1), .val (.int v9_0), .val (.int v9_1), .val (.int v9_2), .val (.int v9_3), .val (.int v9_4), .val (.int v9_5), .val (.int v9_6), .val (.int v9_7), .val (.int ((own_aE v9_0 v9_1) + (1 : Int32))), .unset, .unset] [])) _
      refine XS.goto X16.here hx rfl (pc0 := 140) (pc' := 238) rfl (hb hby at_140) (by decide) (by decide) ?_
      show Steps p.tables e below (T16.setTop (mkF m 238 #[.val (.int p0), .val (.int p1), .val (.int p2), .val (.int p3), .val (.long q4), .second, .val (.ref b1), .val (.int v9_0), .val (.int v9_1), .val (.int v9_2), .val (.int v9_3), .val (.int v9_4), .val (.int v9_5), .val (.int v9_6), .val (.int v9_7), .val (.int ((own_aE v9_0 v9_1) + (1 : Int32))), .unset, .unset] [])) _
      refine XS.iload X16.here hx rfl (hb hby at_238) rfl ?_
      show Steps p.tables e below (T16.setTop (mkF m 240 #[.val (.int p0), .val (.int p1), .val (.int p2), .val (.int p3), .val (.long q4), .second, .val (.ref b1), .val (.int v9_0), .val (.int v9_1), .val (.int v9_2), .val (.int v9_3), .val (.int v9_4), .val (.int v9_5), .val (.int v9_6), .val (.int v9_7), .val (.int ((own_aE v9_0 v9_1) + (1 : Int32))), .unset, .unset] [(.int ((own_aE v9_0 v9_1) + (1 : Int32)))])) _
      refine XS.istore X16.here hx rfl (hb hby at_240) rfl (l' := #[.val (.int p0), .val (.int p1), .val (.int p2), .val (.int p3), .val (.long q4), .second, .val (.ref b1), .val (.int v9_0), .val (.int v9_1), .val (.int v9_2), .val (.int v9_3), .val (.int v9_4), .val (.int v9_5), .val (.int v9_6), .val (.int v9_7), .val (.int ((own_aE v9_0 v9_1) + (1 : Int32))), .val (.int ((own_aE v9_0 v9_1) + (1 : Int32))), .unset]) rfl ?_
      show Steps p.tables e below (T16.setTop (mkF m 242 #[.val (.int p0), .val (.int p1), .val (.int p2), .val (.int p3), .val (.long q4), .second, .val (.ref b1), .val (.int v9_0), .val (.int v9_1), .val (.int v9_2), .val (.int v9_3), .val (.int v9_4), .val (.int v9_5), .val (.int v9_6), .val (.int v9_7), .val (.int ((own_aE v9_0 v9_1) + (1 : Int32))), .val (.int ((own_aE v9_0 v9_1) + (1 : Int32))), .unset] [])) _
      refine XS.aload X16.here hx rfl (hb hby at_242) rfl rfl ?_
      show Steps p.tables e below (T16.setTop (mkF m 244 #[.val (.int p0), .val (.int p1), .val (.int p2), .val (.int p3), .val (.long q4), .second, .val (.ref b1), .val (.int v9_0), .val (.int v9_1), .val (.int v9_2), .val (.int v9_3), .val (.int v9_4), .val (.int v9_5), .val (.int v9_6), .val (.int v9_7), .val (.int ((own_aE v9_0 v9_1) + (1 : Int32))), .val (.int ((own_aE v9_0 v9_1) + (1 : Int32))), .unset] [(.ref b1)])) _
      refine XS.iload X16.here hx rfl (hb hby at_244) rfl ?_
      show Steps p.tables e below (T16.setTop (mkF m 246 #[.val (.int p0), .val (.int p1), .val (.int p2), .val (.int p3), .val (.long q4), .second, .val (.ref b1), .val (.int v9_0), .val (.int v9_1), .val (.int v9_2), .val (.int v9_3), .val (.int v9_4), .val (.int v9_5), .val (.int v9_6), .val (.int v9_7), .val (.int ((own_aE v9_0 v9_1) + (1 : Int32))), .val (.int ((own_aE v9_0 v9_1) + (1 : Int32))), .unset] [(.int ((own_aE v9_0 v9_1) + (1 : Int32))), (.ref b1)])) _
      refine XS.lload X16.here hx rfl (hb hby at_246) rfl ?_
      show Steps p.tables e below (T16.setTop (mkF m 248 #[.val (.int p0), .val (.int p1), .val (.int p2), .val (.int p3), .val (.long q4), .second, .val (.ref b1), .val (.int v9_0), .val (.int v9_1), .val (.int v9_2), .val (.int v9_3), .val (.int v9_4), .val (.int v9_5), .val (.int v9_6), .val (.int v9_7), .val (.int ((own_aE v9_0 v9_1) + (1 : Int32))), .val (.int ((own_aE v9_0 v9_1) + (1 : Int32))), .unset] [(.long q4), (.int ((own_aE v9_0 v9_1) + (1 : Int32))), (.ref b1)])) _
      refine XS.bipush X16.here hx rfl (hb hby at_248) ?_
      show Steps p.tables e below (T16.setTop (mkF m 250 #[.val (.int p0), .val (.int p1), .val (.int p2), .val (.int p3), .val (.long q4), .second, .val (.ref b1), .val (.int v9_0), .val (.int v9_1), .val (.int v9_2), .val (.int v9_3), .val (.int v9_4), .val (.int v9_5), .val (.int v9_6), .val (.int v9_7), .val (.int ((own_aE v9_0 v9_1) + (1 : Int32))), .val (.int ((own_aE v9_0 v9_1) + (1 : Int32))), .unset] [(.int (24 : Int32)), (.long q4), (.int ((own_aE v9_0 v9_1) + (1 : Int32))), (.ref b1)])) _
      refine XS.lushr X16.here hx rfl (hb hby at_250) rfl ?_
      show Steps p.tables e below (T16.setTop (mkF m 251 #[.val (.int p0), .val (.int p1), .val (.int p2), .val (.int p3), .val (.long q4), .second, .val (.ref b1), .val (.int v9_0), .val (.int v9_1), .val (.int v9_2), .val (.int v9_3), .val (.int v9_4), .val (.int v9_5), .val (.int v9_6), .val (.int v9_7), .val (.int ((own_aE v9_0 v9_1) + (1 : Int32))), .val (.int ((own_aE v9_0 v9_1) + (1 : Int32))), .unset] [(.long ((q4.toUInt64 >>> ((24 : Int32) &&& 0x3f).toInt64.toUInt64).toInt64)), (.int ((own_aE v9_0 v9_1) + (1 : Int32))), (.ref b1)])) _
      refine X16.ldc2Long hx hown (mvT hZ (hw _ (List.mem_of_getElem? (i := 1) rfl))) (g := (mkF m 251 #[.val (.int p0), .val (.int p1), .val (.int p2), .val (.int p3), .val (.long q4), .second, .val (.ref b1), .val (.int v9_0), .val (.int v9_1), .val (.int v9_2), .val (.int v9_3), .val (.int v9_4), .val (.int v9_5), .val (.int v9_6), .val (.int v9_7), .val (.int ((own_aE v9_0 v9_1) + (1 : Int32))), .val (.int ((own_aE v9_0 v9_1) + (1 : Int32))), .unset] [(.long ((q4.toUInt64 >>> ((24 : Int32) &&& 0x3f).toInt64.toUInt64).toInt64)), (.int ((own_aE v9_0 v9_1) + (1 : Int32))), (.ref b1)])) rfl (hb hby at_251) _ ?_
      show Steps p.tables e below (T16.setTop (mkF m 254 #[.val (.int p0), .val (.int p1), .val (.int p2), .val (.int p3), .val (.long q4), .second, .val (.ref b1), .val (.int v9_0), .val (.int v9_1), .val (.int v9_2), .val (.int v9_3), .val (.int v9_4), .val (.int v9_5), .val (.int v9_6), .val (.int v9_7), .val (.int ((own_aE v9_0 v9_1) + (1 : Int32))), .val (.int ((own_aE v9_0 v9_1) + (1 : Int32))), .unset] [(.long (255 : Int64)), (.long ((q4.toUInt64 >>> ((24 : Int32) &&& 0x3f).toInt64.toUInt64).toInt64)), (.int ((own_aE v9_0 v9_1) + (1 : Int32))), (.ref b1)])) _
      refine XS.land X16.here hx rfl (hb hby at_254) rfl ?_
      show Steps p.tables e below (T16.setTop (mkF m 255 #[.val (.int p0), .val (.int p1), .val (.int p2), .val (.int p3), .val (.long q4), .second, .val (.ref b1), .val (.int v9_0), .val (.int v9_1), .val (.int v9_2), .val (.int v9_3), .val (.int v9_4), .val (.int v9_5), .val (.int v9_6), .val (.int v9_7), .val (.int ((own_aE v9_0 v9_1) + (1 : Int32))), .val (.int ((own_aE v9_0 v9_1) + (1 : Int32))), .unset] [(.long (((q4.toUInt64 >>> ((24 : Int32) &&& 0x3f).toInt64.toUInt64).toInt64) &&& (255 : Int64))), (.int ((own_aE v9_0 v9_1) + (1 : Int32))), (.ref b1)])) _
      refine XS.l2i X16.here hx rfl (hb hby at_255) rfl ?_
      show Steps p.tables e below (T16.setTop (mkF m 256 #[.val (.int p0), .val (.int p1), .val (.int p2), .val (.int p3), .val (.long q4), .second, .val (.ref b1), .val (.int v9_0), .val (.int v9_1), .val (.int v9_2), .val (.int v9_3), .val (.int v9_4), .val (.int v9_5), .val (.int v9_6), .val (.int v9_7), .val (.int ((own_aE v9_0 v9_1) + (1 : Int32))), .val (.int ((own_aE v9_0 v9_1) + (1 : Int32))), .unset] [(.int ((((q4.toUInt64 >>> ((24 : Int32) &&& 0x3f).toInt64.toUInt64).toInt64) &&& (255 : Int64)).toInt32)), (.int ((own_aE v9_0 v9_1) + (1 : Int32))), (.ref b1)])) _
      refine XS.i2c X16.here hx rfl (hb hby at_256) rfl ?_
      show Steps p.tables e below (T16.setTop (mkF m 257 #[.val (.int p0), .val (.int p1), .val (.int p2), .val (.int p3), .val (.long q4), .second, .val (.ref b1), .val (.int v9_0), .val (.int v9_1), .val (.int v9_2), .val (.int v9_3), .val (.int v9_4), .val (.int v9_5), .val (.int v9_6), .val (.int v9_7), .val (.int ((own_aE v9_0 v9_1) + (1 : Int32))), .val (.int ((own_aE v9_0 v9_1) + (1 : Int32))), .unset] [(.int (((((q4.toUInt64 >>> ((24 : Int32) &&& 0x3f).toInt64.toUInt64).toInt64) &&& (255 : Int64)).toInt32).toUInt32.toUInt16.toUInt32.toInt32)), (.int ((own_aE v9_0 v9_1) + (1 : Int32))), (.ref b1)])) _
      refine st18 _ ?_
      exact k)
    have hT20 : own_by (own_wr (own_wr (own_aL ls v9_0 v9_1) (own_aE v9_0 v9_1) (own_top p1)) ((own_aE v9_0 v9_1) + (1 : Int32)) (((((q4.toUInt64 >>> ((24 : Int32) &&& 0x3f).toInt64.toUInt64).toInt64) &&& (255 : Int64)).toInt32).toUInt32.toUInt16.toUInt32.toInt32)) ∧ own_ty (own_wr (own_wr (own_aL ls v9_0 v9_1) (own_aE v9_0 v9_1) (own_top p1)) ((own_aE v9_0 v9_1) + (1 : Int32)) (((((q4.toUInt64 >>> ((24 : Int32) &&& 0x3f).toInt64.toUInt64).toInt64) &&& (255 : Int64)).toInt32).toUInt32.toUInt16.toUInt32.toInt32)) 9 v9_0 ((own_aE v9_0 v9_1) + (1 : Int32)) := own_e0 hls hst hk (own_lb _)
    obtain ⟨T21, h21, X21, e21, E21, A21, D21, -, st21⟩ := newO X18 hx hZ hown (hw _ (List.mem_of_getElem? (i := 9) rfl)) (hw _ (List.mem_of_getElem? (i := 10) rfl)) (hw _ (List.mem_of_getElem? (i := 11) rfl)) e18 (g := (mkF m 258 #[.val (.int p0), .val (.int p1), .val (.int p2), .val (.int p3), .val (.long q4), .second, .val (.ref b1), .val (.int v9_0), .val (.int v9_1), .val (.int v9_2), .val (.int v9_3), .val (.int v9_4), .val (.int v9_5), .val (.int v9_6), .val (.int v9_7), .val (.int ((own_aE v9_0 v9_1) + (1 : Int32))), .val (.int ((own_aE v9_0 v9_1) + (1 : Int32))), .unset] [])) rfl (hb hby at_258) (by decide) (by decide)
    obtain ⟨b21, g21⟩ : ∃ z, z = h18.size := ⟨_, rfl⟩
    rw [← g21] at A21 D21 st21
    have F_coder_b21 : Fld Z h21 b21 "java/lang/String" "coder" "B" (.int (0 : Int32)) := D21 (Or.inr (hw _ (List.mem_of_getElem? (i := 35) rfl))) (ty := .byte) (by decide)
    have F_value_b21 : Fld Z h21 b21 "java/lang/String" "value" "[B" .null := D21 (Or.inr (hw _ (List.mem_of_getElem? (i := 37) rfl))) (ty := (.array .byte)) (by decide)
    have g_b21 : n0 ≤ b21 := Nat.le_trans (Nat.le_trans (Nat.le_trans (Nat.le_trans (Nat.le_trans (Nat.le_trans (Nat.le_trans (Nat.le_trans Z0 E1.1) (Keep.of_wr W3).1) (Keep.of_wr W5).1) (Keep.of_wr W7).1) K11.1) (Keep.of_wr W16).1) (Keep.of_wr W18).1) (Nat.le_of_eq g21.symm)
    have sz_b21 : h0.size ≤ b21 := Nat.le_trans KK18.1 (Nat.le_of_eq g21.symm)
    have KK21 : Keep h0 h21 [] := KK18.ext E21
    obtain ⟨_, _, ⟨T22, L22, k22, n22⟩, -, X22, ⟨Lc22, hQ22, l22, y22, z22⟩, st22⟩ := X21.specialBack hx (y := (⟨"java/lang/String", "<init>", "([C)V"⟩ : MethodName)) rfl hown (mvT hZ (hw _ (List.mem_of_getElem? (i := 12) rfl))) (mvT hZ (hw _ (List.mem_of_getElem? (i := 13) rfl))) (mvT hZ (hw _ (List.mem_of_getElem? (i := 14) rfl))) (by decide) (StrChars.Road.backV (W := 1) hZ (fun d hd => hw d ((by decide +kernel : ∀ d ∈ StrChars.Road.words, d ∈ tables_1) d hd)) (hw _ (List.mem_of_getElem? (i := 10) rfl)) (cs := (own_wr (own_wr (own_aL ls v9_0 v9_1) (own_aE v9_0 v9_1) (own_top p1)) ((own_aE v9_0 v9_1) + (1 : Int32)) (((((q4.toUInt64 >>> ((24 : Int32) &&& 0x3f).toInt64.toUInt64).toInt64) &&& (255 : Int64)).toInt32).toUInt32.toUInt16.toUInt32.toInt32))) (bs := (own_wr (own_wr (own_aL ls v9_0 v9_1) (own_aE v9_0 v9_1) (own_top p1)) ((own_aE v9_0 v9_1) + (1 : Int32)) (((((q4.toUInt64 >>> ((24 : Int32) &&& 0x3f).toInt64.toUInt64).toInt64) &&& (255 : Int64)).toInt32).toUInt32.toUInt16.toUInt32.toInt32)).map (fun c => c.toInt8.toInt32)) (n := 24) g_b21 (Nat.le_trans (Nat.le_trans (Nat.le_trans (Nat.le_trans (Nat.le_trans (Nat.le_trans (Nat.le_trans (Nat.le_trans Z0 E1.1) (Keep.of_wr W3).1) (Keep.of_wr W5).1) (Keep.of_wr W7).1) K11.1) (Keep.of_wr W16).1) (Keep.of_wr W18).1) E21.1) A21 F_value_b21 F_coder_b21 (V18.ext E21).2 (Sta.ext ((((((((O0.ext E1).wr W3 g_b1).wr W5 g_b1).wr W7 g_b1).keep K11 (allS g_b1 all0)).wr W16 g_b1).wr W18 g_b1).ext E21).2 S_C) hC hT20.1.1 rfl (by decide) (by decide) hT20.1.2 rfl (by decide) (by decide)) (g := (mkF m 264 #[.val (.int p0), .val (.int p1), .val (.int p2), .val (.int p3), .val (.long q4), .second, .val (.ref b1), .val (.int v9_0), .val (.int v9_1), .val (.int v9_2), .val (.int v9_3), .val (.int v9_4), .val (.int v9_5), .val (.int v9_6), .val (.int v9_7), .val (.int ((own_aE v9_0 v9_1) + (1 : Int32))), .val (.int ((own_aE v9_0 v9_1) + (1 : Int32))), .unset] [(.ref b1), (.ref b21), (.ref b21)])) rfl (by rw [hml]; rfl) (Steps.refl _) (a := b21) (argsL := [(.ref b1)]) (rest := [(.ref b21)]) (lenOf pd_7 rfl) rfl (by show 2 * 0 + _ ≤ _; exact Nat.le_of_eq rfl) (hb hby at_264) (fun _ _ => ⟨rfl, e21, (by decide : 2 + 1 ≤ _), (by decide : 28 + 24 ≤ _)⟩)
    dsimp only [Pt.U, Pt.locs, Pt.cells, Pt.slots] at X22 l22 y22 z22 st22 hQ22
    subst l22 y22 z22
    obtain ⟨rfl, N22q, K22, EX22, FC22, t22, kb22, g_t22, szt22, -, FV22, AV22⟩ := hQ22
    have N22 := Fr.app N18 N22q
    have V_t22 : own_A Z T22.heap t22 kb22 .byte (24 : Int32) ((own_wr (own_wr (own_aL ls v9_0 v9_1) (own_aE v9_0 v9_1) (own_top p1)) ((own_aE v9_0 v9_1) + (1 : Int32)) (((((q4.toUInt64 >>> ((24 : Int32) &&& 0x3f).toInt64.toUInt64).toInt64) &&& (255 : Int64)).toInt32).toUInt32.toUInt16.toUInt32.toInt32)).map (fun c => c.toInt8.toInt32)) := ⟨List.length_map _ |>.trans hT20.1.1, AV22⟩
    obtain ⟨_, _, ⟨T23, L23, k23, n23⟩, -, X23, ⟨Lc23, hQ23, l23, y23, z23⟩, st23⟩ := Jvm.LawKit.callS X22 hx (y := (⟨"com/example/sensor_access_indicators/sensoraccessindicators/dbus/Marshalling", "typeEnd", "(Ljava/lang/String;I)I"⟩ : MethodName)) hown (mvT hZ (hw _ (List.mem_of_getElem? (i := 38) rfl))) (mvT hZ (hw _ (List.mem_of_getElem? (i := 39) rfl))) (mvT hZ (hw _ (List.mem_of_getElem? (i := 40) rfl))) (mvT hZ (hw _ (List.mem_of_getElem? (i := 41) rfl))) (by decide) (backOf (W := 0) (rm9 l Z a0 hw b21 wC wF t22 kb22 (own_wr (own_wr (own_aL ls v9_0 v9_1) (own_aE v9_0 v9_1) (own_top p1)) ((own_aE v9_0 v9_1) + (1 : Int32)) (((((q4.toUInt64 >>> ((24 : Int32) &&& 0x3f).toInt64.toUInt64).toInt64) &&& (255 : Int64)).toInt32).toUInt32.toUInt16.toUInt32.toInt32)) T22.heap n0 (Nat.le_trans (Nat.le_trans (Nat.le_trans (Nat.le_trans (Nat.le_trans (Nat.le_trans (Nat.le_trans (Nat.le_trans (Nat.le_trans Z0 E1.1) (Keep.of_wr W3).1) (Keep.of_wr W5).1) (Keep.of_wr W7).1) K11.1) (Keep.of_wr W16).1) (Keep.of_wr W18).1) E21.1) K22.1) FC22 FV22 EX22 (Sta.ext (((((((((O0.ext E1).wr W3 g_b1).wr W5 g_b1).wr W7 g_b1).keep K11 (allS g_b1 all0)).wr W16 g_b1).wr W18 g_b1).ext E21).keep K22 (allS g_b21 all0)).2 S_C) hC (Sta.ext (((((((((O0.ext E1).wr W3 g_b1).wr W5 g_b1).wr W7 g_b1).keep K11 (allS g_b1 all0)).wr W16 g_b1).wr W18 g_b1).ext E21).keep K22 (allS g_b21 all0)).2 S_F) hF V_t22 hT20.1 9 v9_0 ((own_aE v9_0 v9_1) + (1 : Int32)) hT20.2) hZ (hw _ (List.mem_of_getElem? (i := 41) rfl)) (hw _ (List.mem_of_getElem? (i := 40) rfl)) (by decide) (by decide)) (g := (mkF m 273 #[.val (.int p0), .val (.int p1), .val (.int p2), .val (.int p3), .val (.long q4), .second, .val (.ref b1), .val (.int v9_0), .val (.int v9_1), .val (.int v9_2), .val (.int v9_3), .val (.int v9_4), .val (.int v9_5), .val (.int v9_6), .val (.int v9_7), .val (.int ((own_aE v9_0 v9_1) + (1 : Int32))), .val (.int ((own_aE v9_0 v9_1) + (1 : Int32))), .val (.ref b21)] [(.int v9_0), (.ref b21)])) rfl (by rw [hml]; rfl) (argsL := [(.ref b21), (.int v9_0)]) (rest := []) (lenOf pd_6 rfl) rfl (by show 2 * 0 + _ ≤ _; exact Nat.le_of_eq rfl) (hb hby at_273) (fun _ _ => ⟨rfl, rfl, (by decide : 3 + 0 ≤ _), (by decide : 52 + 0 ≤ _)⟩)
    dsimp only [Pt.U, Pt.locs, Pt.cells, Pt.slots] at X23 l23 y23 z23 st23 hQ23
    subst l23 y23 z23
    obtain ⟨rfl, N23q, hh23⟩ := hQ23
    have N23 := Fr.app N22 N23q
    have pre24 : ∀ t, Steps p.tables e below (T23.setTop (mkF m 286 #[.val (.int p0), .val (.int p1), .val (.int p2), .val (.int p3), .val (.long q4), .second, .val (.ref b1), .val (.int v9_0), .val (.int v9_1), .val (.int v9_2), .val (.int v9_3), .val (.int v9_4), .val (.int v9_5), .val (.int v9_6), .val (.int v9_7), .val (.int ((own_aE v9_0 v9_1) + (1 : Int32))), .val (.int ((own_aE v9_0 v9_1) + (1 : Int32))), .val (.ref b21)] [(.int (1 : Int32))])) t → Steps p.tables e below (s₁.setTop (entryFrame m #[(.int p0), (.int p1), (.int p2), (.int p3), (.long q4)] maxLocals)) t := fun t k => pre19 t (by
      show Steps p.tables e below (T18.setTop (mkF m 258 #[.val (.int p0), .val (.int p1), .val (.int p2), .val (.int p3), .val (.long q4), .second, .val (.ref b1), .val (.int v9_0), .val (.int v9_1), .val (.int v9_2), .val (.int v9_3), .val (.int v9_4), .val (.int v9_5), .val (.int v9_6), .val (.int v9_7), .val (.int ((own_aE v9_0 v9_1) + (1 : Int32))), .val (.int ((own_aE v9_0 v9_1) + (1 : Int32))), .unset] [])) _
      refine st21 _ ?_
      show Steps p.tables e below (T21.setTop (mkF m 261 #[.val (.int p0), .val (.int p1), .val (.int p2), .val (.int p3), .val (.long q4), .second, .val (.ref b1), .val (.int v9_0), .val (.int v9_1), .val (.int v9_2), .val (.int v9_3), .val (.int v9_4), .val (.int v9_5), .val (.int v9_6), .val (.int v9_7), .val (.int ((own_aE v9_0 v9_1) + (1 : Int32))), .val (.int ((own_aE v9_0 v9_1) + (1 : Int32))), .unset] [(.ref b21)])) _
      refine XS.dup X21.here hx rfl (hb hby at_261) rfl rfl ?_
      show Steps p.tables e below (T21.setTop (mkF m 262 #[.val (.int p0), .val (.int p1), .val (.int p2), .val (.int p3), .val (.long q4), .second, .val (.ref b1), .val (.int v9_0), .val (.int v9_1), .val (.int v9_2), .val (.int v9_3), .val (.int v9_4), .val (.int v9_5), .val (.int v9_6), .val (.int v9_7), .val (.int ((own_aE v9_0 v9_1) + (1 : Int32))), .val (.int ((own_aE v9_0 v9_1) + (1 : Int32))), .unset] [(.ref b21), (.ref b21)])) _
      refine XS.aload X21.here hx rfl (hb hby at_262) rfl rfl ?_
      show Steps p.tables e below (T21.setTop (mkF m 264 #[.val (.int p0), .val (.int p1), .val (.int p2), .val (.int p3), .val (.long q4), .second, .val (.ref b1), .val (.int v9_0), .val (.int v9_1), .val (.int v9_2), .val (.int v9_3), .val (.int v9_4), .val (.int v9_5), .val (.int v9_6), .val (.int v9_7), .val (.int ((own_aE v9_0 v9_1) + (1 : Int32))), .val (.int ((own_aE v9_0 v9_1) + (1 : Int32))), .unset] [(.ref b1), (.ref b21), (.ref b21)])) _
      refine st22.trans ?_
      show Steps p.tables e below (T22.setTop (mkF m 267 #[.val (.int p0), .val (.int p1), .val (.int p2), .val (.int p3), .val (.long q4), .second, .val (.ref b1), .val (.int v9_0), .val (.int v9_1), .val (.int v9_2), .val (.int v9_3), .val (.int v9_4), .val (.int v9_5), .val (.int v9_6), .val (.int v9_7), .val (.int ((own_aE v9_0 v9_1) + (1 : Int32))), .val (.int ((own_aE v9_0 v9_1) + (1 : Int32))), .unset] [(.ref b21)])) _
      refine XS.astore X22.here hx rfl (hb hby at_267) rfl rfl (l' := #[.val (.int p0), .val (.int p1), .val (.int p2), .val (.int p3), .val (.long q4), .second, .val (.ref b1), .val (.int v9_0), .val (.int v9_1), .val (.int v9_2), .val (.int v9_3), .val (.int v9_4), .val (.int v9_5), .val (.int v9_6), .val (.int v9_7), .val (.int ((own_aE v9_0 v9_1) + (1 : Int32))), .val (.int ((own_aE v9_0 v9_1) + (1 : Int32))), .val (.ref b21)]) rfl ?_
      show Steps p.tables e below (T22.setTop (mkF m 269 #[.val (.int p0), .val (.int p1), .val (.int p2), .val (.int p3), .val (.long q4), .second, .val (.ref b1), .val (.int v9_0), .val (.int v9_1), .val (.int v9_2), .val (.int v9_3), .val (.int v9_4), .val (.int v9_5), .val (.int v9_6), .val (.int v9_7), .val (.int ((own_aE v9_0 v9_1) + (1 : Int32))), .val (.int ((own_aE v9_0 v9_1) + (1 : Int32))), .val (.ref b21)] [])) _
      refine XS.aload X22.here hx rfl (hb hby at_269) rfl rfl ?_
      show Steps p.tables e below (T22.setTop (mkF m 271 #[.val (.int p0), .val (.int p1), .val (.int p2), .val (.int p3), .val (.long q4), .second, .val (.ref b1), .val (.int v9_0), .val (.int v9_1), .val (.int v9_2), .val (.int v9_3), .val (.int v9_4), .val (.int v9_5), .val (.int v9_6), .val (.int v9_7), .val (.int ((own_aE v9_0 v9_1) + (1 : Int32))), .val (.int ((own_aE v9_0 v9_1) + (1 : Int32))), .val (.ref b21)] [(.ref b21)])) _
      refine XS.iload X22.here hx rfl (hb hby at_271) rfl ?_
      show Steps p.tables e below (T22.setTop (mkF m 273 #[.val (.int p0), .val (.int p1), .val (.int p2), .val (.int p3), .val (.long q4), .second, .val (.ref b1), .val (.int v9_0), .val (.int v9_1), .val (.int v9_2), .val (.int v9_3), .val (.int v9_4), .val (.int v9_5), .val (.int v9_6), .val (.int v9_7), .val (.int ((own_aE v9_0 v9_1) + (1 : Int32))), .val (.int ((own_aE v9_0 v9_1) + (1 : Int32))), .val (.ref b21)] [(.int v9_0), (.ref b21)])) _
      refine st23 _ ?_
      show Steps p.tables e below (T23.setTop (mkF m 276 #[.val (.int p0), .val (.int p1), .val (.int p2), .val (.int p3), .val (.long q4), .second, .val (.ref b1), .val (.int v9_0), .val (.int v9_1), .val (.int v9_2), .val (.int v9_3), .val (.int v9_4), .val (.int v9_5), .val (.int v9_6), .val (.int v9_7), .val (.int ((own_aE v9_0 v9_1) + (1 : Int32))), .val (.int ((own_aE v9_0 v9_1) + (1 : Int32))), .val (.ref b21)] [(.int ((own_aE v9_0 v9_1) + (1 : Int32)))])) _
      refine XS.iload X23.here hx rfl (hb hby at_276) rfl ?_
      show Steps p.tables e below (T23.setTop (mkF m 278 #[.val (.int p0), .val (.int p1), .val (.int p2), .val (.int p3), .val (.long q4), .second, .val (.ref b1), .val (.int v9_0), .val (.int v9_1), .val (.int v9_2), .val (.int v9_3), .val (.int v9_4), .val (.int v9_5), .val (.int v9_6), .val (.int v9_7), .val (.int ((own_aE v9_0 v9_1) + (1 : Int32))), .val (.int ((own_aE v9_0 v9_1) + (1 : Int32))), .val (.ref b21)] [(.int ((own_aE v9_0 v9_1) + (1 : Int32))), (.int ((own_aE v9_0 v9_1) + (1 : Int32)))])) _
      refine XS.icmpNo X23.here hx rfl (hb hby at_278) rfl (teq (by first | exact rfl | decide : ((own_aE v9_0 v9_1) + (1 : Int32)) = ((own_aE v9_0 v9_1) + (1 : Int32)))).2 ?_
      show Steps p.tables e below (T23.setTop (mkF m 281 #[.val (.int p0), .val (.int p1), .val (.int p2), .val (.int p3), .val (.long q4), .second, .val (.ref b1), .val (.int v9_0), .val (.int v9_1), .val (.int v9_2), .val (.int v9_3), .val (.int v9_4), .val (.int v9_5), .val (.int v9_6), .val (.int v9_7), .val (.int ((own_aE v9_0 v9_1) + (1 : Int32))), .val (.int ((own_aE v9_0 v9_1) + (1 : Int32))), .val (.ref b21)] [])) _
      refine XS.iconst X23.here hx rfl (hb hby at_281) ?_
      show Steps p.tables e below (T23.setTop (mkF m 282 #[.val (.int p0), .val (.int p1), .val (.int p2), .val (.int p3), .val (.long q4), .second, .val (.ref b1), .val (.int v9_0), .val (.int v9_1), .val (.int v9_2), .val (.int v9_3), .val (.int v9_4), .val (.int v9_5), .val (.int v9_6), .val (.int v9_7), .val (.int ((own_aE v9_0 v9_1) + (1 : Int32))), .val (.int ((own_aE v9_0 v9_1) + (1 : Int32))), .val (.ref b21)] [(.int (1 : Int32))])) _
      refine XS.goto X23.here hx rfl (pc0 := 282) (pc' := 286) rfl (hb hby at_282) (by decide) (by decide) ?_
      exact k)
    obtain ⟨fs, hr, hrun, hended, hW, hsame⟩ := X23.leave (v := some (.int (1 : Int32))) (fun h => by rw [Bd.returns] at h; cases h)
    refine ⟨_, _, pre24 _ ?_, hrun, hended, _, _, rfl, ?_, ⟨_, rfl⟩, hW, hsame.mono (by decide) (by decide)⟩
    · exact retN X23 hx (t := .boolean) Bd.returns (by simp) (hb hby at_286) hr
    · show Q0 Z p0 p1 p2 p3 q4 wC wF h0 n0 _ T23.heap _
      rw [hh23]
      exact ⟨rfl, N23⟩
  · have pre25 : ∀ t, Steps p.tables e below (T11.setTop (mkF m 146 #[.val (.int p0), .val (.int p1), .val (.int p2), .val (.int p3), .val (.long q4), .second, .val (.ref b1), .val (.int v9_0), .val (.int v9_1), .val (.int v9_2), .val (.int v9_3), .val (.int v9_4), .val (.int v9_5), .val (.int v9_6), .val (.int v9_7), .val (.int (own_aE v9_0 v9_1)), .unset, .unset] [(.int (2 : Int32)), (.int v9_2)])) t → Steps p.tables e below (s₁.setTop (entryFrame m #[(.int p0), (.int p1), (.int p2), (.int p3), (.long q4)] maxLocals)) t := fun t k => pre12 t (by
      show Steps p.tables e below (T11.setTop (mkF m 122 #[.val (.int p0), .val (.int p1), .val (.int p2), .val (.int p3), .val (.long q4), .second, .val (.ref b1), .val (.int v9_0), .val (.int v9_1), .val (.int v9_2), .val (.int v9_3), .val (.int v9_4), .val (.int v9_5), .val (.int v9_6), .val (.int v9_7), .val (.int (own_aE v9_0 v9_1)), .unset, .unset] [(.int v9_2)])) _
      refine XS.ifYes X11.here hx rfl (pc0 := 122) (pc' := 143) rfl (hb hby at_122) rfl ((if0 _ _).trans (feq hc122_13).2) (by decide) (by decide) ?_
      show Steps p.tables e below (T11.setTop (mkF m 143 #[.val (.int p0), .val (.int p1), .val (.int p2), .val (.int p3), .val (.long q4), .second, .val (.ref b1), .val (.int v9_0), .val (.int v9_1), .val (.int v9_2), .val (.int v9_3), .val (.int v9_4), .val (.int v9_5), .val (.int v9_6), .val (.int v9_7), .val (.int (own_aE v9_0 v9_1)), .unset, .unset] [])) _
      refine XS.iload X11.here hx rfl (hb hby at_143) rfl ?_
      show Steps p.tables e below (T11.setTop (mkF m 145 #[.val (.int p0), .val (.int p1), .val (.int p2), .val (.int p3), .val (.long q4), .second, .val (.ref b1), .val (.int v9_0), .val (.int v9_1), .val (.int v9_2), .val (.int v9_3), .val (.int v9_4), .val (.int v9_5), .val (.int v9_6), .val (.int v9_7), .val (.int (own_aE v9_0 v9_1)), .unset, .unset] [(.int v9_2)])) _
      refine XS.iconst X11.here hx rfl (hb hby at_145) ?_
      exact k)
    by_cases hc146_26 : v9_2 = (2 : Int32)
    · obtain ⟨c27, Ar27, hin27, -⟩ := own_read P11_0 (own_pos hls hst hk).2.2.1
      obtain ⟨T28, h28, X28, e28, W28, st28⟩ := stC X11 hx hZ rfl Ar27 (j := (own_aE v9_0 v9_1)) hin27 (g := (mkF m 179 #[.val (.int p0), .val (.int p1), .val (.int p2), .val (.int p3), .val (.long q4), .second, .val (.ref b1), .val (.int v9_0), .val (.int v9_1), .val (.int v9_2), .val (.int v9_3), .val (.int v9_4), .val (.int v9_5), .val (.int v9_6), .val (.int v9_7), .val (.int (own_aE v9_0 v9_1)), .val (.int (123 : Int32)), .val (.int (125 : Int32))] [(.int (123 : Int32)), (.int (own_aE v9_0 v9_1)), (.ref b1)])) rfl rfl (hb hby at_179)
      have V28 : own_A Z h28 b1 k1 .char (24 : Int32) (own_wr (own_aL ls v9_0 v9_1) (own_aE v9_0 v9_1) (123 : Int32)) := own_writeC P11_0 (own_pos hls hst hk).2.2.1 (by decide) W28
      have KK28 : Keep h0 h28 [] := KK11.wr W28 (Or.inr sz_b1)
      have N28 := Fr.snoc X28 N11 g_b1
      have pre29 : ∀ t, Steps p.tables e below (T28.setTop (mkF m 188 #[.val (.int p0), .val (.int p1), .val (.int p2), .val (.int p3), .val (.long q4), .second, .val (.ref b1), .val (.int v9_0), .val (.int v9_1), .val (.int v9_2), .val (.int v9_3), .val (.int v9_4), .val (.int v9_5), .val (.int v9_6), .val (.int v9_7), .val (.int ((own_aE v9_0 v9_1) + (1 : Int32))), .val (.int (123 : Int32)), .val (.int (125 : Int32))] [(.int v9_3)])) t → Steps p.tables e below (s₁.setTop (entryFrame m #[(.int p0), (.int p1), (.int p2), (.int p3), (.long q4)] maxLocals)) t := fun t k => pre25 t (by
        show Steps p.tables e below (T11.setTop (mkF m 146 #[.val (.int p0), .val (.int p1), .val (.int p2), .val (.int p3), .val (.long q4), .second, .val (.ref b1), .val (.int v9_0), .val (.int v9_1), .val (.int v9_2), .val (.int v9_3), .val (.int v9_4), .val (.int v9_5), .val (.int v9_6), .val (.int v9_7), .val (.int (own_aE v9_0 v9_1)), .unset, .unset] [(.int (2 : Int32)), (.int v9_2)])) _
        refine XS.icmpNo X11.here hx rfl (hb hby at_146) rfl (teq hc146_26).2 ?_
        show Steps p.tables e below (T11.setTop (mkF m 149 #[.val (.int p0), .val (.int p1), .val (.int p2), .val (.int p3), .val (.long q4), .second, .val (.ref b1), .val (.int v9_0), .val (.int v9_1), .val (.int v9_2), .val (.int v9_3), .val (.int v9_4), .val (.int v9_5), .val (.int v9_6), .val (.int v9_7), .val (.int (own_aE v9_0 v9_1)), .unset, .unset] [])) _
        refine XS.bipush X11.here hx rfl (hb hby at_149) ?_
        show Steps p.tables e below (T11.setTop (mkF m 151 #[.val (.int p0), .val (.int p1), .val (.int p2), .val (.int p3), .val (.long q4), .second, .val (.ref b1), .val (.int v9_0), .val (.int v9_1), .val (.int v9_2), .val (.int v9_3), .val (.int v9_4), .val (.int v9_5), .val (.int v9_6), .val (.int v9_7), .val (.int (own_aE v9_0 v9_1)), .unset, .unset] [(.int (123 : Int32))])) _
        refine XS.goto X11.here hx rfl (pc0 := 151) (pc' := 156) rfl (hb hby at_151) (by decide) (by decide) ?_
        show Steps p.tables e below (T11.setTop (mkF m 156 #[.val (.int p0), .val (.int p1), .val (.int p2), .val (.int p3), .val (.long q4), .second, .val (.ref b1), .val (.int v9_0), .val (.int v9_1), .val (.int v9_2), .val (.int v9_3), .val (.int v9_4), .val (.int v9_5), .val (.int v9_6), .val (.int v9_7), .val (.int (own_aE v9_0 v9_1)), .unset, .unset] [(.int (123 : Int32))])) _
        refine XS.istore X11.here hx rfl (hb hby at_156) rfl (l' := #[.val (.int p0), .val (.int p1), .val (.int p2), .val (.int p3), .val (.long q4), .second, .val (.ref b1), .val (.int v9_0), .val (.int v9_1), .val (.int v9_2), .val (.int v9_3), .val (.int v9_4), .val (.int v9_5), .val (.int v9_6), .val (.int v9_7), .val (.int (own_aE v9_0 v9_1)), .val (.int (123 : Int32)), .unset]) rfl ?_
        show Steps p.tables e below (T11.setTop (mkF m 158 #[.val (.int p0), .val (.int p1), .val (.int p2), .val (.int p3), .val (.long q4), .second, .val (.ref b1), .val (.int v9_0), .val (.int v9_1), .val (.int v9_2), .val (.int v9_3), .val (.int v9_4), .val (.int v9_5), .val (.int v9_6), .val (.int v9_7), .val (.int (own_aE v9_0 v9_1)), .val (.int (123 : Int32)), .unset] [])) _
        refine XS.iload X11.here hx rfl (hb hby at_158) rfl ?_
        show Steps p.tables e below (T11.setTop (mkF m 160 #[.val (.int p0), .val (.int p1), .val (.int p2), .val (.int p3), .val (.long q4), .second, .val (.ref b1), .val (.int v9_0), .val (.int v9_1), .val (.int v9_2), .val (.int v9_3), .val (.int v9_4), .val (.int v9_5), .val (.int v9_6), .val (.int v9_7), .val (.int (own_aE v9_0 v9_1)), .val (.int (123 : Int32)), .unset] [(.int v9_2)])) _
        refine XS.iconst X11.here hx rfl (hb hby at_160) ?_
        show Steps p.tables e below (T11.setTop (mkF m 161 #[.val (.int p0), .val (.int p1), .val (.int p2), .val (.int p3), .val (.long q4), .second, .val (.ref b1), .val (.int v9_0), .val (.int v9_1), .val (.int v9_2), .val (.int v9_3), .val (.int v9_4), .val (.int v9_5), .val (.int v9_6), .val (.int v9_7), .val (.int (own_aE v9_0 v9_1)), .val (.int (123 : Int32)), .unset] [(.int (2 : Int32)), (.int v9_2)])) _
        refine XS.icmpNo X11.here hx rfl (hb hby at_161) rfl (teq hc146_26).2 ?_
        show Steps p.tables e below (T11.setTop (mkF m 164 #[.val (.int p0), .val (.int p1), .val (.int p2), .val (.int p3), .val (.long q4), .second, .val (.ref b1), .val (.int v9_0), .val (.int v9_1), .val (.int v9_2), .val (.int v9_3), .val (.int v9_4), .val (.int v9_5), .val (.int v9_6), .val (.int v9_7), .val (.int (own_aE v9_0 v9_1)), .val (.int (123 : Int32)), .unset] [])) _
        refine XS.bipush X11.here hx rfl (hb hby at_164) ?_
        show Steps p.tables e below (T11.setTop (mkF m 166 #[.val (.int p0), .val (.int p1), .val (.int p2), .val (.int p3), .val (.long q4), .second, .val (.ref b1), .val (.int v9_0), .val (.int v9_1), .val (.int v9_2), .val (.int v9_3), .val (.int v9_4), .val (.int v9_5), .val (.int v9_6), .val (.int v9_7), .val (.int (own_aE v9_0 v9_1)), .val (.int (123 : Int32)), .unset] [(.int (125 : Int32))])) _
        refine XS.goto X11.here hx rfl (pc0 := 166) (pc' := 171) rfl (hb hby at_166) (by decide) (by decide) ?_
        show Steps p.tables e below (T11.setTop (mkF m 171 #[.val (.int p0), .val (.int p1), .val (.int p2), .val (.int p3), .val (.long q4), .second, .val (.ref b1), .val (.int v9_0), .val (.int v9_1), .val (.int v9_2), .val (.int v9_3), .val (.int v9_4), .val (.int v9_5), .val (.int v9_6), .val (.int v9_7), .val (.int (own_aE v9_0 v9_1)), .val (.int (123 : Int32)), .unset] [(.int (125 : Int32))])) _
        refine XS.istore X11.here hx rfl (hb hby at_171) rfl (l' := #[.val (.int p0), .val (.int p1), .val (.int p2), .val (.int p3), .val (.long q4), .second, .val (.ref b1), .val (.int v9_0), .val (.int v9_1), .val (.int v9_2), .val (.int v9_3), .val (.int v9_4), .val (.int v9_5), .val (.int v9_6), .val (.int v9_7), .val (.int (own_aE v9_0 v9_1)), .val (.int (123 : Int32)), .val (.int (125 : Int32))]) rfl ?_
        show Steps p.tables e below (T11.setTop (mkF m 173 #[.val (.int p0), .val (.int p1), .val (.int p2), .val (.int p3), .val (.long q4), .second, .val (.ref b1), .val (.int v9_0), .val (.int v9_1), .val (.int v9_2), .val (.int v9_3), .val (.int v9_4), .val (.int v9_5), .val (.int v9_6), .val (.int v9_7), .val (.int (own_aE v9_0 v9_1)), .val (.int (123 : Int32)), .val (.int (125 : Int32))] [])) _
        refine XS.aload X11.here hx rfl (hb hby at_173) rfl rfl ?_
        show Steps p.tables e below (T11.setTop (mkF m 175 #[.val (.int p0), .val (.int p1), .val (.int p2), .val (.int p3), .val (.long q4), .second, .val (.ref b1), .val (.int v9_0), .val (.int v9_1), .val (.int v9_2), .val (.int v9_3), .val (.int v9_4), .val (.int v9_5), .val (.int v9_6), .val (.int v9_7), .val (.int (own_aE v9_0 v9_1)), .val (.int (123 : Int32)), .val (.int (125 : Int32))] [(.ref b1)])) _
        refine XS.iload X11.here hx rfl (hb hby at_175) rfl ?_
        show Steps p.tables e below (T11.setTop (mkF m 177 #[.val (.int p0), .val (.int p1), .val (.int p2), .val (.int p3), .val (.long q4), .second, .val (.ref b1), .val (.int v9_0), .val (.int v9_1), .val (.int v9_2), .val (.int v9_3), .val (.int v9_4), .val (.int v9_5), .val (.int v9_6), .val (.int v9_7), .val (.int (own_aE v9_0 v9_1)), .val (.int (123 : Int32)), .val (.int (125 : Int32))] [(.int (own_aE v9_0 v9_1)), (.ref b1)])) _
        refine XS.iload X11.here hx rfl (hb hby at_177) rfl ?_
        show Steps p.tables e below (T11.setTop (mkF m 179 #[.val (.int p0), .val (.int p1), .val (.int p2), .val (.int p3), .val (.long q4), .second, .val (.ref b1), .val (.int v9_0), .val (.int v9_1), .val (.int v9_2), .val (.int v9_3), .val (.int v9_4), .val (.int v9_5), .val (.int v9_6), .val (.int v9_7), .val (.int (own_aE v9_0 v9_1)), .val (.int (123 : Int32)), .val (.int (125 : Int32))] [(.int (123 : Int32)), (.int (own_aE v9_0 v9_1)), (.ref b1)])) _
        refine st28 _ ?_
        show Steps p.tables e below (T28.setTop (mkF m 180 #[.val (.int p0), .val (.int p1), .val (.int p2), .val (.int p3), .val (.long q4), .second, .val (.ref b1), .val (.int v9_0), .val (.int v9_1), .val (.int v9_2), .val (.int v9_3), .val (.int v9_4), .val (.int v9_5), .val (.int v9_6), .val (.int v9_7), .val (.int (own_aE v9_0 v9_1)), .val (.int (123 : Int32)), .val (.int (125 : Int32))] [])) _
        refine XS.iload X28.here hx rfl (hb hby at_180) rfl ?_
        show Steps p.tables e below (T28.setTop (mkF m 182 #[.val (.int p0), .val (.int p1), .val (.int p2), .val (.int p3), .val (.long q4), .second, .val (.ref b1), .val (.int v9_0), .val (.int v9_1), .val (.int v9_2), .val (.int v9_3), .val (.int v9_4), .val (.int v9_5), .val (.int v9_6), .val (.int v9_7), .val (.int (own_aE v9_0 v9_1)), .val (.int (123 : Int32)), .val (.int (125 : Int32))] [(.int (own_aE v9_0 v9_1))])) _
        refine XS.iconst X28.here hx rfl (hb hby at_182) ?_
        show Steps p.tables e below (T28.setTop (mkF m 183 #[.val (.int p0), .val (.int p1), .val (.int p2), .val (.int p3), .val (.long q4), .second, .val (.ref b1), .val (.int v9_0), .val (.int v9_1), .val (.int v9_2), .val (.int v9_3), .val (.int v9_4), .val (.int v9_5), .val (.int v9_6), .val (.int v9_7), .val (.int (own_aE v9_0 v9_1)), .val (.int (123 : Int32)), .val (.int (125 : Int32))] [(.int (1 : Int32)), (.int (own_aE v9_0 v9_1))])) _
        refine XS.iadd X28.here hx rfl (hb hby at_183) rfl ?_
        show Steps p.tables e below (T28.setTop (mkF m 184 #[.val (.int p0), .val (.int p1), .val (.int p2), .val (.int p3), .val (.long q4), .second, .val (.ref b1), .val (.int v9_0), .val (.int v9_1), .val (.int v9_2), .val (.int v9_3), .val (.int v9_4), .val (.int v9_5), .val (.int v9_6), .val (.int v9_7), .val (.int (own_aE v9_0 v9_1)), .val (.int (123 : Int32)), .val (.int (125 : Int32))] [(.int ((own_aE v9_0 v9_1) + (1 : Int32)))])) _
        refine XS.istore X28.here hx rfl (hb hby at_184) rfl (l' := #[.val (.int p0), .val (.int p1), .val (.int p2), .val (.int p3), .val (.long q4), .second, .val (.ref b1), .val (.int v9_0), .val (.int v9_1), .val (.int v9_2), .val (.int v9_3), .val (.int v9_4), .val (.int v9_5), .val (.int v9_6), .val (.int v9_7), .val (.int ((own_aE v9_0 v9_1) + (1 : Int32))), .val (.int (123 : Int32)), .val (.int (125 : Int32))]) rfl ?_
        show Steps p.tables e below (T28.setTop (mkF m 186 #[.val (.int p0), .val (.int p1), .val (.int p2), .val (.int p3), .val (.long q4), .second, .val (.ref b1), .val (.int v9_0), .val (.int v9_1), .val (.int v9_2), .val (.int v9_3), .val (.int v9_4), .val (.int v9_5), .val (.int v9_6), .val (.int v9_7), .val (.int ((own_aE v9_0 v9_1) + (1 : Int32))), .val (.int (123 : Int32)), .val (.int (125 : Int32))] [])) _
        refine XS.iload X28.here hx rfl (hb hby at_186) rfl ?_
        exact k)
      by_cases hc188_30 : (0 : Int32) < v9_3
      · obtain ⟨_, _, ⟨T31, L31, k31, n31⟩, -, X31, ⟨Lc31, hQ31, l31, y31, z31⟩, st31⟩ := Jvm.LawKit.callS X28 hx (y := (⟨"com/example/sensor_access_indicators/sensoraccessindicators/dbus/MarshallingTypeEndPinLaw", "field", "([CIIII)I"⟩ : MethodName)) hown (mvT hZ (hw _ (List.mem_of_getElem? (i := 65) rfl))) (mvT hZ (hw _ (List.mem_of_getElem? (i := 66) rfl))) (mvT hZ (hw _ (List.mem_of_getElem? (i := 4) rfl))) (mvT hZ (hw _ (List.mem_of_getElem? (i := 67) rfl))) (by decide) (backOf (W := 0) (rm15 l Z a0 hw [] b1 ((own_aE v9_0 v9_1) + (1 : Int32)) v9_4 v9_5 p2 (own_wr (own_aL ls v9_0 v9_1) (own_aE v9_0 v9_1) (123 : Int32)) k1 h28 n0 (Nat.le_trans (Nat.le_trans (Nat.le_trans (Nat.le_trans (Nat.le_trans (Nat.le_trans Z0 E1.1) (Keep.of_wr W3).1) (Keep.of_wr W5).1) (Keep.of_wr W7).1) K11.1) (Keep.of_wr W28).1) V28 g_b1 (own_by_wr (own_pos hls hst hk).1 (by decide)) (own_pos2 hls hst hk).2 hj1) hZ (hw _ (List.mem_of_getElem? (i := 67) rfl)) (hw _ (List.mem_of_getElem? (i := 4) rfl)) (by decide) (by decide)) (g := (mkF m 200 #[.val (.int p0), .val (.int p1), .val (.int p2), .val (.int p3), .val (.long q4), .second, .val (.ref b1), .val (.int v9_0), .val (.int v9_1), .val (.int v9_2), .val (.int v9_3), .val (.int v9_4), .val (.int v9_5), .val (.int v9_6), .val (.int v9_7), .val (.int ((own_aE v9_0 v9_1) + (1 : Int32))), .val (.int (123 : Int32)), .val (.int (125 : Int32))] [(.int p2), (.int v9_5), (.int v9_4), (.int ((own_aE v9_0 v9_1) + (1 : Int32))), (.ref b1)])) rfl (by rw [hml]; rfl) (argsL := [(.ref b1), (.int ((own_aE v9_0 v9_1) + (1 : Int32))), (.int v9_4), (.int v9_5), (.int p2)]) (rest := []) (lenOf pd_8 rfl) rfl (by show 2 * 0 + _ ≤ _; exact Nat.le_of_eq rfl) (hb hby at_200) (fun _ _ => ⟨rfl, e28, (by decide : 1 + 0 ≤ _), (by decide : 24 + 0 ≤ _)⟩)
        dsimp only [Pt.U, Pt.locs, Pt.cells, Pt.slots] at X31 l31 y31 z31 st31 hQ31
        subst l31 y31 z31
        obtain ⟨ls31, en31, rfl, N31q, K31, VV31, fr31⟩ := hQ31
        have N31 := Fr.app N28 N31q
        have KK31 : Keep h0 T31.heap [] := KK28.trans K31 (allS (Or.inr sz_b1) all0)
        have pre32 : ∀ t, Steps p.tables e below (T31.setTop (mkF m 208 #[.val (.int p0), .val (.int p1), .val (.int p2), .val (.int p3), .val (.long q4), .second, .val (.ref b1), .val (.int v9_0), .val (.int v9_1), .val (.int v9_2), .val (.int v9_3), .val (.int v9_4), .val (.int v9_5), .val (.int v9_6), .val (.int v9_7), .val (.int en31), .val (.int (123 : Int32)), .val (.int (125 : Int32))] [(.int (1 : Int32)), (.int v9_3)])) t → Steps p.tables e below (s₁.setTop (entryFrame m #[(.int p0), (.int p1), (.int p2), (.int p3), (.long q4)] maxLocals)) t := fun t k => pre29 t (by
          show Steps p.tables e below (T28.setTop (mkF m 188 #[.val (.int p0), .val (.int p1), .val (.int p2), .val (.int p3), .val (.long q4), .second, .val (.ref b1), .val (.int v9_0), .val (.int v9_1), .val (.int v9_2), .val (.int v9_3), .val (.int v9_4), .val (.int v9_5), .val (.int v9_6), .val (.int v9_7), .val (.int ((own_aE v9_0 v9_1) + (1 : Int32))), .val (.int (123 : Int32)), .val (.int (125 : Int32))] [(.int v9_3)])) _
          refine XS.ifNo X28.here hx rfl (hb hby at_188) rfl ((if0 _ _).trans (tlt hc188_30).2.2.2) ?_
          show Steps p.tables e below (T28.setTop (mkF m 191 #[.val (.int p0), .val (.int p1), .val (.int p2), .val (.int p3), .val (.long q4), .second, .val (.ref b1), .val (.int v9_0), .val (.int v9_1), .val (.int v9_2), .val (.int v9_3), .val (.int v9_4), .val (.int v9_5), .val (.int v9_6), .val (.int v9_7), .val (.int ((own_aE v9_0 v9_1) + (1 : Int32))), .val (.int (123 : Int32)), .val (.int (125 : Int32))] [])) _
          refine XS.aload X28.here hx rfl (hb hby at_191) rfl rfl ?_
          show Steps p.tables e below (T28.setTop (mkF m 193 #[.val (.int p0), .val (.int p1), .val (.int p2), .val (.int p3), .val (.long q4), .second, .val (.ref b1), .val (.int v9_0), .val (.int v9_1), .val (.int v9_2), .val (.int v9_3), .val (.int v9_4), .val (.int v9_5), .val (.int v9_6), .val (.int v9_7), .val (.int ((own_aE v9_0 v9_1) + (1 : Int32))), .val (.int (123 : Int32)), .val (.int (125 : Int32))] [(.ref b1)])) _
          refine XS.iload X28.here hx rfl (hb hby at_193) rfl ?_
          show Steps p.tables e below (T28.setTop (mkF m 195 #[.val (.int p0), .val (.int p1), .val (.int p2), .val (.int p3), .val (.long q4), .second, .val (.ref b1), .val (.int v9_0), .val (.int v9_1), .val (.int v9_2), .val (.int v9_3), .val (.int v9_4), .val (.int v9_5), .val (.int v9_6), .val (.int v9_7), .val (.int ((own_aE v9_0 v9_1) + (1 : Int32))), .val (.int (123 : Int32)), .val (.int (125 : Int32))] [(.int ((own_aE v9_0 v9_1) + (1 : Int32))), (.ref b1)])) _
          refine XS.iload X28.here hx rfl (hb hby at_195) rfl ?_
          show Steps p.tables e below (T28.setTop (mkF m 197 #[.val (.int p0), .val (.int p1), .val (.int p2), .val (.int p3), .val (.long q4), .second, .val (.ref b1), .val (.int v9_0), .val (.int v9_1), .val (.int v9_2), .val (.int v9_3), .val (.int v9_4), .val (.int v9_5), .val (.int v9_6), .val (.int v9_7), .val (.int ((own_aE v9_0 v9_1) + (1 : Int32))), .val (.int (123 : Int32)), .val (.int (125 : Int32))] [(.int v9_4), (.int ((own_aE v9_0 v9_1) + (1 : Int32))), (.ref b1)])) _
          refine XS.iload X28.here hx rfl (hb hby at_197) rfl ?_
          show Steps p.tables e below (T28.setTop (mkF m 199 #[.val (.int p0), .val (.int p1), .val (.int p2), .val (.int p3), .val (.long q4), .second, .val (.ref b1), .val (.int v9_0), .val (.int v9_1), .val (.int v9_2), .val (.int v9_3), .val (.int v9_4), .val (.int v9_5), .val (.int v9_6), .val (.int v9_7), .val (.int ((own_aE v9_0 v9_1) + (1 : Int32))), .val (.int (123 : Int32)), .val (.int (125 : Int32))] [(.int v9_5), (.int v9_4), (.int ((own_aE v9_0 v9_1) + (1 : Int32))), (.ref b1)])) _
          refine XS.iloadN X28.here hx rfl (hb hby at_199) rfl ?_
          show Steps p.tables e below (T28.setTop (mkF m 200 #[.val (.int p0), .val (.int p1), .val (.int p2), .val (.int p3), .val (.long q4), .second, .val (.ref b1), .val (.int v9_0), .val (.int v9_1), .val (.int v9_2), .val (.int v9_3), .val (.int v9_4), .val (.int v9_5), .val (.int v9_6), .val (.int v9_7), .val (.int ((own_aE v9_0 v9_1) + (1 : Int32))), .val (.int (123 : Int32)), .val (.int (125 : Int32))] [(.int p2), (.int v9_5), (.int v9_4), (.int ((own_aE v9_0 v9_1) + (1 : Int32))), (.ref b1)])) _
          refine st31 _ ?_
          show Steps p.tables e below (T31.setTop (mkF m 203 #[.val (.int p0), .val (.int p1), .val (.int p2), .val (.int p3), .val (.long q4), .second, .val (.ref b1), .val (.int v9_0), .val (.int v9_1), .val (.int v9_2), .val (.int v9_3), .val (.int v9_4), .val (.int v9_5), .val (.int v9_6), .val (.int v9_7), .val (.int ((own_aE v9_0 v9_1) + (1 : Int32))), .val (.int (123 : Int32)), .val (.int (125 : Int32))] [(.int en31)])) _
          refine XS.istore X31.here hx rfl (hb hby at_203) rfl (l' := #[.val (.int p0), .val (.int p1), .val (.int p2), .val (.int p3), .val (.long q4), .second, .val (.ref b1), .val (.int v9_0), .val (.int v9_1), .val (.int v9_2), .val (.int v9_3), .val (.int v9_4), .val (.int v9_5), .val (.int v9_6), .val (.int v9_7), .val (.int en31), .val (.int (123 : Int32)), .val (.int (125 : Int32))]) rfl ?_
          show Steps p.tables e below (T31.setTop (mkF m 205 #[.val (.int p0), .val (.int p1), .val (.int p2), .val (.int p3), .val (.long q4), .second, .val (.ref b1), .val (.int v9_0), .val (.int v9_1), .val (.int v9_2), .val (.int v9_3), .val (.int v9_4), .val (.int v9_5), .val (.int v9_6), .val (.int v9_7), .val (.int en31), .val (.int (123 : Int32)), .val (.int (125 : Int32))] [])) _
          refine XS.iload X31.here hx rfl (hb hby at_205) rfl ?_
          show Steps p.tables e below (T31.setTop (mkF m 207 #[.val (.int p0), .val (.int p1), .val (.int p2), .val (.int p3), .val (.long q4), .second, .val (.ref b1), .val (.int v9_0), .val (.int v9_1), .val (.int v9_2), .val (.int v9_3), .val (.int v9_4), .val (.int v9_5), .val (.int v9_6), .val (.int v9_7), .val (.int en31), .val (.int (123 : Int32)), .val (.int (125 : Int32))] [(.int v9_3)])) _
          refine XS.iconst X31.here hx rfl (hb hby at_207) ?_
          exact k)
        by_cases hc208_33 : (1 : Int32) < v9_3
        · obtain ⟨_, _, ⟨T34, L34, k34, n34⟩, -, X34, ⟨Lc34, hQ34, l34, y34, z34⟩, st34⟩ := Jvm.LawKit.callS X31 hx (y := (⟨"com/example/sensor_access_indicators/sensoraccessindicators/dbus/MarshallingTypeEndPinLaw", "field", "([CIIII)I"⟩ : MethodName)) hown (mvT hZ (hw _ (List.mem_of_getElem? (i := 65) rfl))) (mvT hZ (hw _ (List.mem_of_getElem? (i := 66) rfl))) (mvT hZ (hw _ (List.mem_of_getElem? (i := 4) rfl))) (mvT hZ (hw _ (List.mem_of_getElem? (i := 67) rfl))) (by decide) (backOf (W := 0) (rm15 l Z a0 hw [] b1 en31 v9_6 v9_7 p3 ls31 k1 T31.heap n0 (Nat.le_trans (Nat.le_trans (Nat.le_trans (Nat.le_trans (Nat.le_trans (Nat.le_trans (Nat.le_trans Z0 E1.1) (Keep.of_wr W3).1) (Keep.of_wr W5).1) (Keep.of_wr W7).1) K11.1) (Keep.of_wr W28).1) K31.1) VV31 g_b1 fr31.1 ⟨(own_n1p hls hst hk fr31).1.1, by have := (own_n1p hls hst hk fr31).1.2; omega⟩ hj2) hZ (hw _ (List.mem_of_getElem? (i := 67) rfl)) (hw _ (List.mem_of_getElem? (i := 4) rfl)) (by decide) (by decide)) (g := (mkF m 220 #[.val (.int p0), .val (.int p1), .val (.int p2), .val (.int p3), .val (.long q4), .second, .val (.ref b1), .val (.int v9_0), .val (.int v9_1), .val (.int v9_2), .val (.int v9_3), .val (.int v9_4), .val (.int v9_5), .val (.int v9_6), .val (.int v9_7), .val (.int en31), .val (.int (123 : Int32)), .val (.int (125 : Int32))] [(.int p3), (.int v9_7), (.int v9_6), (.int en31), (.ref b1)])) rfl (by rw [hml]; rfl) (argsL := [(.ref b1), (.int en31), (.int v9_6), (.int v9_7), (.int p3)]) (rest := []) (lenOf pd_8 rfl) rfl (by show 2 * 0 + _ ≤ _; exact Nat.le_of_eq rfl) (hb hby at_220) (fun _ _ => ⟨rfl, rfl, (by decide : 1 + 0 ≤ _), (by decide : 24 + 0 ≤ _)⟩)
          dsimp only [Pt.U, Pt.locs, Pt.cells, Pt.slots] at X34 l34 y34 z34 st34 hQ34
          subst l34 y34 z34
          obtain ⟨ls34, en34, rfl, N34q, K34, VV34, fr34⟩ := hQ34
          have N34 := Fr.app N31 N34q
          have KK34 : Keep h0 T34.heap [] := KK31.trans K34 (allS (Or.inr sz_b1) all0)
          obtain ⟨c35, Ar35, hin35, -⟩ := own_read VV34 (own_n2p (own_n1p hls hst hk fr31).1 fr34).1
          obtain ⟨T36, h36, X36, e36, W36, st36⟩ := stC X34 hx hZ rfl Ar35 (j := en34) hin35 (g := (mkF m 231 #[.val (.int p0), .val (.int p1), .val (.int p2), .val (.int p3), .val (.long q4), .second, .val (.ref b1), .val (.int v9_0), .val (.int v9_1), .val (.int v9_2), .val (.int v9_3), .val (.int v9_4), .val (.int v9_5), .val (.int v9_6), .val (.int v9_7), .val (.int en34), .val (.int (123 : Int32)), .val (.int (125 : Int32))] [(.int (125 : Int32)), (.int en34), (.ref b1)])) rfl rfl (hb hby at_231)
          have V36 : own_A Z h36 b1 k1 .char (24 : Int32) (own_wr ls34 en34 (125 : Int32)) := own_writeC VV34 (own_n2p (own_n1p hls hst hk fr31).1 fr34).1 (by decide) W36
          have KK36 : Keep h0 h36 [] := KK34.wr W36 (Or.inr sz_b1)
          have N36 := Fr.snoc X36 N34 g_b1
          obtain ⟨c37, Ar37, hin37, -⟩ := own_read V36 (own_n2p (own_n1p hls hst hk fr31).1 fr34).2
          obtain ⟨T38, h38, X38, e38, W38, st38⟩ := stC X36 hx hZ e36 Ar37 (j := (en34 + (1 : Int32))) hin37 (g := (mkF m 257 #[.val (.int p0), .val (.int p1), .val (.int p2), .val (.int p3), .val (.long q4), .second, .val (.ref b1), .val (.int v9_0), .val (.int v9_1), .val (.int v9_2), .val (.int v9_3), .val (.int v9_4), .val (.int v9_5), .val (.int v9_6), .val (.int v9_7), .val (.int (en34 + (1 : Int32))), .val (.int (en34 + (1 : Int32))), .val (.int (125 : Int32))] [(.int (((((q4.toUInt64 >>> ((24 : Int32) &&& 0x3f).toInt64.toUInt64).toInt64) &&& (255 : Int64)).toInt32).toUInt32.toUInt16.toUInt32.toInt32)), (.int (en34 + (1 : Int32))), (.ref b1)])) rfl rfl (hb hby at_257)
          have V38 : own_A Z h38 b1 k1 .char (24 : Int32) (own_wr (own_wr ls34 en34 (125 : Int32)) (en34 + (1 : Int32)) (((((q4.toUInt64 >>> ((24 : Int32) &&& 0x3f).toInt64.toUInt64).toInt64) &&& (255 : Int64)).toInt32).toUInt32.toUInt16.toUInt32.toInt32)) := own_writeC V36 (own_n2p (own_n1p hls hst hk fr31).1 fr34).2 (own_lb _) W38
          have KK38 : Keep h0 h38 [] := KK36.wr W38 (Or.inr sz_b1)
          have N38 := Fr.snoc X38 N36 g_b1
          have pre39 : ∀ t, Steps p.tables e below (T38.setTop (mkF m 258 #[.val (.int p0), .val (.int p1), .val (.int p2), .val (.int p3), .val (.long q4), .second, .val (.ref b1), .val (.int v9_0), .val (.int v9_1), .val (.int v9_2), .val (.int v9_3), .val (.int v9_4), .val (.int v9_5), .val (.int v9_6), .val (.int v9_7), .val (.int (en34 + (1 : Int32))), .val (.int (en34 + (1 : Int32))), .val (.int (125 : Int32))] [])) t → Steps p.tables e below (s₁.setTop (entryFrame m #[(.int p0), (.int p1), (.int p2), (.int p3), (.long q4)] maxLocals)) t := fun t k => pre32 t (by
            show Steps p.tables e below (T31.setTop (mkF m 208 #[.val (.int p0), .val (.int p1), .val (.int p2), .val (.int p3), .val (.long q4), .second, .val (.ref b1), .val (.int v9_0), .val (.int v9_1), .val (.int v9_2), .val (.int v9_3), .val (.int v9_4), .val (.int v9_5), .val (.int v9_6), .val (.int v9_7), .val (.int en31), .val (.int (123 : Int32)), .val (.int (125 : Int32))] [(.int (1 : Int32)), (.int v9_3)])) _
            refine XS.icmpNo X31.here hx rfl (hb hby at_208) rfl (tlt hc208_33).2.2.2 ?_
            show Steps p.tables e below (T31.setTop (mkF m 211 #[.val (.int p0), .val (.int p1), .val (.int p2), .val (.int p3), .val (.long q4), .second, .val (.ref b1), .val (.int v9_0), .val (.int v9_1), .val (.int v9_2), .val (.int v9_3), .val (.int v9_4), .val (.int v9_5), .val (.int v9_6), .val (.int v9_7), .val (.int en31), .val (.int (123 : Int32)), .val (.int (125 : Int32))] [])) _
            refine XS.aload X31.here hx rfl (hb hby at_211) rfl rfl ?_
            show Steps p.tables e below (T31.setTop (mkF m 213 #[.val (.int p0), .val (.int p1), .val (.int p2), .val (.int p3), .val (.long q4), .second, .val (.ref b1), .val (.int v9_0), .val (.int v9_1), .val (.int v9_2), .val (.int v9_3), .val (.int v9_4), .val (.int v9_5), .val (.int v9_6), .val (.int v9_7), .val (.int en31), .val (.int (123 : Int32)), .val (.int (125 : Int32))] [(.ref b1)])) _
            refine XS.iload X31.here hx rfl (hb hby at_213) rfl ?_
            show Steps p.tables e below (T31.setTop (mkF m 215 #[.val (.int p0), .val (.int p1), .val (.int p2), .val (.int p3), .val (.long q4), .second, .val (.ref b1), .val (.int v9_0), .val (.int v9_1), .val (.int v9_2), .val (.int v9_3), .val (.int v9_4), .val (.int v9_5), .val (.int v9_6), .val (.int v9_7), .val (.int en31), .val (.int (123 : Int32)), .val (.int (125 : Int32))] [(.int en31), (.ref b1)])) _
            refine XS.iload X31.here hx rfl (hb hby at_215) rfl ?_
            show Steps p.tables e below (T31.setTop (mkF m 217 #[.val (.int p0), .val (.int p1), .val (.int p2), .val (.int p3), .val (.long q4), .second, .val (.ref b1), .val (.int v9_0), .val (.int v9_1), .val (.int v9_2), .val (.int v9_3), .val (.int v9_4), .val (.int v9_5), .val (.int v9_6), .val (.int v9_7), .val (.int en31), .val (.int (123 : Int32)), .val (.int (125 : Int32))] [(.int v9_6), (.int en31), (.ref b1)])) _
            refine XS.iload X31.here hx rfl (hb hby at_217) rfl ?_
            show Steps p.tables e below (T31.setTop (mkF m 219 #[.val (.int p0), .val (.int p1), .val (.int p2), .val (.int p3), .val (.long q4), .second, .val (.ref b1), .val (.int v9_0), .val (.int v9_1), .val (.int v9_2), .val (.int v9_3), .val (.int v9_4), .val (.int v9_5), .val (.int v9_6), .val (.int v9_7), .val (.int en31), .val (.int (123 : Int32)), .val (.int (125 : Int32))] [(.int v9_7), (.int v9_6), (.int en31), (.ref b1)])) _
            refine XS.iloadN X31.here hx rfl (hb hby at_219) rfl ?_
            show Steps p.tables e below (T31.setTop (mkF m 220 #[.val (.int p0), .val (.int p1), .val (.int p2), .val (.int p3), .val (.long q4), .second, .val (.ref b1), .val (.int v9_0), .val (.int v9_1), .val (.int v9_2), .val (.int v9_3), .val (.int v9_4), .val (.int v9_5), .val (.int v9_6), .val (.int v9_7), .val (.int en31), .val (.int (123 : Int32)), .val (.int (125 : Int32))] [(.int p3), (.int v9_7), (.int v9_6), (.int en31), (.ref b1)])) _
            refine st34 _ ?_
            show Steps p.tables e below (T34.setTop (mkF m 223 #[.val (.int p0), .val (.int p1), .val (.int p2), .val (.int p3), .val (.long q4), .second, .val (.ref b1), .val (.int v9_0), .val (.int v9_1), .val (.int v9_2), .val (.int v9_3), .val (.int v9_4), .val (.int v9_5), .val (.int v9_6), .val (.int v9_7), .val (.int en31), .val (.int (123 : Int32)), .val (.int (125 : Int32))] [(.int en34)])) _
            refine XS.istore X34.here hx rfl (hb hby at_223) rfl (l' := #[.val (.int p0), .val (.int p1), .val (.int p2), .val (.int p3), .val (.long q4), .second, .val (.ref b1), .val (.int v9_0), .val (.int v9_1), .val (.int v9_2), .val (.int v9_3), .val (.int v9_4), .val (.int v9_5), .val (.int v9_6), .val (.int v9_7), .val (.int en34), .val (.int (123 : Int32)), .val (.int (125 : Int32))]) rfl ?_
            show Steps p.tables e below (T34.setTop (mkF m 225 #[.val (.int p0), .val (.int p1), .val (.int p2), .val (.int p3), .val (.long q4), .second, .val (.ref b1), .val (.int v9_0), .val (.int v9_1), .val (.int v9_2), .val (.int v9_3), .val (.int v9_4), .val (.int v9_5), .val (.int v9_6), .val (.int v9_7), .val (.int en34), .val (.int (123 : Int32)), .val (.int (125 : Int32))] [])) _
            refine XS.aload X34.here hx rfl (hb hby at_225) rfl rfl ?_
            show Steps p.tables e below (T34.setTop (mkF m 227 #[.val (.int p0), .val (.int p1), .val (.int p2), .val (.int p3), .val (.long q4), .second, .val (.ref b1), .val (.int v9_0), .val (.int v9_1), .val (.int v9_2), .val (.int v9_3), .val (.int v9_4), .val (.int v9_5), .val (.int v9_6), .val (.int v9_7), .val (.int en34), .val (.int (123 : Int32)), .val (.int (125 : Int32))] [(.ref b1)])) _
            refine XS.iload X34.here hx rfl (hb hby at_227) rfl ?_
            show Steps p.tables e below (T34.setTop (mkF m 229 #[.val (.int p0), .val (.int p1), .val (.int p2), .val (.int p3), .val (.long q4), .second, .val (.ref b1), .val (.int v9_0), .val (.int v9_1), .val (.int v9_2), .val (.int v9_3), .val (.int v9_4), .val (.int v9_5), .val (.int v9_6), .val (.int v9_7), .val (.int en34), .val (.int (123 : Int32)), .val (.int (125 : Int32))] [(.int en34), (.ref b1)])) _
            refine XS.iload X34.here hx rfl (hb hby at_229) rfl ?_
            show Steps p.tables e below (T34.setTop (mkF m 231 #[.val (.int p0), .val (.int p1), .val (.int p2), .val (.int p3), .val (.long q4), .second, .val (.ref b1), .val (.int v9_0), .val (.int v9_1), .val (.int v9_2), .val (.int v9_3), .val (.int v9_4), .val (.int v9_5), .val (.int v9_6), .val (.int v9_7), .val (.int en34), .val (.int (123 : Int32)), .val (.int (125 : Int32))] [(.int (125 : Int32)), (.int en34), (.ref b1)])) _
            refine st36 _ ?_
            show Steps p.tables e below (T36.setTop (mkF m 232 #[.val (.int p0), .val (.int p1), .val (.int p2), .val (.int p3), .val (.long q4), .second, .val (.ref b1), .val (.int v9_0), .val (.int v9_1), .val (.int v9_2), .val (.int v9_3), .val (.int v9_4), .val (.int v9_5), .val (.int v9_6), .val (.int v9_7), .val (.int en34), .val (.int (123 : Int32)), .val (.int (125 : Int32))] [])) _
            refine XS.iload X36.here hx rfl (hb hby at_232) rfl ?_
            show Steps p.tables e below (T36.setTop (mkF m 234 #[.val (.int p0), .val (.int p1), .val (.int p2), .val (.int p3), .val (.long q4), .second, .val (.ref b1), .val (.int v9_0), .val (.int v9_1), .val (.int v9_2), .val (.int v9_3), .val (.int v9_4), .val (.int v9_5), .val (.int v9_6), .val (.int v9_7), .val (.int en34), .val (.int (123 : Int32)), .val (.int (125 : Int32))] [(.int en34)])) _
            refine XS.iconst X36.here hx rfl (hb hby at_234) ?_
            show Steps p.tables e below (T36.setTop (mkF m 235 #[.val (.int p0), .val (.int p1), .val (.int p2), .val (.int p3), .val (.long q4), .second, .val (.ref b1), .val (.int v9_0), .val (.int v9_1), .val (.int v9_2), .val (.int v9_3), .val (.int v9_4), .val (.int v9_5), .val (.int v9_6), .val (.int v9_7), .val (.int en34), .val (.int (123 : Int32)), .val (.int (125 : Int32))] [(.int (1 : Int32)), (.int en34)])) _
            refine XS.iadd X36.here hx rfl (hb hby at_235) rfl ?_
            show Steps p.tables e below (T36.setTop (mkF m 236 #[.val (.int p0), .val (.int p1), .val (.int p2), .val (.int p3), .val (.long q4), .second, .val (.ref b1), .val (.int v9_0), .val (.int v9_1), .val (.int v9_2), .val (.int v9_3), .val (.int v9_4), .val (.int v9_5), .val (.int v9_6), .val (.int v9_7), .val (.int en34), .val (.int (123 : Int32)), .val (.int (125 : Int32))] [(.int (en34 + (1 : Int32)))])) _
            refine XS.istore X36.here hx rfl (hb hby at_236) rfl (l' := #[.val (.int p0), .val (.int p1), .val (.int p2), .val (.int p3), .val (.long q4), .second, .val (.ref b1), .val (.int v9_0), .val (.int v9_1), .val (.int v9_2), .val (.int v9_3), .val (.int v9_4), .val (.int v9_5), .val (.int v9_6), .val (.int v9_7), .val (.int (en34 + (1 : Int32))), .val (.int (123 : Int32)), .val (.int (125 : Int32))]) rfl ?_
            show Steps p.tables e below (T36.setTop (mkF m 238 #[.val (.int p0), .val (.int p1), .val (.int p2), .val (.int p3), .val (.long q4), .second, .val (.ref b1), .val (.int v9_0), .val (.int v9_1), .val (.int v9_2), .val (.int v9_3), .val (.int v9_4), .val (.int v9_5), .val (.int v9_6), .val (.int v9_7), .val (.int (en34 + (1 : Int32))), .val (.int (123 : Int32)), .val (.int (125 : Int32))] [])) _
            refine XS.iload X36.here hx rfl (hb hby at_238) rfl ?_
            show Steps p.tables e below (T36.setTop (mkF m 240 #[.val (.int p0), .val (.int p1), .val (.int p2), .val (.int p3), .val (.long q4), .second, .val (.ref b1), .val (.int v9_0), .val (.int v9_1), .val (.int v9_2), .val (.int v9_3), .val (.int v9_4), .val (.int v9_5), .val (.int v9_6), .val (.int v9_7), .val (.int (en34 + (1 : Int32))), .val (.int (123 : Int32)), .val (.int (125 : Int32))] [(.int (en34 + (1 : Int32)))])) _
            refine XS.istore X36.here hx rfl (hb hby at_240) rfl (l' := #[.val (.int p0), .val (.int p1), .val (.int p2), .val (.int p3), .val (.long q4), .second, .val (.ref b1), .val (.int v9_0), .val (.int v9_1), .val (.int v9_2), .val (.int v9_3), .val (.int v9_4), .val (.int v9_5), .val (.int v9_6), .val (.int v9_7), .val (.int (en34 + (1 : Int32))), .val (.int (en34 + (1 : Int32))), .val (.int (125 : Int32))]) rfl ?_
            show Steps p.tables e below (T36.setTop (mkF m 242 #[.val (.int p0), .val (.int p1), .val (.int p2), .val (.int p3), .val (.long q4), .second, .val (.ref b1), .val (.int v9_0), .val (.int v9_1), .val (.int v9_2), .val (.int v9_3), .val (.int v9_4), .val (.int v9_5), .val (.int v9_6), .val (.int v9_7), .val (.int (en34 + (1 : Int32))), .val (.int (en34 + (1 : Int32))), .val (.int (125 : Int32))] [])) _
            refine XS.aload X36.here hx rfl (hb hby at_242) rfl rfl ?_
            show Steps p.tables e below (T36.setTop (mkF m 244 #[.val (.int p0), .val (.int p1), .val (.int p2), .val (.int p3), .val (.long q4), .second, .val (.ref b1), .val (.int v9_0), .val (.int v9_1), .val (.int v9_2), .val (.int v9_3), .val (.int v9_4), .val (.int v9_5), .val (.int v9_6), .val (.int v9_7), .val (.int (en34 + (1 : Int32))), .val (.int (en34 + (1 : Int32))), .val (.int (125 : Int32))] [(.ref b1)])) _
            refine XS.iload X36.here hx rfl (hb hby at_244) rfl ?_
            show Steps p.tables e below (T36.setTop (mkF m 246 #[.val (.int p0), .val (.int p1), .val (.int p2), .val (.int p3), .val (.long q4), .second, .val (.ref b1), .val (.int v9_0), .val (.int v9_1), .val (.int v9_2), .val (.int v9_3), .val (.int v9_4), .val (.int v9_5), .val (.int v9_6), .val (.int v9_7), .val (.int (en34 + (1 : Int32))), .val (.int (en34 + (1 : Int32))), .val (.int (125 : Int32))] [(.int (en34 + (1 : Int32))), (.ref b1)])) _
            refine XS.lload X36.here hx rfl (hb hby at_246) rfl ?_
            show Steps p.tables e below (T36.setTop (mkF m 248 #[.val (.int p0), .val (.int p1), .val (.int p2), .val (.int p3), .val (.long q4), .second, .val (.ref b1), .val (.int v9_0), .val (.int v9_1), .val (.int v9_2), .val (.int v9_3), .val (.int v9_4), .val (.int v9_5), .val (.int v9_6), .val (.int v9_7), .val (.int (en34 + (1 : Int32))), .val (.int (en34 + (1 : Int32))), .val (.int (125 : Int32))] [(.long q4), (.int (en34 + (1 : Int32))), (.ref b1)])) _
            refine XS.bipush X36.here hx rfl (hb hby at_248) ?_
            show Steps p.tables e below (T36.setTop (mkF m 250 #[.val (.int p0), .val (.int p1), .val (.int p2), .val (.int p3), .val (.long q4), .second, .val (.ref b1), .val (.int v9_0), .val (.int v9_1), .val (.int v9_2), .val (.int v9_3), .val (.int v9_4), .val (.int v9_5), .val (.int v9_6), .val (.int v9_7), .val (.int (en34 + (1 : Int32))), .val (.int (en34 + (1 : Int32))), .val (.int (125 : Int32))] [(.int (24 : Int32)), (.long q4), (.int (en34 + (1 : Int32))), (.ref b1)])) _
            refine XS.lushr X36.here hx rfl (hb hby at_250) rfl ?_
            show Steps p.tables e below (T36.setTop (mkF m 251 #[.val (.int p0), .val (.int p1), .val (.int p2), .val (.int p3), .val (.long q4), .second, .val (.ref b1), .val (.int v9_0), .val (.int v9_1), .val (.int v9_2), .val (.int v9_3), .val (.int v9_4), .val (.int v9_5), .val (.int v9_6), .val (.int v9_7), .val (.int (en34 + (1 : Int32))), .val (.int (en34 + (1 : Int32))), .val (.int (125 : Int32))] [(.long ((q4.toUInt64 >>> ((24 : Int32) &&& 0x3f).toInt64.toUInt64).toInt64)), (.int (en34 + (1 : Int32))), (.ref b1)])) _
            refine X36.ldc2Long hx hown (mvT hZ (hw _ (List.mem_of_getElem? (i := 1) rfl))) (g := (mkF m 251 #[.val (.int p0), .val (.int p1), .val (.int p2), .val (.int p3), .val (.long q4), .second, .val (.ref b1), .val (.int v9_0), .val (.int v9_1), .val (.int v9_2), .val (.int v9_3), .val (.int v9_4), .val (.int v9_5), .val (.int v9_6), .val (.int v9_7), .val (.int (en34 + (1 : Int32))), .val (.int (en34 + (1 : Int32))), .val (.int (125 : Int32))] [(.long ((q4.toUInt64 >>> ((24 : Int32) &&& 0x3f).toInt64.toUInt64).toInt64)), (.int (en34 + (1 : Int32))), (.ref b1)])) rfl (hb hby at_251) _ ?_
            show Steps p.tables e below (T36.setTop (mkF m 254 #[.val (.int p0), .val (.int p1), .val (.int p2), .val (.int p3), .val (.long q4), .second, .val (.ref b1), .val (.int v9_0), .val (.int v9_1), .val (.int v9_2), .val (.int v9_3), .val (.int v9_4), .val (.int v9_5), .val (.int v9_6), .val (.int v9_7), .val (.int (en34 + (1 : Int32))), .val (.int (en34 + (1 : Int32))), .val (.int (125 : Int32))] [(.long (255 : Int64)), (.long ((q4.toUInt64 >>> ((24 : Int32) &&& 0x3f).toInt64.toUInt64).toInt64)), (.int (en34 + (1 : Int32))), (.ref b1)])) _
            refine XS.land X36.here hx rfl (hb hby at_254) rfl ?_
            show Steps p.tables e below (T36.setTop (mkF m 255 #[.val (.int p0), .val (.int p1), .val (.int p2), .val (.int p3), .val (.long q4), .second, .val (.ref b1), .val (.int v9_0), .val (.int v9_1), .val (.int v9_2), .val (.int v9_3), .val (.int v9_4), .val (.int v9_5), .val (.int v9_6), .val (.int v9_7), .val (.int (en34 + (1 : Int32))), .val (.int (en34 + (1 : Int32))), .val (.int (125 : Int32))] [(.long (((q4.toUInt64 >>> ((24 : Int32) &&& 0x3f).toInt64.toUInt64).toInt64) &&& (255 : Int64))), (.int (en34 + (1 : Int32))), (.ref b1)])) _
            refine XS.l2i X36.here hx rfl (hb hby at_255) rfl ?_
            show Steps p.tables e below (T36.setTop (mkF m 256 #[.val (.int p0), .val (.int p1), .val (.int p2), .val (.int p3), .val (.long q4), .second, .val (.ref b1), .val (.int v9_0), .val (.int v9_1), .val (.int v9_2), .val (.int v9_3), .val (.int v9_4), .val (.int v9_5), .val (.int v9_6), .val (.int v9_7), .val (.int (en34 + (1 : Int32))), .val (.int (en34 + (1 : Int32))), .val (.int (125 : Int32))] [(.int ((((q4.toUInt64 >>> ((24 : Int32) &&& 0x3f).toInt64.toUInt64).toInt64) &&& (255 : Int64)).toInt32)), (.int (en34 + (1 : Int32))), (.ref b1)])) _
            refine XS.i2c X36.here hx rfl (hb hby at_256) rfl ?_
            show Steps p.tables e below (T36.setTop (mkF m 257 #[.val (.int p0), .val (.int p1), .val (.int p2), .val (.int p3), .val (.long q4), .second, .val (.ref b1), .val (.int v9_0), .val (.int v9_1), .val (.int v9_2), .val (.int v9_3), .val (.int v9_4), .val (.int v9_5), .val (.int v9_6), .val (.int v9_7), .val (.int (en34 + (1 : Int32))), .val (.int (en34 + (1 : Int32))), .val (.int (125 : Int32))] [(.int (((((q4.toUInt64 >>> ((24 : Int32) &&& 0x3f).toInt64.toUInt64).toInt64) &&& (255 : Int64)).toInt32).toUInt32.toUInt16.toUInt32.toInt32)), (.int (en34 + (1 : Int32))), (.ref b1)])) _
            refine st38 _ ?_
            exact k)
          have hT40 : own_by (own_wr (own_wr ls34 en34 (125 : Int32)) (en34 + (1 : Int32)) (((((q4.toUInt64 >>> ((24 : Int32) &&& 0x3f).toInt64.toUInt64).toInt64) &&& (255 : Int64)).toInt32).toUInt32.toUInt16.toUInt32.toInt32)) ∧ own_ty (own_wr (own_wr ls34 en34 (125 : Int32)) (en34 + (1 : Int32)) (((((q4.toUInt64 >>> ((24 : Int32) &&& 0x3f).toInt64.toUInt64).toInt64) &&& (255 : Int64)).toInt32).toUInt32.toUInt16.toUInt32.toInt32)) 9 v9_0 (en34 + (1 : Int32)) := own_n2 hls hst hk (Or.inr ⟨rfl, rfl⟩) (own_lb _) fr31 fr34
          obtain ⟨T41, h41, X41, e41, E41, A41, D41, -, st41⟩ := newO X38 hx hZ hown (hw _ (List.mem_of_getElem? (i := 9) rfl)) (hw _ (List.mem_of_getElem? (i := 10) rfl)) (hw _ (List.mem_of_getElem? (i := 11) rfl)) e38 (g := (mkF m 258 #[.val (.int p0), .val (.int p1), .val (.int p2), .val (.int p3), .val (.long q4), .second, .val (.ref b1), .val (.int v9_0), .val (.int v9_1), .val (.int v9_2), .val (.int v9_3), .val (.int v9_4), .val (.int v9_5), .val (.int v9_6), .val (.int v9_7), .val (.int (en34 + (1 : Int32))), .val (.int (en34 + (1 : Int32))), .val (.int (125 : Int32))] [])) rfl (hb hby at_258) (by decide) (by decide)
          obtain ⟨b41, g41⟩ : ∃ z, z = h38.size := ⟨_, rfl⟩
          rw [← g41] at A41 D41 st41
          have F_coder_b41 : Fld Z h41 b41 "java/lang/String" "coder" "B" (.int (0 : Int32)) := D41 (Or.inr (hw _ (List.mem_of_getElem? (i := 35) rfl))) (ty := .byte) (by decide)
          have F_value_b41 : Fld Z h41 b41 "java/lang/String" "value" "[B" .null := D41 (Or.inr (hw _ (List.mem_of_getElem? (i := 37) rfl))) (ty := (.array .byte)) (by decide)
          have g_b41 : n0 ≤ b41 := Nat.le_trans (Nat.le_trans (Nat.le_trans (Nat.le_trans (Nat.le_trans (Nat.le_trans (Nat.le_trans (Nat.le_trans (Nat.le_trans (Nat.le_trans (Nat.le_trans Z0 E1.1) (Keep.of_wr W3).1) (Keep.of_wr W5).1) (Keep.of_wr W7).1) K11.1) (Keep.of_wr W28).1) K31.1) K34.1) (Keep.of_wr W36).1) (Keep.of_wr W38).1) (Nat.le_of_eq g41.symm)
          have sz_b41 : h0.size ≤ b41 := Nat.le_trans KK38.1 (Nat.le_of_eq g41.symm)
          have KK41 : Keep h0 h41 [] := KK38.ext E41
          obtain ⟨_, _, ⟨T42, L42, k42, n42⟩, -, X42, ⟨Lc42, hQ42, l42, y42, z42⟩, st42⟩ := X41.specialBack hx (y := (⟨"java/lang/String", "<init>", "([C)V"⟩ : MethodName)) rfl hown (mvT hZ (hw _ (List.mem_of_getElem? (i := 12) rfl))) (mvT hZ (hw _ (List.mem_of_getElem? (i := 13) rfl))) (mvT hZ (hw _ (List.mem_of_getElem? (i := 14) rfl))) (by decide) (StrChars.Road.backV (W := 1) hZ (fun d hd => hw d ((by decide +kernel : ∀ d ∈ StrChars.Road.words, d ∈ tables_1) d hd)) (hw _ (List.mem_of_getElem? (i := 10) rfl)) (cs := (own_wr (own_wr ls34 en34 (125 : Int32)) (en34 + (1 : Int32)) (((((q4.toUInt64 >>> ((24 : Int32) &&& 0x3f).toInt64.toUInt64).toInt64) &&& (255 : Int64)).toInt32).toUInt32.toUInt16.toUInt32.toInt32))) (bs := (own_wr (own_wr ls34 en34 (125 : Int32)) (en34 + (1 : Int32)) (((((q4.toUInt64 >>> ((24 : Int32) &&& 0x3f).toInt64.toUInt64).toInt64) &&& (255 : Int64)).toInt32).toUInt32.toUInt16.toUInt32.toInt32)).map (fun c => c.toInt8.toInt32)) (n := 24) g_b41 (Nat.le_trans (Nat.le_trans (Nat.le_trans (Nat.le_trans (Nat.le_trans (Nat.le_trans (Nat.le_trans (Nat.le_trans (Nat.le_trans (Nat.le_trans (Nat.le_trans Z0 E1.1) (Keep.of_wr W3).1) (Keep.of_wr W5).1) (Keep.of_wr W7).1) K11.1) (Keep.of_wr W28).1) K31.1) K34.1) (Keep.of_wr W36).1) (Keep.of_wr W38).1) E41.1) A41 F_value_b41 F_coder_b41 (V38.ext E41).2 (Sta.ext (((((((((((O0.ext E1).wr W3 g_b1).wr W5 g_b1).wr W7 g_b1).keep K11 (allS g_b1 all0)).wr W28 g_b1).keep K31 (allS g_b1 all0)).keep K34 (allS g_b1 all0)).wr W36 g_b1).wr W38 g_b1).ext E41).2 S_C) hC hT40.1.1 rfl (by decide) (by decide) hT40.1.2 rfl (by decide) (by decide)) (g := (mkF m 264 #[.val (.int p0), .val (.int p1), .val (.int p2), .val (.int p3), .val (.long q4), .second, .val (.ref b1), .val (.int v9_0), .val (.int v9_1), .val (.int v9_2), .val (.int v9_3), .val (.int v9_4), .val (.int v9_5), .val (.int v9_6), .val (.int v9_7), .val (.int (en34 + (1 : Int32))), .val (.int (en34 + (1 : Int32))), .val (.int (125 : Int32))] [(.ref b1), (.ref b41), (.ref b41)])) rfl (by rw [hml]; rfl) (Steps.refl _) (a := b41) (argsL := [(.ref b1)]) (rest := [(.ref b41)]) (lenOf pd_7 rfl) rfl (by show 2 * 0 + _ ≤ _; exact Nat.le_of_eq rfl) (hb hby at_264) (fun _ _ => ⟨rfl, e41, (by decide : 2 + 1 ≤ _), (by decide : 28 + 24 ≤ _)⟩)
          dsimp only [Pt.U, Pt.locs, Pt.cells, Pt.slots] at X42 l42 y42 z42 st42 hQ42
          subst l42 y42 z42
          obtain ⟨rfl, N42q, K42, EX42, FC42, t42, kb42, g_t42, szt42, -, FV42, AV42⟩ := hQ42
          have N42 := Fr.app N38 N42q
          have V_t42 : own_A Z T42.heap t42 kb42 .byte (24 : Int32) ((own_wr (own_wr ls34 en34 (125 : Int32)) (en34 + (1 : Int32)) (((((q4.toUInt64 >>> ((24 : Int32) &&& 0x3f).toInt64.toUInt64).toInt64) &&& (255 : Int64)).toInt32).toUInt32.toUInt16.toUInt32.toInt32)).map (fun c => c.toInt8.toInt32)) := ⟨List.length_map _ |>.trans hT40.1.1, AV42⟩
          obtain ⟨_, _, ⟨T43, L43, k43, n43⟩, -, X43, ⟨Lc43, hQ43, l43, y43, z43⟩, st43⟩ := Jvm.LawKit.callS X42 hx (y := (⟨"com/example/sensor_access_indicators/sensoraccessindicators/dbus/Marshalling", "typeEnd", "(Ljava/lang/String;I)I"⟩ : MethodName)) hown (mvT hZ (hw _ (List.mem_of_getElem? (i := 38) rfl))) (mvT hZ (hw _ (List.mem_of_getElem? (i := 39) rfl))) (mvT hZ (hw _ (List.mem_of_getElem? (i := 40) rfl))) (mvT hZ (hw _ (List.mem_of_getElem? (i := 41) rfl))) (by decide) (backOf (W := 0) (rm9 l Z a0 hw b41 wC wF t42 kb42 (own_wr (own_wr ls34 en34 (125 : Int32)) (en34 + (1 : Int32)) (((((q4.toUInt64 >>> ((24 : Int32) &&& 0x3f).toInt64.toUInt64).toInt64) &&& (255 : Int64)).toInt32).toUInt32.toUInt16.toUInt32.toInt32)) T42.heap n0 (Nat.le_trans (Nat.le_trans (Nat.le_trans (Nat.le_trans (Nat.le_trans (Nat.le_trans (Nat.le_trans (Nat.le_trans (Nat.le_trans (Nat.le_trans (Nat.le_trans (Nat.le_trans Z0 E1.1) (Keep.of_wr W3).1) (Keep.of_wr W5).1) (Keep.of_wr W7).1) K11.1) (Keep.of_wr W28).1) K31.1) K34.1) (Keep.of_wr W36).1) (Keep.of_wr W38).1) E41.1) K42.1) FC42 FV42 EX42 (Sta.ext ((((((((((((O0.ext E1).wr W3 g_b1).wr W5 g_b1).wr W7 g_b1).keep K11 (allS g_b1 all0)).wr W28 g_b1).keep K31 (allS g_b1 all0)).keep K34 (allS g_b1 all0)).wr W36 g_b1).wr W38 g_b1).ext E41).keep K42 (allS g_b41 all0)).2 S_C) hC (Sta.ext ((((((((((((O0.ext E1).wr W3 g_b1).wr W5 g_b1).wr W7 g_b1).keep K11 (allS g_b1 all0)).wr W28 g_b1).keep K31 (allS g_b1 all0)).keep K34 (allS g_b1 all0)).wr W36 g_b1).wr W38 g_b1).ext E41).keep K42 (allS g_b41 all0)).2 S_F) hF V_t42 hT40.1 9 v9_0 (en34 + (1 : Int32)) hT40.2) hZ (hw _ (List.mem_of_getElem? (i := 41) rfl)) (hw _ (List.mem_of_getElem? (i := 40) rfl)) (by decide) (by decide)) (g := (mkF m 273 #[.val (.int p0), .val (.int p1), .val (.int p2), .val (.int p3), .val (.long q4), .second, .val (.ref b1), .val (.int v9_0), .val (.int v9_1), .val (.int v9_2), .val (.int v9_3), .val (.int v9_4), .val (.int v9_5), .val (.int v9_6), .val (.int v9_7), .val (.int (en34 + (1 : Int32))), .val (.int (en34 + (1 : Int32))), .val (.ref b41)] [(.int v9_0), (.ref b41)])) rfl (by rw [hml]; rfl) (argsL := [(.ref b41), (.int v9_0)]) (rest := []) (lenOf pd_6 rfl) rfl (by show 2 * 0 + _ ≤ _; exact Nat.le_of_eq rfl) (hb hby at_273) (fun _ _ => ⟨rfl, rfl, (by decide : 3 + 0 ≤ _), (by decide : 52 + 0 ≤ _)⟩)
          dsimp only [Pt.U, Pt.locs, Pt.cells, Pt.slots] at X43 l43 y43 z43 st43 hQ43
          subst l43 y43 z43
          obtain ⟨rfl, N43q, hh43⟩ := hQ43
          have N43 := Fr.app N42 N43q
          have pre44 : ∀ t, Steps p.tables e below (T43.setTop (mkF m 286 #[.val (.int p0), .val (.int p1), .val (.int p2), .val (.int p3), .val (.long q4), .second, .val (.ref b1), .val (.int v9_0), .val (.int v9_1), .val (.int v9_2), .val (.int v9_3), .val (.int v9_4), .val (.int v9_5), .val (.int v9_6), .val (.int v9_7), .val (.int (en34 + (1 : Int32))), .val (.int (en34 + (1 : Int32))), .val (.ref b41)] [(.int (1 : Int32))])) t → Steps p.tables e below (s₁.setTop (entryFrame m #[(.int p0), (.int p1), (.int p2), (.int p3), (.long q4)] maxLocals)) t := fun t k => pre39 t (by
            show Steps p.tables e below (T38.setTop (mkF m 258 #[.val (.int p0), .val (.int p1), .val (.int p2), .val (.int p3), .val (.long q4), .second, .val (.ref b1), .val (.int v9_0), .val (.int v9_1), .val (.int v9_2), .val (.int v9_3), .val (.int v9_4), .val (.int v9_5), .val (.int v9_6), .val (.int v9_7), .val (.int (en34 + (1 : Int32))), .val (.int (en34 + (1 : Int32))), .val (.int (125 : Int32))] [])) _
            refine st41 _ ?_
            show Steps p.tables e below (T41.setTop (mkF m 261 #[.val (.int p0), .val (.int p1), .val (.int p2), .val (.int p3), .val (.long q4), .second, .val (.ref b1), .val (.int v9_0), .val (.int v9_1), .val (.int v9_2), .val (.int v9_3), .val (.int v9_4), .val (.int v9_5), .val (.int v9_6), .val (.int v9_7), .val (.int (en34 + (1 : Int32))), .val (.int (en34 + (1 : Int32))), .val (.int (125 : Int32))] [(.ref b41)])) _
            refine XS.dup X41.here hx rfl (hb hby at_261) rfl rfl ?_
            show Steps p.tables e below (T41.setTop (mkF m 262 #[.val (.int p0), .val (.int p1), .val (.int p2), .val (.int p3), .val (.long q4), .second, .val (.ref b1), .val (.int v9_0), .val (.int v9_1), .val (.int v9_2), .val (.int v9_3), .val (.int v9_4), .val (.int v9_5), .val (.int v9_6), .val (.int v9_7), .val (.int (en34 + (1 : Int32))), .val (.int (en34 + (1 : Int32))), .val (.int (125 : Int32))] [(.ref b41), (.ref b41)])) _
            refine XS.aload X41.here hx rfl (hb hby at_262) rfl rfl ?_
            show Steps p.tables e below (T41.setTop (mkF m 264 #[.val (.int p0), .val (.int p1), .val (.int p2), .val (.int p3), .val (.long q4), .second, .val (.ref b1), .val (.int v9_0), .val (.int v9_1), .val (.int v9_2), .val (.int v9_3), .val (.int v9_4), .val (.int v9_5), .val (.int v9_6), .val (.int v9_7), .val (.int (en34 + (1 : Int32))), .val (.int (en34 + (1 : Int32))), .val (.int (125 : Int32))] [(.ref b1), (.ref b41), (.ref b41)])) _
            refine st42.trans ?_
            show Steps p.tables e below (T42.setTop (mkF m 267 #[.val (.int p0), .val (.int p1), .val (.int p2), .val (.int p3), .val (.long q4), .second, .val (.ref b1), .val (.int v9_0), .val (.int v9_1), .val (.int v9_2), .val (.int v9_3), .val (.int v9_4), .val (.int v9_5), .val (.int v9_6), .val (.int v9_7), .val (.int (en34 + (1 : Int32))), .val (.int (en34 + (1 : Int32))), .val (.int (125 : Int32))] [(.ref b41)])) _
            refine XS.astore X42.here hx rfl (hb hby at_267) rfl rfl (l' := #[.val (.int p0), .val (.int p1), .val (.int p2), .val (.int p3), .val (.long q4), .second, .val (.ref b1), .val (.int v9_0), .val (.int v9_1), .val (.int v9_2), .val (.int v9_3), .val (.int v9_4), .val (.int v9_5), .val (.int v9_6), .val (.int v9_7), .val (.int (en34 + (1 : Int32))), .val (.int (en34 + (1 : Int32))), .val (.ref b41)]) rfl ?_
            show Steps p.tables e below (T42.setTop (mkF m 269 #[.val (.int p0), .val (.int p1), .val (.int p2), .val (.int p3), .val (.long q4), .second, .val (.ref b1), .val (.int v9_0), .val (.int v9_1), .val (.int v9_2), .val (.int v9_3), .val (.int v9_4), .val (.int v9_5), .val (.int v9_6), .val (.int v9_7), .val (.int (en34 + (1 : Int32))), .val (.int (en34 + (1 : Int32))), .val (.ref b41)] [])) _
            refine XS.aload X42.here hx rfl (hb hby at_269) rfl rfl ?_
            show Steps p.tables e below (T42.setTop (mkF m 271 #[.val (.int p0), .val (.int p1), .val (.int p2), .val (.int p3), .val (.long q4), .second, .val (.ref b1), .val (.int v9_0), .val (.int v9_1), .val (.int v9_2), .val (.int v9_3), .val (.int v9_4), .val (.int v9_5), .val (.int v9_6), .val (.int v9_7), .val (.int (en34 + (1 : Int32))), .val (.int (en34 + (1 : Int32))), .val (.ref b41)] [(.ref b41)])) _
            refine XS.iload X42.here hx rfl (hb hby at_271) rfl ?_
            show Steps p.tables e below (T42.setTop (mkF m 273 #[.val (.int p0), .val (.int p1), .val (.int p2), .val (.int p3), .val (.long q4), .second, .val (.ref b1), .val (.int v9_0), .val (.int v9_1), .val (.int v9_2), .val (.int v9_3), .val (.int v9_4), .val (.int v9_5), .val (.int v9_6), .val (.int v9_7), .val (.int (en34 + (1 : Int32))), .val (.int (en34 + (1 : Int32))), .val (.ref b41)] [(.int v9_0), (.ref b41)])) _
            refine st43 _ ?_
            show Steps p.tables e below (T43.setTop (mkF m 276 #[.val (.int p0), .val (.int p1), .val (.int p2), .val (.int p3), .val (.long q4), .second, .val (.ref b1), .val (.int v9_0), .val (.int v9_1), .val (.int v9_2), .val (.int v9_3), .val (.int v9_4), .val (.int v9_5), .val (.int v9_6), .val (.int v9_7), .val (.int (en34 + (1 : Int32))), .val (.int (en34 + (1 : Int32))), .val (.ref b41)] [(.int (en34 + (1 : Int32)))])) _
            refine XS.iload X43.here hx rfl (hb hby at_276) rfl ?_
            show Steps p.tables e below (T43.setTop (mkF m 278 #[.val (.int p0), .val (.int p1), .val (.int p2), .val (.int p3), .val (.long q4), .second, .val (.ref b1), .val (.int v9_0), .val (.int v9_1), .val (.int v9_2), .val (.int v9_3), .val (.int v9_4), .val (.int v9_5), .val (.int v9_6), .val (.int v9_7), .val (.int (en34 + (1 : Int32))), .val (.int (en34 + (1 : Int32))), .val (.ref b41)] [(.int (en34 + (1 : Int32))), (.int (en34 + (1 : Int32)))])) _
            refine XS.icmpNo X43.here hx rfl (hb hby at_278) rfl (teq (by first | exact rfl | decide : (en34 + (1 : Int32)) = (en34 + (1 : Int32)))).2 ?_
            show Steps p.tables e below (T43.setTop (mkF m 281 #[.val (.int p0), .val (.int p1), .val (.int p2), .val (.int p3), .val (.long q4), .second, .val (.ref b1), .val (.int v9_0), .val (.int v9_1), .val (.int v9_2), .val (.int v9_3), .val (.int v9_4), .val (.int v9_5), .val (.int v9_6), .val (.int v9_7), .val (.int (en34 + (1 : Int32))), .val (.int (en34 + (1 : Int32))), .val (.ref b41)] [])) _
            refine XS.iconst X43.here hx rfl (hb hby at_281) ?_
            show Steps p.tables e below (T43.setTop (mkF m 282 #[.val (.int p0), .val (.int p1), .val (.int p2), .val (.int p3), .val (.long q4), .second, .val (.ref b1), .val (.int v9_0), .val (.int v9_1), .val (.int v9_2), .val (.int v9_3), .val (.int v9_4), .val (.int v9_5), .val (.int v9_6), .val (.int v9_7), .val (.int (en34 + (1 : Int32))), .val (.int (en34 + (1 : Int32))), .val (.ref b41)] [(.int (1 : Int32))])) _
            refine XS.goto X43.here hx rfl (pc0 := 282) (pc' := 286) rfl (hb hby at_282) (by decide) (by decide) ?_
            exact k)
          obtain ⟨fs, hr, hrun, hended, hW, hsame⟩ := X43.leave (v := some (.int (1 : Int32))) (fun h => by rw [Bd.returns] at h; cases h)
          refine ⟨_, _, pre44 _ ?_, hrun, hended, _, _, rfl, ?_, ⟨_, rfl⟩, hW, hsame.mono (by decide) (by decide)⟩
          · exact retN X43 hx (t := .boolean) Bd.returns (by simp) (hb hby at_286) hr
          · show Q0 Z p0 p1 p2 p3 q4 wC wF h0 n0 _ T43.heap _
            rw [hh43]
            exact ⟨rfl, N43⟩
        · obtain ⟨c45, Ar45, hin45, -⟩ := own_read VV31 (own_n1p hls hst hk fr31).2.1
          obtain ⟨T46, h46, X46, e46, W46, st46⟩ := stC X31 hx hZ rfl Ar45 (j := en31) hin45 (g := (mkF m 231 #[.val (.int p0), .val (.int p1), .val (.int p2), .val (.int p3), .val (.long q4), .second, .val (.ref b1), .val (.int v9_0), .val (.int v9_1), .val (.int v9_2), .val (.int v9_3), .val (.int v9_4), .val (.int v9_5), .val (.int v9_6), .val (.int v9_7), .val (.int en31), .val (.int (123 : Int32)), .val (.int (125 : Int32))] [(.int (125 : Int32)), (.int en31), (.ref b1)])) rfl rfl (hb hby at_231)
          have V46 : own_A Z h46 b1 k1 .char (24 : Int32) (own_wr ls31 en31 (125 : Int32)) := own_writeC VV31 (own_n1p hls hst hk fr31).2.1 (by decide) W46
          have KK46 : Keep h0 h46 [] := KK31.wr W46 (Or.inr sz_b1)
          have N46 := Fr.snoc X46 N31 g_b1
          obtain ⟨c47, Ar47, hin47, -⟩ := own_read V46 (own_n1p hls hst hk fr31).2.2
          obtain ⟨T48, h48, X48, e48, W48, st48⟩ := stC X46 hx hZ e46 Ar47 (j := (en31 + (1 : Int32))) hin47 (g := (mkF m 257 #[.val (.int p0), .val (.int p1), .val (.int p2), .val (.int p3), .val (.long q4), .second, .val (.ref b1), .val (.int v9_0), .val (.int v9_1), .val (.int v9_2), .val (.int v9_3), .val (.int v9_4), .val (.int v9_5), .val (.int v9_6), .val (.int v9_7), .val (.int (en31 + (1 : Int32))), .val (.int (en31 + (1 : Int32))), .val (.int (125 : Int32))] [(.int (((((q4.toUInt64 >>> ((24 : Int32) &&& 0x3f).toInt64.toUInt64).toInt64) &&& (255 : Int64)).toInt32).toUInt32.toUInt16.toUInt32.toInt32)), (.int (en31 + (1 : Int32))), (.ref b1)])) rfl rfl (hb hby at_257)
          have V48 : own_A Z h48 b1 k1 .char (24 : Int32) (own_wr (own_wr ls31 en31 (125 : Int32)) (en31 + (1 : Int32)) (((((q4.toUInt64 >>> ((24 : Int32) &&& 0x3f).toInt64.toUInt64).toInt64) &&& (255 : Int64)).toInt32).toUInt32.toUInt16.toUInt32.toInt32)) := own_writeC V46 (own_n1p hls hst hk fr31).2.2 (own_lb _) W48
          have KK48 : Keep h0 h48 [] := KK46.wr W48 (Or.inr sz_b1)
          have N48 := Fr.snoc X48 N46 g_b1
          have pre49 : ∀ t, Steps p.tables e below (T48.setTop (mkF m 258 #[.val (.int p0), .val (.int p1), .val (.int p2), .val (.int p3), .val (.long q4), .second, .val (.ref b1), .val (.int v9_0), .val (.int v9_1), .val (.int v9_2), .val (.int v9_3), .val (.int v9_4), .val (.int v9_5), .val (.int v9_6), .val (.int v9_7), .val (.int (en31 + (1 : Int32))), .val (.int (en31 + (1 : Int32))), .val (.int (125 : Int32))] [])) t → Steps p.tables e below (s₁.setTop (entryFrame m #[(.int p0), (.int p1), (.int p2), (.int p3), (.long q4)] maxLocals)) t := fun t k => pre32 t (by
            show Steps p.tables e below (T31.setTop (mkF m 208 #[.val (.int p0), .val (.int p1), .val (.int p2), .val (.int p3), .val (.long q4), .second, .val (.ref b1), .val (.int v9_0), .val (.int v9_1), .val (.int v9_2), .val (.int v9_3), .val (.int v9_4), .val (.int v9_5), .val (.int v9_6), .val (.int v9_7), .val (.int en31), .val (.int (123 : Int32)), .val (.int (125 : Int32))] [(.int (1 : Int32)), (.int v9_3)])) _
            refine XS.icmpYes X31.here hx rfl (pc0 := 208) (pc' := 225) rfl (hb hby at_208) rfl (flt hc208_33).2.2.2 (by decide) (by decide) ?_
            show Steps p.tables e below (T31.setTop (mkF m 225 #[.val (.int p0), .val (.int p1), .val (.int p2), .val (.int p3), .val (.long q4), .second, .val (.ref b1), .val (.int v9_0), .val (.int v9_1), .val (.int v9_2), .val (.int v9_3), .val (.int v9_4), .val (.int v9_5), .val (.int v9_6), .val (.int v9_7), .val (.int en31), .val (.int (123 : Int32)), .val (.int (125 : Int32))] [])) _
            refine XS.aload X31.here hx rfl (hb hby at_225) rfl rfl ?_
            show Steps p.tables e below (T31.setTop (mkF m 227 #[.val (.int p0), .val (.int p1), .val (.int p2), .val (.int p3), .val (.long q4), .second, .val (.ref b1), .val (.int v9_0), .val (.int v9_1), .val (.int v9_2), .val (.int v9_3), .val (.int v9_4), .val (.int v9_5), .val (.int v9_6), .val (.int v9_7), .val (.int en31), .val (.int (123 : Int32)), .val (.int (125 : Int32))] [(.ref b1)])) _
            refine XS.iload X31.here hx rfl (hb hby at_227) rfl ?_
            show Steps p.tables e below (T31.setTop (mkF m 229 #[.val (.int p0), .val (.int p1), .val (.int p2), .val (.int p3), .val (.long q4), .second, .val (.ref b1), .val (.int v9_0), .val (.int v9_1), .val (.int v9_2), .val (.int v9_3), .val (.int v9_4), .val (.int v9_5), .val (.int v9_6), .val (.int v9_7), .val (.int en31), .val (.int (123 : Int32)), .val (.int (125 : Int32))] [(.int en31), (.ref b1)])) _
            refine XS.iload X31.here hx rfl (hb hby at_229) rfl ?_
            show Steps p.tables e below (T31.setTop (mkF m 231 #[.val (.int p0), .val (.int p1), .val (.int p2), .val (.int p3), .val (.long q4), .second, .val (.ref b1), .val (.int v9_0), .val (.int v9_1), .val (.int v9_2), .val (.int v9_3), .val (.int v9_4), .val (.int v9_5), .val (.int v9_6), .val (.int v9_7), .val (.int en31), .val (.int (123 : Int32)), .val (.int (125 : Int32))] [(.int (125 : Int32)), (.int en31), (.ref b1)])) _
            refine st46 _ ?_
            show Steps p.tables e below (T46.setTop (mkF m 232 #[.val (.int p0), .val (.int p1), .val (.int p2), .val (.int p3), .val (.long q4), .second, .val (.ref b1), .val (.int v9_0), .val (.int v9_1), .val (.int v9_2), .val (.int v9_3), .val (.int v9_4), .val (.int v9_5), .val (.int v9_6), .val (.int v9_7), .val (.int en31), .val (.int (123 : Int32)), .val (.int (125 : Int32))] [])) _
            refine XS.iload X46.here hx rfl (hb hby at_232) rfl ?_
            show Steps p.tables e below (T46.setTop (mkF m 234 #[.val (.int p0), .val (.int p1), .val (.int p2), .val (.int p3), .val (.long q4), .second, .val (.ref b1), .val (.int v9_0), .val (.int v9_1), .val (.int v9_2), .val (.int v9_3), .val (.int v9_4), .val (.int v9_5), .val (.int v9_6), .val (.int v9_7), .val (.int en31), .val (.int (123 : Int32)), .val (.int (125 : Int32))] [(.int en31)])) _
            refine XS.iconst X46.here hx rfl (hb hby at_234) ?_
            show Steps p.tables e below (T46.setTop (mkF m 235 #[.val (.int p0), .val (.int p1), .val (.int p2), .val (.int p3), .val (.long q4), .second, .val (.ref b1), .val (.int v9_0), .val (.int v9_1), .val (.int v9_2), .val (.int v9_3), .val (.int v9_4), .val (.int v9_5), .val (.int v9_6), .val (.int v9_7), .val (.int en31), .val (.int (123 : Int32)), .val (.int (125 : Int32))] [(.int (1 : Int32)), (.int en31)])) _
            refine XS.iadd X46.here hx rfl (hb hby at_235) rfl ?_
            show Steps p.tables e below (T46.setTop (mkF m 236 #[.val (.int p0), .val (.int p1), .val (.int p2), .val (.int p3), .val (.long q4), .second, .val (.ref b1), .val (.int v9_0), .val (.int v9_1), .val (.int v9_2), .val (.int v9_3), .val (.int v9_4), .val (.int v9_5), .val (.int v9_6), .val (.int v9_7), .val (.int en31), .val (.int (123 : Int32)), .val (.int (125 : Int32))] [(.int (en31 + (1 : Int32)))])) _
            refine XS.istore X46.here hx rfl (hb hby at_236) rfl (l' := #[.val (.int p0), .val (.int p1), .val (.int p2), .val (.int p3), .val (.long q4), .second, .val (.ref b1), .val (.int v9_0), .val (.int v9_1), .val (.int v9_2), .val (.int v9_3), .val (.int v9_4), .val (.int v9_5), .val (.int v9_6), .val (.int v9_7), .val (.int (en31 + (1 : Int32))), .val (.int (123 : Int32)), .val (.int (125 : Int32))]) rfl ?_
            show Steps p.tables e below (T46.setTop (mkF m 238 #[.val (.int p0), .val (.int p1), .val (.int p2), .val (.int p3), .val (.long q4), .second, .val (.ref b1), .val (.int v9_0), .val (.int v9_1), .val (.int v9_2), .val (.int v9_3), .val (.int v9_4), .val (.int v9_5), .val (.int v9_6), .val (.int v9_7), .val (.int (en31 + (1 : Int32))), .val (.int (123 : Int32)), .val (.int (125 : Int32))] [])) _
            refine XS.iload X46.here hx rfl (hb hby at_238) rfl ?_
            show Steps p.tables e below (T46.setTop (mkF m 240 #[.val (.int p0), .val (.int p1), .val (.int p2), .val (.int p3), .val (.long q4), .second, .val (.ref b1), .val (.int v9_0), .val (.int v9_1), .val (.int v9_2), .val (.int v9_3), .val (.int v9_4), .val (.int v9_5), .val (.int v9_6), .val (.int v9_7), .val (.int (en31 + (1 : Int32))), .val (.int (123 : Int32)), .val (.int (125 : Int32))] [(.int (en31 + (1 : Int32)))])) _
            refine XS.istore X46.here hx rfl (hb hby at_240) rfl (l' := #[.val (.int p0), .val (.int p1), .val (.int p2), .val (.int p3), .val (.long q4), .second, .val (.ref b1), .val (.int v9_0), .val (.int v9_1), .val (.int v9_2), .val (.int v9_3), .val (.int v9_4), .val (.int v9_5), .val (.int v9_6), .val (.int v9_7), .val (.int (en31 + (1 : Int32))), .val (.int (en31 + (1 : Int32))), .val (.int (125 : Int32))]) rfl ?_
            show Steps p.tables e below (T46.setTop (mkF m 242 #[.val (.int p0), .val (.int p1), .val (.int p2), .val (.int p3), .val (.long q4), .second, .val (.ref b1), .val (.int v9_0), .val (.int v9_1), .val (.int v9_2), .val (.int v9_3), .val (.int v9_4), .val (.int v9_5), .val (.int v9_6), .val (.int v9_7), .val (.int (en31 + (1 : Int32))), .val (.int (en31 + (1 : Int32))), .val (.int (125 : Int32))] [])) _
            refine XS.aload X46.here hx rfl (hb hby at_242) rfl rfl ?_
            show Steps p.tables e below (T46.setTop (mkF m 244 #[.val (.int p0), .val (.int p1), .val (.int p2), .val (.int p3), .val (.long q4), .second, .val (.ref b1), .val (.int v9_0), .val (.int v9_1), .val (.int v9_2), .val (.int v9_3), .val (.int v9_4), .val (.int v9_5), .val (.int v9_6), .val (.int v9_7), .val (.int (en31 + (1 : Int32))), .val (.int (en31 + (1 : Int32))), .val (.int (125 : Int32))] [(.ref b1)])) _
            refine XS.iload X46.here hx rfl (hb hby at_244) rfl ?_
            show Steps p.tables e below (T46.setTop (mkF m 246 #[.val (.int p0), .val (.int p1), .val (.int p2), .val (.int p3), .val (.long q4), .second, .val (.ref b1), .val (.int v9_0), .val (.int v9_1), .val (.int v9_2), .val (.int v9_3), .val (.int v9_4), .val (.int v9_5), .val (.int v9_6), .val (.int v9_7), .val (.int (en31 + (1 : Int32))), .val (.int (en31 + (1 : Int32))), .val (.int (125 : Int32))] [(.int (en31 + (1 : Int32))), (.ref b1)])) _
            refine XS.lload X46.here hx rfl (hb hby at_246) rfl ?_
            show Steps p.tables e below (T46.setTop (mkF m 248 #[.val (.int p0), .val (.int p1), .val (.int p2), .val (.int p3), .val (.long q4), .second, .val (.ref b1), .val (.int v9_0), .val (.int v9_1), .val (.int v9_2), .val (.int v9_3), .val (.int v9_4), .val (.int v9_5), .val (.int v9_6), .val (.int v9_7), .val (.int (en31 + (1 : Int32))), .val (.int (en31 + (1 : Int32))), .val (.int (125 : Int32))] [(.long q4), (.int (en31 + (1 : Int32))), (.ref b1)])) _
            refine XS.bipush X46.here hx rfl (hb hby at_248) ?_
            show Steps p.tables e below (T46.setTop (mkF m 250 #[.val (.int p0), .val (.int p1), .val (.int p2), .val (.int p3), .val (.long q4), .second, .val (.ref b1), .val (.int v9_0), .val (.int v9_1), .val (.int v9_2), .val (.int v9_3), .val (.int v9_4), .val (.int v9_5), .val (.int v9_6), .val (.int v9_7), .val (.int (en31 + (1 : Int32))), .val (.int (en31 + (1 : Int32))), .val (.int (125 : Int32))] [(.int (24 : Int32)), (.long q4), (.int (en31 + (1 : Int32))), (.ref b1)])) _
            refine XS.lushr X46.here hx rfl (hb hby at_250) rfl ?_
            show Steps p.tables e below (T46.setTop (mkF m 251 #[.val (.int p0), .val (.int p1), .val (.int p2), .val (.int p3), .val (.long q4), .second, .val (.ref b1), .val (.int v9_0), .val (.int v9_1), .val (.int v9_2), .val (.int v9_3), .val (.int v9_4), .val (.int v9_5), .val (.int v9_6), .val (.int v9_7), .val (.int (en31 + (1 : Int32))), .val (.int (en31 + (1 : Int32))), .val (.int (125 : Int32))] [(.long ((q4.toUInt64 >>> ((24 : Int32) &&& 0x3f).toInt64.toUInt64).toInt64)), (.int (en31 + (1 : Int32))), (.ref b1)])) _
            refine X46.ldc2Long hx hown (mvT hZ (hw _ (List.mem_of_getElem? (i := 1) rfl))) (g := (mkF m 251 #[.val (.int p0), .val (.int p1), .val (.int p2), .val (.int p3), .val (.long q4), .second, .val (.ref b1), .val (.int v9_0), .val (.int v9_1), .val (.int v9_2), .val (.int v9_3), .val (.int v9_4), .val (.int v9_5), .val (.int v9_6), .val (.int v9_7), .val (.int (en31 + (1 : Int32))), .val (.int (en31 + (1 : Int32))), .val (.int (125 : Int32))] [(.long ((q4.toUInt64 >>> ((24 : Int32) &&& 0x3f).toInt64.toUInt64).toInt64)), (.int (en31 + (1 : Int32))), (.ref b1)])) rfl (hb hby at_251) _ ?_
            show Steps p.tables e below (T46.setTop (mkF m 254 #[.val (.int p0), .val (.int p1), .val (.int p2), .val (.int p3), .val (.long q4), .second, .val (.ref b1), .val (.int v9_0), .val (.int v9_1), .val (.int v9_2), .val (.int v9_3), .val (.int v9_4), .val (.int v9_5), .val (.int v9_6), .val (.int v9_7), .val (.int (en31 + (1 : Int32))), .val (.int (en31 + (1 : Int32))), .val (.int (125 : Int32))] [(.long (255 : Int64)), (.long ((q4.toUInt64 >>> ((24 : Int32) &&& 0x3f).toInt64.toUInt64).toInt64)), (.int (en31 + (1 : Int32))), (.ref b1)])) _
            refine XS.land X46.here hx rfl (hb hby at_254) rfl ?_
            show Steps p.tables e below (T46.setTop (mkF m 255 #[.val (.int p0), .val (.int p1), .val (.int p2), .val (.int p3), .val (.long q4), .second, .val (.ref b1), .val (.int v9_0), .val (.int v9_1), .val (.int v9_2), .val (.int v9_3), .val (.int v9_4), .val (.int v9_5), .val (.int v9_6), .val (.int v9_7), .val (.int (en31 + (1 : Int32))), .val (.int (en31 + (1 : Int32))), .val (.int (125 : Int32))] [(.long (((q4.toUInt64 >>> ((24 : Int32) &&& 0x3f).toInt64.toUInt64).toInt64) &&& (255 : Int64))), (.int (en31 + (1 : Int32))), (.ref b1)])) _
            refine XS.l2i X46.here hx rfl (hb hby at_255) rfl ?_
            show Steps p.tables e below (T46.setTop (mkF m 256 #[.val (.int p0), .val (.int p1), .val (.int p2), .val (.int p3), .val (.long q4), .second, .val (.ref b1), .val (.int v9_0), .val (.int v9_1), .val (.int v9_2), .val (.int v9_3), .val (.int v9_4), .val (.int v9_5), .val (.int v9_6), .val (.int v9_7), .val (.int (en31 + (1 : Int32))), .val (.int (en31 + (1 : Int32))), .val (.int (125 : Int32))] [(.int ((((q4.toUInt64 >>> ((24 : Int32) &&& 0x3f).toInt64.toUInt64).toInt64) &&& (255 : Int64)).toInt32)), (.int (en31 + (1 : Int32))), (.ref b1)])) _
            refine XS.i2c X46.here hx rfl (hb hby at_256) rfl ?_
            show Steps p.tables e below (T46.setTop (mkF m 257 #[.val (.int p0), .val (.int p1), .val (.int p2), .val (.int p3), .val (.long q4), .second, .val (.ref b1), .val (.int v9_0), .val (.int v9_1), .val (.int v9_2), .val (.int v9_3), .val (.int v9_4), .val (.int v9_5), .val (.int v9_6), .val (.int v9_7), .val (.int (en31 + (1 : Int32))), .val (.int (en31 + (1 : Int32))), .val (.int (125 : Int32))] [(.int (((((q4.toUInt64 >>> ((24 : Int32) &&& 0x3f).toInt64.toUInt64).toInt64) &&& (255 : Int64)).toInt32).toUInt32.toUInt16.toUInt32.toInt32)), (.int (en31 + (1 : Int32))), (.ref b1)])) _
            refine st48 _ ?_
            exact k)
          have hT50 : own_by (own_wr (own_wr ls31 en31 (125 : Int32)) (en31 + (1 : Int32)) (((((q4.toUInt64 >>> ((24 : Int32) &&& 0x3f).toInt64.toUInt64).toInt64) &&& (255 : Int64)).toInt32).toUInt32.toUInt16.toUInt32.toInt32)) ∧ own_ty (own_wr (own_wr ls31 en31 (125 : Int32)) (en31 + (1 : Int32)) (((((q4.toUInt64 >>> ((24 : Int32) &&& 0x3f).toInt64.toUInt64).toInt64) &&& (255 : Int64)).toInt32).toUInt32.toUInt16.toUInt32.toInt32)) 9 v9_0 (en31 + (1 : Int32)) := own_n1 hls hst hk (Or.inr ⟨rfl, rfl⟩) (own_lb _) fr31
          obtain ⟨T51, h51, X51, e51, E51, A51, D51, -, st51⟩ := newO X48 hx hZ hown (hw _ (List.mem_of_getElem? (i := 9) rfl)) (hw _ (List.mem_of_getElem? (i := 10) rfl)) (hw _ (List.mem_of_getElem? (i := 11) rfl)) e48 (g := (mkF m 258 #[.val (.int p0), .val (.int p1), .val (.int p2), .val (.int p3), .val (.long q4), .second, .val (.ref b1), .val (.int v9_0), .val (.int v9_1), .val (.int v9_2), .val (.int v9_3), .val (.int v9_4), .val (.int v9_5), .val (.int v9_6), .val (.int v9_7), .val (.int (en31 + (1 : Int32))), .val (.int (en31 + (1 : Int32))), .val (.int (125 : Int32))] [])) rfl (hb hby at_258) (by decide) (by decide)
          obtain ⟨b51, g51⟩ : ∃ z, z = h48.size := ⟨_, rfl⟩
          rw [← g51] at A51 D51 st51
          have F_coder_b51 : Fld Z h51 b51 "java/lang/String" "coder" "B" (.int (0 : Int32)) := D51 (Or.inr (hw _ (List.mem_of_getElem? (i := 35) rfl))) (ty := .byte) (by decide)
          have F_value_b51 : Fld Z h51 b51 "java/lang/String" "value" "[B" .null := D51 (Or.inr (hw _ (List.mem_of_getElem? (i := 37) rfl))) (ty := (.array .byte)) (by decide)
          have g_b51 : n0 ≤ b51 := Nat.le_trans (Nat.le_trans (Nat.le_trans (Nat.le_trans (Nat.le_trans (Nat.le_trans (Nat.le_trans (Nat.le_trans (Nat.le_trans (Nat.le_trans Z0 E1.1) (Keep.of_wr W3).1) (Keep.of_wr W5).1) (Keep.of_wr W7).1) K11.1) (Keep.of_wr W28).1) K31.1) (Keep.of_wr W46).1) (Keep.of_wr W48).1) (Nat.le_of_eq g51.symm)
          have sz_b51 : h0.size ≤ b51 := Nat.le_trans KK48.1 (Nat.le_of_eq g51.symm)
          have KK51 : Keep h0 h51 [] := KK48.ext E51
          obtain ⟨_, _, ⟨T52, L52, k52, n52⟩, -, X52, ⟨Lc52, hQ52, l52, y52, z52⟩, st52⟩ := X51.specialBack hx (y := (⟨"java/lang/String", "<init>", "([C)V"⟩ : MethodName)) rfl hown (mvT hZ (hw _ (List.mem_of_getElem? (i := 12) rfl))) (mvT hZ (hw _ (List.mem_of_getElem? (i := 13) rfl))) (mvT hZ (hw _ (List.mem_of_getElem? (i := 14) rfl))) (by decide) (StrChars.Road.backV (W := 1) hZ (fun d hd => hw d ((by decide +kernel : ∀ d ∈ StrChars.Road.words, d ∈ tables_1) d hd)) (hw _ (List.mem_of_getElem? (i := 10) rfl)) (cs := (own_wr (own_wr ls31 en31 (125 : Int32)) (en31 + (1 : Int32)) (((((q4.toUInt64 >>> ((24 : Int32) &&& 0x3f).toInt64.toUInt64).toInt64) &&& (255 : Int64)).toInt32).toUInt32.toUInt16.toUInt32.toInt32))) (bs := (own_wr (own_wr ls31 en31 (125 : Int32)) (en31 + (1 : Int32)) (((((q4.toUInt64 >>> ((24 : Int32) &&& 0x3f).toInt64.toUInt64).toInt64) &&& (255 : Int64)).toInt32).toUInt32.toUInt16.toUInt32.toInt32)).map (fun c => c.toInt8.toInt32)) (n := 24) g_b51 (Nat.le_trans (Nat.le_trans (Nat.le_trans (Nat.le_trans (Nat.le_trans (Nat.le_trans (Nat.le_trans (Nat.le_trans (Nat.le_trans (Nat.le_trans Z0 E1.1) (Keep.of_wr W3).1) (Keep.of_wr W5).1) (Keep.of_wr W7).1) K11.1) (Keep.of_wr W28).1) K31.1) (Keep.of_wr W46).1) (Keep.of_wr W48).1) E51.1) A51 F_value_b51 F_coder_b51 (V48.ext E51).2 (Sta.ext ((((((((((O0.ext E1).wr W3 g_b1).wr W5 g_b1).wr W7 g_b1).keep K11 (allS g_b1 all0)).wr W28 g_b1).keep K31 (allS g_b1 all0)).wr W46 g_b1).wr W48 g_b1).ext E51).2 S_C) hC hT50.1.1 rfl (by decide) (by decide) hT50.1.2 rfl (by decide) (by decide)) (g := (mkF m 264 #[.val (.int p0), .val (.int p1), .val (.int p2), .val (.int p3), .val (.long q4), .second, .val (.ref b1), .val (.int v9_0), .val (.int v9_1), .val (.int v9_2), .val (.int v9_3), .val (.int v9_4), .val (.int v9_5), .val (.int v9_6), .val (.int v9_7), .val (.int (en31 + (1 : Int32))), .val (.int (en31 + (1 : Int32))), .val (.int (125 : Int32))] [(.ref b1), (.ref b51), (.ref b51)])) rfl (by rw [hml]; rfl) (Steps.refl _) (a := b51) (argsL := [(.ref b1)]) (rest := [(.ref b51)]) (lenOf pd_7 rfl) rfl (by show 2 * 0 + _ ≤ _; exact Nat.le_of_eq rfl) (hb hby at_264) (fun _ _ => ⟨rfl, e51, (by decide : 2 + 1 ≤ _), (by decide : 28 + 24 ≤ _)⟩)
          dsimp only [Pt.U, Pt.locs, Pt.cells, Pt.slots] at X52 l52 y52 z52 st52 hQ52
          subst l52 y52 z52
          obtain ⟨rfl, N52q, K52, EX52, FC52, t52, kb52, g_t52, szt52, -, FV52, AV52⟩ := hQ52
          have N52 := Fr.app N48 N52q
          have V_t52 : own_A Z T52.heap t52 kb52 .byte (24 : Int32) ((own_wr (own_wr ls31 en31 (125 : Int32)) (en31 + (1 : Int32)) (((((q4.toUInt64 >>> ((24 : Int32) &&& 0x3f).toInt64.toUInt64).toInt64) &&& (255 : Int64)).toInt32).toUInt32.toUInt16.toUInt32.toInt32)).map (fun c => c.toInt8.toInt32)) := ⟨List.length_map _ |>.trans hT50.1.1, AV52⟩
          obtain ⟨_, _, ⟨T53, L53, k53, n53⟩, -, X53, ⟨Lc53, hQ53, l53, y53, z53⟩, st53⟩ := Jvm.LawKit.callS X52 hx (y := (⟨"com/example/sensor_access_indicators/sensoraccessindicators/dbus/Marshalling", "typeEnd", "(Ljava/lang/String;I)I"⟩ : MethodName)) hown (mvT hZ (hw _ (List.mem_of_getElem? (i := 38) rfl))) (mvT hZ (hw _ (List.mem_of_getElem? (i := 39) rfl))) (mvT hZ (hw _ (List.mem_of_getElem? (i := 40) rfl))) (mvT hZ (hw _ (List.mem_of_getElem? (i := 41) rfl))) (by decide) (backOf (W := 0) (rm9 l Z a0 hw b51 wC wF t52 kb52 (own_wr (own_wr ls31 en31 (125 : Int32)) (en31 + (1 : Int32)) (((((q4.toUInt64 >>> ((24 : Int32) &&& 0x3f).toInt64.toUInt64).toInt64) &&& (255 : Int64)).toInt32).toUInt32.toUInt16.toUInt32.toInt32)) T52.heap n0 (Nat.le_trans (Nat.le_trans (Nat.le_trans (Nat.le_trans (Nat.le_trans (Nat.le_trans (Nat.le_trans (Nat.le_trans (Nat.le_trans (Nat.le_trans (Nat.le_trans Z0 E1.1) (Keep.of_wr W3).1) (Keep.of_wr W5).1) (Keep.of_wr W7).1) K11.1) (Keep.of_wr W28).1) K31.1) (Keep.of_wr W46).1) (Keep.of_wr W48).1) E51.1) K52.1) FC52 FV52 EX52 (Sta.ext (((((((((((O0.ext E1).wr W3 g_b1).wr W5 g_b1).wr W7 g_b1).keep K11 (allS g_b1 all0)).wr W28 g_b1).keep K31 (allS g_b1 all0)).wr W46 g_b1).wr W48 g_b1).ext E51).keep K52 (allS g_b51 all0)).2 S_C) hC (Sta.ext (((((((((((O0.ext E1).wr W3 g_b1).wr W5 g_b1).wr W7 g_b1).keep K11 (allS g_b1 all0)).wr W28 g_b1).keep K31 (allS g_b1 all0)).wr W46 g_b1).wr W48 g_b1).ext E51).keep K52 (allS g_b51 all0)).2 S_F) hF V_t52 hT50.1 9 v9_0 (en31 + (1 : Int32)) hT50.2) hZ (hw _ (List.mem_of_getElem? (i := 41) rfl)) (hw _ (List.mem_of_getElem? (i := 40) rfl)) (by decide) (by decide)) (g := (mkF m 273 #[.val (.int p0), .val (.int p1), .val (.int p2), .val (.int p3), .val (.long q4), .second, .val (.ref b1), .val (.int v9_0), .val (.int v9_1), .val (.int v9_2), .val (.int v9_3), .val (.int v9_4), .val (.int v9_5), .val (.int v9_6), .val (.int v9_7), .val (.int (en31 + (1 : Int32))), .val (.int (en31 + (1 : Int32))), .val (.ref b51)] [(.int v9_0), (.ref b51)])) rfl (by rw [hml]; rfl) (argsL := [(.ref b51), (.int v9_0)]) (rest := []) (lenOf pd_6 rfl) rfl (by show 2 * 0 + _ ≤ _; exact Nat.le_of_eq rfl) (hb hby at_273) (fun _ _ => ⟨rfl, rfl, (by decide : 3 + 0 ≤ _), (by decide : 52 + 0 ≤ _)⟩)
          dsimp only [Pt.U, Pt.locs, Pt.cells, Pt.slots] at X53 l53 y53 z53 st53 hQ53
          subst l53 y53 z53
          obtain ⟨rfl, N53q, hh53⟩ := hQ53
          have N53 := Fr.app N52 N53q
          have pre54 : ∀ t, Steps p.tables e below (T53.setTop (mkF m 286 #[.val (.int p0), .val (.int p1), .val (.int p2), .val (.int p3), .val (.long q4), .second, .val (.ref b1), .val (.int v9_0), .val (.int v9_1), .val (.int v9_2), .val (.int v9_3), .val (.int v9_4), .val (.int v9_5), .val (.int v9_6), .val (.int v9_7), .val (.int (en31 + (1 : Int32))), .val (.int (en31 + (1 : Int32))), .val (.ref b51)] [(.int (1 : Int32))])) t → Steps p.tables e below (s₁.setTop (entryFrame m #[(.int p0), (.int p1), (.int p2), (.int p3), (.long q4)] maxLocals)) t := fun t k => pre49 t (by
            show Steps p.tables e below (T48.setTop (mkF m 258 #[.val (.int p0), .val (.int p1), .val (.int p2), .val (.int p3), .val (.long q4), .second, .val (.ref b1), .val (.int v9_0), .val (.int v9_1), .val (.int v9_2), .val (.int v9_3), .val (.int v9_4), .val (.int v9_5), .val (.int v9_6), .val (.int v9_7), .val (.int (en31 + (1 : Int32))), .val (.int (en31 + (1 : Int32))), .val (.int (125 : Int32))] [])) _
            refine st51 _ ?_
            show Steps p.tables e below (T51.setTop (mkF m 261 #[.val (.int p0), .val (.int p1), .val (.int p2), .val (.int p3), .val (.long q4), .second, .val (.ref b1), .val (.int v9_0), .val (.int v9_1), .val (.int v9_2), .val (.int v9_3), .val (.int v9_4), .val (.int v9_5), .val (.int v9_6), .val (.int v9_7), .val (.int (en31 + (1 : Int32))), .val (.int (en31 + (1 : Int32))), .val (.int (125 : Int32))] [(.ref b51)])) _
            refine XS.dup X51.here hx rfl (hb hby at_261) rfl rfl ?_
            show Steps p.tables e below (T51.setTop (mkF m 262 #[.val (.int p0), .val (.int p1), .val (.int p2), .val (.int p3), .val (.long q4), .second, .val (.ref b1), .val (.int v9_0), .val (.int v9_1), .val (.int v9_2), .val (.int v9_3), .val (.int v9_4), .val (.int v9_5), .val (.int v9_6), .val (.int v9_7), .val (.int (en31 + (1 : Int32))), .val (.int (en31 + (1 : Int32))), .val (.int (125 : Int32))] [(.ref b51), (.ref b51)])) _
            refine XS.aload X51.here hx rfl (hb hby at_262) rfl rfl ?_
            show Steps p.tables e below (T51.setTop (mkF m 264 #[.val (.int p0), .val (.int p1), .val (.int p2), .val (.int p3), .val (.long q4), .second, .val (.ref b1), .val (.int v9_0), .val (.int v9_1), .val (.int v9_2), .val (.int v9_3), .val (.int v9_4), .val (.int v9_5), .val (.int v9_6), .val (.int v9_7), .val (.int (en31 + (1 : Int32))), .val (.int (en31 + (1 : Int32))), .val (.int (125 : Int32))] [(.ref b1), (.ref b51), (.ref b51)])) _
            refine st52.trans ?_
            show Steps p.tables e below (T52.setTop (mkF m 267 #[.val (.int p0), .val (.int p1), .val (.int p2), .val (.int p3), .val (.long q4), .second, .val (.ref b1), .val (.int v9_0), .val (.int v9_1), .val (.int v9_2), .val (.int v9_3), .val (.int v9_4), .val (.int v9_5), .val (.int v9_6), .val (.int v9_7), .val (.int (en31 + (1 : Int32))), .val (.int (en31 + (1 : Int32))), .val (.int (125 : Int32))] [(.ref b51)])) _
            refine XS.astore X52.here hx rfl (hb hby at_267) rfl rfl (l' := #[.val (.int p0), .val (.int p1), .val (.int p2), .val (.int p3), .val (.long q4), .second, .val (.ref b1), .val (.int v9_0), .val (.int v9_1), .val (.int v9_2), .val (.int v9_3), .val (.int v9_4), .val (.int v9_5), .val (.int v9_6), .val (.int v9_7), .val (.int (en31 + (1 : Int32))), .val (.int (en31 + (1 : Int32))), .val (.ref b51)]) rfl ?_
            show Steps p.tables e below (T52.setTop (mkF m 269 #[.val (.int p0), .val (.int p1), .val (.int p2), .val (.int p3), .val (.long q4), .second, .val (.ref b1), .val (.int v9_0), .val (.int v9_1), .val (.int v9_2), .val (.int v9_3), .val (.int v9_4), .val (.int v9_5), .val (.int v9_6), .val (.int v9_7), .val (.int (en31 + (1 : Int32))), .val (.int (en31 + (1 : Int32))), .val (.ref b51)] [])) _
            refine XS.aload X52.here hx rfl (hb hby at_269) rfl rfl ?_
            show Steps p.tables e below (T52.setTop (mkF m 271 #[.val (.int p0), .val (.int p1), .val (.int p2), .val (.int p3), .val (.long q4), .second, .val (.ref b1), .val (.int v9_0), .val (.int v9_1), .val (.int v9_2), .val (.int v9_3), .val (.int v9_4), .val (.int v9_5), .val (.int v9_6), .val (.int v9_7), .val (.int (en31 + (1 : Int32))), .val (.int (en31 + (1 : Int32))), .val (.ref b51)] [(.ref b51)])) _
            refine XS.iload X52.here hx rfl (hb hby at_271) rfl ?_
            show Steps p.tables e below (T52.setTop (mkF m 273 #[.val (.int p0), .val (.int p1), .val (.int p2), .val (.int p3), .val (.long q4), .second, .val (.ref b1), .val (.int v9_0), .val (.int v9_1), .val (.int v9_2), .val (.int v9_3), .val (.int v9_4), .val (.int v9_5), .val (.int v9_6), .val (.int v9_7), .val (.int (en31 + (1 : Int32))), .val (.int (en31 + (1 : Int32))), .val (.ref b51)] [(.int v9_0), (.ref b51)])) _
            refine st53 _ ?_
            show Steps p.tables e below (T53.setTop (mkF m 276 #[.val (.int p0), .val (.int p1), .val (.int p2), .val (.int p3), .val (.long q4), .second, .val (.ref b1), .val (.int v9_0), .val (.int v9_1), .val (.int v9_2), .val (.int v9_3), .val (.int v9_4), .val (.int v9_5), .val (.int v9_6), .val (.int v9_7), .val (.int (en31 + (1 : Int32))), .val (.int (en31 + (1 : Int32))), .val (.ref b51)] [(.int (en31 + (1 : Int32)))])) _
            refine XS.iload X53.here hx rfl (hb hby at_276) rfl ?_
            show Steps p.tables e below (T53.setTop (mkF m 278 #[.val (.int p0), .val (.int p1), .val (.int p2), .val (.int p3), .val (.long q4), .second, .val (.ref b1), .val (.int v9_0), .val (.int v9_1), .val (.int v9_2), .val (.int v9_3), .val (.int v9_4), .val (.int v9_5), .val (.int v9_6), .val (.int v9_7), .val (.int (en31 + (1 : Int32))), .val (.int (en31 + (1 : Int32))), .val (.ref b51)] [(.int (en31 + (1 : Int32))), (.int (en31 + (1 : Int32)))])) _
            refine XS.icmpNo X53.here hx rfl (hb hby at_278) rfl (teq (by first | exact rfl | decide : (en31 + (1 : Int32)) = (en31 + (1 : Int32)))).2 ?_
            show Steps p.tables e below (T53.setTop (mkF m 281 #[.val (.int p0), .val (.int p1), .val (.int p2), .val (.int p3), .val (.long q4), .second, .val (.ref b1), .val (.int v9_0), .val (.int v9_1), .val (.int v9_2), .val (.int v9_3), .val (.int v9_4), .val (.int v9_5), .val (.int v9_6), .val (.int v9_7), .val (.int (en31 + (1 : Int32))), .val (.int (en31 + (1 : Int32))), .val (.ref b51)] [])) _
            refine XS.iconst X53.here hx rfl (hb hby at_281) ?_
            show Steps p.tables e below (T53.setTop (mkF m 282 #[.val (.int p0), .val (.int p1), .val (.int p2), .val (.int p3), .val (.long q4), .second, .val (.ref b1), .val (.int v9_0), .val (.int v9_1), .val (.int v9_2), .val (.int v9_3), .val (.int v9_4), .val (.int v9_5), .val (.int v9_6), .val (.int v9_7), .val (.int (en31 + (1 : Int32))), .val (.int (en31 + (1 : Int32))), .val (.ref b51)] [(.int (1 : Int32))])) _
            refine XS.goto X53.here hx rfl (pc0 := 282) (pc' := 286) rfl (hb hby at_282) (by decide) (by decide) ?_
            exact k)
          obtain ⟨fs, hr, hrun, hended, hW, hsame⟩ := X53.leave (v := some (.int (1 : Int32))) (fun h => by rw [Bd.returns] at h; cases h)
          refine ⟨_, _, pre54 _ ?_, hrun, hended, _, _, rfl, ?_, ⟨_, rfl⟩, hW, hsame.mono (by decide) (by decide)⟩
          · exact retN X53 hx (t := .boolean) Bd.returns (by simp) (hb hby at_286) hr
          · show Q0 Z p0 p1 p2 p3 q4 wC wF h0 n0 _ T53.heap _
            rw [hh53]
            exact ⟨rfl, N53⟩
      · obtain ⟨c55, Ar55, hin55, -⟩ := own_read V28 (own_pos hls hst hk).2.2.2.1
        obtain ⟨T56, h56, X56, e56, W56, st56⟩ := stC X28 hx hZ e28 Ar55 (j := ((own_aE v9_0 v9_1) + (1 : Int32))) hin55 (g := (mkF m 231 #[.val (.int p0), .val (.int p1), .val (.int p2), .val (.int p3), .val (.long q4), .second, .val (.ref b1), .val (.int v9_0), .val (.int v9_1), .val (.int v9_2), .val (.int v9_3), .val (.int v9_4), .val (.int v9_5), .val (.int v9_6), .val (.int v9_7), .val (.int ((own_aE v9_0 v9_1) + (1 : Int32))), .val (.int (123 : Int32)), .val (.int (125 : Int32))] [(.int (125 : Int32)), (.int ((own_aE v9_0 v9_1) + (1 : Int32))), (.ref b1)])) rfl rfl (hb hby at_231)
        have V56 : own_A Z h56 b1 k1 .char (24 : Int32) (own_wr (own_wr (own_aL ls v9_0 v9_1) (own_aE v9_0 v9_1) (123 : Int32)) ((own_aE v9_0 v9_1) + (1 : Int32)) (125 : Int32)) := own_writeC V28 (own_pos hls hst hk).2.2.2.1 (by decide) W56
        have KK56 : Keep h0 h56 [] := KK28.wr W56 (Or.inr sz_b1)
        have N56 := Fr.snoc X56 N28 g_b1
        obtain ⟨c57, Ar57, hin57, -⟩ := own_read V56 (own_pos2 hls hst hk).1
        obtain ⟨T58, h58, X58, e58, W58, st58⟩ := stC X56 hx hZ e56 Ar57 (j := (((own_aE v9_0 v9_1) + (1 : Int32)) + (1 : Int32))) hin57 (g := (mkF m 257 #[.val (.int p0), .val (.int p1), .val (.int p2), .val (.int p3), .val (.long q4), .second, .val (.ref b1), .val (.int v9_0), .val (.int v9_1), .val (.int v9_2), .val (.int v9_3), .val (.int v9_4), .val (.int v9_5), .val (.int v9_6), .val (.int v9_7), .val (.int (((own_aE v9_0 v9_1) + (1 : Int32)) + (1 : Int32))), .val (.int (((own_aE v9_0 v9_1) + (1 : Int32)) + (1 : Int32))), .val (.int (125 : Int32))] [(.int (((((q4.toUInt64 >>> ((24 : Int32) &&& 0x3f).toInt64.toUInt64).toInt64) &&& (255 : Int64)).toInt32).toUInt32.toUInt16.toUInt32.toInt32)), (.int (((own_aE v9_0 v9_1) + (1 : Int32)) + (1 : Int32))), (.ref b1)])) rfl rfl (hb hby at_257)
        have V58 : own_A Z h58 b1 k1 .char (24 : Int32) (own_wr (own_wr (own_wr (own_aL ls v9_0 v9_1) (own_aE v9_0 v9_1) (123 : Int32)) ((own_aE v9_0 v9_1) + (1 : Int32)) (125 : Int32)) (((own_aE v9_0 v9_1) + (1 : Int32)) + (1 : Int32)) (((((q4.toUInt64 >>> ((24 : Int32) &&& 0x3f).toInt64.toUInt64).toInt64) &&& (255 : Int64)).toInt32).toUInt32.toUInt16.toUInt32.toInt32)) := own_writeC V56 (own_pos2 hls hst hk).1 (own_lb _) W58
        have KK58 : Keep h0 h58 [] := KK56.wr W58 (Or.inr sz_b1)
        have N58 := Fr.snoc X58 N56 g_b1
        have pre59 : ∀ t, Steps p.tables e below (T58.setTop (mkF m 258 #[.val (.int p0), .val (.int p1), .val (.int p2), .val (.int p3), .val (.long q4), .second, .val (.ref b1), .val (.int v9_0), .val (.int v9_1), .val (.int v9_2), .val (.int v9_3), .val (.int v9_4), .val (.int v9_5), .val (.int v9_6), .val (.int v9_7), .val (.int (((own_aE v9_0 v9_1) + (1 : Int32)) + (1 : Int32))), .val (.int (((own_aE v9_0 v9_1) + (1 : Int32)) + (1 : Int32))), .val (.int (125 : Int32))] [])) t → Steps p.tables e below (s₁.setTop (entryFrame m #[(.int p0), (.int p1), (.int p2), (.int p3), (.long q4)] maxLocals)) t := fun t k => pre29 t (by
          show Steps p.tables e below (T28.setTop (mkF m 188 #[.val (.int p0), .val (.int p1), .val (.int p2), .val (.int p3), .val (.long q4), .second, .val (.ref b1), .val (.int v9_0), .val (.int v9_1), .val (.int v9_2), .val (.int v9_3), .val (.int v9_4), .val (.int v9_5), .val (.int v9_6), .val (.int v9_7), .val (.int ((own_aE v9_0 v9_1) + (1 : Int32))), .val (.int (123 : Int32)), .val (.int (125 : Int32))] [(.int v9_3)])) _
          refine XS.ifYes X28.here hx rfl (pc0 := 188) (pc' := 205) rfl (hb hby at_188) rfl ((if0 _ _).trans (flt hc188_30).2.2.2) (by decide) (by decide) ?_
          show Steps p.tables e below (T28.setTop (mkF m 205 #[.val (.int p0), .val (.int p1), .val (.int p2), .val (.int p3), .val (.long q4), .second, .val (.ref b1), .val (.int v9_0), .val (.int v9_1), .val (.int v9_2), .val (.int v9_3), .val (.int v9_4), .val (.int v9_5), .val (.int v9_6), .val (.int v9_7), .val (.int ((own_aE v9_0 v9_1) + (1 : Int32))), .val (.int (123 : Int32)), .val (.int (125 : Int32))] [])) _
          refine XS.iload X28.here hx rfl (hb hby at_205) rfl ?_
          show Steps p.tables e below (T28.setTop (mkF m 207 #[.val (.int p0), .val (.int p1), .val (.int p2), .val (.int p3), .val (.long q4), .second, .val (.ref b1), .val (.int v9_0), .val (.int v9_1), .val (.int v9_2), .val (.int v9_3), .val (.int v9_4), .val (.int v9_5), .val (.int v9_6), .val (.int v9_7), .val (.int ((own_aE v9_0 v9_1) + (1 : Int32))), .val (.int (123 : Int32)), .val (.int (125 : Int32))] [(.int v9_3)])) _
          refine XS.iconst X28.here hx rfl (hb hby at_207) ?_
          show Steps p.tables e below (T28.setTop (mkF m 208 #[.val (.int p0), .val (.int p1), .val (.int p2), .val (.int p3), .val (.long q4), .second, .val (.ref b1), .val (.int v9_0), .val (.int v9_1), .val (.int v9_2), .val (.int v9_3), .val (.int v9_4), .val (.int v9_5), .val (.int v9_6), .val (.int v9_7), .val (.int ((own_aE v9_0 v9_1) + (1 : Int32))), .val (.int (123 : Int32)), .val (.int (125 : Int32))] [(.int (1 : Int32)), (.int v9_3)])) _
          refine XS.icmpYes X28.here hx rfl (pc0 := 208) (pc' := 225) rfl (hb hby at_208) rfl (flt (fun q => hc188_30 (by simp only [Int32.lt_iff_toInt_lt, Int32.reduceToInt] at q ⊢; omega))).2.2.2 (by decide) (by decide) ?_
          show Steps p.tables e below (T28.setTop (mkF m 225 #[.val (.int p0), .val (.int p1), .val (.int p2), .val (.int p3), .val (.long q4), .second, .val (.ref b1), .val (.int v9_0), .val (.int v9_1), .val (.int v9_2), .val (.int v9_3), .val (.int v9_4), .val (.int v9_5), .val (.int v9_6), .val (.int v9_7), .val (.int ((own_aE v9_0 v9_1) + (1 : Int32))), .val (.int (123 : Int32)), .val (.int (125 : Int32))] [])) _
          refine XS.aload X28.here hx rfl (hb hby at_225) rfl rfl ?_
          show Steps p.tables e below (T28.setTop (mkF m 227 #[.val (.int p0), .val (.int p1), .val (.int p2), .val (.int p3), .val (.long q4), .second, .val (.ref b1), .val (.int v9_0), .val (.int v9_1), .val (.int v9_2), .val (.int v9_3), .val (.int v9_4), .val (.int v9_5), .val (.int v9_6), .val (.int v9_7), .val (.int ((own_aE v9_0 v9_1) + (1 : Int32))), .val (.int (123 : Int32)), .val (.int (125 : Int32))] [(.ref b1)])) _
          refine XS.iload X28.here hx rfl (hb hby at_227) rfl ?_
          show Steps p.tables e below (T28.setTop (mkF m 229 #[.val (.int p0), .val (.int p1), .val (.int p2), .val (.int p3), .val (.long q4), .second, .val (.ref b1), .val (.int v9_0), .val (.int v9_1), .val (.int v9_2), .val (.int v9_3), .val (.int v9_4), .val (.int v9_5), .val (.int v9_6), .val (.int v9_7), .val (.int ((own_aE v9_0 v9_1) + (1 : Int32))), .val (.int (123 : Int32)), .val (.int (125 : Int32))] [(.int ((own_aE v9_0 v9_1) + (1 : Int32))), (.ref b1)])) _
          refine XS.iload X28.here hx rfl (hb hby at_229) rfl ?_
          show Steps p.tables e below (T28.setTop (mkF m 231 #[.val (.int p0), .val (.int p1), .val (.int p2), .val (.int p3), .val (.long q4), .second, .val (.ref b1), .val (.int v9_0), .val (.int v9_1), .val (.int v9_2), .val (.int v9_3), .val (.int v9_4), .val (.int v9_5), .val (.int v9_6), .val (.int v9_7), .val (.int ((own_aE v9_0 v9_1) + (1 : Int32))), .val (.int (123 : Int32)), .val (.int (125 : Int32))] [(.int (125 : Int32)), (.int ((own_aE v9_0 v9_1) + (1 : Int32))), (.ref b1)])) _
          refine st56 _ ?_
          show Steps p.tables e below (T56.setTop (mkF m 232 #[.val (.int p0), .val (.int p1), .val (.int p2), .val (.int p3), .val (.long q4), .second, .val (.ref b1), .val (.int v9_0), .val (.int v9_1), .val (.int v9_2), .val (.int v9_3), .val (.int v9_4), .val (.int v9_5), .val (.int v9_6), .val (.int v9_7), .val (.int ((own_aE v9_0 v9_1) + (1 : Int32))), .val (.int (123 : Int32)), .val (.int (125 : Int32))] [])) _
          refine XS.iload X56.here hx rfl (hb hby at_232) rfl ?_
          show Steps p.tables e below (T56.setTop (mkF m 234 #[.val (.int p0), .val (.int p1), .val (.int p2), .val (.int p3), .val (.long q4), .second, .val (.ref b1), .val (.int v9_0), .val (.int v9_1), .val (.int v9_2), .val (.int v9_3), .val (.int v9_4), .val (.int v9_5), .val (.int v9_6), .val (.int v9_7), .val (.int ((own_aE v9_0 v9_1) + (1 : Int32))), .val (.int (123 : Int32)), .val (.int (125 : Int32))] [(.int ((own_aE v9_0 v9_1) + (1 : Int32)))])) _
          refine XS.iconst X56.here hx rfl (hb hby at_234) ?_
          show Steps p.tables e below (T56.setTop (mkF m 235 #[.val (.int p0), .val (.int p1), .val (.int p2), .val (.int p3), .val (.long q4), .second, .val (.ref b1), .val (.int v9_0), .val (.int v9_1), .val (.int v9_2), .val (.int v9_3), .val (.int v9_4), .val (.int v9_5), .val (.int v9_6), .val (.int v9_7), .val (.int ((own_aE v9_0 v9_1) + (1 : Int32))), .val (.int (123 : Int32)), .val (.int (125 : Int32))] [(.int (1 : Int32)), (.int ((own_aE v9_0 v9_1) + (1 : Int32)))])) _
          refine XS.iadd X56.here hx rfl (hb hby at_235) rfl ?_
          show Steps p.tables e below (T56.setTop (mkF m 236 #[.val (.int p0), .val (.int p1), .val (.int p2), .val (.int p3), .val (.long q4), .second, .val (.ref b1), .val (.int v9_0), .val (.int v9_1), .val (.int v9_2), .val (.int v9_3), .val (.int v9_4), .val (.int v9_5), .val (.int v9_6), .val (.int v9_7), .val (.int ((own_aE v9_0 v9_1) + (1 : Int32))), .val (.int (123 : Int32)), .val (.int (125 : Int32))] [(.int (((own_aE v9_0 v9_1) + (1 : Int32)) + (1 : Int32)))])) _
          refine XS.istore X56.here hx rfl (hb hby at_236) rfl (l' := #[.val (.int p0), .val (.int p1), .val (.int p2), .val (.int p3), .val (.long q4), .second, .val (.ref b1), .val (.int v9_0), .val (.int v9_1), .val (.int v9_2), .val (.int v9_3), .val (.int v9_4), .val (.int v9_5), .val (.int v9_6), .val (.int v9_7), .val (.int (((own_aE v9_0 v9_1) + (1 : Int32)) + (1 : Int32))), .val (.int (123 : Int32)), .val (.int (125 : Int32))]) rfl ?_
          show Steps p.tables e below (T56.setTop (mkF m 238 #[.val (.int p0), .val (.int p1), .val (.int p2), .val (.int p3), .val (.long q4), .second, .val (.ref b1), .val (.int v9_0), .val (.int v9_1), .val (.int v9_2), .val (.int v9_3), .val (.int v9_4), .val (.int v9_5), .val (.int v9_6), .val (.int v9_7), .val (.int (((own_aE v9_0 v9_1) + (1 : Int32)) + (1 : Int32))), .val (.int (123 : Int32)), .val (.int (125 : Int32))] [])) _
          refine XS.iload X56.here hx rfl (hb hby at_238) rfl ?_
          show Steps p.tables e below (T56.setTop (mkF m 240 #[.val (.int p0), .val (.int p1), .val (.int p2), .val (.int p3), .val (.long q4), .second, .val (.ref b1), .val (.int v9_0), .val (.int v9_1), .val (.int v9_2), .val (.int v9_3), .val (.int v9_4), .val (.int v9_5), .val (.int v9_6), .val (.int v9_7), .val (.int (((own_aE v9_0 v9_1) + (1 : Int32)) + (1 : Int32))), .val (.int (123 : Int32)), .val (.int (125 : Int32))] [(.int (((own_aE v9_0 v9_1) + (1 : Int32)) + (1 : Int32)))])) _
          refine XS.istore X56.here hx rfl (hb hby at_240) rfl (l' := #[.val (.int p0), .val (.int p1), .val (.int p2), .val (.int p3), .val (.long q4), .second, .val (.ref b1), .val (.int v9_0), .val (.int v9_1), .val (.int v9_2), .val (.int v9_3), .val (.int v9_4), .val (.int v9_5), .val (.int v9_6), .val (.int v9_7), .val (.int (((own_aE v9_0 v9_1) + (1 : Int32)) + (1 : Int32))), .val (.int (((own_aE v9_0 v9_1) + (1 : Int32)) + (1 : Int32))), .val (.int (125 : Int32))]) rfl ?_
          show Steps p.tables e below (T56.setTop (mkF m 242 #[.val (.int p0), .val (.int p1), .val (.int p2), .val (.int p3), .val (.long q4), .second, .val (.ref b1), .val (.int v9_0), .val (.int v9_1), .val (.int v9_2), .val (.int v9_3), .val (.int v9_4), .val (.int v9_5), .val (.int v9_6), .val (.int v9_7), .val (.int (((own_aE v9_0 v9_1) + (1 : Int32)) + (1 : Int32))), .val (.int (((own_aE v9_0 v9_1) + (1 : Int32)) + (1 : Int32))), .val (.int (125 : Int32))] [])) _
          refine XS.aload X56.here hx rfl (hb hby at_242) rfl rfl ?_
          show Steps p.tables e below (T56.setTop (mkF m 244 #[.val (.int p0), .val (.int p1), .val (.int p2), .val (.int p3), .val (.long q4), .second, .val (.ref b1), .val (.int v9_0), .val (.int v9_1), .val (.int v9_2), .val (.int v9_3), .val (.int v9_4), .val (.int v9_5), .val (.int v9_6), .val (.int v9_7), .val (.int (((own_aE v9_0 v9_1) + (1 : Int32)) + (1 : Int32))), .val (.int (((own_aE v9_0 v9_1) + (1 : Int32)) + (1 : Int32))), .val (.int (125 : Int32))] [(.ref b1)])) _
          refine XS.iload X56.here hx rfl (hb hby at_244) rfl ?_
          show Steps p.tables e below (T56.setTop (mkF m 246 #[.val (.int p0), .val (.int p1), .val (.int p2), .val (.int p3), .val (.long q4), .second, .val (.ref b1), .val (.int v9_0), .val (.int v9_1), .val (.int v9_2), .val (.int v9_3), .val (.int v9_4), .val (.int v9_5), .val (.int v9_6), .val (.int v9_7), .val (.int (((own_aE v9_0 v9_1) + (1 : Int32)) + (1 : Int32))), .val (.int (((own_aE v9_0 v9_1) + (1 : Int32)) + (1 : Int32))), .val (.int (125 : Int32))] [(.int (((own_aE v9_0 v9_1) + (1 : Int32)) + (1 : Int32))), (.ref b1)])) _
          refine XS.lload X56.here hx rfl (hb hby at_246) rfl ?_
          show Steps p.tables e below (T56.setTop (mkF m 248 #[.val (.int p0), .val (.int p1), .val (.int p2), .val (.int p3), .val (.long q4), .second, .val (.ref b1), .val (.int v9_0), .val (.int v9_1), .val (.int v9_2), .val (.int v9_3), .val (.int v9_4), .val (.int v9_5), .val (.int v9_6), .val (.int v9_7), .val (.int (((own_aE v9_0 v9_1) + (1 : Int32)) + (1 : Int32))), .val (.int (((own_aE v9_0 v9_1) + (1 : Int32)) + (1 : Int32))), .val (.int (125 : Int32))] [(.long q4), (.int (((own_aE v9_0 v9_1) + (1 : Int32)) + (1 : Int32))), (.ref b1)])) _
          refine XS.bipush X56.here hx rfl (hb hby at_248) ?_
          show Steps p.tables e below (T56.setTop (mkF m 250 #[.val (.int p0), .val (.int p1), .val (.int p2), .val (.int p3), .val (.long q4), .second, .val (.ref b1), .val (.int v9_0), .val (.int v9_1), .val (.int v9_2), .val (.int v9_3), .val (.int v9_4), .val (.int v9_5), .val (.int v9_6), .val (.int v9_7), .val (.int (((own_aE v9_0 v9_1) + (1 : Int32)) + (1 : Int32))), .val (.int (((own_aE v9_0 v9_1) + (1 : Int32)) + (1 : Int32))), .val (.int (125 : Int32))] [(.int (24 : Int32)), (.long q4), (.int (((own_aE v9_0 v9_1) + (1 : Int32)) + (1 : Int32))), (.ref b1)])) _
          refine XS.lushr X56.here hx rfl (hb hby at_250) rfl ?_
          show Steps p.tables e below (T56.setTop (mkF m 251 #[.val (.int p0), .val (.int p1), .val (.int p2), .val (.int p3), .val (.long q4), .second, .val (.ref b1), .val (.int v9_0), .val (.int v9_1), .val (.int v9_2), .val (.int v9_3), .val (.int v9_4), .val (.int v9_5), .val (.int v9_6), .val (.int v9_7), .val (.int (((own_aE v9_0 v9_1) + (1 : Int32)) + (1 : Int32))), .val (.int (((own_aE v9_0 v9_1) + (1 : Int32)) + (1 : Int32))), .val (.int (125 : Int32))] [(.long ((q4.toUInt64 >>> ((24 : Int32) &&& 0x3f).toInt64.toUInt64).toInt64)), (.int (((own_aE v9_0 v9_1) + (1 : Int32)) + (1 : Int32))), (.ref b1)])) _
          refine X56.ldc2Long hx hown (mvT hZ (hw _ (List.mem_of_getElem? (i := 1) rfl))) (g := (mkF m 251 #[.val (.int p0), .val (.int p1), .val (.int p2), .val (.int p3), .val (.long q4), .second, .val (.ref b1), .val (.int v9_0), .val (.int v9_1), .val (.int v9_2), .val (.int v9_3), .val (.int v9_4), .val (.int v9_5), .val (.int v9_6), .val (.int v9_7), .val (.int (((own_aE v9_0 v9_1) + (1 : Int32)) + (1 : Int32))), .val (.int (((own_aE v9_0 v9_1) + (1 : Int32)) + (1 : Int32))), .val (.int (125 : Int32))] [(.long ((q4.toUInt64 >>> ((24 : Int32) &&& 0x3f).toInt64.toUInt64).toInt64)), (.int (((own_aE v9_0 v9_1) + (1 : Int32)) + (1 : Int32))), (.ref b1)])) rfl (hb hby at_251) _ ?_
          show Steps p.tables e below (T56.setTop (mkF m 254 #[.val (.int p0), .val (.int p1), .val (.int p2), .val (.int p3), .val (.long q4), .second, .val (.ref b1), .val (.int v9_0), .val (.int v9_1), .val (.int v9_2), .val (.int v9_3), .val (.int v9_4), .val (.int v9_5), .val (.int v9_6), .val (.int v9_7), .val (.int (((own_aE v9_0 v9_1) + (1 : Int32)) + (1 : Int32))), .val (.int (((own_aE v9_0 v9_1) + (1 : Int32)) + (1 : Int32))), .val (.int (125 : Int32))] [(.long (255 : Int64)), (.long ((q4.toUInt64 >>> ((24 : Int32) &&& 0x3f).toInt64.toUInt64).toInt64)), (.int (((own_aE v9_0 v9_1) + (1 : Int32)) + (1 : Int32))), (.ref b1)])) _
          refine XS.land X56.here hx rfl (hb hby at_254) rfl ?_
          show Steps p.tables e below (T56.setTop (mkF m 255 #[.val (.int p0), .val (.int p1), .val (.int p2), .val (.int p3), .val (.long q4), .second, .val (.ref b1), .val (.int v9_0), .val (.int v9_1), .val (.int v9_2), .val (.int v9_3), .val (.int v9_4), .val (.int v9_5), .val (.int v9_6), .val (.int v9_7), .val (.int (((own_aE v9_0 v9_1) + (1 : Int32)) + (1 : Int32))), .val (.int (((own_aE v9_0 v9_1) + (1 : Int32)) + (1 : Int32))), .val (.int (125 : Int32))] [(.long (((q4.toUInt64 >>> ((24 : Int32) &&& 0x3f).toInt64.toUInt64).toInt64) &&& (255 : Int64))), (.int (((own_aE v9_0 v9_1) + (1 : Int32)) + (1 : Int32))), (.ref b1)])) _
          refine XS.l2i X56.here hx rfl (hb hby at_255) rfl ?_
          show Steps p.tables e below (T56.setTop (mkF m 256 #[.val (.int p0), .val (.int p1), .val (.int p2), .val (.int p3), .val (.long q4), .second, .val (.ref b1), .val (.int v9_0), .val (.int v9_1), .val (.int v9_2), .val (.int v9_3), .val (.int v9_4), .val (.int v9_5), .val (.int v9_6), .val (.int v9_7), .val (.int (((own_aE v9_0 v9_1) + (1 : Int32)) + (1 : Int32))), .val (.int (((own_aE v9_0 v9_1) + (1 : Int32)) + (1 : Int32))), .val (.int (125 : Int32))] [(.int ((((q4.toUInt64 >>> ((24 : Int32) &&& 0x3f).toInt64.toUInt64).toInt64) &&& (255 : Int64)).toInt32)), (.int (((own_aE v9_0 v9_1) + (1 : Int32)) + (1 : Int32))), (.ref b1)])) _
          refine XS.i2c X56.here hx rfl (hb hby at_256) rfl ?_
          show Steps p.tables e below (T56.setTop (mkF m 257 #[.val (.int p0), .val (.int p1), .val (.int p2), .val (.int p3), .val (.long q4), .second, .val (.ref b1), .val (.int v9_0), .val (.int v9_1), .val (.int v9_2), .val (.int v9_3), .val (.int v9_4), .val (.int v9_5), .val (.int v9_6), .val (.int v9_7), .val (.int (((own_aE v9_0 v9_1) + (1 : Int32)) + (1 : Int32))), .val (.int (((own_aE v9_0 v9_1) + (1 : Int32)) + (1 : Int32))), .val (.int (125 : Int32))] [(.int (((((q4.toUInt64 >>> ((24 : Int32) &&& 0x3f).toInt64.toUInt64).toInt64) &&& (255 : Int64)).toInt32).toUInt32.toUInt16.toUInt32.toInt32)), (.int (((own_aE v9_0 v9_1) + (1 : Int32)) + (1 : Int32))), (.ref b1)])) _
          refine st58 _ ?_
          exact k)
        have hT60 : own_by (own_wr (own_wr (own_wr (own_aL ls v9_0 v9_1) (own_aE v9_0 v9_1) (123 : Int32)) ((own_aE v9_0 v9_1) + (1 : Int32)) (125 : Int32)) (((own_aE v9_0 v9_1) + (1 : Int32)) + (1 : Int32)) (((((q4.toUInt64 >>> ((24 : Int32) &&& 0x3f).toInt64.toUInt64).toInt64) &&& (255 : Int64)).toInt32).toUInt32.toUInt16.toUInt32.toInt32)) ∧ own_ty (own_wr (own_wr (own_wr (own_aL ls v9_0 v9_1) (own_aE v9_0 v9_1) (123 : Int32)) ((own_aE v9_0 v9_1) + (1 : Int32)) (125 : Int32)) (((own_aE v9_0 v9_1) + (1 : Int32)) + (1 : Int32)) (((((q4.toUInt64 >>> ((24 : Int32) &&& 0x3f).toInt64.toUInt64).toInt64) &&& (255 : Int64)).toInt32).toUInt32.toUInt16.toUInt32.toInt32)) 9 v9_0 (((own_aE v9_0 v9_1) + (1 : Int32)) + (1 : Int32)) := own_n0 hls hst hk (Or.inr ⟨rfl, rfl⟩) (own_lb _)
        obtain ⟨T61, h61, X61, e61, E61, A61, D61, -, st61⟩ := newO X58 hx hZ hown (hw _ (List.mem_of_getElem? (i := 9) rfl)) (hw _ (List.mem_of_getElem? (i := 10) rfl)) (hw _ (List.mem_of_getElem? (i := 11) rfl)) e58 (g := (mkF m 258 #[.val (.int p0), .val (.int p1), .val (.int p2), .val (.int p3), .val (.long q4), .second, .val (.ref b1), .val (.int v9_0), .val (.int v9_1), .val (.int v9_2), .val (.int v9_3), .val (.int v9_4), .val (.int v9_5), .val (.int v9_6), .val (.int v9_7), .val (.int (((own_aE v9_0 v9_1) + (1 : Int32)) + (1 : Int32))), .val (.int (((own_aE v9_0 v9_1) + (1 : Int32)) + (1 : Int32))), .val (.int (125 : Int32))] [])) rfl (hb hby at_258) (by decide) (by decide)
        obtain ⟨b61, g61⟩ : ∃ z, z = h58.size := ⟨_, rfl⟩
        rw [← g61] at A61 D61 st61
        have F_coder_b61 : Fld Z h61 b61 "java/lang/String" "coder" "B" (.int (0 : Int32)) := D61 (Or.inr (hw _ (List.mem_of_getElem? (i := 35) rfl))) (ty := .byte) (by decide)
        have F_value_b61 : Fld Z h61 b61 "java/lang/String" "value" "[B" .null := D61 (Or.inr (hw _ (List.mem_of_getElem? (i := 37) rfl))) (ty := (.array .byte)) (by decide)
        have g_b61 : n0 ≤ b61 := Nat.le_trans (Nat.le_trans (Nat.le_trans (Nat.le_trans (Nat.le_trans (Nat.le_trans (Nat.le_trans (Nat.le_trans (Nat.le_trans Z0 E1.1) (Keep.of_wr W3).1) (Keep.of_wr W5).1) (Keep.of_wr W7).1) K11.1) (Keep.of_wr W28).1) (Keep.of_wr W56).1) (Keep.of_wr W58).1) (Nat.le_of_eq g61.symm)
        have sz_b61 : h0.size ≤ b61 := Nat.le_trans KK58.1 (Nat.le_of_eq g61.symm)
        have KK61 : Keep h0 h61 [] := KK58.ext E61
        obtain ⟨_, _, ⟨T62, L62, k62, n62⟩, -, X62, ⟨Lc62, hQ62, l62, y62, z62⟩, st62⟩ := X61.specialBack hx (y := (⟨"java/lang/String", "<init>", "([C)V"⟩ : MethodName)) rfl hown (mvT hZ (hw _ (List.mem_of_getElem? (i := 12) rfl))) (mvT hZ (hw _ (List.mem_of_getElem? (i := 13) rfl))) (mvT hZ (hw _ (List.mem_of_getElem? (i := 14) rfl))) (by decide) (StrChars.Road.backV (W := 1) hZ (fun d hd => hw d ((by decide +kernel : ∀ d ∈ StrChars.Road.words, d ∈ tables_1) d hd)) (hw _ (List.mem_of_getElem? (i := 10) rfl)) (cs := (own_wr (own_wr (own_wr (own_aL ls v9_0 v9_1) (own_aE v9_0 v9_1) (123 : Int32)) ((own_aE v9_0 v9_1) + (1 : Int32)) (125 : Int32)) (((own_aE v9_0 v9_1) + (1 : Int32)) + (1 : Int32)) (((((q4.toUInt64 >>> ((24 : Int32) &&& 0x3f).toInt64.toUInt64).toInt64) &&& (255 : Int64)).toInt32).toUInt32.toUInt16.toUInt32.toInt32))) (bs := (own_wr (own_wr (own_wr (own_aL ls v9_0 v9_1) (own_aE v9_0 v9_1) (123 : Int32)) ((own_aE v9_0 v9_1) + (1 : Int32)) (125 : Int32)) (((own_aE v9_0 v9_1) + (1 : Int32)) + (1 : Int32)) (((((q4.toUInt64 >>> ((24 : Int32) &&& 0x3f).toInt64.toUInt64).toInt64) &&& (255 : Int64)).toInt32).toUInt32.toUInt16.toUInt32.toInt32)).map (fun c => c.toInt8.toInt32)) (n := 24) g_b61 (Nat.le_trans (Nat.le_trans (Nat.le_trans (Nat.le_trans (Nat.le_trans (Nat.le_trans (Nat.le_trans (Nat.le_trans (Nat.le_trans Z0 E1.1) (Keep.of_wr W3).1) (Keep.of_wr W5).1) (Keep.of_wr W7).1) K11.1) (Keep.of_wr W28).1) (Keep.of_wr W56).1) (Keep.of_wr W58).1) E61.1) A61 F_value_b61 F_coder_b61 (V58.ext E61).2 (Sta.ext (((((((((O0.ext E1).wr W3 g_b1).wr W5 g_b1).wr W7 g_b1).keep K11 (allS g_b1 all0)).wr W28 g_b1).wr W56 g_b1).wr W58 g_b1).ext E61).2 S_C) hC hT60.1.1 rfl (by decide) (by decide) hT60.1.2 rfl (by decide) (by decide)) (g := (mkF m 264 #[.val (.int p0), .val (.int p1), .val (.int p2), .val (.int p3), .val (.long q4), .second, .val (.ref b1), .val (.int v9_0), .val (.int v9_1), .val (.int v9_2), .val (.int v9_3), .val (.int v9_4), .val (.int v9_5), .val (.int v9_6), .val (.int v9_7), .val (.int (((own_aE v9_0 v9_1) + (1 : Int32)) + (1 : Int32))), .val (.int (((own_aE v9_0 v9_1) + (1 : Int32)) + (1 : Int32))), .val (.int (125 : Int32))] [(.ref b1), (.ref b61), (.ref b61)])) rfl (by rw [hml]; rfl) (Steps.refl _) (a := b61) (argsL := [(.ref b1)]) (rest := [(.ref b61)]) (lenOf pd_7 rfl) rfl (by show 2 * 0 + _ ≤ _; exact Nat.le_of_eq rfl) (hb hby at_264) (fun _ _ => ⟨rfl, e61, (by decide : 2 + 1 ≤ _), (by decide : 28 + 24 ≤ _)⟩)
        dsimp only [Pt.U, Pt.locs, Pt.cells, Pt.slots] at X62 l62 y62 z62 st62 hQ62
        subst l62 y62 z62
        obtain ⟨rfl, N62q, K62, EX62, FC62, t62, kb62, g_t62, szt62, -, FV62, AV62⟩ := hQ62
        have N62 := Fr.app N58 N62q
        have V_t62 : own_A Z T62.heap t62 kb62 .byte (24 : Int32) ((own_wr (own_wr (own_wr (own_aL ls v9_0 v9_1) (own_aE v9_0 v9_1) (123 : Int32)) ((own_aE v9_0 v9_1) + (1 : Int32)) (125 : Int32)) (((own_aE v9_0 v9_1) + (1 : Int32)) + (1 : Int32)) (((((q4.toUInt64 >>> ((24 : Int32) &&& 0x3f).toInt64.toUInt64).toInt64) &&& (255 : Int64)).toInt32).toUInt32.toUInt16.toUInt32.toInt32)).map (fun c => c.toInt8.toInt32)) := ⟨List.length_map _ |>.trans hT60.1.1, AV62⟩
        obtain ⟨_, _, ⟨T63, L63, k63, n63⟩, -, X63, ⟨Lc63, hQ63, l63, y63, z63⟩, st63⟩ := Jvm.LawKit.callS X62 hx (y := (⟨"com/example/sensor_access_indicators/sensoraccessindicators/dbus/Marshalling", "typeEnd", "(Ljava/lang/String;I)I"⟩ : MethodName)) hown (mvT hZ (hw _ (List.mem_of_getElem? (i := 38) rfl))) (mvT hZ (hw _ (List.mem_of_getElem? (i := 39) rfl))) (mvT hZ (hw _ (List.mem_of_getElem? (i := 40) rfl))) (mvT hZ (hw _ (List.mem_of_getElem? (i := 41) rfl))) (by decide) (backOf (W := 0) (rm9 l Z a0 hw b61 wC wF t62 kb62 (own_wr (own_wr (own_wr (own_aL ls v9_0 v9_1) (own_aE v9_0 v9_1) (123 : Int32)) ((own_aE v9_0 v9_1) + (1 : Int32)) (125 : Int32)) (((own_aE v9_0 v9_1) + (1 : Int32)) + (1 : Int32)) (((((q4.toUInt64 >>> ((24 : Int32) &&& 0x3f).toInt64.toUInt64).toInt64) &&& (255 : Int64)).toInt32).toUInt32.toUInt16.toUInt32.toInt32)) T62.heap n0 (Nat.le_trans (Nat.le_trans (Nat.le_trans (Nat.le_trans (Nat.le_trans (Nat.le_trans (Nat.le_trans (Nat.le_trans (Nat.le_trans (Nat.le_trans Z0 E1.1) (Keep.of_wr W3).1) (Keep.of_wr W5).1) (Keep.of_wr W7).1) K11.1) (Keep.of_wr W28).1) (Keep.of_wr W56).1) (Keep.of_wr W58).1) E61.1) K62.1) FC62 FV62 EX62 (Sta.ext ((((((((((O0.ext E1).wr W3 g_b1).wr W5 g_b1).wr W7 g_b1).keep K11 (allS g_b1 all0)).wr W28 g_b1).wr W56 g_b1).wr W58 g_b1).ext E61).keep K62 (allS g_b61 all0)).2 S_C) hC (Sta.ext ((((((((((O0.ext E1).wr W3 g_b1).wr W5 g_b1).wr W7 g_b1).keep K11 (allS g_b1 all0)).wr W28 g_b1).wr W56 g_b1).wr W58 g_b1).ext E61).keep K62 (allS g_b61 all0)).2 S_F) hF V_t62 hT60.1 9 v9_0 (((own_aE v9_0 v9_1) + (1 : Int32)) + (1 : Int32)) hT60.2) hZ (hw _ (List.mem_of_getElem? (i := 41) rfl)) (hw _ (List.mem_of_getElem? (i := 40) rfl)) (by decide) (by decide)) (g := (mkF m 273 #[.val (.int p0), .val (.int p1), .val (.int p2), .val (.int p3), .val (.long q4), .second, .val (.ref b1), .val (.int v9_0), .val (.int v9_1), .val (.int v9_2), .val (.int v9_3), .val (.int v9_4), .val (.int v9_5), .val (.int v9_6), .val (.int v9_7), .val (.int (((own_aE v9_0 v9_1) + (1 : Int32)) + (1 : Int32))), .val (.int (((own_aE v9_0 v9_1) + (1 : Int32)) + (1 : Int32))), .val (.ref b61)] [(.int v9_0), (.ref b61)])) rfl (by rw [hml]; rfl) (argsL := [(.ref b61), (.int v9_0)]) (rest := []) (lenOf pd_6 rfl) rfl (by show 2 * 0 + _ ≤ _; exact Nat.le_of_eq rfl) (hb hby at_273) (fun _ _ => ⟨rfl, rfl, (by decide : 3 + 0 ≤ _), (by decide : 52 + 0 ≤ _)⟩)
        dsimp only [Pt.U, Pt.locs, Pt.cells, Pt.slots] at X63 l63 y63 z63 st63 hQ63
        subst l63 y63 z63
        obtain ⟨rfl, N63q, hh63⟩ := hQ63
        have N63 := Fr.app N62 N63q
        have pre64 : ∀ t, Steps p.tables e below (T63.setTop (mkF m 286 #[.val (.int p0), .val (.int p1), .val (.int p2), .val (.int p3), .val (.long q4), .second, .val (.ref b1), .val (.int v9_0), .val (.int v9_1), .val (.int v9_2), .val (.int v9_3), .val (.int v9_4), .val (.int v9_5), .val (.int v9_6), .val (.int v9_7), .val (.int (((own_aE v9_0 v9_1) + (1 : Int32)) + (1 : Int32))), .val (.int (((own_aE v9_0 v9_1) + (1 : Int32)) + (1 : Int32))), .val (.ref b61)] [(.int (1 : Int32))])) t → Steps p.tables e below (s₁.setTop (entryFrame m #[(.int p0), (.int p1), (.int p2), (.int p3), (.long q4)] maxLocals)) t := fun t k => pre59 t (by
          show Steps p.tables e below (T58.setTop (mkF m 258 #[.val (.int p0), .val (.int p1), .val (.int p2), .val (.int p3), .val (.long q4), .second, .val (.ref b1), .val (.int v9_0), .val (.int v9_1), .val (.int v9_2), .val (.int v9_3), .val (.int v9_4), .val (.int v9_5), .val (.int v9_6), .val (.int v9_7), .val (.int (((own_aE v9_0 v9_1) + (1 : Int32)) + (1 : Int32))), .val (.int (((own_aE v9_0 v9_1) + (1 : Int32)) + (1 : Int32))), .val (.int (125 : Int32))] [])) _
          refine st61 _ ?_
          show Steps p.tables e below (T61.setTop (mkF m 261 #[.val (.int p0), .val (.int p1), .val (.int p2), .val (.int p3), .val (.long q4), .second, .val (.ref b1), .val (.int v9_0), .val (.int v9_1), .val (.int v9_2), .val (.int v9_3), .val (.int v9_4), .val (.int v9_5), .val (.int v9_6), .val (.int v9_7), .val (.int (((own_aE v9_0 v9_1) + (1 : Int32)) + (1 : Int32))), .val (.int (((own_aE v9_0 v9_1) + (1 : Int32)) + (1 : Int32))), .val (.int (125 : Int32))] [(.ref b61)])) _
          refine XS.dup X61.here hx rfl (hb hby at_261) rfl rfl ?_
          show Steps p.tables e below (T61.setTop (mkF m 262 #[.val (.int p0), .val (.int p1), .val (.int p2), .val (.int p3), .val (.long q4), .second, .val (.ref b1), .val (.int v9_0), .val (.int v9_1), .val (.int v9_2), .val (.int v9_3), .val (.int v9_4), .val (.int v9_5), .val (.int v9_6), .val (.int v9_7), .val (.int (((own_aE v9_0 v9_1) + (1 : Int32)) + (1 : Int32))), .val (.int (((own_aE v9_0 v9_1) + (1 : Int32)) + (1 : Int32))), .val (.int (125 : Int32))] [(.ref b61), (.ref b61)])) _
          refine XS.aload X61.here hx rfl (hb hby at_262) rfl rfl ?_
          show Steps p.tables e below (T61.setTop (mkF m 264 #[.val (.int p0), .val (.int p1), .val (.int p2), .val (.int p3), .val (.long q4), .second, .val (.ref b1), .val (.int v9_0), .val (.int v9_1), .val (.int v9_2), .val (.int v9_3), .val (.int v9_4), .val (.int v9_5), .val (.int v9_6), .val (.int v9_7), .val (.int (((own_aE v9_0 v9_1) + (1 : Int32)) + (1 : Int32))), .val (.int (((own_aE v9_0 v9_1) + (1 : Int32)) + (1 : Int32))), .val (.int (125 : Int32))] [(.ref b1), (.ref b61), (.ref b61)])) _
          refine st62.trans ?_
          show Steps p.tables e below (T62.setTop (mkF m 267 #[.val (.int p0), .val (.int p1), .val (.int p2), .val (.int p3), .val (.long q4), .second, .val (.ref b1), .val (.int v9_0), .val (.int v9_1), .val (.int v9_2), .val (.int v9_3), .val (.int v9_4), .val (.int v9_5), .val (.int v9_6), .val (.int v9_7), .val (.int (((own_aE v9_0 v9_1) + (1 : Int32)) + (1 : Int32))), .val (.int (((own_aE v9_0 v9_1) + (1 : Int32)) + (1 : Int32))), .val (.int (125 : Int32))] [(.ref b61)])) _
          refine XS.astore X62.here hx rfl (hb hby at_267) rfl rfl (l' := #[.val (.int p0), .val (.int p1), .val (.int p2), .val (.int p3), .val (.long q4), .second, .val (.ref b1), .val (.int v9_0), .val (.int v9_1), .val (.int v9_2), .val (.int v9_3), .val (.int v9_4), .val (.int v9_5), .val (.int v9_6), .val (.int v9_7), .val (.int (((own_aE v9_0 v9_1) + (1 : Int32)) + (1 : Int32))), .val (.int (((own_aE v9_0 v9_1) + (1 : Int32)) + (1 : Int32))), .val (.ref b61)]) rfl ?_
          show Steps p.tables e below (T62.setTop (mkF m 269 #[.val (.int p0), .val (.int p1), .val (.int p2), .val (.int p3), .val (.long q4), .second, .val (.ref b1), .val (.int v9_0), .val (.int v9_1), .val (.int v9_2), .val (.int v9_3), .val (.int v9_4), .val (.int v9_5), .val (.int v9_6), .val (.int v9_7), .val (.int (((own_aE v9_0 v9_1) + (1 : Int32)) + (1 : Int32))), .val (.int (((own_aE v9_0 v9_1) + (1 : Int32)) + (1 : Int32))), .val (.ref b61)] [])) _
          refine XS.aload X62.here hx rfl (hb hby at_269) rfl rfl ?_
          show Steps p.tables e below (T62.setTop (mkF m 271 #[.val (.int p0), .val (.int p1), .val (.int p2), .val (.int p3), .val (.long q4), .second, .val (.ref b1), .val (.int v9_0), .val (.int v9_1), .val (.int v9_2), .val (.int v9_3), .val (.int v9_4), .val (.int v9_5), .val (.int v9_6), .val (.int v9_7), .val (.int (((own_aE v9_0 v9_1) + (1 : Int32)) + (1 : Int32))), .val (.int (((own_aE v9_0 v9_1) + (1 : Int32)) + (1 : Int32))), .val (.ref b61)] [(.ref b61)])) _
          refine XS.iload X62.here hx rfl (hb hby at_271) rfl ?_
          show Steps p.tables e below (T62.setTop (mkF m 273 #[.val (.int p0), .val (.int p1), .val (.int p2), .val (.int p3), .val (.long q4), .second, .val (.ref b1), .val (.int v9_0), .val (.int v9_1), .val (.int v9_2), .val (.int v9_3), .val (.int v9_4), .val (.int v9_5), .val (.int v9_6), .val (.int v9_7), .val (.int (((own_aE v9_0 v9_1) + (1 : Int32)) + (1 : Int32))), .val (.int (((own_aE v9_0 v9_1) + (1 : Int32)) + (1 : Int32))), .val (.ref b61)] [(.int v9_0), (.ref b61)])) _
          refine st63 _ ?_
          show Steps p.tables e below (T63.setTop (mkF m 276 #[.val (.int p0), .val (.int p1), .val (.int p2), .val (.int p3), .val (.long q4), .second, .val (.ref b1), .val (.int v9_0), .val (.int v9_1), .val (.int v9_2), .val (.int v9_3), .val (.int v9_4), .val (.int v9_5), .val (.int v9_6), .val (.int v9_7), .val (.int (((own_aE v9_0 v9_1) + (1 : Int32)) + (1 : Int32))), .val (.int (((own_aE v9_0 v9_1) + (1 : Int32)) + (1 : Int32))), .val (.ref b61)] [(.int (((own_aE v9_0 v9_1) + (1 : Int32)) + (1 : Int32)))])) _
          refine XS.iload X63.here hx rfl (hb hby at_276) rfl ?_
          show Steps p.tables e below (T63.setTop (mkF m 278 #[.val (.int p0), .val (.int p1), .val (.int p2), .val (.int p3), .val (.long q4), .second, .val (.ref b1), .val (.int v9_0), .val (.int v9_1), .val (.int v9_2), .val (.int v9_3), .val (.int v9_4), .val (.int v9_5), .val (.int v9_6), .val (.int v9_7), .val (.int (((own_aE v9_0 v9_1) + (1 : Int32)) + (1 : Int32))), .val (.int (((own_aE v9_0 v9_1) + (1 : Int32)) + (1 : Int32))), .val (.ref b61)] [(.int (((own_aE v9_0 v9_1) + (1 : Int32)) + (1 : Int32))), (.int (((own_aE v9_0 v9_1) + (1 : Int32)) + (1 : Int32)))])) _
          refine XS.icmpNo X63.here hx rfl (hb hby at_278) rfl (teq (by first | exact rfl | decide : (((own_aE v9_0 v9_1) + (1 : Int32)) + (1 : Int32)) = (((own_aE v9_0 v9_1) + (1 : Int32)) + (1 : Int32)))).2 ?_
          show Steps p.tables e below (T63.setTop (mkF m 281 #[.val (.int p0), .val (.int p1), .val (.int p2), .val (.int p3), .val (.long q4), .second, .val (.ref b1), .val (.int v9_0), .val (.int v9_1), .val (.int v9_2), .val (.int v9_3), .val (.int v9_4), .val (.int v9_5), .val (.int v9_6), .val (.int v9_7), .val (.int (((own_aE v9_0 v9_1) + (1 : Int32)) + (1 : Int32))), .val (.int (((own_aE v9_0 v9_1) + (1 : Int32)) + (1 : Int32))), .val (.ref b61)] [])) _
          refine XS.iconst X63.here hx rfl (hb hby at_281) ?_
          show Steps p.tables e below (T63.setTop (mkF m 282 #[.val (.int p0), .val (.int p1), .val (.int p2), .val (.int p3), .val (.long q4), .second, .val (.ref b1), .val (.int v9_0), .val (.int v9_1), .val (.int v9_2), .val (.int v9_3), .val (.int v9_4), .val (.int v9_5), .val (.int v9_6), .val (.int v9_7), .val (.int (((own_aE v9_0 v9_1) + (1 : Int32)) + (1 : Int32))), .val (.int (((own_aE v9_0 v9_1) + (1 : Int32)) + (1 : Int32))), .val (.ref b61)] [(.int (1 : Int32))])) _
          refine XS.goto X63.here hx rfl (pc0 := 282) (pc' := 286) rfl (hb hby at_282) (by decide) (by decide) ?_
          exact k)
        obtain ⟨fs, hr, hrun, hended, hW, hsame⟩ := X63.leave (v := some (.int (1 : Int32))) (fun h => by rw [Bd.returns] at h; cases h)
        refine ⟨_, _, pre64 _ ?_, hrun, hended, _, _, rfl, ?_, ⟨_, rfl⟩, hW, hsame.mono (by decide) (by decide)⟩
        · exact retN X63 hx (t := .boolean) Bd.returns (by simp) (hb hby at_286) hr
        · show Q0 Z p0 p1 p2 p3 q4 wC wF h0 n0 _ T63.heap _
          rw [hh63]
          exact ⟨rfl, N63⟩
    · obtain ⟨c65, Ar65, hin65, -⟩ := own_read P11_0 (own_pos hls hst hk).2.2.1
      obtain ⟨T66, h66, X66, e66, W66, st66⟩ := stC X11 hx hZ rfl Ar65 (j := (own_aE v9_0 v9_1)) hin65 (g := (mkF m 179 #[.val (.int p0), .val (.int p1), .val (.int p2), .val (.int p3), .val (.long q4), .second, .val (.ref b1), .val (.int v9_0), .val (.int v9_1), .val (.int v9_2), .val (.int v9_3), .val (.int v9_4), .val (.int v9_5), .val (.int v9_6), .val (.int v9_7), .val (.int (own_aE v9_0 v9_1)), .val (.int (40 : Int32)), .val (.int (41 : Int32))] [(.int (40 : Int32)), (.int (own_aE v9_0 v9_1)), (.ref b1)])) rfl rfl (hb hby at_179)
      have V66 : own_A Z h66 b1 k1 .char (24 : Int32) (own_wr (own_aL ls v9_0 v9_1) (own_aE v9_0 v9_1) (40 : Int32)) := own_writeC P11_0 (own_pos hls hst hk).2.2.1 (by decide) W66
      have KK66 : Keep h0 h66 [] := KK11.wr W66 (Or.inr sz_b1)
      have N66 := Fr.snoc X66 N11 g_b1
      have pre67 : ∀ t, Steps p.tables e below (T66.setTop (mkF m 188 #[.val (.int p0), .val (.int p1), .val (.int p2), .val (.int p3), .val (.long q4), .second, .val (.ref b1), .val (.int v9_0), .val (.int v9_1), .val (.int v9_2), .val (.int v9_3), .val (.int v9_4), .val (.int v9_5), .val (.int v9_6), .val (.int v9_7), .val (.int ((own_aE v9_0 v9_1) + (1 : Int32))), .val (.int (40 : Int32)), .val (.int (41 : Int32))] [(.int v9_3)])) t → Steps p.tables e below (s₁.setTop (entryFrame m #[(.int p0), (.int p1), (.int p2), (.int p3), (.long q4)] maxLocals)) t := fun t k => pre25 t (by
        show Steps p.tables e below (T11.setTop (mkF m 146 #[.val (.int p0), .val (.int p1), .val (.int p2), .val (.int p3), .val (.long q4), .second, .val (.ref b1), .val (.int v9_0), .val (.int v9_1), .val (.int v9_2), .val (.int v9_3), .val (.int v9_4), .val (.int v9_5), .val (.int v9_6), .val (.int v9_7), .val (.int (own_aE v9_0 v9_1)), .unset, .unset] [(.int (2 : Int32)), (.int v9_2)])) _
        refine XS.icmpYes X11.here hx rfl (pc0 := 146) (pc' := 154) rfl (hb hby at_146) rfl (feq hc146_26).2 (by decide) (by decide) ?_
        show Steps p.tables e below (T11.setTop (mkF m 154 #[.val (.int p0), .val (.int p1), .val (.int p2), .val (.int p3), .val (.long q4), .second, .val (.ref b1), .val (.int v9_0), .val (.int v9_1), .val (.int v9_2), .val (.int v9_3), .val (.int v9_4), .val (.int v9_5), .val (.int v9_6), .val (.int v9_7), .val (.int (own_aE v9_0 v9_1)), .unset, .unset] [])) _
        refine XS.bipush X11.here hx rfl (hb hby at_154) ?_
        show Steps p.tables e below (T11.setTop (mkF m 156 #[.val (.int p0), .val (.int p1), .val (.int p2), .val (.int p3), .val (.long q4), .second, .val (.ref b1), .val (.int v9_0), .val (.int v9_1), .val (.int v9_2), .val (.int v9_3), .val (.int v9_4), .val (.int v9_5), .val (.int v9_6), .val (.int v9_7), .val (.int (own_aE v9_0 v9_1)), .unset, .unset] [(.int (40 : Int32))])) _
        refine XS.istore X11.here hx rfl (hb hby at_156) rfl (l' := #[.val (.int p0), .val (.int p1), .val (.int p2), .val (.int p3), .val (.long q4), .second, .val (.ref b1), .val (.int v9_0), .val (.int v9_1), .val (.int v9_2), .val (.int v9_3), .val (.int v9_4), .val (.int v9_5), .val (.int v9_6), .val (.int v9_7), .val (.int (own_aE v9_0 v9_1)), .val (.int (40 : Int32)), .unset]) rfl ?_
        show Steps p.tables e below (T11.setTop (mkF m 158 #[.val (.int p0), .val (.int p1), .val (.int p2), .val (.int p3), .val (.long q4), .second, .val (.ref b1), .val (.int v9_0), .val (.int v9_1), .val (.int v9_2), .val (.int v9_3), .val (.int v9_4), .val (.int v9_5), .val (.int v9_6), .val (.int v9_7), .val (.int (own_aE v9_0 v9_1)), .val (.int (40 : Int32)), .unset] [])) _
        refine XS.iload X11.here hx rfl (hb hby at_158) rfl ?_
        show Steps p.tables e below (T11.setTop (mkF m 160 #[.val (.int p0), .val (.int p1), .val (.int p2), .val (.int p3), .val (.long q4), .second, .val (.ref b1), .val (.int v9_0), .val (.int v9_1), .val (.int v9_2), .val (.int v9_3), .val (.int v9_4), .val (.int v9_5), .val (.int v9_6), .val (.int v9_7), .val (.int (own_aE v9_0 v9_1)), .val (.int (40 : Int32)), .unset] [(.int v9_2)])) _
        refine XS.iconst X11.here hx rfl (hb hby at_160) ?_
        show Steps p.tables e below (T11.setTop (mkF m 161 #[.val (.int p0), .val (.int p1), .val (.int p2), .val (.int p3), .val (.long q4), .second, .val (.ref b1), .val (.int v9_0), .val (.int v9_1), .val (.int v9_2), .val (.int v9_3), .val (.int v9_4), .val (.int v9_5), .val (.int v9_6), .val (.int v9_7), .val (.int (own_aE v9_0 v9_1)), .val (.int (40 : Int32)), .unset] [(.int (2 : Int32)), (.int v9_2)])) _
        refine XS.icmpYes X11.here hx rfl (pc0 := 161) (pc' := 169) rfl (hb hby at_161) rfl (feq hc146_26).2 (by decide) (by decide) ?_
        show Steps p.tables e below (T11.setTop (mkF m 169 #[.val (.int p0), .val (.int p1), .val (.int p2), .val (.int p3), .val (.long q4), .second, .val (.ref b1), .val (.int v9_0), .val (.int v9_1), .val (.int v9_2), .val (.int v9_3), .val (.int v9_4), .val (.int v9_5), .val (.int v9_6), .val (.int v9_7), .val (.int (own_aE v9_0 v9_1)), .val (.int (40 : Int32)), .unset] [])) _
        refine XS.bipush X11.here hx rfl (hb hby at_169) ?_
        show Steps p.tables e below (T11.setTop (mkF m 171 #[.val (.int p0), .val (.int p1), .val (.int p2), .val (.int p3), .val (.long q4), .second, .val (.ref b1), .val (.int v9_0), .val (.int v9_1), .val (.int v9_2), .val (.int v9_3), .val (.int v9_4), .val (.int v9_5), .val (.int v9_6), .val (.int v9_7), .val (.int (own_aE v9_0 v9_1)), .val (.int (40 : Int32)), .unset] [(.int (41 : Int32))])) _
        refine XS.istore X11.here hx rfl (hb hby at_171) rfl (l' := #[.val (.int p0), .val (.int p1), .val (.int p2), .val (.int p3), .val (.long q4), .second, .val (.ref b1), .val (.int v9_0), .val (.int v9_1), .val (.int v9_2), .val (.int v9_3), .val (.int v9_4), .val (.int v9_5), .val (.int v9_6), .val (.int v9_7), .val (.int (own_aE v9_0 v9_1)), .val (.int (40 : Int32)), .val (.int (41 : Int32))]) rfl ?_
        show Steps p.tables e below (T11.setTop (mkF m 173 #[.val (.int p0), .val (.int p1), .val (.int p2), .val (.int p3), .val (.long q4), .second, .val (.ref b1), .val (.int v9_0), .val (.int v9_1), .val (.int v9_2), .val (.int v9_3), .val (.int v9_4), .val (.int v9_5), .val (.int v9_6), .val (.int v9_7), .val (.int (own_aE v9_0 v9_1)), .val (.int (40 : Int32)), .val (.int (41 : Int32))] [])) _
        refine XS.aload X11.here hx rfl (hb hby at_173) rfl rfl ?_
        show Steps p.tables e below (T11.setTop (mkF m 175 #[.val (.int p0), .val (.int p1), .val (.int p2), .val (.int p3), .val (.long q4), .second, .val (.ref b1), .val (.int v9_0), .val (.int v9_1), .val (.int v9_2), .val (.int v9_3), .val (.int v9_4), .val (.int v9_5), .val (.int v9_6), .val (.int v9_7), .val (.int (own_aE v9_0 v9_1)), .val (.int (40 : Int32)), .val (.int (41 : Int32))] [(.ref b1)])) _
        refine XS.iload X11.here hx rfl (hb hby at_175) rfl ?_
        show Steps p.tables e below (T11.setTop (mkF m 177 #[.val (.int p0), .val (.int p1), .val (.int p2), .val (.int p3), .val (.long q4), .second, .val (.ref b1), .val (.int v9_0), .val (.int v9_1), .val (.int v9_2), .val (.int v9_3), .val (.int v9_4), .val (.int v9_5), .val (.int v9_6), .val (.int v9_7), .val (.int (own_aE v9_0 v9_1)), .val (.int (40 : Int32)), .val (.int (41 : Int32))] [(.int (own_aE v9_0 v9_1)), (.ref b1)])) _
        refine XS.iload X11.here hx rfl (hb hby at_177) rfl ?_
        show Steps p.tables e below (T11.setTop (mkF m 179 #[.val (.int p0), .val (.int p1), .val (.int p2), .val (.int p3), .val (.long q4), .second, .val (.ref b1), .val (.int v9_0), .val (.int v9_1), .val (.int v9_2), .val (.int v9_3), .val (.int v9_4), .val (.int v9_5), .val (.int v9_6), .val (.int v9_7), .val (.int (own_aE v9_0 v9_1)), .val (.int (40 : Int32)), .val (.int (41 : Int32))] [(.int (40 : Int32)), (.int (own_aE v9_0 v9_1)), (.ref b1)])) _
        refine st66 _ ?_
        show Steps p.tables e below (T66.setTop (mkF m 180 #[.val (.int p0), .val (.int p1), .val (.int p2), .val (.int p3), .val (.long q4), .second, .val (.ref b1), .val (.int v9_0), .val (.int v9_1), .val (.int v9_2), .val (.int v9_3), .val (.int v9_4), .val (.int v9_5), .val (.int v9_6), .val (.int v9_7), .val (.int (own_aE v9_0 v9_1)), .val (.int (40 : Int32)), .val (.int (41 : Int32))] [])) _
        refine XS.iload X66.here hx rfl (hb hby at_180) rfl ?_
        show Steps p.tables e below (T66.setTop (mkF m 182 #[.val (.int p0), .val (.int p1), .val (.int p2), .val (.int p3), .val (.long q4), .second, .val (.ref b1), .val (.int v9_0), .val (.int v9_1), .val (.int v9_2), .val (.int v9_3), .val (.int v9_4), .val (.int v9_5), .val (.int v9_6), .val (.int v9_7), .val (.int (own_aE v9_0 v9_1)), .val (.int (40 : Int32)), .val (.int (41 : Int32))] [(.int (own_aE v9_0 v9_1))])) _
        refine XS.iconst X66.here hx rfl (hb hby at_182) ?_
        show Steps p.tables e below (T66.setTop (mkF m 183 #[.val (.int p0), .val (.int p1), .val (.int p2), .val (.int p3), .val (.long q4), .second, .val (.ref b1), .val (.int v9_0), .val (.int v9_1), .val (.int v9_2), .val (.int v9_3), .val (.int v9_4), .val (.int v9_5), .val (.int v9_6), .val (.int v9_7), .val (.int (own_aE v9_0 v9_1)), .val (.int (40 : Int32)), .val (.int (41 : Int32))] [(.int (1 : Int32)), (.int (own_aE v9_0 v9_1))])) _
        refine XS.iadd X66.here hx rfl (hb hby at_183) rfl ?_
        show Steps p.tables e below (T66.setTop (mkF m 184 #[.val (.int p0), .val (.int p1), .val (.int p2), .val (.int p3), .val (.long q4), .second, .val (.ref b1), .val (.int v9_0), .val (.int v9_1), .val (.int v9_2), .val (.int v9_3), .val (.int v9_4), .val (.int v9_5), .val (.int v9_6), .val (.int v9_7), .val (.int (own_aE v9_0 v9_1)), .val (.int (40 : Int32)), .val (.int (41 : Int32))] [(.int ((own_aE v9_0 v9_1) + (1 : Int32)))])) _
        refine XS.istore X66.here hx rfl (hb hby at_184) rfl (l' := #[.val (.int p0), .val (.int p1), .val (.int p2), .val (.int p3), .val (.long q4), .second, .val (.ref b1), .val (.int v9_0), .val (.int v9_1), .val (.int v9_2), .val (.int v9_3), .val (.int v9_4), .val (.int v9_5), .val (.int v9_6), .val (.int v9_7), .val (.int ((own_aE v9_0 v9_1) + (1 : Int32))), .val (.int (40 : Int32)), .val (.int (41 : Int32))]) rfl ?_
        show Steps p.tables e below (T66.setTop (mkF m 186 #[.val (.int p0), .val (.int p1), .val (.int p2), .val (.int p3), .val (.long q4), .second, .val (.ref b1), .val (.int v9_0), .val (.int v9_1), .val (.int v9_2), .val (.int v9_3), .val (.int v9_4), .val (.int v9_5), .val (.int v9_6), .val (.int v9_7), .val (.int ((own_aE v9_0 v9_1) + (1 : Int32))), .val (.int (40 : Int32)), .val (.int (41 : Int32))] [])) _
        refine XS.iload X66.here hx rfl (hb hby at_186) rfl ?_
        exact k)
      by_cases hc188_68 : (0 : Int32) < v9_3
      · obtain ⟨_, _, ⟨T69, L69, k69, n69⟩, -, X69, ⟨Lc69, hQ69, l69, y69, z69⟩, st69⟩ := Jvm.LawKit.callS X66 hx (y := (⟨"com/example/sensor_access_indicators/sensoraccessindicators/dbus/MarshallingTypeEndPinLaw", "field", "([CIIII)I"⟩ : MethodName)) hown (mvT hZ (hw _ (List.mem_of_getElem? (i := 65) rfl))) (mvT hZ (hw _ (List.mem_of_getElem? (i := 66) rfl))) (mvT hZ (hw _ (List.mem_of_getElem? (i := 4) rfl))) (mvT hZ (hw _ (List.mem_of_getElem? (i := 67) rfl))) (by decide) (backOf (W := 0) (rm15 l Z a0 hw [] b1 ((own_aE v9_0 v9_1) + (1 : Int32)) v9_4 v9_5 p2 (own_wr (own_aL ls v9_0 v9_1) (own_aE v9_0 v9_1) (40 : Int32)) k1 h66 n0 (Nat.le_trans (Nat.le_trans (Nat.le_trans (Nat.le_trans (Nat.le_trans (Nat.le_trans Z0 E1.1) (Keep.of_wr W3).1) (Keep.of_wr W5).1) (Keep.of_wr W7).1) K11.1) (Keep.of_wr W66).1) V66 g_b1 (own_by_wr (own_pos hls hst hk).1 (by decide)) (own_pos2 hls hst hk).2 hj1) hZ (hw _ (List.mem_of_getElem? (i := 67) rfl)) (hw _ (List.mem_of_getElem? (i := 4) rfl)) (by decide) (by decide)) (g := (mkF m 200 #[.val (.int p0), .val (.int p1), .val (.int p2), .val (.int p3), .val (.long q4), .second, .val (.ref b1), .val (.int v9_0), .val (.int v9_1), .val (.int v9_2), .val (.int v9_3), .val (.int v9_4), .val (.int v9_5), .val (.int v9_6), .val (.int v9_7), .val (.int ((own_aE v9_0 v9_1) + (1 : Int32))), .val (.int (40 : Int32)), .val (.int (41 : Int32))] [(.int p2), (.int v9_5), (.int v9_4), (.int ((own_aE v9_0 v9_1) + (1 : Int32))), (.ref b1)])) rfl (by rw [hml]; rfl) (argsL := [(.ref b1), (.int ((own_aE v9_0 v9_1) + (1 : Int32))), (.int v9_4), (.int v9_5), (.int p2)]) (rest := []) (lenOf pd_8 rfl) rfl (by show 2 * 0 + _ ≤ _; exact Nat.le_of_eq rfl) (hb hby at_200) (fun _ _ => ⟨rfl, e66, (by decide : 1 + 0 ≤ _), (by decide : 24 + 0 ≤ _)⟩)
        dsimp only [Pt.U, Pt.locs, Pt.cells, Pt.slots] at X69 l69 y69 z69 st69 hQ69
        subst l69 y69 z69
        obtain ⟨ls69, en69, rfl, N69q, K69, VV69, fr69⟩ := hQ69
        have N69 := Fr.app N66 N69q
        have KK69 : Keep h0 T69.heap [] := KK66.trans K69 (allS (Or.inr sz_b1) all0)
        have pre70 : ∀ t, Steps p.tables e below (T69.setTop (mkF m 208 #[.val (.int p0), .val (.int p1), .val (.int p2), .val (.int p3), .val (.long q4), .second, .val (.ref b1), .val (.int v9_0), .val (.int v9_1), .val (.int v9_2), .val (.int v9_3), .val (.int v9_4), .val (.int v9_5), .val (.int v9_6), .val (.int v9_7), .val (.int en69), .val (.int (40 : Int32)), .val (.int (41 : Int32))] [(.int (1 : Int32)), (.int v9_3)])) t → Steps p.tables e below (s₁.setTop (entryFrame m #[(.int p0), (.int p1), (.int p2), (.int p3), (.long q4)] maxLocals)) t := fun t k => pre67 t (by
          show Steps p.tables e below (T66.setTop (mkF m 188 #[.val (.int p0), .val (.int p1), .val (.int p2), .val (.int p3), .val (.long q4), .second, .val (.ref b1), .val (.int v9_0), .val (.int v9_1), .val (.int v9_2), .val (.int v9_3), .val (.int v9_4), .val (.int v9_5), .val (.int v9_6), .val (.int v9_7), .val (.int ((own_aE v9_0 v9_1) + (1 : Int32))), .val (.int (40 : Int32)), .val (.int (41 : Int32))] [(.int v9_3)])) _
          refine XS.ifNo X66.here hx rfl (hb hby at_188) rfl ((if0 _ _).trans (tlt hc188_68).2.2.2) ?_
          show Steps p.tables e below (T66.setTop (mkF m 191 #[.val (.int p0), .val (.int p1), .val (.int p2), .val (.int p3), .val (.long q4), .second, .val (.ref b1), .val (.int v9_0), .val (.int v9_1), .val (.int v9_2), .val (.int v9_3), .val (.int v9_4), .val (.int v9_5), .val (.int v9_6), .val (.int v9_7), .val (.int ((own_aE v9_0 v9_1) + (1 : Int32))), .val (.int (40 : Int32)), .val (.int (41 : Int32))] [])) _
          refine XS.aload X66.here hx rfl (hb hby at_191) rfl rfl ?_
          show Steps p.tables e below (T66.setTop (mkF m 193 #[.val (.int p0), .val (.int p1), .val (.int p2), .val (.int p3), .val (.long q4), .second, .val (.ref b1), .val (.int v9_0), .val (.int v9_1), .val (.int v9_2), .val (.int v9_3), .val (.int v9_4), .val (.int v9_5), .val (.int v9_6), .val (.int v9_7), .val (.int ((own_aE v9_0 v9_1) + (1 : Int32))), .val (.int (40 : Int32)), .val (.int (41 : Int32))] [(.ref b1)])) _
          refine XS.iload X66.here hx rfl (hb hby at_193) rfl ?_
          show Steps p.tables e below (T66.setTop (mkF m 195 #[.val (.int p0), .val (.int p1), .val (.int p2), .val (.int p3), .val (.long q4), .second, .val (.ref b1), .val (.int v9_0), .val (.int v9_1), .val (.int v9_2), .val (.int v9_3), .val (.int v9_4), .val (.int v9_5), .val (.int v9_6), .val (.int v9_7), .val (.int ((own_aE v9_0 v9_1) + (1 : Int32))), .val (.int (40 : Int32)), .val (.int (41 : Int32))] [(.int ((own_aE v9_0 v9_1) + (1 : Int32))), (.ref b1)])) _
          refine XS.iload X66.here hx rfl (hb hby at_195) rfl ?_
          show Steps p.tables e below (T66.setTop (mkF m 197 #[.val (.int p0), .val (.int p1), .val (.int p2), .val (.int p3), .val (.long q4), .second, .val (.ref b1), .val (.int v9_0), .val (.int v9_1), .val (.int v9_2), .val (.int v9_3), .val (.int v9_4), .val (.int v9_5), .val (.int v9_6), .val (.int v9_7), .val (.int ((own_aE v9_0 v9_1) + (1 : Int32))), .val (.int (40 : Int32)), .val (.int (41 : Int32))] [(.int v9_4), (.int ((own_aE v9_0 v9_1) + (1 : Int32))), (.ref b1)])) _
          refine XS.iload X66.here hx rfl (hb hby at_197) rfl ?_
          show Steps p.tables e below (T66.setTop (mkF m 199 #[.val (.int p0), .val (.int p1), .val (.int p2), .val (.int p3), .val (.long q4), .second, .val (.ref b1), .val (.int v9_0), .val (.int v9_1), .val (.int v9_2), .val (.int v9_3), .val (.int v9_4), .val (.int v9_5), .val (.int v9_6), .val (.int v9_7), .val (.int ((own_aE v9_0 v9_1) + (1 : Int32))), .val (.int (40 : Int32)), .val (.int (41 : Int32))] [(.int v9_5), (.int v9_4), (.int ((own_aE v9_0 v9_1) + (1 : Int32))), (.ref b1)])) _
          refine XS.iloadN X66.here hx rfl (hb hby at_199) rfl ?_
          show Steps p.tables e below (T66.setTop (mkF m 200 #[.val (.int p0), .val (.int p1), .val (.int p2), .val (.int p3), .val (.long q4), .second, .val (.ref b1), .val (.int v9_0), .val (.int v9_1), .val (.int v9_2), .val (.int v9_3), .val (.int v9_4), .val (.int v9_5), .val (.int v9_6), .val (.int v9_7), .val (.int ((own_aE v9_0 v9_1) + (1 : Int32))), .val (.int (40 : Int32)), .val (.int (41 : Int32))] [(.int p2), (.int v9_5), (.int v9_4), (.int ((own_aE v9_0 v9_1) + (1 : Int32))), (.ref b1)])) _
          refine st69 _ ?_
          show Steps p.tables e below (T69.setTop (mkF m 203 #[.val (.int p0), .val (.int p1), .val (.int p2), .val (.int p3), .val (.long q4), .second, .val (.ref b1), .val (.int v9_0), .val (.int v9_1), .val (.int v9_2), .val (.int v9_3), .val (.int v9_4), .val (.int v9_5), .val (.int v9_6), .val (.int v9_7), .val (.int ((own_aE v9_0 v9_1) + (1 : Int32))), .val (.int (40 : Int32)), .val (.int (41 : Int32))] [(.int en69)])) _
          refine XS.istore X69.here hx rfl (hb hby at_203) rfl (l' := #[.val (.int p0), .val (.int p1), .val (.int p2), .val (.int p3), .val (.long q4), .second, .val (.ref b1), .val (.int v9_0), .val (.int v9_1), .val (.int v9_2), .val (.int v9_3), .val (.int v9_4), .val (.int v9_5), .val (.int v9_6), .val (.int v9_7), .val (.int en69), .val (.int (40 : Int32)), .val (.int (41 : Int32))]) rfl ?_
          show Steps p.tables e below (T69.setTop (mkF m 205 #[.val (.int p0), .val (.int p1), .val (.int p2), .val (.int p3), .val (.long q4), .second, .val (.ref b1), .val (.int v9_0), .val (.int v9_1), .val (.int v9_2), .val (.int v9_3), .val (.int v9_4), .val (.int v9_5), .val (.int v9_6), .val (.int v9_7), .val (.int en69), .val (.int (40 : Int32)), .val (.int (41 : Int32))] [])) _
          refine XS.iload X69.here hx rfl (hb hby at_205) rfl ?_
          show Steps p.tables e below (T69.setTop (mkF m 207 #[.val (.int p0), .val (.int p1), .val (.int p2), .val (.int p3), .val (.long q4), .second, .val (.ref b1), .val (.int v9_0), .val (.int v9_1), .val (.int v9_2), .val (.int v9_3), .val (.int v9_4), .val (.int v9_5), .val (.int v9_6), .val (.int v9_7), .val (.int en69), .val (.int (40 : Int32)), .val (.int (41 : Int32))] [(.int v9_3)])) _
          refine XS.iconst X69.here hx rfl (hb hby at_207) ?_
          exact k)
        by_cases hc208_71 : (1 : Int32) < v9_3
        · obtain ⟨_, _, ⟨T72, L72, k72, n72⟩, -, X72, ⟨Lc72, hQ72, l72, y72, z72⟩, st72⟩ := Jvm.LawKit.callS X69 hx (y := (⟨"com/example/sensor_access_indicators/sensoraccessindicators/dbus/MarshallingTypeEndPinLaw", "field", "([CIIII)I"⟩ : MethodName)) hown (mvT hZ (hw _ (List.mem_of_getElem? (i := 65) rfl))) (mvT hZ (hw _ (List.mem_of_getElem? (i := 66) rfl))) (mvT hZ (hw _ (List.mem_of_getElem? (i := 4) rfl))) (mvT hZ (hw _ (List.mem_of_getElem? (i := 67) rfl))) (by decide) (backOf (W := 0) (rm15 l Z a0 hw [] b1 en69 v9_6 v9_7 p3 ls69 k1 T69.heap n0 (Nat.le_trans (Nat.le_trans (Nat.le_trans (Nat.le_trans (Nat.le_trans (Nat.le_trans (Nat.le_trans Z0 E1.1) (Keep.of_wr W3).1) (Keep.of_wr W5).1) (Keep.of_wr W7).1) K11.1) (Keep.of_wr W66).1) K69.1) VV69 g_b1 fr69.1 ⟨(own_n1p hls hst hk fr69).1.1, by have := (own_n1p hls hst hk fr69).1.2; omega⟩ hj2) hZ (hw _ (List.mem_of_getElem? (i := 67) rfl)) (hw _ (List.mem_of_getElem? (i := 4) rfl)) (by decide) (by decide)) (g := (mkF m 220 #[.val (.int p0), .val (.int p1), .val (.int p2), .val (.int p3), .val (.long q4), .second, .val (.ref b1), .val (.int v9_0), .val (.int v9_1), .val (.int v9_2), .val (.int v9_3), .val (.int v9_4), .val (.int v9_5), .val (.int v9_6), .val (.int v9_7), .val (.int en69), .val (.int (40 : Int32)), .val (.int (41 : Int32))] [(.int p3), (.int v9_7), (.int v9_6), (.int en69), (.ref b1)])) rfl (by rw [hml]; rfl) (argsL := [(.ref b1), (.int en69), (.int v9_6), (.int v9_7), (.int p3)]) (rest := []) (lenOf pd_8 rfl) rfl (by show 2 * 0 + _ ≤ _; exact Nat.le_of_eq rfl) (hb hby at_220) (fun _ _ => ⟨rfl, rfl, (by decide : 1 + 0 ≤ _), (by decide : 24 + 0 ≤ _)⟩)
          dsimp only [Pt.U, Pt.locs, Pt.cells, Pt.slots] at X72 l72 y72 z72 st72 hQ72
          subst l72 y72 z72
          obtain ⟨ls72, en72, rfl, N72q, K72, VV72, fr72⟩ := hQ72
          have N72 := Fr.app N69 N72q
          have KK72 : Keep h0 T72.heap [] := KK69.trans K72 (allS (Or.inr sz_b1) all0)
          obtain ⟨c73, Ar73, hin73, -⟩ := own_read VV72 (own_n2p (own_n1p hls hst hk fr69).1 fr72).1
          obtain ⟨T74, h74, X74, e74, W74, st74⟩ := stC X72 hx hZ rfl Ar73 (j := en72) hin73 (g := (mkF m 231 #[.val (.int p0), .val (.int p1), .val (.int p2), .val (.int p3), .val (.long q4), .second, .val (.ref b1), .val (.int v9_0), .val (.int v9_1), .val (.int v9_2), .val (.int v9_3), .val (.int v9_4), .val (.int v9_5), .val (.int v9_6), .val (.int v9_7), .val (.int en72), .val (.int (40 : Int32)), .val (.int (41 : Int32))] [(.int (41 : Int32)), (.int en72), (.ref b1)])) rfl rfl (hb hby at_231)
          have V74 : own_A Z h74 b1 k1 .char (24 : Int32) (own_wr ls72 en72 (41 : Int32)) := own_writeC VV72 (own_n2p (own_n1p hls hst hk fr69).1 fr72).1 (by decide) W74
          have KK74 : Keep h0 h74 [] := KK72.wr W74 (Or.inr sz_b1)
          have N74 := Fr.snoc X74 N72 g_b1
          obtain ⟨c75, Ar75, hin75, -⟩ := own_read V74 (own_n2p (own_n1p hls hst hk fr69).1 fr72).2
          obtain ⟨T76, h76, X76, e76, W76, st76⟩ := stC X74 hx hZ e74 Ar75 (j := (en72 + (1 : Int32))) hin75 (g := (mkF m 257 #[.val (.int p0), .val (.int p1), .val (.int p2), .val (.int p3), .val (.long q4), .second, .val (.ref b1), .val (.int v9_0), .val (.int v9_1), .val (.int v9_2), .val (.int v9_3), .val (.int v9_4), .val (.int v9_5), .val (.int v9_6), .val (.int v9_7), .val (.int (en72 + (1 : Int32))), .val (.int (en72 + (1 : Int32))), .val (.int (41 : Int32))] [(.int (((((q4.toUInt64 >>> ((24 : Int32) &&& 0x3f).toInt64.toUInt64).toInt64) &&& (255 : Int64)).toInt32).toUInt32.toUInt16.toUInt32.toInt32)), (.int (en72 + (1 : Int32))), (.ref b1)])) rfl rfl (hb hby at_257)
          have V76 : own_A Z h76 b1 k1 .char (24 : Int32) (own_wr (own_wr ls72 en72 (41 : Int32)) (en72 + (1 : Int32)) (((((q4.toUInt64 >>> ((24 : Int32) &&& 0x3f).toInt64.toUInt64).toInt64) &&& (255 : Int64)).toInt32).toUInt32.toUInt16.toUInt32.toInt32)) := own_writeC V74 (own_n2p (own_n1p hls hst hk fr69).1 fr72).2 (own_lb _) W76
          have KK76 : Keep h0 h76 [] := KK74.wr W76 (Or.inr sz_b1)
          have N76 := Fr.snoc X76 N74 g_b1
          have pre77 : ∀ t, Steps p.tables e below (T76.setTop (mkF m 258 #[.val (.int p0), .val (.int p1), .val (.int p2), .val (.int p3), .val (.long q4), .second, .val (.ref b1), .val (.int v9_0), .val (.int v9_1), .val (.int v9_2), .val (.int v9_3), .val (.int v9_4), .val (.int v9_5), .val (.int v9_6), .val (.int v9_7), .val (.int (en72 + (1 : Int32))), .val (.int (en72 + (1 : Int32))), .val (.int (41 : Int32))] [])) t → Steps p.tables e below (s₁.setTop (entryFrame m #[(.int p0), (.int p1), (.int p2), (.int p3), (.long q4)] maxLocals)) t := fun t k => pre70 t (by
            show Steps p.tables e below (T69.setTop (mkF m 208 #[.val (.int p0), .val (.int p1), .val (.int p2), .val (.int p3), .val (.long q4), .second, .val (.ref b1), .val (.int v9_0), .val (.int v9_1), .val (.int v9_2), .val (.int v9_3), .val (.int v9_4), .val (.int v9_5), .val (.int v9_6), .val (.int v9_7), .val (.int en69), .val (.int (40 : Int32)), .val (.int (41 : Int32))] [(.int (1 : Int32)), (.int v9_3)])) _
            refine XS.icmpNo X69.here hx rfl (hb hby at_208) rfl (tlt hc208_71).2.2.2 ?_
            show Steps p.tables e below (T69.setTop (mkF m 211 #[.val (.int p0), .val (.int p1), .val (.int p2), .val (.int p3), .val (.long q4), .second, .val (.ref b1), .val (.int v9_0), .val (.int v9_1), .val (.int v9_2), .val (.int v9_3), .val (.int v9_4), .val (.int v9_5), .val (.int v9_6), .val (.int v9_7), .val (.int en69), .val (.int (40 : Int32)), .val (.int (41 : Int32))] [])) _
            refine XS.aload X69.here hx rfl (hb hby at_211) rfl rfl ?_
            show Steps p.tables e below (T69.setTop (mkF m 213 #[.val (.int p0), .val (.int p1), .val (.int p2), .val (.int p3), .val (.long q4), .second, .val (.ref b1), .val (.int v9_0), .val (.int v9_1), .val (.int v9_2), .val (.int v9_3), .val (.int v9_4), .val (.int v9_5), .val (.int v9_6), .val (.int v9_7), .val (.int en69), .val (.int (40 : Int32)), .val (.int (41 : Int32))] [(.ref b1)])) _
            refine XS.iload X69.here hx rfl (hb hby at_213) rfl ?_
            show Steps p.tables e below (T69.setTop (mkF m 215 #[.val (.int p0), .val (.int p1), .val (.int p2), .val (.int p3), .val (.long q4), .second, .val (.ref b1), .val (.int v9_0), .val (.int v9_1), .val (.int v9_2), .val (.int v9_3), .val (.int v9_4), .val (.int v9_5), .val (.int v9_6), .val (.int v9_7), .val (.int en69), .val (.int (40 : Int32)), .val (.int (41 : Int32))] [(.int en69), (.ref b1)])) _
            refine XS.iload X69.here hx rfl (hb hby at_215) rfl ?_
            show Steps p.tables e below (T69.setTop (mkF m 217 #[.val (.int p0), .val (.int p1), .val (.int p2), .val (.int p3), .val (.long q4), .second, .val (.ref b1), .val (.int v9_0), .val (.int v9_1), .val (.int v9_2), .val (.int v9_3), .val (.int v9_4), .val (.int v9_5), .val (.int v9_6), .val (.int v9_7), .val (.int en69), .val (.int (40 : Int32)), .val (.int (41 : Int32))] [(.int v9_6), (.int en69), (.ref b1)])) _
            refine XS.iload X69.here hx rfl (hb hby at_217) rfl ?_
            show Steps p.tables e below (T69.setTop (mkF m 219 #[.val (.int p0), .val (.int p1), .val (.int p2), .val (.int p3), .val (.long q4), .second, .val (.ref b1), .val (.int v9_0), .val (.int v9_1), .val (.int v9_2), .val (.int v9_3), .val (.int v9_4), .val (.int v9_5), .val (.int v9_6), .val (.int v9_7), .val (.int en69), .val (.int (40 : Int32)), .val (.int (41 : Int32))] [(.int v9_7), (.int v9_6), (.int en69), (.ref b1)])) _
            refine XS.iloadN X69.here hx rfl (hb hby at_219) rfl ?_
            show Steps p.tables e below (T69.setTop (mkF m 220 #[.val (.int p0), .val (.int p1), .val (.int p2), .val (.int p3), .val (.long q4), .second, .val (.ref b1), .val (.int v9_0), .val (.int v9_1), .val (.int v9_2), .val (.int v9_3), .val (.int v9_4), .val (.int v9_5), .val (.int v9_6), .val (.int v9_7), .val (.int en69), .val (.int (40 : Int32)), .val (.int (41 : Int32))] [(.int p3), (.int v9_7), (.int v9_6), (.int en69), (.ref b1)])) _
            refine st72 _ ?_
            show Steps p.tables e below (T72.setTop (mkF m 223 #[.val (.int p0), .val (.int p1), .val (.int p2), .val (.int p3), .val (.long q4), .second, .val (.ref b1), .val (.int v9_0), .val (.int v9_1), .val (.int v9_2), .val (.int v9_3), .val (.int v9_4), .val (.int v9_5), .val (.int v9_6), .val (.int v9_7), .val (.int en69), .val (.int (40 : Int32)), .val (.int (41 : Int32))] [(.int en72)])) _
            refine XS.istore X72.here hx rfl (hb hby at_223) rfl (l' := #[.val (.int p0), .val (.int p1), .val (.int p2), .val (.int p3), .val (.long q4), .second, .val (.ref b1), .val (.int v9_0), .val (.int v9_1), .val (.int v9_2), .val (.int v9_3), .val (.int v9_4), .val (.int v9_5), .val (.int v9_6), .val (.int v9_7), .val (.int en72), .val (.int (40 : Int32)), .val (.int (41 : Int32))]) rfl ?_
            show Steps p.tables e below (T72.setTop (mkF m 225 #[.val (.int p0), .val (.int p1), .val (.int p2), .val (.int p3), .val (.long q4), .second, .val (.ref b1), .val (.int v9_0), .val (.int v9_1), .val (.int v9_2), .val (.int v9_3), .val (.int v9_4), .val (.int v9_5), .val (.int v9_6), .val (.int v9_7), .val (.int en72), .val (.int (40 : Int32)), .val (.int (41 : Int32))] [])) _
            refine XS.aload X72.here hx rfl (hb hby at_225) rfl rfl ?_
            show Steps p.tables e below (T72.setTop (mkF m 227 #[.val (.int p0), .val (.int p1), .val (.int p2), .val (.int p3), .val (.long q4), .second, .val (.ref b1), .val (.int v9_0), .val (.int v9_1), .val (.int v9_2), .val (.int v9_3), .val (.int v9_4), .val (.int v9_5), .val (.int v9_6), .val (.int v9_7), .val (.int en72), .val (.int (40 : Int32)), .val (.int (41 : Int32))] [(.ref b1)])) _
            refine XS.iload X72.here hx rfl (hb hby at_227) rfl ?_
            show Steps p.tables e below (T72.setTop (mkF m 229 #[.val (.int p0), .val (.int p1), .val (.int p2), .val (.int p3), .val (.long q4), .second, .val (.ref b1), .val (.int v9_0), .val (.int v9_1), .val (.int v9_2), .val (.int v9_3), .val (.int v9_4), .val (.int v9_5), .val (.int v9_6), .val (.int v9_7), .val (.int en72), .val (.int (40 : Int32)), .val (.int (41 : Int32))] [(.int en72), (.ref b1)])) _
            refine XS.iload X72.here hx rfl (hb hby at_229) rfl ?_
            show Steps p.tables e below (T72.setTop (mkF m 231 #[.val (.int p0), .val (.int p1), .val (.int p2), .val (.int p3), .val (.long q4), .second, .val (.ref b1), .val (.int v9_0), .val (.int v9_1), .val (.int v9_2), .val (.int v9_3), .val (.int v9_4), .val (.int v9_5), .val (.int v9_6), .val (.int v9_7), .val (.int en72), .val (.int (40 : Int32)), .val (.int (41 : Int32))] [(.int (41 : Int32)), (.int en72), (.ref b1)])) _
            refine st74 _ ?_
            show Steps p.tables e below (T74.setTop (mkF m 232 #[.val (.int p0), .val (.int p1), .val (.int p2), .val (.int p3), .val (.long q4), .second, .val (.ref b1), .val (.int v9_0), .val (.int v9_1), .val (.int v9_2), .val (.int v9_3), .val (.int v9_4), .val (.int v9_5), .val (.int v9_6), .val (.int v9_7), .val (.int en72), .val (.int (40 : Int32)), .val (.int (41 : Int32))] [])) _
            refine XS.iload X74.here hx rfl (hb hby at_232) rfl ?_
            show Steps p.tables e below (T74.setTop (mkF m 234 #[.val (.int p0), .val (.int p1), .val (.int p2), .val (.int p3), .val (.long q4), .second, .val (.ref b1), .val (.int v9_0), .val (.int v9_1), .val (.int v9_2), .val (.int v9_3), .val (.int v9_4), .val (.int v9_5), .val (.int v9_6), .val (.int v9_7), .val (.int en72), .val (.int (40 : Int32)), .val (.int (41 : Int32))] [(.int en72)])) _
            refine XS.iconst X74.here hx rfl (hb hby at_234) ?_
            show Steps p.tables e below (T74.setTop (mkF m 235 #[.val (.int p0), .val (.int p1), .val (.int p2), .val (.int p3), .val (.long q4), .second, .val (.ref b1), .val (.int v9_0), .val (.int v9_1), .val (.int v9_2), .val (.int v9_3), .val (.int v9_4), .val (.int v9_5), .val (.int v9_6), .val (.int v9_7), .val (.int en72), .val (.int (40 : Int32)), .val (.int (41 : Int32))] [(.int (1 : Int32)), (.int en72)])) _
            refine XS.iadd X74.here hx rfl (hb hby at_235) rfl ?_
            show Steps p.tables e below (T74.setTop (mkF m 236 #[.val (.int p0), .val (.int p1), .val (.int p2), .val (.int p3), .val (.long q4), .second, .val (.ref b1), .val (.int v9_0), .val (.int v9_1), .val (.int v9_2), .val (.int v9_3), .val (.int v9_4), .val (.int v9_5), .val (.int v9_6), .val (.int v9_7), .val (.int en72), .val (.int (40 : Int32)), .val (.int (41 : Int32))] [(.int (en72 + (1 : Int32)))])) _
            refine XS.istore X74.here hx rfl (hb hby at_236) rfl (l' := #[.val (.int p0), .val (.int p1), .val (.int p2), .val (.int p3), .val (.long q4), .second, .val (.ref b1), .val (.int v9_0), .val (.int v9_1), .val (.int v9_2), .val (.int v9_3), .val (.int v9_4), .val (.int v9_5), .val (.int v9_6), .val (.int v9_7), .val (.int (en72 + (1 : Int32))), .val (.int (40 : Int32)), .val (.int (41 : Int32))]) rfl ?_
            show Steps p.tables e below (T74.setTop (mkF m 238 #[.val (.int p0), .val (.int p1), .val (.int p2), .val (.int p3), .val (.long q4), .second, .val (.ref b1), .val (.int v9_0), .val (.int v9_1), .val (.int v9_2), .val (.int v9_3), .val (.int v9_4), .val (.int v9_5), .val (.int v9_6), .val (.int v9_7), .val (.int (en72 + (1 : Int32))), .val (.int (40 : Int32)), .val (.int (41 : Int32))] [])) _
            refine XS.iload X74.here hx rfl (hb hby at_238) rfl ?_
            show Steps p.tables e below (T74.setTop (mkF m 240 #[.val (.int p0), .val (.int p1), .val (.int p2), .val (.int p3), .val (.long q4), .second, .val (.ref b1), .val (.int v9_0), .val (.int v9_1), .val (.int v9_2), .val (.int v9_3), .val (.int v9_4), .val (.int v9_5), .val (.int v9_6), .val (.int v9_7), .val (.int (en72 + (1 : Int32))), .val (.int (40 : Int32)), .val (.int (41 : Int32))] [(.int (en72 + (1 : Int32)))])) _
            refine XS.istore X74.here hx rfl (hb hby at_240) rfl (l' := #[.val (.int p0), .val (.int p1), .val (.int p2), .val (.int p3), .val (.long q4), .second, .val (.ref b1), .val (.int v9_0), .val (.int v9_1), .val (.int v9_2), .val (.int v9_3), .val (.int v9_4), .val (.int v9_5), .val (.int v9_6), .val (.int v9_7), .val (.int (en72 + (1 : Int32))), .val (.int (en72 + (1 : Int32))), .val (.int (41 : Int32))]) rfl ?_
            show Steps p.tables e below (T74.setTop (mkF m 242 #[.val (.int p0), .val (.int p1), .val (.int p2), .val (.int p3), .val (.long q4), .second, .val (.ref b1), .val (.int v9_0), .val (.int v9_1), .val (.int v9_2), .val (.int v9_3), .val (.int v9_4), .val (.int v9_5), .val (.int v9_6), .val (.int v9_7), .val (.int (en72 + (1 : Int32))), .val (.int (en72 + (1 : Int32))), .val (.int (41 : Int32))] [])) _
            refine XS.aload X74.here hx rfl (hb hby at_242) rfl rfl ?_
            show Steps p.tables e below (T74.setTop (mkF m 244 #[.val (.int p0), .val (.int p1), .val (.int p2), .val (.int p3), .val (.long q4), .second, .val (.ref b1), .val (.int v9_0), .val (.int v9_1), .val (.int v9_2), .val (.int v9_3), .val (.int v9_4), .val (.int v9_5), .val (.int v9_6), .val (.int v9_7), .val (.int (en72 + (1 : Int32))), .val (.int (en72 + (1 : Int32))), .val (.int (41 : Int32))] [(.ref b1)])) _
            refine XS.iload X74.here hx rfl (hb hby at_244) rfl ?_
            show Steps p.tables e below (T74.setTop (mkF m 246 #[.val (.int p0), .val (.int p1), .val (.int p2), .val (.int p3), .val (.long q4), .second, .val (.ref b1), .val (.int v9_0), .val (.int v9_1), .val (.int v9_2), .val (.int v9_3), .val (.int v9_4), .val (.int v9_5), .val (.int v9_6), .val (.int v9_7), .val (.int (en72 + (1 : Int32))), .val (.int (en72 + (1 : Int32))), .val (.int (41 : Int32))] [(.int (en72 + (1 : Int32))), (.ref b1)])) _
            refine XS.lload X74.here hx rfl (hb hby at_246) rfl ?_
            show Steps p.tables e below (T74.setTop (mkF m 248 #[.val (.int p0), .val (.int p1), .val (.int p2), .val (.int p3), .val (.long q4), .second, .val (.ref b1), .val (.int v9_0), .val (.int v9_1), .val (.int v9_2), .val (.int v9_3), .val (.int v9_4), .val (.int v9_5), .val (.int v9_6), .val (.int v9_7), .val (.int (en72 + (1 : Int32))), .val (.int (en72 + (1 : Int32))), .val (.int (41 : Int32))] [(.long q4), (.int (en72 + (1 : Int32))), (.ref b1)])) _
            refine XS.bipush X74.here hx rfl (hb hby at_248) ?_
            show Steps p.tables e below (T74.setTop (mkF m 250 #[.val (.int p0), .val (.int p1), .val (.int p2), .val (.int p3), .val (.long q4), .second, .val (.ref b1), .val (.int v9_0), .val (.int v9_1), .val (.int v9_2), .val (.int v9_3), .val (.int v9_4), .val (.int v9_5), .val (.int v9_6), .val (.int v9_7), .val (.int (en72 + (1 : Int32))), .val (.int (en72 + (1 : Int32))), .val (.int (41 : Int32))] [(.int (24 : Int32)), (.long q4), (.int (en72 + (1 : Int32))), (.ref b1)])) _
            refine XS.lushr X74.here hx rfl (hb hby at_250) rfl ?_
            show Steps p.tables e below (T74.setTop (mkF m 251 #[.val (.int p0), .val (.int p1), .val (.int p2), .val (.int p3), .val (.long q4), .second, .val (.ref b1), .val (.int v9_0), .val (.int v9_1), .val (.int v9_2), .val (.int v9_3), .val (.int v9_4), .val (.int v9_5), .val (.int v9_6), .val (.int v9_7), .val (.int (en72 + (1 : Int32))), .val (.int (en72 + (1 : Int32))), .val (.int (41 : Int32))] [(.long ((q4.toUInt64 >>> ((24 : Int32) &&& 0x3f).toInt64.toUInt64).toInt64)), (.int (en72 + (1 : Int32))), (.ref b1)])) _
            refine X74.ldc2Long hx hown (mvT hZ (hw _ (List.mem_of_getElem? (i := 1) rfl))) (g := (mkF m 251 #[.val (.int p0), .val (.int p1), .val (.int p2), .val (.int p3), .val (.long q4), .second, .val (.ref b1), .val (.int v9_0), .val (.int v9_1), .val (.int v9_2), .val (.int v9_3), .val (.int v9_4), .val (.int v9_5), .val (.int v9_6), .val (.int v9_7), .val (.int (en72 + (1 : Int32))), .val (.int (en72 + (1 : Int32))), .val (.int (41 : Int32))] [(.long ((q4.toUInt64 >>> ((24 : Int32) &&& 0x3f).toInt64.toUInt64).toInt64)), (.int (en72 + (1 : Int32))), (.ref b1)])) rfl (hb hby at_251) _ ?_
            show Steps p.tables e below (T74.setTop (mkF m 254 #[.val (.int p0), .val (.int p1), .val (.int p2), .val (.int p3), .val (.long q4), .second, .val (.ref b1), .val (.int v9_0), .val (.int v9_1), .val (.int v9_2), .val (.int v9_3), .val (.int v9_4), .val (.int v9_5), .val (.int v9_6), .val (.int v9_7), .val (.int (en72 + (1 : Int32))), .val (.int (en72 + (1 : Int32))), .val (.int (41 : Int32))] [(.long (255 : Int64)), (.long ((q4.toUInt64 >>> ((24 : Int32) &&& 0x3f).toInt64.toUInt64).toInt64)), (.int (en72 + (1 : Int32))), (.ref b1)])) _
            refine XS.land X74.here hx rfl (hb hby at_254) rfl ?_
            show Steps p.tables e below (T74.setTop (mkF m 255 #[.val (.int p0), .val (.int p1), .val (.int p2), .val (.int p3), .val (.long q4), .second, .val (.ref b1), .val (.int v9_0), .val (.int v9_1), .val (.int v9_2), .val (.int v9_3), .val (.int v9_4), .val (.int v9_5), .val (.int v9_6), .val (.int v9_7), .val (.int (en72 + (1 : Int32))), .val (.int (en72 + (1 : Int32))), .val (.int (41 : Int32))] [(.long (((q4.toUInt64 >>> ((24 : Int32) &&& 0x3f).toInt64.toUInt64).toInt64) &&& (255 : Int64))), (.int (en72 + (1 : Int32))), (.ref b1)])) _
            refine XS.l2i X74.here hx rfl (hb hby at_255) rfl ?_
            show Steps p.tables e below (T74.setTop (mkF m 256 #[.val (.int p0), .val (.int p1), .val (.int p2), .val (.int p3), .val (.long q4), .second, .val (.ref b1), .val (.int v9_0), .val (.int v9_1), .val (.int v9_2), .val (.int v9_3), .val (.int v9_4), .val (.int v9_5), .val (.int v9_6), .val (.int v9_7), .val (.int (en72 + (1 : Int32))), .val (.int (en72 + (1 : Int32))), .val (.int (41 : Int32))] [(.int ((((q4.toUInt64 >>> ((24 : Int32) &&& 0x3f).toInt64.toUInt64).toInt64) &&& (255 : Int64)).toInt32)), (.int (en72 + (1 : Int32))), (.ref b1)])) _
            refine XS.i2c X74.here hx rfl (hb hby at_256) rfl ?_
            show Steps p.tables e below (T74.setTop (mkF m 257 #[.val (.int p0), .val (.int p1), .val (.int p2), .val (.int p3), .val (.long q4), .second, .val (.ref b1), .val (.int v9_0), .val (.int v9_1), .val (.int v9_2), .val (.int v9_3), .val (.int v9_4), .val (.int v9_5), .val (.int v9_6), .val (.int v9_7), .val (.int (en72 + (1 : Int32))), .val (.int (en72 + (1 : Int32))), .val (.int (41 : Int32))] [(.int (((((q4.toUInt64 >>> ((24 : Int32) &&& 0x3f).toInt64.toUInt64).toInt64) &&& (255 : Int64)).toInt32).toUInt32.toUInt16.toUInt32.toInt32)), (.int (en72 + (1 : Int32))), (.ref b1)])) _
            refine st76 _ ?_
            exact k)
          have hT78 : own_by (own_wr (own_wr ls72 en72 (41 : Int32)) (en72 + (1 : Int32)) (((((q4.toUInt64 >>> ((24 : Int32) &&& 0x3f).toInt64.toUInt64).toInt64) &&& (255 : Int64)).toInt32).toUInt32.toUInt16.toUInt32.toInt32)) ∧ own_ty (own_wr (own_wr ls72 en72 (41 : Int32)) (en72 + (1 : Int32)) (((((q4.toUInt64 >>> ((24 : Int32) &&& 0x3f).toInt64.toUInt64).toInt64) &&& (255 : Int64)).toInt32).toUInt32.toUInt16.toUInt32.toInt32)) 9 v9_0 (en72 + (1 : Int32)) := own_n2 hls hst hk (Or.inl ⟨rfl, rfl⟩) (own_lb _) fr69 fr72
          obtain ⟨T79, h79, X79, e79, E79, A79, D79, -, st79⟩ := newO X76 hx hZ hown (hw _ (List.mem_of_getElem? (i := 9) rfl)) (hw _ (List.mem_of_getElem? (i := 10) rfl)) (hw _ (List.mem_of_getElem? (i := 11) rfl)) e76 (g := (mkF m 258 #[.val (.int p0), .val (.int p1), .val (.int p2), .val (.int p3), .val (.long q4), .second, .val (.ref b1), .val (.int v9_0), .val (.int v9_1), .val (.int v9_2), .val (.int v9_3), .val (.int v9_4), .val (.int v9_5), .val (.int v9_6), .val (.int v9_7), .val (.int (en72 + (1 : Int32))), .val (.int (en72 + (1 : Int32))), .val (.int (41 : Int32))] [])) rfl (hb hby at_258) (by decide) (by decide)
          obtain ⟨b79, g79⟩ : ∃ z, z = h76.size := ⟨_, rfl⟩
          rw [← g79] at A79 D79 st79
          have F_coder_b79 : Fld Z h79 b79 "java/lang/String" "coder" "B" (.int (0 : Int32)) := D79 (Or.inr (hw _ (List.mem_of_getElem? (i := 35) rfl))) (ty := .byte) (by decide)
          have F_value_b79 : Fld Z h79 b79 "java/lang/String" "value" "[B" .null := D79 (Or.inr (hw _ (List.mem_of_getElem? (i := 37) rfl))) (ty := (.array .byte)) (by decide)
          have g_b79 : n0 ≤ b79 := Nat.le_trans (Nat.le_trans (Nat.le_trans (Nat.le_trans (Nat.le_trans (Nat.le_trans (Nat.le_trans (Nat.le_trans (Nat.le_trans (Nat.le_trans (Nat.le_trans Z0 E1.1) (Keep.of_wr W3).1) (Keep.of_wr W5).1) (Keep.of_wr W7).1) K11.1) (Keep.of_wr W66).1) K69.1) K72.1) (Keep.of_wr W74).1) (Keep.of_wr W76).1) (Nat.le_of_eq g79.symm)
          have sz_b79 : h0.size ≤ b79 := Nat.le_trans KK76.1 (Nat.le_of_eq g79.symm)
          have KK79 : Keep h0 h79 [] := KK76.ext E79
          obtain ⟨_, _, ⟨T80, L80, k80, n80⟩, -, X80, ⟨Lc80, hQ80, l80, y80, z80⟩, st80⟩ := X79.specialBack hx (y := (⟨"java/lang/String", "<init>", "([C)V"⟩ : MethodName)) rfl hown (mvT hZ (hw _ (List.mem_of_getElem? (i := 12) rfl))) (mvT hZ (hw _ (List.mem_of_getElem? (i := 13) rfl))) (mvT hZ (hw _ (List.mem_of_getElem? (i := 14) rfl))) (by decide) (StrChars.Road.backV (W := 1) hZ (fun d hd => hw d ((by decide +kernel : ∀ d ∈ StrChars.Road.words, d ∈ tables_1) d hd)) (hw _ (List.mem_of_getElem? (i := 10) rfl)) (cs := (own_wr (own_wr ls72 en72 (41 : Int32)) (en72 + (1 : Int32)) (((((q4.toUInt64 >>> ((24 : Int32) &&& 0x3f).toInt64.toUInt64).toInt64) &&& (255 : Int64)).toInt32).toUInt32.toUInt16.toUInt32.toInt32))) (bs := (own_wr (own_wr ls72 en72 (41 : Int32)) (en72 + (1 : Int32)) (((((q4.toUInt64 >>> ((24 : Int32) &&& 0x3f).toInt64.toUInt64).toInt64) &&& (255 : Int64)).toInt32).toUInt32.toUInt16.toUInt32.toInt32)).map (fun c => c.toInt8.toInt32)) (n := 24) g_b79 (Nat.le_trans (Nat.le_trans (Nat.le_trans (Nat.le_trans (Nat.le_trans (Nat.le_trans (Nat.le_trans (Nat.le_trans (Nat.le_trans (Nat.le_trans (Nat.le_trans Z0 E1.1) (Keep.of_wr W3).1) (Keep.of_wr W5).1) (Keep.of_wr W7).1) K11.1) (Keep.of_wr W66).1) K69.1) K72.1) (Keep.of_wr W74).1) (Keep.of_wr W76).1) E79.1) A79 F_value_b79 F_coder_b79 (V76.ext E79).2 (Sta.ext (((((((((((O0.ext E1).wr W3 g_b1).wr W5 g_b1).wr W7 g_b1).keep K11 (allS g_b1 all0)).wr W66 g_b1).keep K69 (allS g_b1 all0)).keep K72 (allS g_b1 all0)).wr W74 g_b1).wr W76 g_b1).ext E79).2 S_C) hC hT78.1.1 rfl (by decide) (by decide) hT78.1.2 rfl (by decide) (by decide)) (g := (mkF m 264 #[.val (.int p0), .val (.int p1), .val (.int p2), .val (.int p3), .val (.long q4), .second, .val (.ref b1), .val (.int v9_0), .val (.int v9_1), .val (.int v9_2), .val (.int v9_3), .val (.int v9_4), .val (.int v9_5), .val (.int v9_6), .val (.int v9_7), .val (.int (en72 + (1 : Int32))), .val (.int (en72 + (1 : Int32))), .val (.int (41 : Int32))] [(.ref b1), (.ref b79), (.ref b79)])) rfl (by rw [hml]; rfl) (Steps.refl _) (a := b79) (argsL := [(.ref b1)]) (rest := [(.ref b79)]) (lenOf pd_7 rfl) rfl (by show 2 * 0 + _ ≤ _; exact Nat.le_of_eq rfl) (hb hby at_264) (fun _ _ => ⟨rfl, e79, (by decide : 2 + 1 ≤ _), (by decide : 28 + 24 ≤ _)⟩)
          dsimp only [Pt.U, Pt.locs, Pt.cells, Pt.slots] at X80 l80 y80 z80 st80 hQ80
          subst l80 y80 z80
          obtain ⟨rfl, N80q, K80, EX80, FC80, t80, kb80, g_t80, szt80, -, FV80, AV80⟩ := hQ80
          have N80 := Fr.app N76 N80q
          have V_t80 : own_A Z T80.heap t80 kb80 .byte (24 : Int32) ((own_wr (own_wr ls72 en72 (41 : Int32)) (en72 + (1 : Int32)) (((((q4.toUInt64 >>> ((24 : Int32) &&& 0x3f).toInt64.toUInt64).toInt64) &&& (255 : Int64)).toInt32).toUInt32.toUInt16.toUInt32.toInt32)).map (fun c => c.toInt8.toInt32)) := ⟨List.length_map _ |>.trans hT78.1.1, AV80⟩
          obtain ⟨_, _, ⟨T81, L81, k81, n81⟩, -, X81, ⟨Lc81, hQ81, l81, y81, z81⟩, st81⟩ := Jvm.LawKit.callS X80 hx (y := (⟨"com/example/sensor_access_indicators/sensoraccessindicators/dbus/Marshalling", "typeEnd", "(Ljava/lang/String;I)I"⟩ : MethodName)) hown (mvT hZ (hw _ (List.mem_of_getElem? (i := 38) rfl))) (mvT hZ (hw _ (List.mem_of_getElem? (i := 39) rfl))) (mvT hZ (hw _ (List.mem_of_getElem? (i := 40) rfl))) (mvT hZ (hw _ (List.mem_of_getElem? (i := 41) rfl))) (by decide) (backOf (W := 0) (rm9 l Z a0 hw b79 wC wF t80 kb80 (own_wr (own_wr ls72 en72 (41 : Int32)) (en72 + (1 : Int32)) (((((q4.toUInt64 >>> ((24 : Int32) &&& 0x3f).toInt64.toUInt64).toInt64) &&& (255 : Int64)).toInt32).toUInt32.toUInt16.toUInt32.toInt32)) T80.heap n0 (Nat.le_trans (Nat.le_trans (Nat.le_trans (Nat.le_trans (Nat.le_trans (Nat.le_trans (Nat.le_trans (Nat.le_trans (Nat.le_trans (Nat.le_trans (Nat.le_trans (Nat.le_trans Z0 E1.1) (Keep.of_wr W3).1) (Keep.of_wr W5).1) (Keep.of_wr W7).1) K11.1) (Keep.of_wr W66).1) K69.1) K72.1) (Keep.of_wr W74).1) (Keep.of_wr W76).1) E79.1) K80.1) FC80 FV80 EX80 (Sta.ext ((((((((((((O0.ext E1).wr W3 g_b1).wr W5 g_b1).wr W7 g_b1).keep K11 (allS g_b1 all0)).wr W66 g_b1).keep K69 (allS g_b1 all0)).keep K72 (allS g_b1 all0)).wr W74 g_b1).wr W76 g_b1).ext E79).keep K80 (allS g_b79 all0)).2 S_C) hC (Sta.ext ((((((((((((O0.ext E1).wr W3 g_b1).wr W5 g_b1).wr W7 g_b1).keep K11 (allS g_b1 all0)).wr W66 g_b1).keep K69 (allS g_b1 all0)).keep K72 (allS g_b1 all0)).wr W74 g_b1).wr W76 g_b1).ext E79).keep K80 (allS g_b79 all0)).2 S_F) hF V_t80 hT78.1 9 v9_0 (en72 + (1 : Int32)) hT78.2) hZ (hw _ (List.mem_of_getElem? (i := 41) rfl)) (hw _ (List.mem_of_getElem? (i := 40) rfl)) (by decide) (by decide)) (g := (mkF m 273 #[.val (.int p0), .val (.int p1), .val (.int p2), .val (.int p3), .val (.long q4), .second, .val (.ref b1), .val (.int v9_0), .val (.int v9_1), .val (.int v9_2), .val (.int v9_3), .val (.int v9_4), .val (.int v9_5), .val (.int v9_6), .val (.int v9_7), .val (.int (en72 + (1 : Int32))), .val (.int (en72 + (1 : Int32))), .val (.ref b79)] [(.int v9_0), (.ref b79)])) rfl (by rw [hml]; rfl) (argsL := [(.ref b79), (.int v9_0)]) (rest := []) (lenOf pd_6 rfl) rfl (by show 2 * 0 + _ ≤ _; exact Nat.le_of_eq rfl) (hb hby at_273) (fun _ _ => ⟨rfl, rfl, (by decide : 3 + 0 ≤ _), (by decide : 52 + 0 ≤ _)⟩)
          dsimp only [Pt.U, Pt.locs, Pt.cells, Pt.slots] at X81 l81 y81 z81 st81 hQ81
          subst l81 y81 z81
          obtain ⟨rfl, N81q, hh81⟩ := hQ81
          have N81 := Fr.app N80 N81q
          have pre82 : ∀ t, Steps p.tables e below (T81.setTop (mkF m 286 #[.val (.int p0), .val (.int p1), .val (.int p2), .val (.int p3), .val (.long q4), .second, .val (.ref b1), .val (.int v9_0), .val (.int v9_1), .val (.int v9_2), .val (.int v9_3), .val (.int v9_4), .val (.int v9_5), .val (.int v9_6), .val (.int v9_7), .val (.int (en72 + (1 : Int32))), .val (.int (en72 + (1 : Int32))), .val (.ref b79)] [(.int (1 : Int32))])) t → Steps p.tables e below (s₁.setTop (entryFrame m #[(.int p0), (.int p1), (.int p2), (.int p3), (.long q4)] maxLocals)) t := fun t k => pre77 t (by
            show Steps p.tables e below (T76.setTop (mkF m 258 #[.val (.int p0), .val (.int p1), .val (.int p2), .val (.int p3), .val (.long q4), .second, .val (.ref b1), .val (.int v9_0), .val (.int v9_1), .val (.int v9_2), .val (.int v9_3), .val (.int v9_4), .val (.int v9_5), .val (.int v9_6), .val (.int v9_7), .val (.int (en72 + (1 : Int32))), .val (.int (en72 + (1 : Int32))), .val (.int (41 : Int32))] [])) _
            refine st79 _ ?_
            show Steps p.tables e below (T79.setTop (mkF m 261 #[.val (.int p0), .val (.int p1), .val (.int p2), .val (.int p3), .val (.long q4), .second, .val (.ref b1), .val (.int v9_0), .val (.int v9_1), .val (.int v9_2), .val (.int v9_3), .val (.int v9_4), .val (.int v9_5), .val (.int v9_6), .val (.int v9_7), .val (.int (en72 + (1 : Int32))), .val (.int (en72 + (1 : Int32))), .val (.int (41 : Int32))] [(.ref b79)])) _
            refine XS.dup X79.here hx rfl (hb hby at_261) rfl rfl ?_
            show Steps p.tables e below (T79.setTop (mkF m 262 #[.val (.int p0), .val (.int p1), .val (.int p2), .val (.int p3), .val (.long q4), .second, .val (.ref b1), .val (.int v9_0), .val (.int v9_1), .val (.int v9_2), .val (.int v9_3), .val (.int v9_4), .val (.int v9_5), .val (.int v9_6), .val (.int v9_7), .val (.int (en72 + (1 : Int32))), .val (.int (en72 + (1 : Int32))), .val (.int (41 : Int32))] [(.ref b79), (.ref b79)])) _
            refine XS.aload X79.here hx rfl (hb hby at_262) rfl rfl ?_
            show Steps p.tables e below (T79.setTop (mkF m 264 #[.val (.int p0), .val (.int p1), .val (.int p2), .val (.int p3), .val (.long q4), .second, .val (.ref b1), .val (.int v9_0), .val (.int v9_1), .val (.int v9_2), .val (.int v9_3), .val (.int v9_4), .val (.int v9_5), .val (.int v9_6), .val (.int v9_7), .val (.int (en72 + (1 : Int32))), .val (.int (en72 + (1 : Int32))), .val (.int (41 : Int32))] [(.ref b1), (.ref b79), (.ref b79)])) _
            refine st80.trans ?_
            show Steps p.tables e below (T80.setTop (mkF m 267 #[.val (.int p0), .val (.int p1), .val (.int p2), .val (.int p3), .val (.long q4), .second, .val (.ref b1), .val (.int v9_0), .val (.int v9_1), .val (.int v9_2), .val (.int v9_3), .val (.int v9_4), .val (.int v9_5), .val (.int v9_6), .val (.int v9_7), .val (.int (en72 + (1 : Int32))), .val (.int (en72 + (1 : Int32))), .val (.int (41 : Int32))] [(.ref b79)])) _
            refine XS.astore X80.here hx rfl (hb hby at_267) rfl rfl (l' := #[.val (.int p0), .val (.int p1), .val (.int p2), .val (.int p3), .val (.long q4), .second, .val (.ref b1), .val (.int v9_0), .val (.int v9_1), .val (.int v9_2), .val (.int v9_3), .val (.int v9_4), .val (.int v9_5), .val (.int v9_6), .val (.int v9_7), .val (.int (en72 + (1 : Int32))), .val (.int (en72 + (1 : Int32))), .val (.ref b79)]) rfl ?_
            show Steps p.tables e below (T80.setTop (mkF m 269 #[.val (.int p0), .val (.int p1), .val (.int p2), .val (.int p3), .val (.long q4), .second, .val (.ref b1), .val (.int v9_0), .val (.int v9_1), .val (.int v9_2), .val (.int v9_3), .val (.int v9_4), .val (.int v9_5), .val (.int v9_6), .val (.int v9_7), .val (.int (en72 + (1 : Int32))), .val (.int (en72 + (1 : Int32))), .val (.ref b79)] [])) _
            refine XS.aload X80.here hx rfl (hb hby at_269) rfl rfl ?_
            show Steps p.tables e below (T80.setTop (mkF m 271 #[.val (.int p0), .val (.int p1), .val (.int p2), .val (.int p3), .val (.long q4), .second, .val (.ref b1), .val (.int v9_0), .val (.int v9_1), .val (.int v9_2), .val (.int v9_3), .val (.int v9_4), .val (.int v9_5), .val (.int v9_6), .val (.int v9_7), .val (.int (en72 + (1 : Int32))), .val (.int (en72 + (1 : Int32))), .val (.ref b79)] [(.ref b79)])) _
            refine XS.iload X80.here hx rfl (hb hby at_271) rfl ?_
            show Steps p.tables e below (T80.setTop (mkF m 273 #[.val (.int p0), .val (.int p1), .val (.int p2), .val (.int p3), .val (.long q4), .second, .val (.ref b1), .val (.int v9_0), .val (.int v9_1), .val (.int v9_2), .val (.int v9_3), .val (.int v9_4), .val (.int v9_5), .val (.int v9_6), .val (.int v9_7), .val (.int (en72 + (1 : Int32))), .val (.int (en72 + (1 : Int32))), .val (.ref b79)] [(.int v9_0), (.ref b79)])) _
            refine st81 _ ?_
            show Steps p.tables e below (T81.setTop (mkF m 276 #[.val (.int p0), .val (.int p1), .val (.int p2), .val (.int p3), .val (.long q4), .second, .val (.ref b1), .val (.int v9_0), .val (.int v9_1), .val (.int v9_2), .val (.int v9_3), .val (.int v9_4), .val (.int v9_5), .val (.int v9_6), .val (.int v9_7), .val (.int (en72 + (1 : Int32))), .val (.int (en72 + (1 : Int32))), .val (.ref b79)] [(.int (en72 + (1 : Int32)))])) _
            refine XS.iload X81.here hx rfl (hb hby at_276) rfl ?_
            show Steps p.tables e below (T81.setTop (mkF m 278 #[.val (.int p0), .val (.int p1), .val (.int p2), .val (.int p3), .val (.long q4), .second, .val (.ref b1), .val (.int v9_0), .val (.int v9_1), .val (.int v9_2), .val (.int v9_3), .val (.int v9_4), .val (.int v9_5), .val (.int v9_6), .val (.int v9_7), .val (.int (en72 + (1 : Int32))), .val (.int (en72 + (1 : Int32))), .val (.ref b79)] [(.int (en72 + (1 : Int32))), (.int (en72 + (1 : Int32)))])) _
            refine XS.icmpNo X81.here hx rfl (hb hby at_278) rfl (teq (by first | exact rfl | decide : (en72 + (1 : Int32)) = (en72 + (1 : Int32)))).2 ?_
            show Steps p.tables e below (T81.setTop (mkF m 281 #[.val (.int p0), .val (.int p1), .val (.int p2), .val (.int p3), .val (.long q4), .second, .val (.ref b1), .val (.int v9_0), .val (.int v9_1), .val (.int v9_2), .val (.int v9_3), .val (.int v9_4), .val (.int v9_5), .val (.int v9_6), .val (.int v9_7), .val (.int (en72 + (1 : Int32))), .val (.int (en72 + (1 : Int32))), .val (.ref b79)] [])) _
            refine XS.iconst X81.here hx rfl (hb hby at_281) ?_
            show Steps p.tables e below (T81.setTop (mkF m 282 #[.val (.int p0), .val (.int p1), .val (.int p2), .val (.int p3), .val (.long q4), .second, .val (.ref b1), .val (.int v9_0), .val (.int v9_1), .val (.int v9_2), .val (.int v9_3), .val (.int v9_4), .val (.int v9_5), .val (.int v9_6), .val (.int v9_7), .val (.int (en72 + (1 : Int32))), .val (.int (en72 + (1 : Int32))), .val (.ref b79)] [(.int (1 : Int32))])) _
            refine XS.goto X81.here hx rfl (pc0 := 282) (pc' := 286) rfl (hb hby at_282) (by decide) (by decide) ?_
            exact k)
          obtain ⟨fs, hr, hrun, hended, hW, hsame⟩ := X81.leave (v := some (.int (1 : Int32))) (fun h => by rw [Bd.returns] at h; cases h)
          refine ⟨_, _, pre82 _ ?_, hrun, hended, _, _, rfl, ?_, ⟨_, rfl⟩, hW, hsame.mono (by decide) (by decide)⟩
          · exact retN X81 hx (t := .boolean) Bd.returns (by simp) (hb hby at_286) hr
          · show Q0 Z p0 p1 p2 p3 q4 wC wF h0 n0 _ T81.heap _
            rw [hh81]
            exact ⟨rfl, N81⟩
        · obtain ⟨c83, Ar83, hin83, -⟩ := own_read VV69 (own_n1p hls hst hk fr69).2.1
          obtain ⟨T84, h84, X84, e84, W84, st84⟩ := stC X69 hx hZ rfl Ar83 (j := en69) hin83 (g := (mkF m 231 #[.val (.int p0), .val (.int p1), .val (.int p2), .val (.int p3), .val (.long q4), .second, .val (.ref b1), .val (.int v9_0), .val (.int v9_1), .val (.int v9_2), .val (.int v9_3), .val (.int v9_4), .val (.int v9_5), .val (.int v9_6), .val (.int v9_7), .val (.int en69), .val (.int (40 : Int32)), .val (.int (41 : Int32))] [(.int (41 : Int32)), (.int en69), (.ref b1)])) rfl rfl (hb hby at_231)
          have V84 : own_A Z h84 b1 k1 .char (24 : Int32) (own_wr ls69 en69 (41 : Int32)) := own_writeC VV69 (own_n1p hls hst hk fr69).2.1 (by decide) W84
          have KK84 : Keep h0 h84 [] := KK69.wr W84 (Or.inr sz_b1)
          have N84 := Fr.snoc X84 N69 g_b1
          obtain ⟨c85, Ar85, hin85, -⟩ := own_read V84 (own_n1p hls hst hk fr69).2.2
          obtain ⟨T86, h86, X86, e86, W86, st86⟩ := stC X84 hx hZ e84 Ar85 (j := (en69 + (1 : Int32))) hin85 (g := (mkF m 257 #[.val (.int p0), .val (.int p1), .val (.int p2), .val (.int p3), .val (.long q4), .second, .val (.ref b1), .val (.int v9_0), .val (.int v9_1), .val (.int v9_2), .val (.int v9_3), .val (.int v9_4), .val (.int v9_5), .val (.int v9_6), .val (.int v9_7), .val (.int (en69 + (1 : Int32))), .val (.int (en69 + (1 : Int32))), .val (.int (41 : Int32))] [(.int (((((q4.toUInt64 >>> ((24 : Int32) &&& 0x3f).toInt64.toUInt64).toInt64) &&& (255 : Int64)).toInt32).toUInt32.toUInt16.toUInt32.toInt32)), (.int (en69 + (1 : Int32))), (.ref b1)])) rfl rfl (hb hby at_257)
          have V86 : own_A Z h86 b1 k1 .char (24 : Int32) (own_wr (own_wr ls69 en69 (41 : Int32)) (en69 + (1 : Int32)) (((((q4.toUInt64 >>> ((24 : Int32) &&& 0x3f).toInt64.toUInt64).toInt64) &&& (255 : Int64)).toInt32).toUInt32.toUInt16.toUInt32.toInt32)) := own_writeC V84 (own_n1p hls hst hk fr69).2.2 (own_lb _) W86
          have KK86 : Keep h0 h86 [] := KK84.wr W86 (Or.inr sz_b1)
          have N86 := Fr.snoc X86 N84 g_b1
          have pre87 : ∀ t, Steps p.tables e below (T86.setTop (mkF m 258 #[.val (.int p0), .val (.int p1), .val (.int p2), .val (.int p3), .val (.long q4), .second, .val (.ref b1), .val (.int v9_0), .val (.int v9_1), .val (.int v9_2), .val (.int v9_3), .val (.int v9_4), .val (.int v9_5), .val (.int v9_6), .val (.int v9_7), .val (.int (en69 + (1 : Int32))), .val (.int (en69 + (1 : Int32))), .val (.int (41 : Int32))] [])) t → Steps p.tables e below (s₁.setTop (entryFrame m #[(.int p0), (.int p1), (.int p2), (.int p3), (.long q4)] maxLocals)) t := fun t k => pre70 t (by
            show Steps p.tables e below (T69.setTop (mkF m 208 #[.val (.int p0), .val (.int p1), .val (.int p2), .val (.int p3), .val (.long q4), .second, .val (.ref b1), .val (.int v9_0), .val (.int v9_1), .val (.int v9_2), .val (.int v9_3), .val (.int v9_4), .val (.int v9_5), .val (.int v9_6), .val (.int v9_7), .val (.int en69), .val (.int (40 : Int32)), .val (.int (41 : Int32))] [(.int (1 : Int32)), (.int v9_3)])) _
            refine XS.icmpYes X69.here hx rfl (pc0 := 208) (pc' := 225) rfl (hb hby at_208) rfl (flt hc208_71).2.2.2 (by decide) (by decide) ?_
            show Steps p.tables e below (T69.setTop (mkF m 225 #[.val (.int p0), .val (.int p1), .val (.int p2), .val (.int p3), .val (.long q4), .second, .val (.ref b1), .val (.int v9_0), .val (.int v9_1), .val (.int v9_2), .val (.int v9_3), .val (.int v9_4), .val (.int v9_5), .val (.int v9_6), .val (.int v9_7), .val (.int en69), .val (.int (40 : Int32)), .val (.int (41 : Int32))] [])) _
            refine XS.aload X69.here hx rfl (hb hby at_225) rfl rfl ?_
            show Steps p.tables e below (T69.setTop (mkF m 227 #[.val (.int p0), .val (.int p1), .val (.int p2), .val (.int p3), .val (.long q4), .second, .val (.ref b1), .val (.int v9_0), .val (.int v9_1), .val (.int v9_2), .val (.int v9_3), .val (.int v9_4), .val (.int v9_5), .val (.int v9_6), .val (.int v9_7), .val (.int en69), .val (.int (40 : Int32)), .val (.int (41 : Int32))] [(.ref b1)])) _
            refine XS.iload X69.here hx rfl (hb hby at_227) rfl ?_
            show Steps p.tables e below (T69.setTop (mkF m 229 #[.val (.int p0), .val (.int p1), .val (.int p2), .val (.int p3), .val (.long q4), .second, .val (.ref b1), .val (.int v9_0), .val (.int v9_1), .val (.int v9_2), .val (.int v9_3), .val (.int v9_4), .val (.int v9_5), .val (.int v9_6), .val (.int v9_7), .val (.int en69), .val (.int (40 : Int32)), .val (.int (41 : Int32))] [(.int en69), (.ref b1)])) _
            refine XS.iload X69.here hx rfl (hb hby at_229) rfl ?_
            show Steps p.tables e below (T69.setTop (mkF m 231 #[.val (.int p0), .val (.int p1), .val (.int p2), .val (.int p3), .val (.long q4), .second, .val (.ref b1), .val (.int v9_0), .val (.int v9_1), .val (.int v9_2), .val (.int v9_3), .val (.int v9_4), .val (.int v9_5), .val (.int v9_6), .val (.int v9_7), .val (.int en69), .val (.int (40 : Int32)), .val (.int (41 : Int32))] [(.int (41 : Int32)), (.int en69), (.ref b1)])) _
            refine st84 _ ?_
            show Steps p.tables e below (T84.setTop (mkF m 232 #[.val (.int p0), .val (.int p1), .val (.int p2), .val (.int p3), .val (.long q4), .second, .val (.ref b1), .val (.int v9_0), .val (.int v9_1), .val (.int v9_2), .val (.int v9_3), .val (.int v9_4), .val (.int v9_5), .val (.int v9_6), .val (.int v9_7), .val (.int en69), .val (.int (40 : Int32)), .val (.int (41 : Int32))] [])) _
            refine XS.iload X84.here hx rfl (hb hby at_232) rfl ?_
            show Steps p.tables e below (T84.setTop (mkF m 234 #[.val (.int p0), .val (.int p1), .val (.int p2), .val (.int p3), .val (.long q4), .second, .val (.ref b1), .val (.int v9_0), .val (.int v9_1), .val (.int v9_2), .val (.int v9_3), .val (.int v9_4), .val (.int v9_5), .val (.int v9_6), .val (.int v9_7), .val (.int en69), .val (.int (40 : Int32)), .val (.int (41 : Int32))] [(.int en69)])) _
            refine XS.iconst X84.here hx rfl (hb hby at_234) ?_
            show Steps p.tables e below (T84.setTop (mkF m 235 #[.val (.int p0), .val (.int p1), .val (.int p2), .val (.int p3), .val (.long q4), .second, .val (.ref b1), .val (.int v9_0), .val (.int v9_1), .val (.int v9_2), .val (.int v9_3), .val (.int v9_4), .val (.int v9_5), .val (.int v9_6), .val (.int v9_7), .val (.int en69), .val (.int (40 : Int32)), .val (.int (41 : Int32))] [(.int (1 : Int32)), (.int en69)])) _
            refine XS.iadd X84.here hx rfl (hb hby at_235) rfl ?_
            show Steps p.tables e below (T84.setTop (mkF m 236 #[.val (.int p0), .val (.int p1), .val (.int p2), .val (.int p3), .val (.long q4), .second, .val (.ref b1), .val (.int v9_0), .val (.int v9_1), .val (.int v9_2), .val (.int v9_3), .val (.int v9_4), .val (.int v9_5), .val (.int v9_6), .val (.int v9_7), .val (.int en69), .val (.int (40 : Int32)), .val (.int (41 : Int32))] [(.int (en69 + (1 : Int32)))])) _
            refine XS.istore X84.here hx rfl (hb hby at_236) rfl (l' := #[.val (.int p0), .val (.int p1), .val (.int p2), .val (.int p3), .val (.long q4), .second, .val (.ref b1), .val (.int v9_0), .val (.int v9_1), .val (.int v9_2), .val (.int v9_3), .val (.int v9_4), .val (.int v9_5), .val (.int v9_6), .val (.int v9_7), .val (.int (en69 + (1 : Int32))), .val (.int (40 : Int32)), .val (.int (41 : Int32))]) rfl ?_
            show Steps p.tables e below (T84.setTop (mkF m 238 #[.val (.int p0), .val (.int p1), .val (.int p2), .val (.int p3), .val (.long q4), .second, .val (.ref b1), .val (.int v9_0), .val (.int v9_1), .val (.int v9_2), .val (.int v9_3), .val (.int v9_4), .val (.int v9_5), .val (.int v9_6), .val (.int v9_7), .val (.int (en69 + (1 : Int32))), .val (.int (40 : Int32)), .val (.int (41 : Int32))] [])) _
            refine XS.iload X84.here hx rfl (hb hby at_238) rfl ?_
            show Steps p.tables e below (T84.setTop (mkF m 240 #[.val (.int p0), .val (.int p1), .val (.int p2), .val (.int p3), .val (.long q4), .second, .val (.ref b1), .val (.int v9_0), .val (.int v9_1), .val (.int v9_2), .val (.int v9_3), .val (.int v9_4), .val (.int v9_5), .val (.int v9_6), .val (.int v9_7), .val (.int (en69 + (1 : Int32))), .val (.int (40 : Int32)), .val (.int (41 : Int32))] [(.int (en69 + (1 : Int32)))])) _
            refine XS.istore X84.here hx rfl (hb hby at_240) rfl (l' := #[.val (.int p0), .val (.int p1), .val (.int p2), .val (.int p3), .val (.long q4), .second, .val (.ref b1), .val (.int v9_0), .val (.int v9_1), .val (.int v9_2), .val (.int v9_3), .val (.int v9_4), .val (.int v9_5), .val (.int v9_6), .val (.int v9_7), .val (.int (en69 + (1 : Int32))), .val (.int (en69 + (1 : Int32))), .val (.int (41 : Int32))]) rfl ?_
            show Steps p.tables e below (T84.setTop (mkF m 242 #[.val (.int p0), .val (.int p1), .val (.int p2), .val (.int p3), .val (.long q4), .second, .val (.ref b1), .val (.int v9_0), .val (.int v9_1), .val (.int v9_2), .val (.int v9_3), .val (.int v9_4), .val (.int v9_5), .val (.int v9_6), .val (.int v9_7), .val (.int (en69 + (1 : Int32))), .val (.int (en69 + (1 : Int32))), .val (.int (41 : Int32))] [])) _
            refine XS.aload X84.here hx rfl (hb hby at_242) rfl rfl ?_
            show Steps p.tables e below (T84.setTop (mkF m 244 #[.val (.int p0), .val (.int p1), .val (.int p2), .val (.int p3), .val (.long q4), .second, .val (.ref b1), .val (.int v9_0), .val (.int v9_1), .val (.int v9_2), .val (.int v9_3), .val (.int v9_4), .val (.int v9_5), .val (.int v9_6), .val (.int v9_7), .val (.int (en69 + (1 : Int32))), .val (.int (en69 + (1 : Int32))), .val (.int (41 : Int32))] [(.ref b1)])) _
            refine XS.iload X84.here hx rfl (hb hby at_244) rfl ?_
            show Steps p.tables e below (T84.setTop (mkF m 246 #[.val (.int p0), .val (.int p1), .val (.int p2), .val (.int p3), .val (.long q4), .second, .val (.ref b1), .val (.int v9_0), .val (.int v9_1), .val (.int v9_2), .val (.int v9_3), .val (.int v9_4), .val (.int v9_5), .val (.int v9_6), .val (.int v9_7), .val (.int (en69 + (1 : Int32))), .val (.int (en69 + (1 : Int32))), .val (.int (41 : Int32))] [(.int (en69 + (1 : Int32))), (.ref b1)])) _
            refine XS.lload X84.here hx rfl (hb hby at_246) rfl ?_
            show Steps p.tables e below (T84.setTop (mkF m 248 #[.val (.int p0), .val (.int p1), .val (.int p2), .val (.int p3), .val (.long q4), .second, .val (.ref b1), .val (.int v9_0), .val (.int v9_1), .val (.int v9_2), .val (.int v9_3), .val (.int v9_4), .val (.int v9_5), .val (.int v9_6), .val (.int v9_7), .val (.int (en69 + (1 : Int32))), .val (.int (en69 + (1 : Int32))), .val (.int (41 : Int32))] [(.long q4), (.int (en69 + (1 : Int32))), (.ref b1)])) _
            refine XS.bipush X84.here hx rfl (hb hby at_248) ?_
            show Steps p.tables e below (T84.setTop (mkF m 250 #[.val (.int p0), .val (.int p1), .val (.int p2), .val (.int p3), .val (.long q4), .second, .val (.ref b1), .val (.int v9_0), .val (.int v9_1), .val (.int v9_2), .val (.int v9_3), .val (.int v9_4), .val (.int v9_5), .val (.int v9_6), .val (.int v9_7), .val (.int (en69 + (1 : Int32))), .val (.int (en69 + (1 : Int32))), .val (.int (41 : Int32))] [(.int (24 : Int32)), (.long q4), (.int (en69 + (1 : Int32))), (.ref b1)])) _
            refine XS.lushr X84.here hx rfl (hb hby at_250) rfl ?_
            show Steps p.tables e below (T84.setTop (mkF m 251 #[.val (.int p0), .val (.int p1), .val (.int p2), .val (.int p3), .val (.long q4), .second, .val (.ref b1), .val (.int v9_0), .val (.int v9_1), .val (.int v9_2), .val (.int v9_3), .val (.int v9_4), .val (.int v9_5), .val (.int v9_6), .val (.int v9_7), .val (.int (en69 + (1 : Int32))), .val (.int (en69 + (1 : Int32))), .val (.int (41 : Int32))] [(.long ((q4.toUInt64 >>> ((24 : Int32) &&& 0x3f).toInt64.toUInt64).toInt64)), (.int (en69 + (1 : Int32))), (.ref b1)])) _
            refine X84.ldc2Long hx hown (mvT hZ (hw _ (List.mem_of_getElem? (i := 1) rfl))) (g := (mkF m 251 #[.val (.int p0), .val (.int p1), .val (.int p2), .val (.int p3), .val (.long q4), .second, .val (.ref b1), .val (.int v9_0), .val (.int v9_1), .val (.int v9_2), .val (.int v9_3), .val (.int v9_4), .val (.int v9_5), .val (.int v9_6), .val (.int v9_7), .val (.int (en69 + (1 : Int32))), .val (.int (en69 + (1 : Int32))), .val (.int (41 : Int32))] [(.long ((q4.toUInt64 >>> ((24 : Int32) &&& 0x3f).toInt64.toUInt64).toInt64)), (.int (en69 + (1 : Int32))), (.ref b1)])) rfl (hb hby at_251) _ ?_
            show Steps p.tables e below (T84.setTop (mkF m 254 #[.val (.int p0), .val (.int p1), .val (.int p2), .val (.int p3), .val (.long q4), .second, .val (.ref b1), .val (.int v9_0), .val (.int v9_1), .val (.int v9_2), .val (.int v9_3), .val (.int v9_4), .val (.int v9_5), .val (.int v9_6), .val (.int v9_7), .val (.int (en69 + (1 : Int32))), .val (.int (en69 + (1 : Int32))), .val (.int (41 : Int32))] [(.long (255 : Int64)), (.long ((q4.toUInt64 >>> ((24 : Int32) &&& 0x3f).toInt64.toUInt64).toInt64)), (.int (en69 + (1 : Int32))), (.ref b1)])) _
            refine XS.land X84.here hx rfl (hb hby at_254) rfl ?_
            show Steps p.tables e below (T84.setTop (mkF m 255 #[.val (.int p0), .val (.int p1), .val (.int p2), .val (.int p3), .val (.long q4), .second, .val (.ref b1), .val (.int v9_0), .val (.int v9_1), .val (.int v9_2), .val (.int v9_3), .val (.int v9_4), .val (.int v9_5), .val (.int v9_6), .val (.int v9_7), .val (.int (en69 + (1 : Int32))), .val (.int (en69 + (1 : Int32))), .val (.int (41 : Int32))] [(.long (((q4.toUInt64 >>> ((24 : Int32) &&& 0x3f).toInt64.toUInt64).toInt64) &&& (255 : Int64))), (.int (en69 + (1 : Int32))), (.ref b1)])) _
            refine XS.l2i X84.here hx rfl (hb hby at_255) rfl ?_
            show Steps p.tables e below (T84.setTop (mkF m 256 #[.val (.int p0), .val (.int p1), .val (.int p2), .val (.int p3), .val (.long q4), .second, .val (.ref b1), .val (.int v9_0), .val (.int v9_1), .val (.int v9_2), .val (.int v9_3), .val (.int v9_4), .val (.int v9_5), .val (.int v9_6), .val (.int v9_7), .val (.int (en69 + (1 : Int32))), .val (.int (en69 + (1 : Int32))), .val (.int (41 : Int32))] [(.int ((((q4.toUInt64 >>> ((24 : Int32) &&& 0x3f).toInt64.toUInt64).toInt64) &&& (255 : Int64)).toInt32)), (.int (en69 + (1 : Int32))), (.ref b1)])) _
            refine XS.i2c X84.here hx rfl (hb hby at_256) rfl ?_
            show Steps p.tables e below (T84.setTop (mkF m 257 #[.val (.int p0), .val (.int p1), .val (.int p2), .val (.int p3), .val (.long q4), .second, .val (.ref b1), .val (.int v9_0), .val (.int v9_1), .val (.int v9_2), .val (.int v9_3), .val (.int v9_4), .val (.int v9_5), .val (.int v9_6), .val (.int v9_7), .val (.int (en69 + (1 : Int32))), .val (.int (en69 + (1 : Int32))), .val (.int (41 : Int32))] [(.int (((((q4.toUInt64 >>> ((24 : Int32) &&& 0x3f).toInt64.toUInt64).toInt64) &&& (255 : Int64)).toInt32).toUInt32.toUInt16.toUInt32.toInt32)), (.int (en69 + (1 : Int32))), (.ref b1)])) _
            refine st86 _ ?_
            exact k)
          have hT88 : own_by (own_wr (own_wr ls69 en69 (41 : Int32)) (en69 + (1 : Int32)) (((((q4.toUInt64 >>> ((24 : Int32) &&& 0x3f).toInt64.toUInt64).toInt64) &&& (255 : Int64)).toInt32).toUInt32.toUInt16.toUInt32.toInt32)) ∧ own_ty (own_wr (own_wr ls69 en69 (41 : Int32)) (en69 + (1 : Int32)) (((((q4.toUInt64 >>> ((24 : Int32) &&& 0x3f).toInt64.toUInt64).toInt64) &&& (255 : Int64)).toInt32).toUInt32.toUInt16.toUInt32.toInt32)) 9 v9_0 (en69 + (1 : Int32)) := own_n1 hls hst hk (Or.inl ⟨rfl, rfl⟩) (own_lb _) fr69
          obtain ⟨T89, h89, X89, e89, E89, A89, D89, -, st89⟩ := newO X86 hx hZ hown (hw _ (List.mem_of_getElem? (i := 9) rfl)) (hw _ (List.mem_of_getElem? (i := 10) rfl)) (hw _ (List.mem_of_getElem? (i := 11) rfl)) e86 (g := (mkF m 258 #[.val (.int p0), .val (.int p1), .val (.int p2), .val (.int p3), .val (.long q4), .second, .val (.ref b1), .val (.int v9_0), .val (.int v9_1), .val (.int v9_2), .val (.int v9_3), .val (.int v9_4), .val (.int v9_5), .val (.int v9_6), .val (.int v9_7), .val (.int (en69 + (1 : Int32))), .val (.int (en69 + (1 : Int32))), .val (.int (41 : Int32))] [])) rfl (hb hby at_258) (by decide) (by decide)
          obtain ⟨b89, g89⟩ : ∃ z, z = h86.size := ⟨_, rfl⟩
          rw [← g89] at A89 D89 st89
          have F_coder_b89 : Fld Z h89 b89 "java/lang/String" "coder" "B" (.int (0 : Int32)) := D89 (Or.inr (hw _ (List.mem_of_getElem? (i := 35) rfl))) (ty := .byte) (by decide)
          have F_value_b89 : Fld Z h89 b89 "java/lang/String" "value" "[B" .null := D89 (Or.inr (hw _ (List.mem_of_getElem? (i := 37) rfl))) (ty := (.array .byte)) (by decide)
          have g_b89 : n0 ≤ b89 := Nat.le_trans (Nat.le_trans (Nat.le_trans (Nat.le_trans (Nat.le_trans (Nat.le_trans (Nat.le_trans (Nat.le_trans (Nat.le_trans (Nat.le_trans Z0 E1.1) (Keep.of_wr W3).1) (Keep.of_wr W5).1) (Keep.of_wr W7).1) K11.1) (Keep.of_wr W66).1) K69.1) (Keep.of_wr W84).1) (Keep.of_wr W86).1) (Nat.le_of_eq g89.symm)
          have sz_b89 : h0.size ≤ b89 := Nat.le_trans KK86.1 (Nat.le_of_eq g89.symm)
          have KK89 : Keep h0 h89 [] := KK86.ext E89
          obtain ⟨_, _, ⟨T90, L90, k90, n90⟩, -, X90, ⟨Lc90, hQ90, l90, y90, z90⟩, st90⟩ := X89.specialBack hx (y := (⟨"java/lang/String", "<init>", "([C)V"⟩ : MethodName)) rfl hown (mvT hZ (hw _ (List.mem_of_getElem? (i := 12) rfl))) (mvT hZ (hw _ (List.mem_of_getElem? (i := 13) rfl))) (mvT hZ (hw _ (List.mem_of_getElem? (i := 14) rfl))) (by decide) (StrChars.Road.backV (W := 1) hZ (fun d hd => hw d ((by decide +kernel : ∀ d ∈ StrChars.Road.words, d ∈ tables_1) d hd)) (hw _ (List.mem_of_getElem? (i := 10) rfl)) (cs := (own_wr (own_wr ls69 en69 (41 : Int32)) (en69 + (1 : Int32)) (((((q4.toUInt64 >>> ((24 : Int32) &&& 0x3f).toInt64.toUInt64).toInt64) &&& (255 : Int64)).toInt32).toUInt32.toUInt16.toUInt32.toInt32))) (bs := (own_wr (own_wr ls69 en69 (41 : Int32)) (en69 + (1 : Int32)) (((((q4.toUInt64 >>> ((24 : Int32) &&& 0x3f).toInt64.toUInt64).toInt64) &&& (255 : Int64)).toInt32).toUInt32.toUInt16.toUInt32.toInt32)).map (fun c => c.toInt8.toInt32)) (n := 24) g_b89 (Nat.le_trans (Nat.le_trans (Nat.le_trans (Nat.le_trans (Nat.le_trans (Nat.le_trans (Nat.le_trans (Nat.le_trans (Nat.le_trans (Nat.le_trans Z0 E1.1) (Keep.of_wr W3).1) (Keep.of_wr W5).1) (Keep.of_wr W7).1) K11.1) (Keep.of_wr W66).1) K69.1) (Keep.of_wr W84).1) (Keep.of_wr W86).1) E89.1) A89 F_value_b89 F_coder_b89 (V86.ext E89).2 (Sta.ext ((((((((((O0.ext E1).wr W3 g_b1).wr W5 g_b1).wr W7 g_b1).keep K11 (allS g_b1 all0)).wr W66 g_b1).keep K69 (allS g_b1 all0)).wr W84 g_b1).wr W86 g_b1).ext E89).2 S_C) hC hT88.1.1 rfl (by decide) (by decide) hT88.1.2 rfl (by decide) (by decide)) (g := (mkF m 264 #[.val (.int p0), .val (.int p1), .val (.int p2), .val (.int p3), .val (.long q4), .second, .val (.ref b1), .val (.int v9_0), .val (.int v9_1), .val (.int v9_2), .val (.int v9_3), .val (.int v9_4), .val (.int v9_5), .val (.int v9_6), .val (.int v9_7), .val (.int (en69 + (1 : Int32))), .val (.int (en69 + (1 : Int32))), .val (.int (41 : Int32))] [(.ref b1), (.ref b89), (.ref b89)])) rfl (by rw [hml]; rfl) (Steps.refl _) (a := b89) (argsL := [(.ref b1)]) (rest := [(.ref b89)]) (lenOf pd_7 rfl) rfl (by show 2 * 0 + _ ≤ _; exact Nat.le_of_eq rfl) (hb hby at_264) (fun _ _ => ⟨rfl, e89, (by decide : 2 + 1 ≤ _), (by decide : 28 + 24 ≤ _)⟩)
          dsimp only [Pt.U, Pt.locs, Pt.cells, Pt.slots] at X90 l90 y90 z90 st90 hQ90
          subst l90 y90 z90
          obtain ⟨rfl, N90q, K90, EX90, FC90, t90, kb90, g_t90, szt90, -, FV90, AV90⟩ := hQ90
          have N90 := Fr.app N86 N90q
          have V_t90 : own_A Z T90.heap t90 kb90 .byte (24 : Int32) ((own_wr (own_wr ls69 en69 (41 : Int32)) (en69 + (1 : Int32)) (((((q4.toUInt64 >>> ((24 : Int32) &&& 0x3f).toInt64.toUInt64).toInt64) &&& (255 : Int64)).toInt32).toUInt32.toUInt16.toUInt32.toInt32)).map (fun c => c.toInt8.toInt32)) := ⟨List.length_map _ |>.trans hT88.1.1, AV90⟩
          obtain ⟨_, _, ⟨T91, L91, k91, n91⟩, -, X91, ⟨Lc91, hQ91, l91, y91, z91⟩, st91⟩ := Jvm.LawKit.callS X90 hx (y := (⟨"com/example/sensor_access_indicators/sensoraccessindicators/dbus/Marshalling", "typeEnd", "(Ljava/lang/String;I)I"⟩ : MethodName)) hown (mvT hZ (hw _ (List.mem_of_getElem? (i := 38) rfl))) (mvT hZ (hw _ (List.mem_of_getElem? (i := 39) rfl))) (mvT hZ (hw _ (List.mem_of_getElem? (i := 40) rfl))) (mvT hZ (hw _ (List.mem_of_getElem? (i := 41) rfl))) (by decide) (backOf (W := 0) (rm9 l Z a0 hw b89 wC wF t90 kb90 (own_wr (own_wr ls69 en69 (41 : Int32)) (en69 + (1 : Int32)) (((((q4.toUInt64 >>> ((24 : Int32) &&& 0x3f).toInt64.toUInt64).toInt64) &&& (255 : Int64)).toInt32).toUInt32.toUInt16.toUInt32.toInt32)) T90.heap n0 (Nat.le_trans (Nat.le_trans (Nat.le_trans (Nat.le_trans (Nat.le_trans (Nat.le_trans (Nat.le_trans (Nat.le_trans (Nat.le_trans (Nat.le_trans (Nat.le_trans Z0 E1.1) (Keep.of_wr W3).1) (Keep.of_wr W5).1) (Keep.of_wr W7).1) K11.1) (Keep.of_wr W66).1) K69.1) (Keep.of_wr W84).1) (Keep.of_wr W86).1) E89.1) K90.1) FC90 FV90 EX90 (Sta.ext (((((((((((O0.ext E1).wr W3 g_b1).wr W5 g_b1).wr W7 g_b1).keep K11 (allS g_b1 all0)).wr W66 g_b1).keep K69 (allS g_b1 all0)).wr W84 g_b1).wr W86 g_b1).ext E89).keep K90 (allS g_b89 all0)).2 S_C) hC (Sta.ext (((((((((((O0.ext E1).wr W3 g_b1).wr W5 g_b1).wr W7 g_b1).keep K11 (allS g_b1 all0)).wr W66 g_b1).keep K69 (allS g_b1 all0)).wr W84 g_b1).wr W86 g_b1).ext E89).keep K90 (allS g_b89 all0)).2 S_F) hF V_t90 hT88.1 9 v9_0 (en69 + (1 : Int32)) hT88.2) hZ (hw _ (List.mem_of_getElem? (i := 41) rfl)) (hw _ (List.mem_of_getElem? (i := 40) rfl)) (by decide) (by decide)) (g := (mkF m 273 #[.val (.int p0), .val (.int p1), .val (.int p2), .val (.int p3), .val (.long q4), .second, .val (.ref b1), .val (.int v9_0), .val (.int v9_1), .val (.int v9_2), .val (.int v9_3), .val (.int v9_4), .val (.int v9_5), .val (.int v9_6), .val (.int v9_7), .val (.int (en69 + (1 : Int32))), .val (.int (en69 + (1 : Int32))), .val (.ref b89)] [(.int v9_0), (.ref b89)])) rfl (by rw [hml]; rfl) (argsL := [(.ref b89), (.int v9_0)]) (rest := []) (lenOf pd_6 rfl) rfl (by show 2 * 0 + _ ≤ _; exact Nat.le_of_eq rfl) (hb hby at_273) (fun _ _ => ⟨rfl, rfl, (by decide : 3 + 0 ≤ _), (by decide : 52 + 0 ≤ _)⟩)
          dsimp only [Pt.U, Pt.locs, Pt.cells, Pt.slots] at X91 l91 y91 z91 st91 hQ91
          subst l91 y91 z91
          obtain ⟨rfl, N91q, hh91⟩ := hQ91
          have N91 := Fr.app N90 N91q
          have pre92 : ∀ t, Steps p.tables e below (T91.setTop (mkF m 286 #[.val (.int p0), .val (.int p1), .val (.int p2), .val (.int p3), .val (.long q4), .second, .val (.ref b1), .val (.int v9_0), .val (.int v9_1), .val (.int v9_2), .val (.int v9_3), .val (.int v9_4), .val (.int v9_5), .val (.int v9_6), .val (.int v9_7), .val (.int (en69 + (1 : Int32))), .val (.int (en69 + (1 : Int32))), .val (.ref b89)] [(.int (1 : Int32))])) t → Steps p.tables e below (s₁.setTop (entryFrame m #[(.int p0), (.int p1), (.int p2), (.int p3), (.long q4)] maxLocals)) t := fun t k => pre87 t (by
            show Steps p.tables e below (T86.setTop (mkF m 258 #[.val (.int p0), .val (.int p1), .val (.int p2), .val (.int p3), .val (.long q4), .second, .val (.ref b1), .val (.int v9_0), .val (.int v9_1), .val (.int v9_2), .val (.int v9_3), .val (.int v9_4), .val (.int v9_5), .val (.int v9_6), .val (.int v9_7), .val (.int (en69 + (1 : Int32))), .val (.int (en69 + (1 : Int32))), .val (.int (41 : Int32))] [])) _
            refine st89 _ ?_
            show Steps p.tables e below (T89.setTop (mkF m 261 #[.val (.int p0), .val (.int p1), .val (.int p2), .val (.int p3), .val (.long q4), .second, .val (.ref b1), .val (.int v9_0), .val (.int v9_1), .val (.int v9_2), .val (.int v9_3), .val (.int v9_4), .val (.int v9_5), .val (.int v9_6), .val (.int v9_7), .val (.int (en69 + (1 : Int32))), .val (.int (en69 + (1 : Int32))), .val (.int (41 : Int32))] [(.ref b89)])) _
            refine XS.dup X89.here hx rfl (hb hby at_261) rfl rfl ?_
            show Steps p.tables e below (T89.setTop (mkF m 262 #[.val (.int p0), .val (.int p1), .val (.int p2), .val (.int p3), .val (.long q4), .second, .val (.ref b1), .val (.int v9_0), .val (.int v9_1), .val (.int v9_2), .val (.int v9_3), .val (.int v9_4), .val (.int v9_5), .val (.int v9_6), .val (.int v9_7), .val (.int (en69 + (1 : Int32))), .val (.int (en69 + (1 : Int32))), .val (.int (41 : Int32))] [(.ref b89), (.ref b89)])) _
            refine XS.aload X89.here hx rfl (hb hby at_262) rfl rfl ?_
            show Steps p.tables e below (T89.setTop (mkF m 264 #[.val (.int p0), .val (.int p1), .val (.int p2), .val (.int p3), .val (.long q4), .second, .val (.ref b1), .val (.int v9_0), .val (.int v9_1), .val (.int v9_2), .val (.int v9_3), .val (.int v9_4), .val (.int v9_5), .val (.int v9_6), .val (.int v9_7), .val (.int (en69 + (1 : Int32))), .val (.int (en69 + (1 : Int32))), .val (.int (41 : Int32))] [(.ref b1), (.ref b89), (.ref b89)])) _
            refine st90.trans ?_
            show Steps p.tables e below (T90.setTop (mkF m 267 #[.val (.int p0), .val (.int p1), .val (.int p2), .val (.int p3), .val (.long q4), .second, .val (.ref b1), .val (.int v9_0), .val (.int v9_1), .val (.int v9_2), .val (.int v9_3), .val (.int v9_4), .val (.int v9_5), .val (.int v9_6), .val (.int v9_7), .val (.int (en69 + (1 : Int32))), .val (.int (en69 + (1 : Int32))), .val (.int (41 : Int32))] [(.ref b89)])) _
            refine XS.astore X90.here hx rfl (hb hby at_267) rfl rfl (l' := #[.val (.int p0), .val (.int p1), .val (.int p2), .val (.int p3), .val (.long q4), .second, .val (.ref b1), .val (.int v9_0), .val (.int v9_1), .val (.int v9_2), .val (.int v9_3), .val (.int v9_4), .val (.int v9_5), .val (.int v9_6), .val (.int v9_7), .val (.int (en69 + (1 : Int32))), .val (.int (en69 + (1 : Int32))), .val (.ref b89)]) rfl ?_
            show Steps p.tables e below (T90.setTop (mkF m 269 #[.val (.int p0), .val (.int p1), .val (.int p2), .val (.int p3), .val (.long q4), .second, .val (.ref b1), .val (.int v9_0), .val (.int v9_1), .val (.int v9_2), .val (.int v9_3), .val (.int v9_4), .val (.int v9_5), .val (.int v9_6), .val (.int v9_7), .val (.int (en69 + (1 : Int32))), .val (.int (en69 + (1 : Int32))), .val (.ref b89)] [])) _
            refine XS.aload X90.here hx rfl (hb hby at_269) rfl rfl ?_
            show Steps p.tables e below (T90.setTop (mkF m 271 #[.val (.int p0), .val (.int p1), .val (.int p2), .val (.int p3), .val (.long q4), .second, .val (.ref b1), .val (.int v9_0), .val (.int v9_1), .val (.int v9_2), .val (.int v9_3), .val (.int v9_4), .val (.int v9_5), .val (.int v9_6), .val (.int v9_7), .val (.int (en69 + (1 : Int32))), .val (.int (en69 + (1 : Int32))), .val (.ref b89)] [(.ref b89)])) _
            refine XS.iload X90.here hx rfl (hb hby at_271) rfl ?_
            show Steps p.tables e below (T90.setTop (mkF m 273 #[.val (.int p0), .val (.int p1), .val (.int p2), .val (.int p3), .val (.long q4), .second, .val (.ref b1), .val (.int v9_0), .val (.int v9_1), .val (.int v9_2), .val (.int v9_3), .val (.int v9_4), .val (.int v9_5), .val (.int v9_6), .val (.int v9_7), .val (.int (en69 + (1 : Int32))), .val (.int (en69 + (1 : Int32))), .val (.ref b89)] [(.int v9_0), (.ref b89)])) _
            refine st91 _ ?_
            show Steps p.tables e below (T91.setTop (mkF m 276 #[.val (.int p0), .val (.int p1), .val (.int p2), .val (.int p3), .val (.long q4), .second, .val (.ref b1), .val (.int v9_0), .val (.int v9_1), .val (.int v9_2), .val (.int v9_3), .val (.int v9_4), .val (.int v9_5), .val (.int v9_6), .val (.int v9_7), .val (.int (en69 + (1 : Int32))), .val (.int (en69 + (1 : Int32))), .val (.ref b89)] [(.int (en69 + (1 : Int32)))])) _
            refine XS.iload X91.here hx rfl (hb hby at_276) rfl ?_
            show Steps p.tables e below (T91.setTop (mkF m 278 #[.val (.int p0), .val (.int p1), .val (.int p2), .val (.int p3), .val (.long q4), .second, .val (.ref b1), .val (.int v9_0), .val (.int v9_1), .val (.int v9_2), .val (.int v9_3), .val (.int v9_4), .val (.int v9_5), .val (.int v9_6), .val (.int v9_7), .val (.int (en69 + (1 : Int32))), .val (.int (en69 + (1 : Int32))), .val (.ref b89)] [(.int (en69 + (1 : Int32))), (.int (en69 + (1 : Int32)))])) _
            refine XS.icmpNo X91.here hx rfl (hb hby at_278) rfl (teq (by first | exact rfl | decide : (en69 + (1 : Int32)) = (en69 + (1 : Int32)))).2 ?_
            show Steps p.tables e below (T91.setTop (mkF m 281 #[.val (.int p0), .val (.int p1), .val (.int p2), .val (.int p3), .val (.long q4), .second, .val (.ref b1), .val (.int v9_0), .val (.int v9_1), .val (.int v9_2), .val (.int v9_3), .val (.int v9_4), .val (.int v9_5), .val (.int v9_6), .val (.int v9_7), .val (.int (en69 + (1 : Int32))), .val (.int (en69 + (1 : Int32))), .val (.ref b89)] [])) _
            refine XS.iconst X91.here hx rfl (hb hby at_281) ?_
            show Steps p.tables e below (T91.setTop (mkF m 282 #[.val (.int p0), .val (.int p1), .val (.int p2), .val (.int p3), .val (.long q4), .second, .val (.ref b1), .val (.int v9_0), .val (.int v9_1), .val (.int v9_2), .val (.int v9_3), .val (.int v9_4), .val (.int v9_5), .val (.int v9_6), .val (.int v9_7), .val (.int (en69 + (1 : Int32))), .val (.int (en69 + (1 : Int32))), .val (.ref b89)] [(.int (1 : Int32))])) _
            refine XS.goto X91.here hx rfl (pc0 := 282) (pc' := 286) rfl (hb hby at_282) (by decide) (by decide) ?_
            exact k)
          obtain ⟨fs, hr, hrun, hended, hW, hsame⟩ := X91.leave (v := some (.int (1 : Int32))) (fun h => by rw [Bd.returns] at h; cases h)
          refine ⟨_, _, pre92 _ ?_, hrun, hended, _, _, rfl, ?_, ⟨_, rfl⟩, hW, hsame.mono (by decide) (by decide)⟩
          · exact retN X91 hx (t := .boolean) Bd.returns (by simp) (hb hby at_286) hr
          · show Q0 Z p0 p1 p2 p3 q4 wC wF h0 n0 _ T91.heap _
            rw [hh91]
            exact ⟨rfl, N91⟩
      · obtain ⟨c93, Ar93, hin93, -⟩ := own_read V66 (own_pos hls hst hk).2.2.2.1
        obtain ⟨T94, h94, X94, e94, W94, st94⟩ := stC X66 hx hZ e66 Ar93 (j := ((own_aE v9_0 v9_1) + (1 : Int32))) hin93 (g := (mkF m 231 #[.val (.int p0), .val (.int p1), .val (.int p2), .val (.int p3), .val (.long q4), .second, .val (.ref b1), .val (.int v9_0), .val (.int v9_1), .val (.int v9_2), .val (.int v9_3), .val (.int v9_4), .val (.int v9_5), .val (.int v9_6), .val (.int v9_7), .val (.int ((own_aE v9_0 v9_1) + (1 : Int32))), .val (.int (40 : Int32)), .val (.int (41 : Int32))] [(.int (41 : Int32)), (.int ((own_aE v9_0 v9_1) + (1 : Int32))), (.ref b1)])) rfl rfl (hb hby at_231)
        have V94 : own_A Z h94 b1 k1 .char (24 : Int32) (own_wr (own_wr (own_aL ls v9_0 v9_1) (own_aE v9_0 v9_1) (40 : Int32)) ((own_aE v9_0 v9_1) + (1 : Int32)) (41 : Int32)) := own_writeC V66 (own_pos hls hst hk).2.2.2.1 (by decide) W94
        have KK94 : Keep h0 h94 [] := KK66.wr W94 (Or.inr sz_b1)
        have N94 := Fr.snoc X94 N66 g_b1
        obtain ⟨c95, Ar95, hin95, -⟩ := own_read V94 (own_pos2 hls hst hk).1
        obtain ⟨T96, h96, X96, e96, W96, st96⟩ := stC X94 hx hZ e94 Ar95 (j := (((own_aE v9_0 v9_1) + (1 : Int32)) + (1 : Int32))) hin95 (g := (mkF m 257 #[.val (.int p0), .val (.int p1), .val (.int p2), .val (.int p3), .val (.long q4), .second, .val (.ref b1), .val (.int v9_0), .val (.int v9_1), .val (.int v9_2), .val (.int v9_3), .val (.int v9_4), .val (.int v9_5), .val (.int v9_6), .val (.int v9_7), .val (.int (((own_aE v9_0 v9_1) + (1 : Int32)) + (1 : Int32))), .val (.int (((own_aE v9_0 v9_1) + (1 : Int32)) + (1 : Int32))), .val (.int (41 : Int32))] [(.int (((((q4.toUInt64 >>> ((24 : Int32) &&& 0x3f).toInt64.toUInt64).toInt64) &&& (255 : Int64)).toInt32).toUInt32.toUInt16.toUInt32.toInt32)), (.int (((own_aE v9_0 v9_1) + (1 : Int32)) + (1 : Int32))), (.ref b1)])) rfl rfl (hb hby at_257)
        have V96 : own_A Z h96 b1 k1 .char (24 : Int32) (own_wr (own_wr (own_wr (own_aL ls v9_0 v9_1) (own_aE v9_0 v9_1) (40 : Int32)) ((own_aE v9_0 v9_1) + (1 : Int32)) (41 : Int32)) (((own_aE v9_0 v9_1) + (1 : Int32)) + (1 : Int32)) (((((q4.toUInt64 >>> ((24 : Int32) &&& 0x3f).toInt64.toUInt64).toInt64) &&& (255 : Int64)).toInt32).toUInt32.toUInt16.toUInt32.toInt32)) := own_writeC V94 (own_pos2 hls hst hk).1 (own_lb _) W96
        have KK96 : Keep h0 h96 [] := KK94.wr W96 (Or.inr sz_b1)
        have N96 := Fr.snoc X96 N94 g_b1
        have pre97 : ∀ t, Steps p.tables e below (T96.setTop (mkF m 258 #[.val (.int p0), .val (.int p1), .val (.int p2), .val (.int p3), .val (.long q4), .second, .val (.ref b1), .val (.int v9_0), .val (.int v9_1), .val (.int v9_2), .val (.int v9_3), .val (.int v9_4), .val (.int v9_5), .val (.int v9_6), .val (.int v9_7), .val (.int (((own_aE v9_0 v9_1) + (1 : Int32)) + (1 : Int32))), .val (.int (((own_aE v9_0 v9_1) + (1 : Int32)) + (1 : Int32))), .val (.int (41 : Int32))] [])) t → Steps p.tables e below (s₁.setTop (entryFrame m #[(.int p0), (.int p1), (.int p2), (.int p3), (.long q4)] maxLocals)) t := fun t k => pre67 t (by
          show Steps p.tables e below (T66.setTop (mkF m 188 #[.val (.int p0), .val (.int p1), .val (.int p2), .val (.int p3), .val (.long q4), .second, .val (.ref b1), .val (.int v9_0), .val (.int v9_1), .val (.int v9_2), .val (.int v9_3), .val (.int v9_4), .val (.int v9_5), .val (.int v9_6), .val (.int v9_7), .val (.int ((own_aE v9_0 v9_1) + (1 : Int32))), .val (.int (40 : Int32)), .val (.int (41 : Int32))] [(.int v9_3)])) _
          refine XS.ifYes X66.here hx rfl (pc0 := 188) (pc' := 205) rfl (hb hby at_188) rfl ((if0 _ _).trans (flt hc188_68).2.2.2) (by decide) (by decide) ?_
          show Steps p.tables e below (T66.setTop (mkF m 205 #[.val (.int p0), .val (.int p1), .val (.int p2), .val (.int p3), .val (.long q4), .second, .val (.ref b1), .val (.int v9_0), .val (.int v9_1), .val (.int v9_2), .val (.int v9_3), .val (.int v9_4), .val (.int v9_5), .val (.int v9_6), .val (.int v9_7), .val (.int ((own_aE v9_0 v9_1) + (1 : Int32))), .val (.int (40 : Int32)), .val (.int (41 : Int32))] [])) _
          refine XS.iload X66.here hx rfl (hb hby at_205) rfl ?_
          show Steps p.tables e below (T66.setTop (mkF m 207 #[.val (.int p0), .val (.int p1), .val (.int p2), .val (.int p3), .val (.long q4), .second, .val (.ref b1), .val (.int v9_0), .val (.int v9_1), .val (.int v9_2), .val (.int v9_3), .val (.int v9_4), .val (.int v9_5), .val (.int v9_6), .val (.int v9_7), .val (.int ((own_aE v9_0 v9_1) + (1 : Int32))), .val (.int (40 : Int32)), .val (.int (41 : Int32))] [(.int v9_3)])) _
          refine XS.iconst X66.here hx rfl (hb hby at_207) ?_
          show Steps p.tables e below (T66.setTop (mkF m 208 #[.val (.int p0), .val (.int p1), .val (.int p2), .val (.int p3), .val (.long q4), .second, .val (.ref b1), .val (.int v9_0), .val (.int v9_1), .val (.int v9_2), .val (.int v9_3), .val (.int v9_4), .val (.int v9_5), .val (.int v9_6), .val (.int v9_7), .val (.int ((own_aE v9_0 v9_1) + (1 : Int32))), .val (.int (40 : Int32)), .val (.int (41 : Int32))] [(.int (1 : Int32)), (.int v9_3)])) _
          refine XS.icmpYes X66.here hx rfl (pc0 := 208) (pc' := 225) rfl (hb hby at_208) rfl (flt (fun q => hc188_68 (by simp only [Int32.lt_iff_toInt_lt, Int32.reduceToInt] at q ⊢; omega))).2.2.2 (by decide) (by decide) ?_
          show Steps p.tables e below (T66.setTop (mkF m 225 #[.val (.int p0), .val (.int p1), .val (.int p2), .val (.int p3), .val (.long q4), .second, .val (.ref b1), .val (.int v9_0), .val (.int v9_1), .val (.int v9_2), .val (.int v9_3), .val (.int v9_4), .val (.int v9_5), .val (.int v9_6), .val (.int v9_7), .val (.int ((own_aE v9_0 v9_1) + (1 : Int32))), .val (.int (40 : Int32)), .val (.int (41 : Int32))] [])) _
          refine XS.aload X66.here hx rfl (hb hby at_225) rfl rfl ?_
          show Steps p.tables e below (T66.setTop (mkF m 227 #[.val (.int p0), .val (.int p1), .val (.int p2), .val (.int p3), .val (.long q4), .second, .val (.ref b1), .val (.int v9_0), .val (.int v9_1), .val (.int v9_2), .val (.int v9_3), .val (.int v9_4), .val (.int v9_5), .val (.int v9_6), .val (.int v9_7), .val (.int ((own_aE v9_0 v9_1) + (1 : Int32))), .val (.int (40 : Int32)), .val (.int (41 : Int32))] [(.ref b1)])) _
          refine XS.iload X66.here hx rfl (hb hby at_227) rfl ?_
          show Steps p.tables e below (T66.setTop (mkF m 229 #[.val (.int p0), .val (.int p1), .val (.int p2), .val (.int p3), .val (.long q4), .second, .val (.ref b1), .val (.int v9_0), .val (.int v9_1), .val (.int v9_2), .val (.int v9_3), .val (.int v9_4), .val (.int v9_5), .val (.int v9_6), .val (.int v9_7), .val (.int ((own_aE v9_0 v9_1) + (1 : Int32))), .val (.int (40 : Int32)), .val (.int (41 : Int32))] [(.int ((own_aE v9_0 v9_1) + (1 : Int32))), (.ref b1)])) _
          refine XS.iload X66.here hx rfl (hb hby at_229) rfl ?_
          show Steps p.tables e below (T66.setTop (mkF m 231 #[.val (.int p0), .val (.int p1), .val (.int p2), .val (.int p3), .val (.long q4), .second, .val (.ref b1), .val (.int v9_0), .val (.int v9_1), .val (.int v9_2), .val (.int v9_3), .val (.int v9_4), .val (.int v9_5), .val (.int v9_6), .val (.int v9_7), .val (.int ((own_aE v9_0 v9_1) + (1 : Int32))), .val (.int (40 : Int32)), .val (.int (41 : Int32))] [(.int (41 : Int32)), (.int ((own_aE v9_0 v9_1) + (1 : Int32))), (.ref b1)])) _
          refine st94 _ ?_
          show Steps p.tables e below (T94.setTop (mkF m 232 #[.val (.int p0), .val (.int p1), .val (.int p2), .val (.int p3), .val (.long q4), .second, .val (.ref b1), .val (.int v9_0), .val (.int v9_1), .val (.int v9_2), .val (.int v9_3), .val (.int v9_4), .val (.int v9_5), .val (.int v9_6), .val (.int v9_7), .val (.int ((own_aE v9_0 v9_1) + (1 : Int32))), .val (.int (40 : Int32)), .val (.int (41 : Int32))] [])) _
          refine XS.iload X94.here hx rfl (hb hby at_232) rfl ?_
          show Steps p.tables e below (T94.setTop (mkF m 234 #[.val (.int p0), .val (.int p1), .val (.int p2), .val (.int p3), .val (.long q4), .second, .val (.ref b1), .val (.int v9_0), .val (.int v9_1), .val (.int v9_2), .val (.int v9_3), .val (.int v9_4), .val (.int v9_5), .val (.int v9_6), .val (.int v9_7), .val (.int ((own_aE v9_0 v9_1) + (1 : Int32))), .val (.int (40 : Int32)), .val (.int (41 : Int32))] [(.int ((own_aE v9_0 v9_1) + (1 : Int32)))])) _
          refine XS.iconst X94.here hx rfl (hb hby at_234) ?_
          show Steps p.tables e below (T94.setTop (mkF m 235 #[.val (.int p0), .val (.int p1), .val (.int p2), .val (.int p3), .val (.long q4), .second, .val (.ref b1), .val (.int v9_0), .val (.int v9_1), .val (.int v9_2), .val (.int v9_3), .val (.int v9_4), .val (.int v9_5), .val (.int v9_6), .val (.int v9_7), .val (.int ((own_aE v9_0 v9_1) + (1 : Int32))), .val (.int (40 : Int32)), .val (.int (41 : Int32))] [(.int (1 : Int32)), (.int ((own_aE v9_0 v9_1) + (1 : Int32)))])) _
          refine XS.iadd X94.here hx rfl (hb hby at_235) rfl ?_
          show Steps p.tables e below (T94.setTop (mkF m 236 #[.val (.int p0), .val (.int p1), .val (.int p2), .val (.int p3), .val (.long q4), .second, .val (.ref b1), .val (.int v9_0), .val (.int v9_1), .val (.int v9_2), .val (.int v9_3), .val (.int v9_4), .val (.int v9_5), .val (.int v9_6), .val (.int v9_7), .val (.int ((own_aE v9_0 v9_1) + (1 : Int32))), .val (.int (40 : Int32)), .val (.int (41 : Int32))] [(.int (((own_aE v9_0 v9_1) + (1 : Int32)) + (1 : Int32)))])) _
          refine XS.istore X94.here hx rfl (hb hby at_236) rfl (l' := #[.val (.int p0), .val (.int p1), .val (.int p2), .val (.int p3), .val (.long q4), .second, .val (.ref b1), .val (.int v9_0), .val (.int v9_1), .val (.int v9_2), .val (.int v9_3), .val (.int v9_4), .val (.int v9_5), .val (.int v9_6), .val (.int v9_7), .val (.int (((own_aE v9_0 v9_1) + (1 : Int32)) + (1 : Int32))), .val (.int (40 : Int32)), .val (.int (41 : Int32))]) rfl ?_
          show Steps p.tables e below (T94.setTop (mkF m 238 #[.val (.int p0), .val (.int p1), .val (.int p2), .val (.int p3), .val (.long q4), .second, .val (.ref b1), .val (.int v9_0), .val (.int v9_1), .val (.int v9_2), .val (.int v9_3), .val (.int v9_4), .val (.int v9_5), .val (.int v9_6), .val (.int v9_7), .val (.int (((own_aE v9_0 v9_1) + (1 : Int32)) + (1 : Int32))), .val (.int (40 : Int32)), .val (.int (41 : Int32))] [])) _
          refine XS.iload X94.here hx rfl (hb hby at_238) rfl ?_
          show Steps p.tables e below (T94.setTop (mkF m 240 #[.val (.int p0), .val (.int p1), .val (.int p2), .val (.int p3), .val (.long q4), .second, .val (.ref b1), .val (.int v9_0), .val (.int v9_1), .val (.int v9_2), .val (.int v9_3), .val (.int v9_4), .val (.int v9_5), .val (.int v9_6), .val (.int v9_7), .val (.int (((own_aE v9_0 v9_1) + (1 : Int32)) + (1 : Int32))), .val (.int (40 : Int32)), .val (.int (41 : Int32))] [(.int (((own_aE v9_0 v9_1) + (1 : Int32)) + (1 : Int32)))])) _
          refine XS.istore X94.here hx rfl (hb hby at_240) rfl (l' := #[.val (.int p0), .val (.int p1), .val (.int p2), .val (.int p3), .val (.long q4), .second, .val (.ref b1), .val (.int v9_0), .val (.int v9_1), .val (.int v9_2), .val (.int v9_3), .val (.int v9_4), .val (.int v9_5), .val (.int v9_6), .val (.int v9_7), .val (.int (((own_aE v9_0 v9_1) + (1 : Int32)) + (1 : Int32))), .val (.int (((own_aE v9_0 v9_1) + (1 : Int32)) + (1 : Int32))), .val (.int (41 : Int32))]) rfl ?_
          show Steps p.tables e below (T94.setTop (mkF m 242 #[.val (.int p0), .val (.int p1), .val (.int p2), .val (.int p3), .val (.long q4), .second, .val (.ref b1), .val (.int v9_0), .val (.int v9_1), .val (.int v9_2), .val (.int v9_3), .val (.int v9_4), .val (.int v9_5), .val (.int v9_6), .val (.int v9_7), .val (.int (((own_aE v9_0 v9_1) + (1 : Int32)) + (1 : Int32))), .val (.int (((own_aE v9_0 v9_1) + (1 : Int32)) + (1 : Int32))), .val (.int (41 : Int32))] [])) _
          refine XS.aload X94.here hx rfl (hb hby at_242) rfl rfl ?_
          show Steps p.tables e below (T94.setTop (mkF m 244 #[.val (.int p0), .val (.int p1), .val (.int p2), .val (.int p3), .val (.long q4), .second, .val (.ref b1), .val (.int v9_0), .val (.int v9_1), .val (.int v9_2), .val (.int v9_3), .val (.int v9_4), .val (.int v9_5), .val (.int v9_6), .val (.int v9_7), .val (.int (((own_aE v9_0 v9_1) + (1 : Int32)) + (1 : Int32))), .val (.int (((own_aE v9_0 v9_1) + (1 : Int32)) + (1 : Int32))), .val (.int (41 : Int32))] [(.ref b1)])) _
          refine XS.iload X94.here hx rfl (hb hby at_244) rfl ?_
          show Steps p.tables e below (T94.setTop (mkF m 246 #[.val (.int p0), .val (.int p1), .val (.int p2), .val (.int p3), .val (.long q4), .second, .val (.ref b1), .val (.int v9_0), .val (.int v9_1), .val (.int v9_2), .val (.int v9_3), .val (.int v9_4), .val (.int v9_5), .val (.int v9_6), .val (.int v9_7), .val (.int (((own_aE v9_0 v9_1) + (1 : Int32)) + (1 : Int32))), .val (.int (((own_aE v9_0 v9_1) + (1 : Int32)) + (1 : Int32))), .val (.int (41 : Int32))] [(.int (((own_aE v9_0 v9_1) + (1 : Int32)) + (1 : Int32))), (.ref b1)])) _
          refine XS.lload X94.here hx rfl (hb hby at_246) rfl ?_
          show Steps p.tables e below (T94.setTop (mkF m 248 #[.val (.int p0), .val (.int p1), .val (.int p2), .val (.int p3), .val (.long q4), .second, .val (.ref b1), .val (.int v9_0), .val (.int v9_1), .val (.int v9_2), .val (.int v9_3), .val (.int v9_4), .val (.int v9_5), .val (.int v9_6), .val (.int v9_7), .val (.int (((own_aE v9_0 v9_1) + (1 : Int32)) + (1 : Int32))), .val (.int (((own_aE v9_0 v9_1) + (1 : Int32)) + (1 : Int32))), .val (.int (41 : Int32))] [(.long q4), (.int (((own_aE v9_0 v9_1) + (1 : Int32)) + (1 : Int32))), (.ref b1)])) _
          refine XS.bipush X94.here hx rfl (hb hby at_248) ?_
          show Steps p.tables e below (T94.setTop (mkF m 250 #[.val (.int p0), .val (.int p1), .val (.int p2), .val (.int p3), .val (.long q4), .second, .val (.ref b1), .val (.int v9_0), .val (.int v9_1), .val (.int v9_2), .val (.int v9_3), .val (.int v9_4), .val (.int v9_5), .val (.int v9_6), .val (.int v9_7), .val (.int (((own_aE v9_0 v9_1) + (1 : Int32)) + (1 : Int32))), .val (.int (((own_aE v9_0 v9_1) + (1 : Int32)) + (1 : Int32))), .val (.int (41 : Int32))] [(.int (24 : Int32)), (.long q4), (.int (((own_aE v9_0 v9_1) + (1 : Int32)) + (1 : Int32))), (.ref b1)])) _
          refine XS.lushr X94.here hx rfl (hb hby at_250) rfl ?_
          show Steps p.tables e below (T94.setTop (mkF m 251 #[.val (.int p0), .val (.int p1), .val (.int p2), .val (.int p3), .val (.long q4), .second, .val (.ref b1), .val (.int v9_0), .val (.int v9_1), .val (.int v9_2), .val (.int v9_3), .val (.int v9_4), .val (.int v9_5), .val (.int v9_6), .val (.int v9_7), .val (.int (((own_aE v9_0 v9_1) + (1 : Int32)) + (1 : Int32))), .val (.int (((own_aE v9_0 v9_1) + (1 : Int32)) + (1 : Int32))), .val (.int (41 : Int32))] [(.long ((q4.toUInt64 >>> ((24 : Int32) &&& 0x3f).toInt64.toUInt64).toInt64)), (.int (((own_aE v9_0 v9_1) + (1 : Int32)) + (1 : Int32))), (.ref b1)])) _
          refine X94.ldc2Long hx hown (mvT hZ (hw _ (List.mem_of_getElem? (i := 1) rfl))) (g := (mkF m 251 #[.val (.int p0), .val (.int p1), .val (.int p2), .val (.int p3), .val (.long q4), .second, .val (.ref b1), .val (.int v9_0), .val (.int v9_1), .val (.int v9_2), .val (.int v9_3), .val (.int v9_4), .val (.int v9_5), .val (.int v9_6), .val (.int v9_7), .val (.int (((own_aE v9_0 v9_1) + (1 : Int32)) + (1 : Int32))), .val (.int (((own_aE v9_0 v9_1) + (1 : Int32)) + (1 : Int32))), .val (.int (41 : Int32))] [(.long ((q4.toUInt64 >>> ((24 : Int32) &&& 0x3f).toInt64.toUInt64).toInt64)), (.int (((own_aE v9_0 v9_1) + (1 : Int32)) + (1 : Int32))), (.ref b1)])) rfl (hb hby at_251) _ ?_
          show Steps p.tables e below (T94.setTop (mkF m 254 #[.val (.int p0), .val (.int p1), .val (.int p2), .val (.int p3), .val (.long q4), .second, .val (.ref b1), .val (.int v9_0), .val (.int v9_1), .val (.int v9_2), .val (.int v9_3), .val (.int v9_4), .val (.int v9_5), .val (.int v9_6), .val (.int v9_7), .val (.int (((own_aE v9_0 v9_1) + (1 : Int32)) + (1 : Int32))), .val (.int (((own_aE v9_0 v9_1) + (1 : Int32)) + (1 : Int32))), .val (.int (41 : Int32))] [(.long (255 : Int64)), (.long ((q4.toUInt64 >>> ((24 : Int32) &&& 0x3f).toInt64.toUInt64).toInt64)), (.int (((own_aE v9_0 v9_1) + (1 : Int32)) + (1 : Int32))), (.ref b1)])) _
          refine XS.land X94.here hx rfl (hb hby at_254) rfl ?_
          show Steps p.tables e below (T94.setTop (mkF m 255 #[.val (.int p0), .val (.int p1), .val (.int p2), .val (.int p3), .val (.long q4), .second, .val (.ref b1), .val (.int v9_0), .val (.int v9_1), .val (.int v9_2), .val (.int v9_3), .val (.int v9_4), .val (.int v9_5), .val (.int v9_6), .val (.int v9_7), .val (.int (((own_aE v9_0 v9_1) + (1 : Int32)) + (1 : Int32))), .val (.int (((own_aE v9_0 v9_1) + (1 : Int32)) + (1 : Int32))), .val (.int (41 : Int32))] [(.long (((q4.toUInt64 >>> ((24 : Int32) &&& 0x3f).toInt64.toUInt64).toInt64) &&& (255 : Int64))), (.int (((own_aE v9_0 v9_1) + (1 : Int32)) + (1 : Int32))), (.ref b1)])) _
          refine XS.l2i X94.here hx rfl (hb hby at_255) rfl ?_
          show Steps p.tables e below (T94.setTop (mkF m 256 #[.val (.int p0), .val (.int p1), .val (.int p2), .val (.int p3), .val (.long q4), .second, .val (.ref b1), .val (.int v9_0), .val (.int v9_1), .val (.int v9_2), .val (.int v9_3), .val (.int v9_4), .val (.int v9_5), .val (.int v9_6), .val (.int v9_7), .val (.int (((own_aE v9_0 v9_1) + (1 : Int32)) + (1 : Int32))), .val (.int (((own_aE v9_0 v9_1) + (1 : Int32)) + (1 : Int32))), .val (.int (41 : Int32))] [(.int ((((q4.toUInt64 >>> ((24 : Int32) &&& 0x3f).toInt64.toUInt64).toInt64) &&& (255 : Int64)).toInt32)), (.int (((own_aE v9_0 v9_1) + (1 : Int32)) + (1 : Int32))), (.ref b1)])) _
          refine XS.i2c X94.here hx rfl (hb hby at_256) rfl ?_
          show Steps p.tables e below (T94.setTop (mkF m 257 #[.val (.int p0), .val (.int p1), .val (.int p2), .val (.int p3), .val (.long q4), .second, .val (.ref b1), .val (.int v9_0), .val (.int v9_1), .val (.int v9_2), .val (.int v9_3), .val (.int v9_4), .val (.int v9_5), .val (.int v9_6), .val (.int v9_7), .val (.int (((own_aE v9_0 v9_1) + (1 : Int32)) + (1 : Int32))), .val (.int (((own_aE v9_0 v9_1) + (1 : Int32)) + (1 : Int32))), .val (.int (41 : Int32))] [(.int (((((q4.toUInt64 >>> ((24 : Int32) &&& 0x3f).toInt64.toUInt64).toInt64) &&& (255 : Int64)).toInt32).toUInt32.toUInt16.toUInt32.toInt32)), (.int (((own_aE v9_0 v9_1) + (1 : Int32)) + (1 : Int32))), (.ref b1)])) _
          refine st96 _ ?_
          exact k)
        have hT98 : own_by (own_wr (own_wr (own_wr (own_aL ls v9_0 v9_1) (own_aE v9_0 v9_1) (40 : Int32)) ((own_aE v9_0 v9_1) + (1 : Int32)) (41 : Int32)) (((own_aE v9_0 v9_1) + (1 : Int32)) + (1 : Int32)) (((((q4.toUInt64 >>> ((24 : Int32) &&& 0x3f).toInt64.toUInt64).toInt64) &&& (255 : Int64)).toInt32).toUInt32.toUInt16.toUInt32.toInt32)) ∧ own_ty (own_wr (own_wr (own_wr (own_aL ls v9_0 v9_1) (own_aE v9_0 v9_1) (40 : Int32)) ((own_aE v9_0 v9_1) + (1 : Int32)) (41 : Int32)) (((own_aE v9_0 v9_1) + (1 : Int32)) + (1 : Int32)) (((((q4.toUInt64 >>> ((24 : Int32) &&& 0x3f).toInt64.toUInt64).toInt64) &&& (255 : Int64)).toInt32).toUInt32.toUInt16.toUInt32.toInt32)) 9 v9_0 (((own_aE v9_0 v9_1) + (1 : Int32)) + (1 : Int32)) := own_n0 hls hst hk (Or.inl ⟨rfl, rfl⟩) (own_lb _)
        obtain ⟨T99, h99, X99, e99, E99, A99, D99, -, st99⟩ := newO X96 hx hZ hown (hw _ (List.mem_of_getElem? (i := 9) rfl)) (hw _ (List.mem_of_getElem? (i := 10) rfl)) (hw _ (List.mem_of_getElem? (i := 11) rfl)) e96 (g := (mkF m 258 #[.val (.int p0), .val (.int p1), .val (.int p2), .val (.int p3), .val (.long q4), .second, .val (.ref b1), .val (.int v9_0), .val (.int v9_1), .val (.int v9_2), .val (.int v9_3), .val (.int v9_4), .val (.int v9_5), .val (.int v9_6), .val (.int v9_7), .val (.int (((own_aE v9_0 v9_1) + (1 : Int32)) + (1 : Int32))), .val (.int (((own_aE v9_0 v9_1) + (1 : Int32)) + (1 : Int32))), .val (.int (41 : Int32))] [])) rfl (hb hby at_258) (by decide) (by decide)
        obtain ⟨b99, g99⟩ : ∃ z, z = h96.size := ⟨_, rfl⟩
        rw [← g99] at A99 D99 st99
        have F_coder_b99 : Fld Z h99 b99 "java/lang/String" "coder" "B" (.int (0 : Int32)) := D99 (Or.inr (hw _ (List.mem_of_getElem? (i := 35) rfl))) (ty := .byte) (by decide)
        have F_value_b99 : Fld Z h99 b99 "java/lang/String" "value" "[B" .null := D99 (Or.inr (hw _ (List.mem_of_getElem? (i := 37) rfl))) (ty := (.array .byte)) (by decide)
        have g_b99 : n0 ≤ b99 := Nat.le_trans (Nat.le_trans (Nat.le_trans (Nat.le_trans (Nat.le_trans (Nat.le_trans (Nat.le_trans (Nat.le_trans (Nat.le_trans Z0 E1.1) (Keep.of_wr W3).1) (Keep.of_wr W5).1) (Keep.of_wr W7).1) K11.1) (Keep.of_wr W66).1) (Keep.of_wr W94).1) (Keep.of_wr W96).1) (Nat.le_of_eq g99.symm)
        have sz_b99 : h0.size ≤ b99 := Nat.le_trans KK96.1 (Nat.le_of_eq g99.symm)
        have KK99 : Keep h0 h99 [] := KK96.ext E99
        obtain ⟨_, _, ⟨T100, L100, k100, n100⟩, -, X100, ⟨Lc100, hQ100, l100, y100, z100⟩, st100⟩ := X99.specialBack hx (y := (⟨"java/lang/String", "<init>", "([C)V"⟩ : MethodName)) rfl hown (mvT hZ (hw _ (List.mem_of_getElem? (i := 12) rfl))) (mvT hZ (hw _ (List.mem_of_getElem? (i := 13) rfl))) (mvT hZ (hw _ (List.mem_of_getElem? (i := 14) rfl))) (by decide) (StrChars.Road.backV (W := 1) hZ (fun d hd => hw d ((by decide +kernel : ∀ d ∈ StrChars.Road.words, d ∈ tables_1) d hd)) (hw _ (List.mem_of_getElem? (i := 10) rfl)) (cs := (own_wr (own_wr (own_wr (own_aL ls v9_0 v9_1) (own_aE v9_0 v9_1) (40 : Int32)) ((own_aE v9_0 v9_1) + (1 : Int32)) (41 : Int32)) (((own_aE v9_0 v9_1) + (1 : Int32)) + (1 : Int32)) (((((q4.toUInt64 >>> ((24 : Int32) &&& 0x3f).toInt64.toUInt64).toInt64) &&& (255 : Int64)).toInt32).toUInt32.toUInt16.toUInt32.toInt32))) (bs := (own_wr (own_wr (own_wr (own_aL ls v9_0 v9_1) (own_aE v9_0 v9_1) (40 : Int32)) ((own_aE v9_0 v9_1) + (1 : Int32)) (41 : Int32)) (((own_aE v9_0 v9_1) + (1 : Int32)) + (1 : Int32)) (((((q4.toUInt64 >>> ((24 : Int32) &&& 0x3f).toInt64.toUInt64).toInt64) &&& (255 : Int64)).toInt32).toUInt32.toUInt16.toUInt32.toInt32)).map (fun c => c.toInt8.toInt32)) (n := 24) g_b99 (Nat.le_trans (Nat.le_trans (Nat.le_trans (Nat.le_trans (Nat.le_trans (Nat.le_trans (Nat.le_trans (Nat.le_trans (Nat.le_trans Z0 E1.1) (Keep.of_wr W3).1) (Keep.of_wr W5).1) (Keep.of_wr W7).1) K11.1) (Keep.of_wr W66).1) (Keep.of_wr W94).1) (Keep.of_wr W96).1) E99.1) A99 F_value_b99 F_coder_b99 (V96.ext E99).2 (Sta.ext (((((((((O0.ext E1).wr W3 g_b1).wr W5 g_b1).wr W7 g_b1).keep K11 (allS g_b1 all0)).wr W66 g_b1).wr W94 g_b1).wr W96 g_b1).ext E99).2 S_C) hC hT98.1.1 rfl (by decide) (by decide) hT98.1.2 rfl (by decide) (by decide)) (g := (mkF m 264 #[.val (.int p0), .val (.int p1), .val (.int p2), .val (.int p3), .val (.long q4), .second, .val (.ref b1), .val (.int v9_0), .val (.int v9_1), .val (.int v9_2), .val (.int v9_3), .val (.int v9_4), .val (.int v9_5), .val (.int v9_6), .val (.int v9_7), .val (.int (((own_aE v9_0 v9_1) + (1 : Int32)) + (1 : Int32))), .val (.int (((own_aE v9_0 v9_1) + (1 : Int32)) + (1 : Int32))), .val (.int (41 : Int32))] [(.ref b1), (.ref b99), (.ref b99)])) rfl (by rw [hml]; rfl) (Steps.refl _) (a := b99) (argsL := [(.ref b1)]) (rest := [(.ref b99)]) (lenOf pd_7 rfl) rfl (by show 2 * 0 + _ ≤ _; exact Nat.le_of_eq rfl) (hb hby at_264) (fun _ _ => ⟨rfl, e99, (by decide : 2 + 1 ≤ _), (by decide : 28 + 24 ≤ _)⟩)
        dsimp only [Pt.U, Pt.locs, Pt.cells, Pt.slots] at X100 l100 y100 z100 st100 hQ100
        subst l100 y100 z100
        obtain ⟨rfl, N100q, K100, EX100, FC100, t100, kb100, g_t100, szt100, -, FV100, AV100⟩ := hQ100
        have N100 := Fr.app N96 N100q
        have V_t100 : own_A Z T100.heap t100 kb100 .byte (24 : Int32) ((own_wr (own_wr (own_wr (own_aL ls v9_0 v9_1) (own_aE v9_0 v9_1) (40 : Int32)) ((own_aE v9_0 v9_1) + (1 : Int32)) (41 : Int32)) (((own_aE v9_0 v9_1) + (1 : Int32)) + (1 : Int32)) (((((q4.toUInt64 >>> ((24 : Int32) &&& 0x3f).toInt64.toUInt64).toInt64) &&& (255 : Int64)).toInt32).toUInt32.toUInt16.toUInt32.toInt32)).map (fun c => c.toInt8.toInt32)) := ⟨List.length_map _ |>.trans hT98.1.1, AV100⟩
        obtain ⟨_, _, ⟨T101, L101, k101, n101⟩, -, X101, ⟨Lc101, hQ101, l101, y101, z101⟩, st101⟩ := Jvm.LawKit.callS X100 hx (y := (⟨"com/example/sensor_access_indicators/sensoraccessindicators/dbus/Marshalling", "typeEnd", "(Ljava/lang/String;I)I"⟩ : MethodName)) hown (mvT hZ (hw _ (List.mem_of_getElem? (i := 38) rfl))) (mvT hZ (hw _ (List.mem_of_getElem? (i := 39) rfl))) (mvT hZ (hw _ (List.mem_of_getElem? (i := 40) rfl))) (mvT hZ (hw _ (List.mem_of_getElem? (i := 41) rfl))) (by decide) (backOf (W := 0) (rm9 l Z a0 hw b99 wC wF t100 kb100 (own_wr (own_wr (own_wr (own_aL ls v9_0 v9_1) (own_aE v9_0 v9_1) (40 : Int32)) ((own_aE v9_0 v9_1) + (1 : Int32)) (41 : Int32)) (((own_aE v9_0 v9_1) + (1 : Int32)) + (1 : Int32)) (((((q4.toUInt64 >>> ((24 : Int32) &&& 0x3f).toInt64.toUInt64).toInt64) &&& (255 : Int64)).toInt32).toUInt32.toUInt16.toUInt32.toInt32)) T100.heap n0 (Nat.le_trans (Nat.le_trans (Nat.le_trans (Nat.le_trans (Nat.le_trans (Nat.le_trans (Nat.le_trans (Nat.le_trans (Nat.le_trans (Nat.le_trans Z0 E1.1) (Keep.of_wr W3).1) (Keep.of_wr W5).1) (Keep.of_wr W7).1) K11.1) (Keep.of_wr W66).1) (Keep.of_wr W94).1) (Keep.of_wr W96).1) E99.1) K100.1) FC100 FV100 EX100 (Sta.ext ((((((((((O0.ext E1).wr W3 g_b1).wr W5 g_b1).wr W7 g_b1).keep K11 (allS g_b1 all0)).wr W66 g_b1).wr W94 g_b1).wr W96 g_b1).ext E99).keep K100 (allS g_b99 all0)).2 S_C) hC (Sta.ext ((((((((((O0.ext E1).wr W3 g_b1).wr W5 g_b1).wr W7 g_b1).keep K11 (allS g_b1 all0)).wr W66 g_b1).wr W94 g_b1).wr W96 g_b1).ext E99).keep K100 (allS g_b99 all0)).2 S_F) hF V_t100 hT98.1 9 v9_0 (((own_aE v9_0 v9_1) + (1 : Int32)) + (1 : Int32)) hT98.2) hZ (hw _ (List.mem_of_getElem? (i := 41) rfl)) (hw _ (List.mem_of_getElem? (i := 40) rfl)) (by decide) (by decide)) (g := (mkF m 273 #[.val (.int p0), .val (.int p1), .val (.int p2), .val (.int p3), .val (.long q4), .second, .val (.ref b1), .val (.int v9_0), .val (.int v9_1), .val (.int v9_2), .val (.int v9_3), .val (.int v9_4), .val (.int v9_5), .val (.int v9_6), .val (.int v9_7), .val (.int (((own_aE v9_0 v9_1) + (1 : Int32)) + (1 : Int32))), .val (.int (((own_aE v9_0 v9_1) + (1 : Int32)) + (1 : Int32))), .val (.ref b99)] [(.int v9_0), (.ref b99)])) rfl (by rw [hml]; rfl) (argsL := [(.ref b99), (.int v9_0)]) (rest := []) (lenOf pd_6 rfl) rfl (by show 2 * 0 + _ ≤ _; exact Nat.le_of_eq rfl) (hb hby at_273) (fun _ _ => ⟨rfl, rfl, (by decide : 3 + 0 ≤ _), (by decide : 52 + 0 ≤ _)⟩)
        dsimp only [Pt.U, Pt.locs, Pt.cells, Pt.slots] at X101 l101 y101 z101 st101 hQ101
        subst l101 y101 z101
        obtain ⟨rfl, N101q, hh101⟩ := hQ101
        have N101 := Fr.app N100 N101q
        have pre102 : ∀ t, Steps p.tables e below (T101.setTop (mkF m 286 #[.val (.int p0), .val (.int p1), .val (.int p2), .val (.int p3), .val (.long q4), .second, .val (.ref b1), .val (.int v9_0), .val (.int v9_1), .val (.int v9_2), .val (.int v9_3), .val (.int v9_4), .val (.int v9_5), .val (.int v9_6), .val (.int v9_7), .val (.int (((own_aE v9_0 v9_1) + (1 : Int32)) + (1 : Int32))), .val (.int (((own_aE v9_0 v9_1) + (1 : Int32)) + (1 : Int32))), .val (.ref b99)] [(.int (1 : Int32))])) t → Steps p.tables e below (s₁.setTop (entryFrame m #[(.int p0), (.int p1), (.int p2), (.int p3), (.long q4)] maxLocals)) t := fun t k => pre97 t (by
          show Steps p.tables e below (T96.setTop (mkF m 258 #[.val (.int p0), .val (.int p1), .val (.int p2), .val (.int p3), .val (.long q4), .second, .val (.ref b1), .val (.int v9_0), .val (.int v9_1), .val (.int v9_2), .val (.int v9_3), .val (.int v9_4), .val (.int v9_5), .val (.int v9_6), .val (.int v9_7), .val (.int (((own_aE v9_0 v9_1) + (1 : Int32)) + (1 : Int32))), .val (.int (((own_aE v9_0 v9_1) + (1 : Int32)) + (1 : Int32))), .val (.int (41 : Int32))] [])) _
          refine st99 _ ?_
          show Steps p.tables e below (T99.setTop (mkF m 261 #[.val (.int p0), .val (.int p1), .val (.int p2), .val (.int p3), .val (.long q4), .second, .val (.ref b1), .val (.int v9_0), .val (.int v9_1), .val (.int v9_2), .val (.int v9_3), .val (.int v9_4), .val (.int v9_5), .val (.int v9_6), .val (.int v9_7), .val (.int (((own_aE v9_0 v9_1) + (1 : Int32)) + (1 : Int32))), .val (.int (((own_aE v9_0 v9_1) + (1 : Int32)) + (1 : Int32))), .val (.int (41 : Int32))] [(.ref b99)])) _
          refine XS.dup X99.here hx rfl (hb hby at_261) rfl rfl ?_
          show Steps p.tables e below (T99.setTop (mkF m 262 #[.val (.int p0), .val (.int p1), .val (.int p2), .val (.int p3), .val (.long q4), .second, .val (.ref b1), .val (.int v9_0), .val (.int v9_1), .val (.int v9_2), .val (.int v9_3), .val (.int v9_4), .val (.int v9_5), .val (.int v9_6), .val (.int v9_7), .val (.int (((own_aE v9_0 v9_1) + (1 : Int32)) + (1 : Int32))), .val (.int (((own_aE v9_0 v9_1) + (1 : Int32)) + (1 : Int32))), .val (.int (41 : Int32))] [(.ref b99), (.ref b99)])) _
          refine XS.aload X99.here hx rfl (hb hby at_262) rfl rfl ?_
          show Steps p.tables e below (T99.setTop (mkF m 264 #[.val (.int p0), .val (.int p1), .val (.int p2), .val (.int p3), .val (.long q4), .second, .val (.ref b1), .val (.int v9_0), .val (.int v9_1), .val (.int v9_2), .val (.int v9_3), .val (.int v9_4), .val (.int v9_5), .val (.int v9_6), .val (.int v9_7), .val (.int (((own_aE v9_0 v9_1) + (1 : Int32)) + (1 : Int32))), .val (.int (((own_aE v9_0 v9_1) + (1 : Int32)) + (1 : Int32))), .val (.int (41 : Int32))] [(.ref b1), (.ref b99), (.ref b99)])) _
          refine st100.trans ?_
          show Steps p.tables e below (T100.setTop (mkF m 267 #[.val (.int p0), .val (.int p1), .val (.int p2), .val (.int p3), .val (.long q4), .second, .val (.ref b1), .val (.int v9_0), .val (.int v9_1), .val (.int v9_2), .val (.int v9_3), .val (.int v9_4), .val (.int v9_5), .val (.int v9_6), .val (.int v9_7), .val (.int (((own_aE v9_0 v9_1) + (1 : Int32)) + (1 : Int32))), .val (.int (((own_aE v9_0 v9_1) + (1 : Int32)) + (1 : Int32))), .val (.int (41 : Int32))] [(.ref b99)])) _
          refine XS.astore X100.here hx rfl (hb hby at_267) rfl rfl (l' := #[.val (.int p0), .val (.int p1), .val (.int p2), .val (.int p3), .val (.long q4), .second, .val (.ref b1), .val (.int v9_0), .val (.int v9_1), .val (.int v9_2), .val (.int v9_3), .val (.int v9_4), .val (.int v9_5), .val (.int v9_6), .val (.int v9_7), .val (.int (((own_aE v9_0 v9_1) + (1 : Int32)) + (1 : Int32))), .val (.int (((own_aE v9_0 v9_1) + (1 : Int32)) + (1 : Int32))), .val (.ref b99)]) rfl ?_
          show Steps p.tables e below (T100.setTop (mkF m 269 #[.val (.int p0), .val (.int p1), .val (.int p2), .val (.int p3), .val (.long q4), .second, .val (.ref b1), .val (.int v9_0), .val (.int v9_1), .val (.int v9_2), .val (.int v9_3), .val (.int v9_4), .val (.int v9_5), .val (.int v9_6), .val (.int v9_7), .val (.int (((own_aE v9_0 v9_1) + (1 : Int32)) + (1 : Int32))), .val (.int (((own_aE v9_0 v9_1) + (1 : Int32)) + (1 : Int32))), .val (.ref b99)] [])) _
          refine XS.aload X100.here hx rfl (hb hby at_269) rfl rfl ?_
          show Steps p.tables e below (T100.setTop (mkF m 271 #[.val (.int p0), .val (.int p1), .val (.int p2), .val (.int p3), .val (.long q4), .second, .val (.ref b1), .val (.int v9_0), .val (.int v9_1), .val (.int v9_2), .val (.int v9_3), .val (.int v9_4), .val (.int v9_5), .val (.int v9_6), .val (.int v9_7), .val (.int (((own_aE v9_0 v9_1) + (1 : Int32)) + (1 : Int32))), .val (.int (((own_aE v9_0 v9_1) + (1 : Int32)) + (1 : Int32))), .val (.ref b99)] [(.ref b99)])) _
          refine XS.iload X100.here hx rfl (hb hby at_271) rfl ?_
          show Steps p.tables e below (T100.setTop (mkF m 273 #[.val (.int p0), .val (.int p1), .val (.int p2), .val (.int p3), .val (.long q4), .second, .val (.ref b1), .val (.int v9_0), .val (.int v9_1), .val (.int v9_2), .val (.int v9_3), .val (.int v9_4), .val (.int v9_5), .val (.int v9_6), .val (.int v9_7), .val (.int (((own_aE v9_0 v9_1) + (1 : Int32)) + (1 : Int32))), .val (.int (((own_aE v9_0 v9_1) + (1 : Int32)) + (1 : Int32))), .val (.ref b99)] [(.int v9_0), (.ref b99)])) _
          refine st101 _ ?_
          show Steps p.tables e below (T101.setTop (mkF m 276 #[.val (.int p0), .val (.int p1), .val (.int p2), .val (.int p3), .val (.long q4), .second, .val (.ref b1), .val (.int v9_0), .val (.int v9_1), .val (.int v9_2), .val (.int v9_3), .val (.int v9_4), .val (.int v9_5), .val (.int v9_6), .val (.int v9_7), .val (.int (((own_aE v9_0 v9_1) + (1 : Int32)) + (1 : Int32))), .val (.int (((own_aE v9_0 v9_1) + (1 : Int32)) + (1 : Int32))), .val (.ref b99)] [(.int (((own_aE v9_0 v9_1) + (1 : Int32)) + (1 : Int32)))])) _
          refine XS.iload X101.here hx rfl (hb hby at_276) rfl ?_
          show Steps p.tables e below (T101.setTop (mkF m 278 #[.val (.int p0), .val (.int p1), .val (.int p2), .val (.int p3), .val (.long q4), .second, .val (.ref b1), .val (.int v9_0), .val (.int v9_1), .val (.int v9_2), .val (.int v9_3), .val (.int v9_4), .val (.int v9_5), .val (.int v9_6), .val (.int v9_7), .val (.int (((own_aE v9_0 v9_1) + (1 : Int32)) + (1 : Int32))), .val (.int (((own_aE v9_0 v9_1) + (1 : Int32)) + (1 : Int32))), .val (.ref b99)] [(.int (((own_aE v9_0 v9_1) + (1 : Int32)) + (1 : Int32))), (.int (((own_aE v9_0 v9_1) + (1 : Int32)) + (1 : Int32)))])) _
          refine XS.icmpNo X101.here hx rfl (hb hby at_278) rfl (teq (by first | exact rfl | decide : (((own_aE v9_0 v9_1) + (1 : Int32)) + (1 : Int32)) = (((own_aE v9_0 v9_1) + (1 : Int32)) + (1 : Int32)))).2 ?_
          show Steps p.tables e below (T101.setTop (mkF m 281 #[.val (.int p0), .val (.int p1), .val (.int p2), .val (.int p3), .val (.long q4), .second, .val (.ref b1), .val (.int v9_0), .val (.int v9_1), .val (.int v9_2), .val (.int v9_3), .val (.int v9_4), .val (.int v9_5), .val (.int v9_6), .val (.int v9_7), .val (.int (((own_aE v9_0 v9_1) + (1 : Int32)) + (1 : Int32))), .val (.int (((own_aE v9_0 v9_1) + (1 : Int32)) + (1 : Int32))), .val (.ref b99)] [])) _
          refine XS.iconst X101.here hx rfl (hb hby at_281) ?_
          show Steps p.tables e below (T101.setTop (mkF m 282 #[.val (.int p0), .val (.int p1), .val (.int p2), .val (.int p3), .val (.long q4), .second, .val (.ref b1), .val (.int v9_0), .val (.int v9_1), .val (.int v9_2), .val (.int v9_3), .val (.int v9_4), .val (.int v9_5), .val (.int v9_6), .val (.int v9_7), .val (.int (((own_aE v9_0 v9_1) + (1 : Int32)) + (1 : Int32))), .val (.int (((own_aE v9_0 v9_1) + (1 : Int32)) + (1 : Int32))), .val (.ref b99)] [(.int (1 : Int32))])) _
          refine XS.goto X101.here hx rfl (pc0 := 282) (pc' := 286) rfl (hb hby at_282) (by decide) (by decide) ?_
          exact k)
        obtain ⟨fs, hr, hrun, hended, hW, hsame⟩ := X101.leave (v := some (.int (1 : Int32))) (fun h => by rw [Bd.returns] at h; cases h)
        refine ⟨_, _, pre102 _ ?_, hrun, hended, _, _, rfl, ?_, ⟨_, rfl⟩, hW, hsame.mono (by decide) (by decide)⟩
        · exact retN X101 hx (t := .boolean) Bd.returns (by simp) (hb hby at_286) hr
        · show Q0 Z p0 p1 p2 p3 q4 wC wF h0 n0 _ T101.heap _
          rw [hh101]
          exact ⟨rfl, N101⟩
set_option maxRecDepth 65536 in
set_option maxHeartbeats 40000000 in
theorem comes_1 {Post : Tables → Env → Array Value → State → Outcome → State → Prop} (hpost : ∀ tb e args s v u, (limb_1_1.after args s (.returned v) u = true ∧ limb_1_2.after args s (.returned v) u = true ∧ True) → FrameEnd s (.returned v) u (Jvm.fieldLocs frame_1_writes args s ++ Jvm.arrayLocs frame_1_arrays args s ++ Jvm.staticLocs frame_1_statics s) 16 192 → Post tb e args s (.returned v) u) :
    ArmFor flags0 classFile x code maxLocals ret World_1 tables_1 room_1 Calls_1 rest_1 Pre_1 Post := by
  intro l hfl _ _ p e ha hc hk s m args below hf hA hF happ hP
  obtain ⟨hcalls, hrest, hpre⟩ := hP
  obtain ⟨-, -, -, hnamed, -, -, -, hat⟩ := (Spec.applies_iff hf).mp happ
  obtain ⟨hg, hn⟩ := and_e (Cond.before_iff.mp (show (Jvm.Cond.and given_1 narrow_1).before args s = true from hpre))
  obtain ⟨g1, g2⟩ := and_e hg
  obtain ⟨g3, g4⟩ := and_e g2
  obtain ⟨g5, g6⟩ := and_e g4
  obtain ⟨g7, g8⟩ := and_e g6
  obtain ⟨g9, g10⟩ := and_e g8
  obtain ⟨w0, w1, w2, w3, w4, rfl⟩ : ∃ w0 w1 w2 w3 w4 : Value, args = #[w0, w1, w2, w3, w4] := by
    have hs : args.size = 5 := by simpa [Cond.value, given_1] using g1
    obtain ⟨L⟩ := args
    match L, hs with
    | [w0, w1, w2, w3, w4], _ => exact ⟨w0, w1, w2, w3, w4, rfl⟩
  have hw := fun d (hd : d ∈ tables_1) => atoms_spec (ws := Jvm.Cond.code x code maxLocals ret :: tables_1) hat d (List.mem_cons_of_mem _ hd)
  have hfit : Fit s := fun {y c} hc i hi => by
    obtain ⟨ha, rfl⟩ := Array.getElem?_eq_some_iff.mp hc
    have q := List.all_eq_true.mp ((Array.all_eq_true_iff_forall_mem.mp hF) _ (Array.getElem_mem ha)) i (List.mem_range.mpr hi)
    simpa [Array.getElem?_eq_getElem hi] using q
  obtain ⟨i0, ei0⟩ := is_v g3
  obtain rfl : w0 = (.int i0) := Option.some.inj ei0
  obtain ⟨i1, ei1⟩ := is_v g5
  obtain rfl : w1 = (.int i1) := Option.some.inj ei1
  obtain ⟨i2, ei2⟩ := is_v g7
  obtain rfl : w2 = (.int i2) := Option.some.inj ei2
  obtain ⟨i3, ei3⟩ := is_v g9
  obtain rfl : w3 = (.int i3) := Option.some.inj ei3
  obtain ⟨i4, ei4⟩ := isL_v g10
  obtain rfl : w4 = (.long i4) := Option.some.inj ei4
  obtain ⟨hsets, hown0⟩ := atoms_of _ (rest_1_c_eq ▸ (show rest_1_c.before _ s = true from hrest))
  have hset := fun i c (h : jdkStatics_1[i]? = some c) => Cond.before_iff.mp (hsets c (List.mem_of_getElem? h))
  obtain ⟨wC, evC⟩ := is_v (hset 1 _ rfl)
  have S_C := Sta.start evC (Or.inl (hsets _ (List.mem_of_getElem? (i := 0) rfl)))
  have hC : ¬ wC = (0 : Int32) := gotF (Cond.eq_ints evC (Term.int_eval 0)) (not_v (hset 2 _ rfl))
  obtain ⟨wF, evF, hF⟩ := isR_v (hset 8 _ rfl)
  have S_F := Sta.start evF (Or.inl (hsets _ (List.mem_of_getElem? (i := 7) rfl)))
  obtain ⟨n, o, h1, h2, h3, _, L, rfl, ⟨rfl, N⟩, hq⟩ := rm0 l s _ hw tables_1 i0 i1 i2 i3 i4 wC wF s.heap s.heap.size (Nat.le_refl _) (Old.start s) S_C hC S_F hF p e ha hc hk s m _ below hf ((Spec.applies_iff_loose hf).mp happ).1 ⟨rfl, State.Warmed39.refl s, rfl⟩ trivial
  refine ⟨n, _, h1, h2, h3, hpost _ _ _ _ _ _ ⟨Cond.after_iff.mpr rfl, Cond.after_iff.mpr (eq_i res_at (Term.int_eval (1)) rfl), trivial⟩ ⟨hq.1, hq.2.1, (hq.2.2.sift fun y hy => Or.inr (N y hy)).mono (by decide) (by decide)⟩⟩
theorem main_1_1 : Claimed_1_1 := comes_1 fun _ _ _ _ _ _ h hF => ⟨h.1, hF⟩
theorem main_1_2 : Claimed_1_2 := comes_1 fun _ _ _ _ _ _ h hF => ⟨h.2.1, hF⟩
end Jvm.Pilot.@@N@@
namespace Jvm.Pilot.@@N@@
open Jvm Jvm.ClassFile Sem Op Lib Jvm.Free Jvm.Stand Jvm.Pilot.@@N@@.Jvm.D
/-! MADE BY PROGRAM (witnessworld.py) out of the Statement's table words and the real class files: 20 classes; the members and pool entries that the words name. The judged class is class 1, her method 5. -/
namespace start1
open Jvm.ClassFile
def u (s : String) : CpInfo := .utf8 (stringToUtf16 s)
/-- a pool by its gaps: so many unusable entries, then the entry; so many at the end -/
def gap : Nat → List CpInfo → List CpInfo
  | 0, r => r
  | n + 1, r => .unusable :: gap n r
def poolList (es : List (Nat × CpInfo)) (last : Nat) : List CpInfo := es.foldr (fun e r => gap e.1 (e.2 :: r)) (gap last [])
def pool (es : List (Nat × CpInfo)) (last : Nat) : Array CpInfo := ⟨poolList es last⟩
def fileOf (pool : Array CpInfo) (this : Nat) (attrs : Array Attribute := #[]) (ms : Array MethodInfo := #[]) (fl : Nat := 33) (sup : Nat := 0) (ifs : Array Nat := #[]) (fds : Array FieldInfo := #[]) : ClassFile where
  minorVersion := 0
  majorVersion := 65
  constantPool := pool
  accessFlags := fl
  thisClass := this
  superClass := sup
  interfaces := ifs
  fields := fds
  methods := ms
  attributes := attrs
def plain (name : String) (sup : Option ClassId) : Class where
  name := name
  kind := .ordinary
  loader := none
  accessFlags := 33
  super := sup
  interfaces := #[]
  cf := none
  fields := #[]
  methods := #[]
  instanceTypes := #[]
  staticTypes := #[]
  resolved := #[]
  callSites := []
  init := .initialized
  statics := none
  mirror := none

def pool0 : Array CpInfo := pool [(5, u "<init>"), (0, u "()V"), (1, .class_ 10), (1, u "java/lang/Object")] 113

def k0c0 : Code := { maxStack := 0, maxLocals := 1, code := object_method_1_code, exceptionTable := #[], attributes := #[] }
def k0m0 : Method := { name := "<init>", desc := "()V", sig := { parameters := [], returnType := none }, accessFlags := 1, code := some k0c0 }
/-- java/lang/Object -/
def k0 : Class := { plain "java/lang/Object" none with
  accessFlags := 33
  interfaces := #[]
  cf := some (fileOf pool0 8 #[] #[{ accessFlags := 1, nameIndex := 5, descriptorIndex := 6, attributes := #[] }] 33 0 #[] #[])
  fields := #[]
  methods := #[k0m0]
  instanceTypes := #[]
  staticTypes := #[]
  resolved := Array.replicate 124 none
  statics := none }

def pool1 : Array CpInfo := pool [(2, .class_ 4), (1, u "java/lang/Object"), (0, u "<init>"), (0, u "()V"), (0, .methodref 8 9), (0, .class_ 10), (0, .nameAndType 11 12), (0, u "com/example/sensor_access_indicators/sensoraccessindicators/dbus/MarshallingTypeEndPinLaw"), (0, u "arrays"), (0, u "([CII)I"), (0, .methodref 8 14), (0, .nameAndType 15 16), (0, u "inner"), (0, u "(I)C"), (0, .long 255), (1, .methodref 8 20), (0, .nameAndType 21 16), (0, u "top"), (0, .methodref 8 23), (0, .nameAndType 24 25), (0, u "field"), (0, u "([CIIII)I"), (0, .class_ 27), (0, u "java/lang/String"), (0, .methodref 26 29), (0, .nameAndType 5 30), (0, u "([C)V"), (0, .methodref 32 33), (0, .class_ 34), (0, .nameAndType 35 36), (0, u "com/example/sensor_access_indicators/sensoraccessindicators/dbus/Marshalling"), (0, u "typeEnd"), (0, u "(Ljava/lang/String;I)I"), (3, u "law"), (0, u "(IIIIJ)Z")] 4

def k1m0 : Method := { name := "<init>", desc := "()V", sig := { parameters := [], returnType := none }, accessFlags := 2, code := none }
def k1c1 : Code := { maxStack := 2, maxLocals := 2, code := method_2_code, exceptionTable := #[], attributes := #[] }
def k1m1 : Method := { name := "top", desc := "(I)C", sig := { parameters := [.int], returnType := some .char }, accessFlags := 10, code := some k1c1 }
def k1c2 : Code := { maxStack := 2, maxLocals := 2, code := method_3_code, exceptionTable := #[], attributes := #[] }
def k1m2 : Method := { name := "inner", desc := "(I)C", sig := { parameters := [.int], returnType := some .char }, accessFlags := 10, code := some k1c2 }
def k1c3 : Code := { maxStack := 3, maxLocals := 4, code := method_4_code, exceptionTable := #[], attributes := #[] }
def k1m3 : Method := { name := "arrays", desc := "([CII)I", sig := { parameters := [(.array .char), .int, .int], returnType := some .int }, accessFlags := 10, code := some k1c3 }
def k1c4 : Code := { maxStack := 4, maxLocals := 6, code := method_5_code, exceptionTable := #[], attributes := #[] }
def k1m4 : Method := { name := "field", desc := "([CIIII)I", sig := { parameters := [(.array .char), .int, .int, .int, .int], returnType := some .int }, accessFlags := 10, code := some k1c4 }
def k1c5 : Code := { maxStack := 6, maxLocals := 18, code := code, exceptionTable := #[], attributes := #[] }
def k1m5 : Method := { name := "law", desc := "(IIIIJ)Z", sig := { parameters := [.int, .int, .int, .int, .long], returnType := some .boolean }, accessFlags := 9, code := some k1c5 }
/-- com/example/sensor_access_indicators/sensoraccessindicators/dbus/MarshallingTypeEndPinLaw -/
def k1 : Class := { plain "com/example/sensor_access_indicators/sensoraccessindicators/dbus/MarshallingTypeEndPinLaw" (some 0) with
  accessFlags := 49
  interfaces := #[]
  cf := some (fileOf pool1 8 #[] #[{ accessFlags := 2, nameIndex := 5, descriptorIndex := 6, attributes := #[] }, { accessFlags := 10, nameIndex := 21, descriptorIndex := 16, attributes := #[] }, { accessFlags := 10, nameIndex := 15, descriptorIndex := 16, attributes := #[] }, { accessFlags := 10, nameIndex := 11, descriptorIndex := 12, attributes := #[] }, { accessFlags := 10, nameIndex := 24, descriptorIndex := 25, attributes := #[] }, { accessFlags := 9, nameIndex := 40, descriptorIndex := 41, attributes := #[] }] 49 2 #[] #[])
  fields := #[]
  methods := #[k1m0, k1m1, k1m2, k1m3, k1m4, k1m5]
  instanceTypes := #[]
  staticTypes := #[]
  resolved := Array.replicate 46 none
  statics := none }

def pool2 : Array CpInfo := pool [(1, .class_ 2), (0, u "java/io/Serializable"), (0, .class_ 4), (0, u "java/lang/Object")] 2

/-- java/io/Serializable -/
def k2 : Class := { plain "java/io/Serializable" (some 0) with
  accessFlags := 1537
  interfaces := #[]
  cf := some (fileOf pool2 1 #[] #[] 1537 3 #[] #[])
  fields := #[]
  methods := #[]
  instanceTypes := #[]
  staticTypes := #[]
  resolved := Array.replicate 7 none
  statics := none }

def pool3 : Array CpInfo := pool [(1, .class_ 2), (0, u "java/lang/Comparable"), (0, .class_ 4), (0, u "java/lang/Object")] 7

/-- java/lang/Comparable -/
def k3 : Class := { plain "java/lang/Comparable" (some 0) with
  accessFlags := 1537
  interfaces := #[]
  cf := some (fileOf pool3 1 #[] #[] 1537 3 #[] #[])
  fields := #[]
  methods := #[]
  instanceTypes := #[]
  staticTypes := #[]
  resolved := Array.replicate 12 none
  statics := none }

def pool4 : Array CpInfo := pool [(2, .class_ 4), (1, u "java/lang/CharSequence"), (42, .class_ 48), (0, u "java/lang/CharSequence$1CodePointIterator"), (10, .class_ 60), (0, u "java/lang/CharSequence$1CharIterator"), (5, .class_ 67), (0, u "java/lang/Object")] 63

/-- java/lang/CharSequence -/
def k4 : Class := { plain "java/lang/CharSequence" (some 0) with
  accessFlags := 1537
  interfaces := #[]
  cf := some (fileOf pool4 2 #[.nestMembers #[47, 59]] #[] 1537 66 #[] #[])
  fields := #[]
  methods := #[]
  instanceTypes := #[]
  staticTypes := #[]
  resolved := Array.replicate 131 none
  statics := none }

def pool5 : Array CpInfo := pool [(1, .class_ 2), (0, u "java/lang/constant/Constable"), (0, .class_ 4), (0, u "java/lang/Object")] 6

/-- java/lang/constant/Constable -/
def k5 : Class := { plain "java/lang/constant/Constable" (some 0) with
  accessFlags := 1537
  interfaces := #[]
  cf := some (fileOf pool5 1 #[] #[] 1537 3 #[] #[])
  fields := #[]
  methods := #[]
  instanceTypes := #[]
  staticTypes := #[]
  resolved := Array.replicate 11 none
  statics := none }

def pool6 : Array CpInfo := pool [(1, .class_ 2), (0, u "java/lang/constant/ConstantDesc"), (0, .class_ 4), (0, u "java/lang/Object")] 32

/-- java/lang/constant/ConstantDesc -/
def k6 : Class := { plain "java/lang/constant/ConstantDesc" (some 0) with
  accessFlags := 1537
  interfaces := #[]
  cf := some (fileOf pool6 1 #[] #[] 1537 3 #[] #[])
  fields := #[]
  methods := #[]
  instanceTypes := #[]
  staticTypes := #[]
  resolved := Array.replicate 37 none
  statics := none }

def pool7 : Array CpInfo := pool [(1, .methodref 2 3), (0, .class_ 4), (0, .nameAndType 5 6), (0, u "java/lang/Object"), (0, u "<init>"), (0, u "()V"), (2, .fieldref 10 11), (0, .class_ 12), (0, .nameAndType 13 14), (0, u "java/lang/String"), (0, u "value"), (0, u "[B"), (0, .fieldref 10 16), (0, .nameAndType 17 18), (0, u "coder"), (0, u "B"), (2, u "hash"), (0, u "I"), (2, u "hashIsZero"), (0, u "Z"), (0, .methodref 10 28), (0, .nameAndType 5 29), (0, u "([CIILjava/lang/Void;)V"), (8, .fieldref 10 39), (0, .nameAndType 40 26), (0, u "COMPACT_STRINGS"), (1, .class_ 44), (1, u "java/lang/StringUTF16"), (0, u "compress"), (1, .methodref 42 48), (0, .nameAndType 49 50), (0, u "coderFromArrayLen"), (0, u "([BI)B"), (56, .class_ 109), (1, u "java/lang/StringLatin1"), (32, u "()Z"), (34, .methodref 42 178), (0, .nameAndType 45 179), (0, u "([CII)[B"), (183, u "([BI)C"), (27, u "(II)V"), (35, u "(I)C"), (64, .methodref 10 493), (0, .nameAndType 494 142), (0, u "isLatin1"), (0, .methodref 107 496), (0, .nameAndType 497 363), (0, u "charAt"), (3, u "checkIndex"), (73, .class_ 576), (0, u "java/lang/CharSequence"), (22, u "CASE_INSENSITIVE_ORDER"), (0, u "Ljava/util/Comparator;"), (409, u "([C)V"), (42, .fieldref 1054 1055), (0, .class_ 1056), (0, .nameAndType 1057 1058), (0, u "jdk/internal/util/Preconditions"), (0, u "SIOOBE_FORMATTER"), (0, u "Ljava/util/function/BiFunction;"), (0, .methodref 1054 1060), (0, .nameAndType 501 1061), (0, u "(IILjava/util/function/BiFunction;)I"), (39, u "serialPersistentFields"), (0, u "[Ljava/io/ObjectStreamField;"), (0, .class_ 1104), (0, u "java/lang/String$CaseInsensitiveComparator"), (1, .class_ 1107), (0, u "java/io/Serializable"), (0, .class_ 1109), (0, u "java/lang/Comparable"), (0, .class_ 1111), (0, u "java/lang/constant/Constable"), (0, .class_ 1113), (0, u "java/lang/constant/ConstantDesc"), (2, u "serialVersionUID"), (0, u "J"), (3, u "REPL"), (0, u "C"), (2, u "LATIN1"), (1, u "UTF16")] 323

def k7m0 : Method := { name := "<init>", desc := "()V", sig := { parameters := [], returnType := none }, accessFlags := 1, code := none }
def k7c1 : Code := { maxStack := 5, maxLocals := 2, code := jdk_42_method_3_code, exceptionTable := #[], attributes := #[] }
def k7m1 : Method := { name := "<init>", desc := "([C)V", sig := { parameters := [(.array .char)], returnType := none }, accessFlags := 1, code := some k7c1 }
def k7c2 : Code := { maxStack := 2, maxLocals := 2, code := jdk_42_method_56_code, exceptionTable := #[], attributes := #[] }
def k7m2 : Method := { name := "charAt", desc := "(I)C", sig := { parameters := [.int], returnType := some .char }, accessFlags := 1, code := some k7c2 }
def k7c3 : Code := { maxStack := 4, maxLocals := 6, code := jdk_42_method_149_code, exceptionTable := #[], attributes := #[] }
def k7m3 : Method := { name := "<init>", desc := "([CIILjava/lang/Void;)V", sig := { parameters := [(.array .char), .int, .int, (.object "java/lang/Void")], returnType := none }, accessFlags := 2, code := some k7c3 }
def k7c4 : Code := { maxStack := 1, maxLocals := 1, code := jdk_42_method_154_code, exceptionTable := #[], attributes := #[] }
def k7m4 : Method := { name := "isLatin1", desc := "()Z", sig := { parameters := [], returnType := some .boolean }, accessFlags := 0, code := some k7c4 }
def k7c5 : Code := { maxStack := 3, maxLocals := 2, code := jdk_42_method_155_code, exceptionTable := #[], attributes := #[] }
def k7m5 : Method := { name := "checkIndex", desc := "(II)V", sig := { parameters := [.int, .int], returnType := none }, accessFlags := 8, code := some k7c5 }
/-- java/lang/String -/
def k7 : Class := { plain "java/lang/String" (some 0) with
  accessFlags := 49
  interfaces := #[2, 3, 4, 5, 6]
  cf := some (fileOf pool7 10 #[.nestMembers #[1103]] #[{ accessFlags := 1, nameIndex := 5, descriptorIndex := 6, attributes := #[] }, { accessFlags := 1, nameIndex := 5, descriptorIndex := 1010, attributes := #[] }, { accessFlags := 1, nameIndex := 497, descriptorIndex := 427, attributes := #[] }, { accessFlags := 2, nameIndex := 5, descriptorIndex := 29, attributes := #[] }, { accessFlags := 0, nameIndex := 494, descriptorIndex := 142, attributes := #[] }, { accessFlags := 8, nameIndex := 501, descriptorIndex := 391, attributes := #[] }] 49 2 #[1106, 1108, 575, 1110, 1112] #[{ accessFlags := 18, nameIndex := 13, descriptorIndex := 14, attributes := #[] }, { accessFlags := 18, nameIndex := 17, descriptorIndex := 18, attributes := #[] }, { accessFlags := 2, nameIndex := 21, descriptorIndex := 22, attributes := #[] }, { accessFlags := 2, nameIndex := 25, descriptorIndex := 26, attributes := #[] }, { accessFlags := 26, nameIndex := 1116, descriptorIndex := 1117, attributes := #[] }, { accessFlags := 24, nameIndex := 40, descriptorIndex := 26, attributes := #[] }, { accessFlags := 26, nameIndex := 1101, descriptorIndex := 1102, attributes := #[] }, { accessFlags := 26, nameIndex := 1121, descriptorIndex := 1122, attributes := #[] }, { accessFlags := 25, nameIndex := 599, descriptorIndex := 600, attributes := #[] }, { accessFlags := 24, nameIndex := 1125, descriptorIndex := 18, attributes := #[] }, { accessFlags := 24, nameIndex := 1127, descriptorIndex := 18, attributes := #[] }])
  fields := #[{ name := "value", type := (.array .byte), accessFlags := 18, slot := 0, constantValue := 0 }, { name := "coder", type := .byte, accessFlags := 18, slot := 1, constantValue := 0 }, { name := "hash", type := .int, accessFlags := 2, slot := 2, constantValue := 0 }, { name := "hashIsZero", type := .boolean, accessFlags := 2, slot := 3, constantValue := 0 }, { name := "serialVersionUID", type := .long, accessFlags := 26, slot := 0, constantValue := 0 }, { name := "COMPACT_STRINGS", type := .boolean, accessFlags := 24, slot := 1, constantValue := 0 }, { name := "serialPersistentFields", type := (.array (.object "java/io/ObjectStreamField")), accessFlags := 26, slot := 2, constantValue := 0 }, { name := "REPL", type := .char, accessFlags := 26, slot := 3, constantValue := 0 }, { name := "CASE_INSENSITIVE_ORDER", type := (.object "java/util/Comparator"), accessFlags := 25, slot := 4, constantValue := 0 }, { name := "LATIN1", type := .byte, accessFlags := 24, slot := 5, constantValue := 0 }, { name := "UTF16", type := .byte, accessFlags := 24, slot := 6, constantValue := 0 }]
  methods := #[k7m0, k7m1, k7m2, k7m3, k7m4, k7m5]
  instanceTypes := #[(.array .byte), .byte, .int, .boolean]
  staticTypes := #[.long, .boolean, (.array (.object "java/io/ObjectStreamField")), .char, (.object "java/util/Comparator"), .byte, .byte]
  resolved := Array.replicate 1451 none
  statics := some 0 }

def pool8 : Array CpInfo := pool [(6, .class_ 8), (1, u "java/lang/Object"), (0, u "<init>"), (0, u "()V"), (1, .class_ 14), (1, u "java/lang/StringUTF16"), (31, u "$assertionsDisabled"), (0, u "Z"), (13, u "HI_BYTE_SHIFT"), (0, u "I"), (2, u "LO_BYTE_SHIFT"), (49, .methodref 12 116), (0, .nameAndType 117 118), (0, u "compress"), (0, u "([CI[BII)I"), (3, u "([CII)[B"), (138, u "coderFromArrayLen"), (0, u "([BI)B"), (106, .class_ 371), (1, u "java/lang/StringUTF16$LinesSpliterator"), (58, u "MAX_LENGTH"), (196, .class_ 628), (0, u "java/lang/StringUTF16$CodePointsSpliterator"), (0, .class_ 630), (0, u "java/lang/StringUTF16$CharsSpliterator")] 4

def k8m0 : Method := { name := "<init>", desc := "()V", sig := { parameters := [], returnType := none }, accessFlags := 0, code := none }
def k8c1 : Code := { maxStack := 2, maxLocals := 2, code := jdk_52_method_15_code, exceptionTable := #[], attributes := #[] }
def k8m1 : Method := { name := "coderFromArrayLen", desc := "([BI)B", sig := { parameters := [(.array .byte), .int], returnType := some .byte }, accessFlags := 8, code := some k8c1 }
def k8c2 : Code := { maxStack := 5, maxLocals := 6, code := jdk_52_method_16_code, exceptionTable := #[], attributes := #[] }
def k8m2 : Method := { name := "compress", desc := "([CII)[B", sig := { parameters := [(.array .char), .int, .int], returnType := some (.array .byte) }, accessFlags := 9, code := some k8c2 }
def k8c3 : Code := { maxStack := 3, maxLocals := 7, code := jdk_52_method_21_code, exceptionTable := #[], attributes := #[] }
def k8m3 : Method := { name := "compress", desc := "([CI[BII)I", sig := { parameters := [(.array .char), .int, (.array .byte), .int, .int], returnType := some .int }, accessFlags := 9, code := some k8c3 }
/-- java/lang/StringUTF16 -/
def k8 : Class := { plain "java/lang/StringUTF16" (some 0) with
  accessFlags := 48
  interfaces := #[]
  cf := some (fileOf pool8 12 #[.nestMembers #[627, 629, 369]] #[{ accessFlags := 0, nameIndex := 9, descriptorIndex := 10, attributes := #[] }, { accessFlags := 8, nameIndex := 261, descriptorIndex := 262, attributes := #[] }, { accessFlags := 9, nameIndex := 117, descriptorIndex := 122, attributes := #[] }, { accessFlags := 9, nameIndex := 117, descriptorIndex := 118, attributes := #[] }] 48 6 #[] #[{ accessFlags := 26, nameIndex := 61, descriptorIndex := 62, attributes := #[] }, { accessFlags := 26, nameIndex := 65, descriptorIndex := 62, attributes := #[] }, { accessFlags := 24, nameIndex := 430, descriptorIndex := 62, attributes := #[] }, { accessFlags := 4120, nameIndex := 46, descriptorIndex := 47, attributes := #[] }])
  fields := #[{ name := "HI_BYTE_SHIFT", type := .int, accessFlags := 26, slot := 0, constantValue := 0 }, { name := "LO_BYTE_SHIFT", type := .int, accessFlags := 26, slot := 1, constantValue := 0 }, { name := "MAX_LENGTH", type := .int, accessFlags := 24, slot := 2, constantValue := 0 }, { name := "$assertionsDisabled", type := .boolean, accessFlags := 4120, slot := 3, constantValue := 0 }]
  methods := #[k8m0, k8m1, k8m2, k8m3]
  instanceTypes := #[]
  staticTypes := #[.int, .int, .int, .boolean]
  resolved := Array.replicate 635 none
  statics := none }

def pool9 : Array CpInfo := pool [(2, .class_ 4), (1, u "java/lang/Object"), (0, u "<init>"), (0, u "()V"), (0, .methodref 8 9), (0, .class_ 10), (0, .nameAndType 11 12), (0, u "java/lang/String"), (0, u "charAt"), (0, u "(I)C"), (0, .methodref 14 15), (0, .class_ 16), (0, .nameAndType 17 18), (0, u "com/example/sensor_access_indicators/sensoraccessindicators/dbus/Marshalling"), (0, u "typeEnd"), (0, u "(Ljava/lang/String;I)I"), (0, u "MAX_DEPTH"), (0, u "I"), (10, .class_ 32), (0, u "com/example/sensor_access_indicators/sensoraccessindicators/dbus/Marshalling$Reader"), (0, .class_ 34), (0, u "com/example/sensor_access_indicators/sensoraccessindicators/dbus/Marshalling$Reader$Nested"), (0, .class_ 36), (0, u "com/example/sensor_access_indicators/sensoraccessindicators/dbus/Marshalling$Writer"), (0, .class_ 38), (0, u "com/example/sensor_access_indicators/sensoraccessindicators/dbus/Marshalling$Variant")] 5

def k9m0 : Method := { name := "<init>", desc := "()V", sig := { parameters := [], returnType := none }, accessFlags := 2, code := none }
def k9c1 : Code := { maxStack := 3, maxLocals := 5, code := prog_48_method_2_code, exceptionTable := #[], attributes := #[] }
def k9m1 : Method := { name := "typeEnd", desc := "(Ljava/lang/String;I)I", sig := { parameters := [(.object "java/lang/String"), .int], returnType := some .int }, accessFlags := 8, code := some k9c1 }
/-- com/example/sensor_access_indicators/sensoraccessindicators/dbus/Marshalling -/
def k9 : Class := { plain "com/example/sensor_access_indicators/sensoraccessindicators/dbus/Marshalling" (some 0) with
  accessFlags := 32
  interfaces := #[]
  cf := some (fileOf pool9 14 #[.nestMembers #[31, 33, 35, 37]] #[{ accessFlags := 2, nameIndex := 5, descriptorIndex := 6, attributes := #[] }, { accessFlags := 8, nameIndex := 17, descriptorIndex := 18, attributes := #[] }] 32 2 #[] #[{ accessFlags := 26, nameIndex := 19, descriptorIndex := 20, attributes := #[] }])
  fields := #[{ name := "MAX_DEPTH", type := .int, accessFlags := 26, slot := 0, constantValue := 0 }]
  methods := #[k9m0, k9m1]
  instanceTypes := #[]
  staticTypes := #[.int]
  resolved := Array.replicate 44 none
  statics := none }

def pool10 : Array CpInfo := pool [(1, .class_ 2), (0, u "java/lang/String"), (1, .class_ 6), (1, u "java/lang/Object"), (0, u "<init>"), (0, u "()V"), (0, .methodref 1 10), (0, .nameAndType 11 12), (0, u "checkIndex"), (0, u "(II)V"), (1, .class_ 16), (1, u "java/lang/StringLatin1"), (36, u "([BI)C"), (67, u "$assertionsDisabled"), (0, u "Z"), (98, .class_ 223), (1, u "java/lang/StringLatin1$LinesSpliterator"), (28, u "charAt"), (137, .class_ 391), (0, u "java/lang/StringLatin1$CharsSpliterator")] 3

def k10m0 : Method := { name := "<init>", desc := "()V", sig := { parameters := [], returnType := none }, accessFlags := 0, code := none }
def k10c1 : Code := { maxStack := 2, maxLocals := 2, code := jdk_43_method_2_code, exceptionTable := #[], attributes := #[] }
def k10m1 : Method := { name := "charAt", desc := "([BI)C", sig := { parameters := [(.array .byte), .int], returnType := some .char }, accessFlags := 9, code := some k10c1 }
/-- java/lang/StringLatin1 -/
def k10 : Class := { plain "java/lang/StringLatin1" (some 0) with
  accessFlags := 48
  interfaces := #[]
  cf := some (fileOf pool10 14 #[.nestMembers #[390, 221]] #[{ accessFlags := 0, nameIndex := 7, descriptorIndex := 8, attributes := #[] }, { accessFlags := 9, nameIndex := 252, descriptorIndex := 53, attributes := #[] }] 48 4 #[] #[{ accessFlags := 4120, nameIndex := 121, descriptorIndex := 122, attributes := #[] }])
  fields := #[{ name := "$assertionsDisabled", type := .boolean, accessFlags := 4120, slot := 0, constantValue := 0 }]
  methods := #[k10m0, k10m1]
  instanceTypes := #[]
  staticTypes := #[.boolean]
  resolved := Array.replicate 395 none
  statics := none }

def pool11 : Array CpInfo := pool [(2, .class_ 4), (1, u "java/lang/Object"), (0, u "<init>"), (0, u "()V"), (17, .class_ 26), (1, u "jdk/internal/util/Preconditions"), (6, u "checkIndex"), (21, .class_ 56), (0, u "jdk/internal/util/Preconditions$4"), (57, .class_ 115), (0, u "jdk/internal/util/Preconditions$1"), (7, u "SIOOBE_FORMATTER"), (0, u "Ljava/util/function/BiFunction;"), (0, .class_ 126), (0, u "jdk/internal/util/Preconditions$2"), (3, u "AIOOBE_FORMATTER"), (0, .class_ 132), (0, u "jdk/internal/util/Preconditions$3"), (3, u "IOOBE_FORMATTER"), (41, u "(IILjava/util/function/BiFunction;)I")] 15

def k11m0 : Method := { name := "<init>", desc := "()V", sig := { parameters := [], returnType := none }, accessFlags := 1, code := none }
def k11c1 : Code := { maxStack := 3, maxLocals := 3, code := jdk_41_method_11_code, exceptionTable := #[], attributes := #[] }
def k11m1 : Method := { name := "checkIndex", desc := "(IILjava/util/function/BiFunction;)I", sig := { parameters := [.int, .int, (.object "java/util/function/BiFunction")], returnType := some .int }, accessFlags := 9, code := some k11c1 }
/-- jdk/internal/util/Preconditions -/
def k11 : Class := { plain "jdk/internal/util/Preconditions" (some 0) with
  accessFlags := 33
  interfaces := #[]
  cf := some (fileOf pool11 24 #[.nestMembers #[55, 131, 125, 114]] #[{ accessFlags := 1, nameIndex := 5, descriptorIndex := 6, attributes := #[] }, { accessFlags := 9, nameIndex := 33, descriptorIndex := 178, attributes := #[] }] 33 2 #[] #[{ accessFlags := 25, nameIndex := 123, descriptorIndex := 124, attributes := #[] }, { accessFlags := 25, nameIndex := 130, descriptorIndex := 124, attributes := #[] }, { accessFlags := 25, nameIndex := 136, descriptorIndex := 124, attributes := #[] }])
  fields := #[{ name := "SIOOBE_FORMATTER", type := (.object "java/util/function/BiFunction"), accessFlags := 25, slot := 0, constantValue := 0 }, { name := "AIOOBE_FORMATTER", type := (.object "java/util/function/BiFunction"), accessFlags := 25, slot := 1, constantValue := 0 }, { name := "IOOBE_FORMATTER", type := (.object "java/util/function/BiFunction"), accessFlags := 25, slot := 2, constantValue := 0 }]
  methods := #[k11m0, k11m1]
  instanceTypes := #[]
  staticTypes := #[(.object "java/util/function/BiFunction"), (.object "java/util/function/BiFunction"), (.object "java/util/function/BiFunction")]
  resolved := Array.replicate 194 none
  statics := some 1 }

def pool12 : Array CpInfo := pool [(9, u "<init>"), (6, .class_ 18), (1, u "java/lang/Object"), (0, u "()V"), (1, .class_ 23), (1, u "jdk/internal/util/ArraysSupport"), (0, u "LOG2_ARRAY_LONG_INDEX_SCALE"), (0, u "I"), (2, u "U"), (0, u "Ljdk/internal/misc/Unsafe;"), (8, u "BIG_ENDIAN"), (0, u "Z"), (8, u "LOG2_BYTE_BIT_SIZE"), (4, u "LOG2_ARRAY_INT_INDEX_SCALE"), (54, u "JLA"), (0, u "Ljdk/internal/access/JavaLangAccess;"), (11, u "LOG2_ARRAY_BOOLEAN_INDEX_SCALE"), (9, u "LOG2_ARRAY_BYTE_INDEX_SCALE"), (5, u "LOG2_ARRAY_CHAR_INDEX_SCALE"), (5, u "LOG2_ARRAY_SHORT_INDEX_SCALE"), (18, u "LOG2_ARRAY_FLOAT_INDEX_SCALE"), (24, u "LOG2_ARRAY_DOUBLE_INDEX_SCALE"), (89, u "T_BOOLEAN"), (2, u "T_CHAR"), (1, u "T_FLOAT"), (1, u "T_DOUBLE"), (1, u "T_BYTE"), (1, u "T_SHORT"), (1, u "T_INT"), (1, u "T_LONG"), (1, u "SOFT_MAX_ARRAY_LENGTH")] 83

def k12m0 : Method := { name := "<init>", desc := "()V", sig := { parameters := [], returnType := none }, accessFlags := 2, code := none }
/-- jdk/internal/util/ArraysSupport -/
def k12 : Class := { plain "jdk/internal/util/ArraysSupport" (some 0) with
  accessFlags := 33
  interfaces := #[]
  cf := some (fileOf pool12 21 #[] #[{ accessFlags := 2, nameIndex := 9, descriptorIndex := 19, attributes := #[] }] 33 16 #[] #[{ accessFlags := 24, nameIndex := 28, descriptorIndex := 29, attributes := #[] }, { accessFlags := 26, nameIndex := 38, descriptorIndex := 39, attributes := #[] }, { accessFlags := 25, nameIndex := 121, descriptorIndex := 25, attributes := #[] }, { accessFlags := 25, nameIndex := 131, descriptorIndex := 25, attributes := #[] }, { accessFlags := 25, nameIndex := 137, descriptorIndex := 25, attributes := #[] }, { accessFlags := 25, nameIndex := 143, descriptorIndex := 25, attributes := #[] }, { accessFlags := 25, nameIndex := 53, descriptorIndex := 25, attributes := #[] }, { accessFlags := 25, nameIndex := 24, descriptorIndex := 25, attributes := #[] }, { accessFlags := 25, nameIndex := 162, descriptorIndex := 25, attributes := #[] }, { accessFlags := 25, nameIndex := 187, descriptorIndex := 25, attributes := #[] }, { accessFlags := 26, nameIndex := 48, descriptorIndex := 25, attributes := #[] }, { accessFlags := 25, nameIndex := 277, descriptorIndex := 25, attributes := #[] }, { accessFlags := 25, nameIndex := 280, descriptorIndex := 25, attributes := #[] }, { accessFlags := 25, nameIndex := 282, descriptorIndex := 25, attributes := #[] }, { accessFlags := 25, nameIndex := 284, descriptorIndex := 25, attributes := #[] }, { accessFlags := 25, nameIndex := 286, descriptorIndex := 25, attributes := #[] }, { accessFlags := 25, nameIndex := 288, descriptorIndex := 25, attributes := #[] }, { accessFlags := 25, nameIndex := 290, descriptorIndex := 25, attributes := #[] }, { accessFlags := 25, nameIndex := 292, descriptorIndex := 25, attributes := #[] }, { accessFlags := 26, nameIndex := 108, descriptorIndex := 109, attributes := #[] }, { accessFlags := 25, nameIndex := 294, descriptorIndex := 25, attributes := #[] }])
  fields := #[{ name := "U", type := (.object "jdk/internal/misc/Unsafe"), accessFlags := 24, slot := 0, constantValue := 0 }, { name := "BIG_ENDIAN", type := .boolean, accessFlags := 26, slot := 1, constantValue := 0 }, { name := "LOG2_ARRAY_BOOLEAN_INDEX_SCALE", type := .int, accessFlags := 25, slot := 2, constantValue := 0 }, { name := "LOG2_ARRAY_BYTE_INDEX_SCALE", type := .int, accessFlags := 25, slot := 3, constantValue := 0 }, { name := "LOG2_ARRAY_CHAR_INDEX_SCALE", type := .int, accessFlags := 25, slot := 4, constantValue := 0 }, { name := "LOG2_ARRAY_SHORT_INDEX_SCALE", type := .int, accessFlags := 25, slot := 5, constantValue := 0 }, { name := "LOG2_ARRAY_INT_INDEX_SCALE", type := .int, accessFlags := 25, slot := 6, constantValue := 0 }, { name := "LOG2_ARRAY_LONG_INDEX_SCALE", type := .int, accessFlags := 25, slot := 7, constantValue := 0 }, { name := "LOG2_ARRAY_FLOAT_INDEX_SCALE", type := .int, accessFlags := 25, slot := 8, constantValue := 0 }, { name := "LOG2_ARRAY_DOUBLE_INDEX_SCALE", type := .int, accessFlags := 25, slot := 9, constantValue := 0 }, { name := "LOG2_BYTE_BIT_SIZE", type := .int, accessFlags := 26, slot := 10, constantValue := 0 }, { name := "T_BOOLEAN", type := .int, accessFlags := 25, slot := 11, constantValue := 0 }, { name := "T_CHAR", type := .int, accessFlags := 25, slot := 12, constantValue := 0 }, { name := "T_FLOAT", type := .int, accessFlags := 25, slot := 13, constantValue := 0 }, { name := "T_DOUBLE", type := .int, accessFlags := 25, slot := 14, constantValue := 0 }, { name := "T_BYTE", type := .int, accessFlags := 25, slot := 15, constantValue := 0 }, { name := "T_SHORT", type := .int, accessFlags := 25, slot := 16, constantValue := 0 }, { name := "T_INT", type := .int, accessFlags := 25, slot := 17, constantValue := 0 }, { name := "T_LONG", type := .int, accessFlags := 25, slot := 18, constantValue := 0 }, { name := "JLA", type := (.object "jdk/internal/access/JavaLangAccess"), accessFlags := 26, slot := 19, constantValue := 0 }, { name := "SOFT_MAX_ARRAY_LENGTH", type := .int, accessFlags := 25, slot := 20, constantValue := 0 }]
  methods := #[k12m0]
  instanceTypes := #[]
  staticTypes := #[(.object "jdk/internal/misc/Unsafe"), .boolean, .int, .int, .int, .int, .int, .int, .int, .int, .int, .int, .int, .int, .int, .int, .int, .int, .int, (.object "jdk/internal/access/JavaLangAccess"), .int]
  resolved := Array.replicate 378 none
  statics := none }

def pool13 : Array CpInfo := pool [(1, u "java/lang/Cloneable"), (0, .class_ 1), (0, u "java/lang/Object"), (0, .class_ 3)] 3

/-- java/lang/Cloneable -/
def k13 : Class := { plain "java/lang/Cloneable" (some 0) with
  accessFlags := 1537
  interfaces := #[]
  cf := some (fileOf pool13 2 #[] #[] 1537 4 #[] #[])
  fields := #[]
  methods := #[]
  instanceTypes := #[]
  staticTypes := #[]
  resolved := Array.replicate 8 none
  statics := none }

/-- the primitive byte -/
def k14 : Class := { plain "byte" none with kind := .primitive 'B', accessFlags := 0x411 }
/-- [B -/
def k15 : Class := { plain "[B" (some 0) with kind := .array 14 .byte, interfaces := #[13, 2], accessFlags := 1041 }

/-- the primitive char -/
def k16 : Class := { plain "char" none with kind := .primitive 'C', accessFlags := 0x411 }
/-- [C -/
def k17 : Class := { plain "[C" (some 0) with kind := .array 16 .char, interfaces := #[13, 2], accessFlags := 1041 }

/-- the primitive int -/
def k18 : Class := { plain "int" none with kind := .primitive 'I', accessFlags := 0x411 }
/-- [I -/
def k19 : Class := { plain "[I" (some 0) with kind := .array 18 .int, interfaces := #[13, 2], accessFlags := 1041 }

def heap : Heap := #[{ cls := 7, slots := #[.long 0, .int 1, .null, .int 0, .null, .int 0, .int 0], vm := .statics 7 },
  { cls := 11, slots := #[.null, .null, .null], vm := .statics 11 }]
def classes : Array Class := #[k0, k1, k2, k3, k4, k5, k6, k7, k8, k9, k10, k11, k12, k13, k14, k15, k16, k17, k18, k19]
def interned : List (Array UInt16 × Addr) := []
def slotsUsed : Nat := 10
def theMethod : MethodId := ⟨1, 5⟩
def args0 : Array Value := #[.int 5, .int 1, .int 2, .int 3, .long 4]
def aboutOver (below : List Frame) : State where
  vm := { classes := classes, interned := interned.toArray }
  heap := heap
  slotsUsed := slotsUsed
  threads := #[{ frames := .invoking theMethod args0 :: below }]
def below0 : List Frame := [.native { method := ⟨0, 0⟩, args := #[] }]
def about1 : State := aboutOver below0
def p0 : Program := .bare "" "" ""
def e0 : Env := launch0.env 0 0 0
theorem w_frames : about1.frames = Frame.invoking theMethod args0 :: below0 := rfl
set_option maxRecDepth 65536 in
theorem w_args : argsFit about1.vm theMethod args0 = true := by decide +kernel
set_option maxRecDepth 65536 in
theorem w_heap : heapFits about1 = true := by decide +kernel
set_option maxRecDepth 65536 in
theorem w_runnable : about1.curStatus? = some .runnable := by decide +kernel
set_option maxRecDepth 65536 in
theorem w_alone : about1.alone = true := by decide +kernel
set_option maxRecDepth 65536 in
theorem w_named : about1.methodNamed? x = some theMethod := by decide +kernel
set_option maxRecDepth 65536 in
theorem w_hears : about1.hears theMethod below0 = true := by decide +kernel
set_option maxRecDepth 65536 in
theorem w_ripe : about1.ripe theMethod args0 below0 = true := by decide +kernel
theorem w_running : about1.status = .running := rfl
set_option maxRecDepth 65536 in
theorem w_room : about1.hasRoom e0.platform room_1 = true :=
  launch0.hasRoom_least _ room_1 (by decide +kernel) (by decide +kernel) (by decide +kernel) (by decide +kernel) (by decide +kernel) (by decide +kernel)
theorem allAtoms_all (ts : List Jvm.Cond) (a : Array Jvm.Value) (st : Jvm.State) : (allAtoms ts).before a st = ts.all (fun c => c.before a st) := by
  induction ts with
  | nil => rfl
  | cons c t ih =>
    show (Jvm.Cond.and c (allAtoms t)).before a st = _
    rw [Jvm.Cond.before_and, ih, List.all_cons]
def words1 : List Jvm.Cond := Jvm.Cond.code x code maxLocals ret :: tables_1
/-- a 'code' word, met by the world's own term for the bytes: nothing is compared byte by byte -/
theorem code_word {y : MethodName} {bytes : ByteArray} {mx : Nat} {rt : Option FieldType} {a : Array Value} {s : State} {m : MethodId} {meth : Method} {c : Code} (h1 : s.methodNamed? y = some m) (h2 : s.vm.method? m = some meth) (h3 : meth.code = some c) (h4 : c.code = bytes)
    (h5 : (c.maxLocals == mx && c.exceptionTable.isEmpty && decide (c.maxStack ≤ mostOperands) && decide (meth.sig.returnType = rt) && !meth.locks && decide (parseMethodDescriptor y.desc = some meth.sig)) = true) : (Jvm.Cond.code y bytes mx rt).before a s = true := by
  simp only [Bool.and_eq_true, beq_iff_eq, Bool.not_eq_true', decide_eq_true_eq] at h5
  obtain ⟨⟨⟨⟨⟨g1, g2⟩, g3⟩, g4⟩, g5⟩, g6⟩ := h5
  simp [Cond.before, Cond.holds, Cond.value, h1, h2, h3, h4, g1, g2, g3, g4, g5, g6]
def isCode : Jvm.Cond → Bool
  | .code _ _ _ _ => true
  | _ => false
theorem all_split {L : List Jvm.Cond} {P : Jvm.Cond → Bool} (h1 : L.all (fun c => isCode c || P c) = true) (h2 : ∀ c ∈ L.filter isCode, P c = true) : L.all P = true := by
  refine List.all_eq_true.mpr fun c hc => ?_
  have h := List.all_eq_true.mp h1 c hc
  rcases Bool.eq_false_or_eq_true (isCode c) with hi | hi
  · exact h2 c (List.mem_filter.mpr ⟨hc, hi⟩)
  · simpa [hi] using h
set_option maxRecDepth 65536 in
theorem w_c0 : (Jvm.Cond.code x code maxLocals ret).before args0 about1 = true := code_word (m := ⟨1, 5⟩) (meth := k1m5) (c := k1c5) (by decide +kernel) rfl rfl rfl (by decide +kernel)
set_option maxRecDepth 65536 in
theorem w_c1 : (Jvm.Cond.code ({ cls := "com/example/sensor_access_indicators/sensoraccessindicators/dbus/MarshallingTypeEndPinLaw", name := "arrays", desc := "([CII)I" } : Jvm.MethodName) method_4_code (4 : Nat) (Option.some Jvm.ClassFile.FieldType.int)).before args0 about1 = true := code_word (m := ⟨1, 3⟩) (meth := k1m3) (c := k1c3) (by decide +kernel) rfl rfl rfl (by decide +kernel)
set_option maxRecDepth 65536 in
theorem w_c2 : (Jvm.Cond.code ({ cls := "com/example/sensor_access_indicators/sensoraccessindicators/dbus/MarshallingTypeEndPinLaw", name := "top", desc := "(I)C" } : Jvm.MethodName) method_2_code (2 : Nat) (Option.some Jvm.ClassFile.FieldType.char)).before args0 about1 = true := code_word (m := ⟨1, 1⟩) (meth := k1m1) (c := k1c1) (by decide +kernel) rfl rfl rfl (by decide +kernel)
set_option maxRecDepth 65536 in
theorem w_c3 : (Jvm.Cond.code ({ cls := "java/lang/String", name := "<init>", desc := "([C)V" } : Jvm.MethodName) jdk_42_method_3_code (2 : Nat) (Option.none : Option Jvm.ClassFile.FieldType)).before args0 about1 = true := code_word (m := ⟨7, 1⟩) (meth := k7m1) (c := k7c1) (by decide +kernel) rfl rfl rfl (by decide +kernel)
set_option maxRecDepth 65536 in
theorem w_c4 : (Jvm.Cond.code ({ cls := "java/lang/String", name := "<init>", desc := "([CIILjava/lang/Void;)V" } : Jvm.MethodName) jdk_42_method_149_code (6 : Nat) (Option.none : Option Jvm.ClassFile.FieldType)).before args0 about1 = true := code_word (m := ⟨7, 3⟩) (meth := k7m3) (c := k7c3) (by decide +kernel) rfl rfl rfl (by decide +kernel)
set_option maxRecDepth 65536 in
theorem w_c5 : (Jvm.Cond.code ({ cls := "java/lang/Object", name := "<init>", desc := "()V" } : Jvm.MethodName) object_method_1_code (1 : Nat) (Option.none : Option Jvm.ClassFile.FieldType)).before args0 about1 = true := code_word (m := ⟨0, 0⟩) (meth := k0m0) (c := k0c0) (by decide +kernel) rfl rfl rfl (by decide +kernel)
set_option maxRecDepth 65536 in
theorem w_c6 : (Jvm.Cond.code ({ cls := "java/lang/StringUTF16", name := "compress", desc := "([CII)[B" } : Jvm.MethodName) jdk_52_method_16_code (6 : Nat) (Option.some (Jvm.ClassFile.FieldType.array Jvm.ClassFile.FieldType.byte))).before args0 about1 = true := code_word (m := ⟨8, 2⟩) (meth := k8m2) (c := k8c2) (by decide +kernel) rfl rfl rfl (by decide +kernel)
set_option maxRecDepth 65536 in
theorem w_c7 : (Jvm.Cond.code ({ cls := "java/lang/StringUTF16", name := "compress", desc := "([CI[BII)I" } : Jvm.MethodName) jdk_52_method_21_code (7 : Nat) (Option.some Jvm.ClassFile.FieldType.int)).before args0 about1 = true := code_word (m := ⟨8, 3⟩) (meth := k8m3) (c := k8c3) (by decide +kernel) rfl rfl rfl (by decide +kernel)
set_option maxRecDepth 65536 in
theorem w_c8 : (Jvm.Cond.code ({ cls := "java/lang/StringUTF16", name := "coderFromArrayLen", desc := "([BI)B" } : Jvm.MethodName) jdk_52_method_15_code (2 : Nat) (Option.some Jvm.ClassFile.FieldType.byte)).before args0 about1 = true := code_word (m := ⟨8, 1⟩) (meth := k8m1) (c := k8c1) (by decide +kernel) rfl rfl rfl (by decide +kernel)
set_option maxRecDepth 65536 in
theorem w_c9 : (Jvm.Cond.code ({ cls := "com/example/sensor_access_indicators/sensoraccessindicators/dbus/Marshalling", name := "typeEnd", desc := "(Ljava/lang/String;I)I" } : Jvm.MethodName) prog_48_method_2_code (5 : Nat) (Option.some Jvm.ClassFile.FieldType.int)).before args0 about1 = true := code_word (m := ⟨9, 1⟩) (meth := k9m1) (c := k9c1) (by decide +kernel) rfl rfl rfl (by decide +kernel)
set_option maxRecDepth 65536 in
theorem w_c10 : (Jvm.Cond.code ({ cls := "java/lang/String", name := "charAt", desc := "(I)C" } : Jvm.MethodName) jdk_42_method_56_code (2 : Nat) (Option.some Jvm.ClassFile.FieldType.char)).before args0 about1 = true := code_word (m := ⟨7, 2⟩) (meth := k7m2) (c := k7c2) (by decide +kernel) rfl rfl rfl (by decide +kernel)
set_option maxRecDepth 65536 in
theorem w_c11 : (Jvm.Cond.code ({ cls := "java/lang/String", name := "isLatin1", desc := "()Z" } : Jvm.MethodName) jdk_42_method_154_code (1 : Nat) (Option.some Jvm.ClassFile.FieldType.boolean)).before args0 about1 = true := code_word (m := ⟨7, 4⟩) (meth := k7m4) (c := k7c4) (by decide +kernel) rfl rfl rfl (by decide +kernel)
set_option maxRecDepth 65536 in
theorem w_c12 : (Jvm.Cond.code ({ cls := "java/lang/StringLatin1", name := "charAt", desc := "([BI)C" } : Jvm.MethodName) jdk_43_method_2_code (2 : Nat) (Option.some Jvm.ClassFile.FieldType.char)).before args0 about1 = true := code_word (m := ⟨10, 1⟩) (meth := k10m1) (c := k10c1) (by decide +kernel) rfl rfl rfl (by decide +kernel)
set_option maxRecDepth 65536 in
theorem w_c13 : (Jvm.Cond.code ({ cls := "java/lang/String", name := "checkIndex", desc := "(II)V" } : Jvm.MethodName) jdk_42_method_155_code (2 : Nat) (Option.none : Option Jvm.ClassFile.FieldType)).before args0 about1 = true := code_word (m := ⟨7, 5⟩) (meth := k7m5) (c := k7c5) (by decide +kernel) rfl rfl rfl (by decide +kernel)
set_option maxRecDepth 65536 in
theorem w_c14 : (Jvm.Cond.code ({ cls := "jdk/internal/util/Preconditions", name := "checkIndex", desc := "(IILjava/util/function/BiFunction;)I" } : Jvm.MethodName) jdk_41_method_11_code (3 : Nat) (Option.some Jvm.ClassFile.FieldType.int)).before args0 about1 = true := code_word (m := ⟨11, 1⟩) (meth := k11m1) (c := k11c1) (by decide +kernel) rfl rfl rfl (by decide +kernel)
set_option maxRecDepth 65536 in
theorem w_c15 : (Jvm.Cond.code ({ cls := "com/example/sensor_access_indicators/sensoraccessindicators/dbus/MarshallingTypeEndPinLaw", name := "field", desc := "([CIIII)I" } : Jvm.MethodName) method_5_code (6 : Nat) (Option.some Jvm.ClassFile.FieldType.int)).before args0 about1 = true := code_word (m := ⟨1, 4⟩) (meth := k1m4) (c := k1c4) (by decide +kernel) rfl rfl rfl (by decide +kernel)
set_option maxRecDepth 65536 in
theorem w_c16 : (Jvm.Cond.code ({ cls := "com/example/sensor_access_indicators/sensoraccessindicators/dbus/MarshallingTypeEndPinLaw", name := "inner", desc := "(I)C" } : Jvm.MethodName) method_3_code (2 : Nat) (Option.some Jvm.ClassFile.FieldType.char)).before args0 about1 = true := code_word (m := ⟨1, 2⟩) (meth := k1m2) (c := k1c2) (by decide +kernel) rfl rfl rfl (by decide +kernel)
def codes1 : List Jvm.Cond := [Jvm.Cond.code x code maxLocals ret, Jvm.Cond.code ({ cls := "com/example/sensor_access_indicators/sensoraccessindicators/dbus/MarshallingTypeEndPinLaw", name := "arrays", desc := "([CII)I" } : Jvm.MethodName) method_4_code (4 : Nat) (Option.some Jvm.ClassFile.FieldType.int), Jvm.Cond.code ({ cls := "com/example/sensor_access_indicators/sensoraccessindicators/dbus/MarshallingTypeEndPinLaw", name := "top", desc := "(I)C" } : Jvm.MethodName) method_2_code (2 : Nat) (Option.some Jvm.ClassFile.FieldType.char), Jvm.Cond.code ({ cls := "java/lang/String", name := "<init>", desc := "([C)V" } : Jvm.MethodName) jdk_42_method_3_code (2 : Nat) (Option.none : Option Jvm.ClassFile.FieldType), Jvm.Cond.code ({ cls := "java/lang/String", name := "<init>", desc := "([CIILjava/lang/Void;)V" } : Jvm.MethodName) jdk_42_method_149_code (6 : Nat) (Option.none : Option Jvm.ClassFile.FieldType), Jvm.Cond.code ({ cls := "java/lang/Object", name := "<init>", desc := "()V" } : Jvm.MethodName) object_method_1_code (1 : Nat) (Option.none : Option Jvm.ClassFile.FieldType), Jvm.Cond.code ({ cls := "java/lang/StringUTF16", name := "compress", desc := "([CII)[B" } : Jvm.MethodName) jdk_52_method_16_code (6 : Nat) (Option.some (Jvm.ClassFile.FieldType.array Jvm.ClassFile.FieldType.byte)), Jvm.Cond.code ({ cls := "java/lang/StringUTF16", name := "compress", desc := "([CI[BII)I" } : Jvm.MethodName) jdk_52_method_21_code (7 : Nat) (Option.some Jvm.ClassFile.FieldType.int), Jvm.Cond.code ({ cls := "java/lang/StringUTF16", name := "coderFromArrayLen", desc := "([BI)B" } : Jvm.MethodName) jdk_52_method_15_code (2 : Nat) (Option.some Jvm.ClassFile.FieldType.byte), Jvm.Cond.code ({ cls := "com/example/sensor_access_indicators/sensoraccessindicators/dbus/Marshalling", name := "typeEnd", desc := "(Ljava/lang/String;I)I" } : Jvm.MethodName) prog_48_method_2_code (5 : Nat) (Option.some Jvm.ClassFile.FieldType.int), Jvm.Cond.code ({ cls := "java/lang/String", name := "charAt", desc := "(I)C" } : Jvm.MethodName) jdk_42_method_56_code (2 : Nat) (Option.some Jvm.ClassFile.FieldType.char), Jvm.Cond.code ({ cls := "java/lang/String", name := "isLatin1", desc := "()Z" } : Jvm.MethodName) jdk_42_method_154_code (1 : Nat) (Option.some Jvm.ClassFile.FieldType.boolean), Jvm.Cond.code ({ cls := "java/lang/StringLatin1", name := "charAt", desc := "([BI)C" } : Jvm.MethodName) jdk_43_method_2_code (2 : Nat) (Option.some Jvm.ClassFile.FieldType.char), Jvm.Cond.code ({ cls := "java/lang/String", name := "checkIndex", desc := "(II)V" } : Jvm.MethodName) jdk_42_method_155_code (2 : Nat) (Option.none : Option Jvm.ClassFile.FieldType), Jvm.Cond.code ({ cls := "jdk/internal/util/Preconditions", name := "checkIndex", desc := "(IILjava/util/function/BiFunction;)I" } : Jvm.MethodName) jdk_41_method_11_code (3 : Nat) (Option.some Jvm.ClassFile.FieldType.int), Jvm.Cond.code ({ cls := "com/example/sensor_access_indicators/sensoraccessindicators/dbus/MarshallingTypeEndPinLaw", name := "field", desc := "([CIIII)I" } : Jvm.MethodName) method_5_code (6 : Nat) (Option.some Jvm.ClassFile.FieldType.int), Jvm.Cond.code ({ cls := "com/example/sensor_access_indicators/sensoraccessindicators/dbus/MarshallingTypeEndPinLaw", name := "inner", desc := "(I)C" } : Jvm.MethodName) method_3_code (2 : Nat) (Option.some Jvm.ClassFile.FieldType.char)]
set_option maxRecDepth 65536 in
theorem codes_eq : words1.filter isCode = codes1 := rfl
theorem w_codes : ∀ c ∈ words1.filter isCode, c.before args0 about1 = true := by
  rw [codes_eq]
  intro c hc
  simp only [codes1, List.mem_cons, List.not_mem_nil, or_false] at hc
  rcases hc with rfl | rfl | rfl | rfl | rfl | rfl | rfl | rfl | rfl | rfl | rfl | rfl | rfl | rfl | rfl | rfl | rfl
  · exact w_c0
  · exact w_c1
  · exact w_c2
  · exact w_c3
  · exact w_c4
  · exact w_c5
  · exact w_c6
  · exact w_c7
  · exact w_c8
  · exact w_c9
  · exact w_c10
  · exact w_c11
  · exact w_c12
  · exact w_c13
  · exact w_c14
  · exact w_c15
  · exact w_c16
set_option maxRecDepth 65536 in
theorem w_t1 : (words1.take 24).all (fun c => isCode c || c.before args0 about1) = true := by decide +kernel
set_option maxRecDepth 65536 in
theorem w_t2 : ((words1.drop 24).take 24).all (fun c => isCode c || c.before args0 about1) = true := by decide +kernel
set_option maxRecDepth 65536 in
theorem w_t3 : ((words1.drop 24).drop 24).all (fun c => isCode c || c.before args0 about1) = true := by decide +kernel
theorem w_tables : (allAtoms (Jvm.Cond.code x code maxLocals ret :: tables_1)).before args0 about1 = true := by
  rw [allAtoms_all]
  show words1.all (fun c => c.before args0 about1) = true
  refine all_split ?_ w_codes
  rw [← List.take_append_drop 24 words1, List.all_append, w_t1, ← List.take_append_drop 24 (words1.drop 24), List.all_append, w_t2, w_t3]
  rfl
set_option maxRecDepth 65536 in
theorem w_rest : rest_1_c.before args0 about1 = true := by decide +kernel
set_option maxRecDepth 65536 in
theorem w_case : (Jvm.Cond.and given_1 narrow_1).before args0 about1 = true := by decide +kernel
theorem w_applies : (headSpec (Jvm.Cond.code x code maxLocals ret :: tables_1) room_1).applies x e0.platform about1 = true :=
  (Spec.applies_iff w_frames).mpr ⟨w_running, w_runnable, w_alone, w_named, w_hears, w_ripe, w_room, w_tables⟩
theorem atStart : AtStart classFile x code maxLocals ret World_1 tables_1 room_1 Calls_1 rest_1 Pre_1 launch0 p0 e0 about1 theMethod args0 below0 :=
  ⟨lists_1, trivial, launch0.admits_env _ _ _, launch0.least_env, fairChoices_fair.cas, fairChoices_fair.clock, w_frames, w_args, w_heap, w_applies, trivial, w_rest, w_case⟩
end start1
theorem witness_1 : WitnessClaimed_1 := ⟨start1.p0, start1.e0, start1.about1, start1.theMethod, start1.args0, start1.below0, start1.atStart⟩
end Jvm.Pilot.@@N@@
