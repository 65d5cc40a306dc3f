import JvmDerived
import JvmDerived.Pilot.@@N@@Statement
import JvmDerived.Pilot.@@N@@Code
set_option linter.unusedVariables false
set_option linter.unusedSimpArgs false
namespace Jvm.RoadKit
open Sem ClassFile Op Lib Jvm.Stand Jvm.Free Jvm.LawKit
section New
variable {p : Program} {l : Launch} {e : Env} {R : Room} {s : State} {m : MethodId} {args : Array Value} {below : List Frame} {meth : Method} {c : Code} {T : State} {locs : List Loc} {cells slots : Nat}
theorem retI (X : Stand p l e R s m args below meth c T locs cells slots) (hx : p.tables.exec = Jvm.exec) {pc : Nat} {Ls : Array Slot} {z : Int32} {rest : List Value} (hret : meth.sig.returnType = some .int) (hd : decode c.code pc = .ok (.ireturn, 1)) {fs : List Frame}
    (hl : ∀ (f : JFrame) (acts : List Action), f.method = m → f.locked = none → f.entered = [] → (doReturn e (T.setTop f) acts (some (.int z))).1 = T.setFrames fs) : Steps p.tables e below (T.setTop (mkF m pc Ls (.int z :: rest))) (T.setFrames fs) := by
  have hm' : T.vm.method? m = some meth := X.method'
  have hn : narrow .int (.int z) = .int z := rfl
  show Steps p.tables e below (T.setTop { method := m, pc := pc, locals := Ls, stack := _ :: rest, locked := none }) _
  jvm_step X.here [X.here.top, hx, hd, hm', hret, hn]
  first | (intro acts; rw [hl _ acts rfl rfl rfl]) | rw [hl _ _ rfl rfl rfl]
  exact Steps.refl _
theorem own_lrem {g : JFrame} {target : State} (X : Stand p l e R s m args below meth c T locs cells slots) (hx : p.tables.exec = Jvm.exec) (hg : g.method = m) {x y : Int64} {rest : List Value} (hd : decode c.code g.pc = .ok (.lrem, 1)) (hs : g.stack = .long y :: .long x :: rest) (hy : y ≠ 0)
    (hr : Steps p.tables e below (T.setTop { g with pc := g.pc + 1, stack := .long (x % y) :: rest }) target) : Steps p.tables e below (T.setTop g) target := by
  have q : x - (x / y) * y = x % y := lrem_mod x y
  exact XS.lrem X.here hx hg hd hs hy (by rw [q]; exact hr)
theorem own_b1 {P : Prop} [Decidable P] (h : P) : ¬ ((if P then (1 : Int32) else 0) = 0) := by rw [if_pos h]; decide
theorem own_b0 {P : Prop} [Decidable P] (h : ¬ P) : (if P then (1 : Int32) else 0) = 0 := if_neg h
theorem own_c1 {P : Prop} [Decidable P] (h : P) : (if P then (1 : Int32) else 0) = 1 := if_pos h
theorem own_c0 {P : Prop} [Decidable P] (h : ¬ P) : ¬ ((if P then (1 : Int32) else 0) = 1) := by rw [if_neg h]; decide
theorem own_bb {P Q : Prop} [Decidable P] [Decidable Q] (h : P ↔ Q) : (if P then (1 : Int32) else 0) = (if Q then (1 : Int32) else 0) := by
  by_cases p : P
  · rw [if_pos p, if_pos (h.mp p)]
  · rw [if_neg p, if_neg (fun q => p (h.mpr q))]
theorem own_bn {P Q : Prop} [Decidable P] [Decidable Q] (h : ¬ (P ↔ Q)) : ¬ ((if P then (1 : Int32) else 0) = (if Q then (1 : Int32) else 0)) := fun e => h (by
  by_cases p : P <;> by_cases q : Q
  · exact ⟨fun _ => q, fun _ => p⟩
  · rw [if_pos p, if_neg q] at e; exact absurd e (by decide)
  · rw [if_neg p, if_pos q] at e; exact absurd e (by decide)
  · exact ⟨fun a => absurd a p, fun a => absurd a q⟩)
theorem own_t {P : Prop} [Decidable P] (h : P) : some (Value.int 1) = some (Value.int (if P then (1 : Int32) else 0)) := by rw [if_pos h]
theorem own_f {P : Prop} [Decidable P] (h : ¬ P) : some (Value.int 0) = some (Value.int (if P then (1 : Int32) else 0)) := by rw [if_neg h]
end New
end Jvm.RoadKit
namespace Jvm.Pilot.@@N@@
open Jvm Jvm.ClassFile Sem Op Lib Jvm.Free Jvm.Stand Jvm.LawKit Jvm.RoadKit Bundle Jvm.Pilot.@@N@@.Jvm.D
def own_rd (l : List Int32) (j : Int32) : Int32 := l.getD j.toNatClampNeg 0
def own_wr (l : List Int32) (j v : Int32) : List Int32 := l.set j.toNatClampNeg v
abbrev own_in (z j : Int32) : Prop := ¬ j < 0 ∧ j < z
def own_A (Z : State) (h : Heap) (a : Addr) (k : ClassId) (ty : FieldType) (z : Int32) (l : List Int32) : Prop := l.length = z.toNatClampNeg ∧ Arv Z h a k ty z (l.map Value.int) (.int 0)
section OwnA
variable {Z : State} {h h' : Heap} {a b : Addr} {k : ClassId} {ty : FieldType} {z j v : Int32} {l : List Int32} {sl : Nat} {u : Value} {ws : List Addr}
theorem own_A.lt (A : own_A Z h a k ty z l) : a < h.size := A.2.lt
theorem own_A.ext (A : own_A Z h a k ty z l) (E : Ext h h') : own_A Z h' a k ty z l := ⟨A.1, A.2.ext E⟩
theorem own_A.other (A : own_A Z h b k ty z l) (W : Wr h h' a sl u) (q : b ≠ a) : own_A Z h' b k ty z l := ⟨A.1, A.2.other W q⟩
theorem own_A.keep (A : own_A Z h a k ty z l) (K : Keep h h' ws) (q : a ∉ ws) : own_A Z h' a k ty z l := ⟨A.1, A.2.keep K q⟩
theorem own_new (q : l.length = z.toNatClampNeg) (A : Arv Z h a k ty z (l.map Value.int) (.int 0)) : own_A Z h a k ty z l := ⟨q, A⟩
theorem own_getD (l : List Int32) (n : Nat) : (l.map Value.int).getD n (.int 0) = .int (l.getD n 0) := by
  simp only [List.getD_eq_getElem?_getD, List.getElem?_map]
  cases l[n]? <;> rfl
theorem own_read (A : own_A Z h a k ty z l) (hj : own_in z j) : ∃ c : Cell, Arr Z h a c ty ∧ ¬ (j < 0 ∨ c.slots.size ≤ j.toNatClampNeg) ∧ c.slots[j.toNatClampNeg]? = some (.int (own_rd l j)) := by
  obtain ⟨hl, c, Ar, q1, S, q3, H, G⟩ := A
  have hin := inb_of S hj
  refine ⟨c, Ar, hin, ?_⟩
  have hlt : j.toNatClampNeg < c.slots.size := Nat.lt_of_not_le fun y => hin (Or.inr y)
  rw [H _ hlt, own_getD]; rfl
theorem own_set (A : own_A Z h a k ty z l) (hj : own_in z j) (hv : fits ty (.int v) = true) (W : Wr h h' a j.toNatClampNeg (.int v)) : own_A Z h' a k ty z (own_wr l j v) := by
  obtain ⟨hl, c, Ar, q1, S, q3, H, G⟩ := A
  have hin := inb_of S hj
  have hlt : j.toNatClampNeg < c.slots.size := Nat.lt_of_not_le fun y => hin (Or.inr y)
  have q := Arv.set Ar q1 S q3 H G hv W j.toNatClampNeg rfl (by rw [List.length_map, hl, ← S]; exact hlt)
  refine ⟨by rw [own_wr, List.length_set]; exact hl, ?_⟩
  rw [own_wr, List.map_set]; exact q
theorem own_write (A : own_A Z h a k .int z l) (hj : own_in z j) (W : Wr h h' a j.toNatClampNeg (.int v)) : own_A Z h' a k .int z (own_wr l j v) := own_set A hj rfl W
end OwnA
def own_fP (P : List Int32) (i : Int32) : List Int32 := if own_rd P i = i then P else own_wr P i (own_rd P (own_rd P i))
def own_fV (P : List Int32) (i : Int32) : Int32 := if own_rd P i = i then i else own_rd (own_wr P i (own_rd P (own_rd P i))) i
abbrev own_fok (P : List Int32) (i : Int32) : Prop := own_in (4 : Int32) (own_rd P i) ∧ own_in (4 : Int32) (own_fV P i) ∧ own_rd (own_fP P i) (own_fV P i) = own_fV P i
def own_uR (P : List Int32) (a b : Int32) : Int32 := if own_fV P a = own_fV (own_fP P a) b then 0 else 1
def own_uP (P Y : List Int32) (a b : Int32) : List Int32 := if own_fV P a = own_fV (own_fP P a) b then own_fP (own_fP P a) b else if own_rd Y (own_fV P a) < own_rd Y (own_fV (own_fP P a) b) then own_wr (own_fP (own_fP P a) b) (own_fV P a) (own_fV (own_fP P a) b) else own_wr (own_fP (own_fP P a) b) (own_fV (own_fP P a) b) (own_fV P a)
def own_uZ (P Y : List Int32) (a b : Int32) : List Int32 := if own_fV P a = own_fV (own_fP P a) b then Y else if own_rd Y (own_fV P a) < own_rd Y (own_fV (own_fP P a) b) then own_wr Y (own_fV (own_fP P a) b) (own_rd Y (own_fV (own_fP P a) b) + own_rd Y (own_fV P a)) else own_wr Y (own_fV P a) (own_rd Y (own_fV P a) + own_rd Y (own_fV (own_fP P a) b))
def own_j1 (R : List Int32) (i lo hi : Int32) : List Int32 := if own_rd R i = lo then own_wr R i hi else R
def own_jV (R : List Int32) (a b : Int32) : Int32 := if own_rd R a = own_rd R b then 0 else 1
def own_jR (R Y : List Int32) (a b : Int32) : List Int32 := if own_rd R a = own_rd R b then R else if own_rd Y (own_rd R a) < own_rd Y (own_rd R b) then own_j1 (own_j1 (own_j1 (own_j1 R 0 (own_rd R a) (own_rd R b)) 1 (own_rd R a) (own_rd R b)) 2 (own_rd R a) (own_rd R b)) 3 (own_rd R a) (own_rd R b) else own_j1 (own_j1 (own_j1 (own_j1 R 0 (own_rd R b) (own_rd R a)) 1 (own_rd R b) (own_rd R a)) 2 (own_rd R b) (own_rd R a)) 3 (own_rd R b) (own_rd R a)
def own_jY (R Y : List Int32) (a b : Int32) : List Int32 := if own_rd R a = own_rd R b then Y else if own_rd Y (own_rd R a) < own_rd Y (own_rd R b) then own_wr Y (own_rd R b) (own_rd Y (own_rd R b) + own_rd Y (own_rd R a)) else own_wr Y (own_rd R a) (own_rd Y (own_rd R a) + own_rd Y (own_rd R b))
def own_four : List Int32 := [0, 1, 2, 3]
def own_S : List (List Int32 × List Int32 × List Int32 × List Int32) := [([0, 1, 2, 3], [1, 1, 1, 1], [0, 1, 2, 3], [1, 1, 1, 1]), ([0, 0, 2, 3], [2, 1, 1, 1], [0, 0, 2, 3], [2, 1, 1, 1]), ([0, 1, 0, 3], [2, 1, 1, 1], [0, 1, 0, 3], [2, 1, 1, 1]), ([0, 1, 2, 0], [2, 1, 1, 1], [0, 1, 2, 0], [2, 1, 1, 1]), ([1, 1, 2, 3], [1, 2, 1, 1], [1, 1, 2, 3], [1, 2, 1, 1]), ([0, 1, 1, 3], [1, 2, 1, 1], [0, 1, 1, 3], [1, 2, 1, 1]), ([0, 1, 2, 1], [1, 2, 1, 1], [0, 1, 2, 1], [1, 2, 1, 1]), ([2, 1, 2, 3], [1, 1, 2, 1], [2, 1, 2, 3], [1, 1, 2, 1]), ([0, 2, 2, 3], [1, 1, 2, 1], [0, 2, 2, 3], [1, 1, 2, 1]), ([0, 1, 2, 2], [1, 1, 2, 1], [0, 1, 2, 2], [1, 1, 2, 1]), ([3, 1, 2, 3], [1, 1, 1, 2], [3, 1, 2, 3], [1, 1, 1, 2]), ([0, 3, 2, 3], [1, 1, 1, 2], [0, 3, 2, 3], [1, 1, 1, 2]), ([0, 1, 3, 3], [1, 1, 1, 2], [0, 1, 3, 3], [1, 1, 1, 2]), ([0, 0, 0, 3], [3, 1, 1, 1], [0, 0, 0, 3], [3, 1, 1, 1]), ([0, 0, 2, 0], [3, 1, 1, 1], [0, 0, 2, 0], [3, 1, 1, 1]), ([0, 0, 2, 2], [2, 1, 2, 1], [0, 0, 2, 2], [2, 1, 2, 1]), ([0, 0, 3, 3], [2, 1, 1, 2], [0, 0, 3, 3], [2, 1, 1, 2]), ([0, 1, 0, 0], [3, 1, 1, 1], [0, 1, 0, 0], [3, 1, 1, 1]), ([0, 1, 0, 1], [2, 2, 1, 1], [0, 1, 0, 1], [2, 2, 1, 1]), ([0, 3, 0, 3], [2, 1, 1, 2], [0, 3, 0, 3], [2, 1, 1, 2]), ([0, 1, 1, 0], [2, 2, 1, 1], [0, 1, 1, 0], [2, 2, 1, 1]), ([0, 2, 2, 0], [2, 1, 2, 1], [0, 2, 2, 0], [2, 1, 2, 1]), ([1, 1, 1, 3], [1, 3, 1, 1], [1, 1, 1, 3], [1, 3, 1, 1]), ([1, 1, 2, 1], [1, 3, 1, 1], [1, 1, 2, 1], [1, 3, 1, 1]), ([1, 1, 2, 2], [1, 2, 2, 1], [1, 1, 2, 2], [1, 2, 2, 1]), ([1, 1, 3, 3], [1, 2, 1, 2], [1, 1, 3, 3], [1, 2, 1, 2]), ([0, 1, 1, 1], [1, 3, 1, 1], [0, 1, 1, 1], [1, 3, 1, 1]), ([3, 1, 1, 3], [1, 2, 1, 2], [3, 1, 1, 3], [1, 2, 1, 2]), ([2, 1, 2, 1], [1, 2, 2, 1], [2, 1, 2, 1], [1, 2, 2, 1]), ([2, 2, 2, 3], [1, 1, 3, 1], [2, 2, 2, 3], [1, 1, 3, 1]), ([2, 1, 2, 2], [1, 1, 3, 1], [2, 1, 2, 2], [1, 1, 3, 1]), ([2, 3, 2, 3], [1, 1, 2, 2], [2, 3, 2, 3], [1, 1, 2, 2]), ([0, 2, 2, 2], [1, 1, 3, 1], [0, 2, 2, 2], [1, 1, 3, 1]), ([3, 2, 2, 3], [1, 1, 2, 2], [3, 2, 2, 3], [1, 1, 2, 2]), ([3, 3, 2, 3], [1, 1, 1, 3], [3, 3, 2, 3], [1, 1, 1, 3]), ([3, 1, 3, 3], [1, 1, 1, 3], [3, 1, 3, 3], [1, 1, 1, 3]), ([0, 3, 3, 3], [1, 1, 1, 3], [0, 3, 3, 3], [1, 1, 1, 3]), ([0, 0, 0, 0], [4, 1, 1, 1], [0, 0, 0, 0], [4, 1, 1, 1]), ([0, 0, 0, 2], [4, 1, 2, 1], [0, 0, 0, 0], [4, 1, 2, 1]), ([2, 0, 2, 2], [2, 1, 4, 1], [2, 2, 2, 2], [2, 1, 4, 1]), ([0, 0, 3, 0], [4, 1, 1, 2], [0, 0, 0, 0], [4, 1, 1, 2]), ([3, 0, 3, 3], [2, 1, 1, 4], [3, 3, 3, 3], [2, 1, 1, 4]), ([0, 0, 0, 1], [4, 2, 1, 1], [0, 0, 0, 0], [4, 2, 1, 1]), ([1, 1, 0, 1], [2, 4, 1, 1], [1, 1, 1, 1], [2, 4, 1, 1]), ([0, 3, 0, 0], [4, 1, 1, 2], [0, 0, 0, 0], [4, 1, 1, 2]), ([3, 3, 0, 3], [2, 1, 1, 4], [3, 3, 3, 3], [2, 1, 1, 4]), ([0, 0, 1, 0], [4, 2, 1, 1], [0, 0, 0, 0], [4, 2, 1, 1]), ([1, 1, 1, 0], [2, 4, 1, 1], [1, 1, 1, 1], [2, 4, 1, 1]), ([0, 2, 0, 0], [4, 1, 2, 1], [0, 0, 0, 0], [4, 1, 2, 1]), ([2, 2, 2, 0], [2, 1, 4, 1], [2, 2, 2, 2], [2, 1, 4, 1]), ([1, 1, 1, 1], [1, 4, 1, 1], [1, 1, 1, 1], [1, 4, 1, 1]), ([1, 1, 1, 2], [1, 4, 2, 1], [1, 1, 1, 1], [1, 4, 2, 1]), ([1, 2, 2, 2], [1, 2, 4, 1], [2, 2, 2, 2], [1, 2, 4, 1]), ([1, 1, 3, 1], [1, 4, 1, 2], [1, 1, 1, 1], [1, 4, 1, 2]), ([1, 3, 3, 3], [1, 2, 1, 4], [3, 3, 3, 3], [1, 2, 1, 4]), ([3, 3, 1, 3], [1, 2, 1, 4], [3, 3, 3, 3], [1, 2, 1, 4]), ([3, 1, 1, 1], [1, 4, 1, 2], [1, 1, 1, 1], [1, 4, 1, 2]), ([2, 2, 2, 1], [1, 2, 4, 1], [2, 2, 2, 2], [1, 2, 4, 1]), ([2, 1, 1, 1], [1, 4, 2, 1], [1, 1, 1, 1], [1, 4, 2, 1]), ([2, 2, 2, 2], [1, 1, 4, 1], [2, 2, 2, 2], [1, 1, 4, 1]), ([2, 3, 2, 2], [1, 1, 4, 2], [2, 2, 2, 2], [1, 1, 4, 2]), ([2, 3, 3, 3], [1, 1, 2, 4], [3, 3, 3, 3], [1, 1, 2, 4]), ([3, 2, 3, 3], [1, 1, 2, 4], [3, 3, 3, 3], [1, 1, 2, 4]), ([3, 2, 2, 2], [1, 1, 4, 2], [2, 2, 2, 2], [1, 1, 4, 2]), ([3, 3, 3, 3], [1, 1, 1, 4], [3, 3, 3, 3], [1, 1, 1, 4]), ([0, 0, 0, 0], [4, 1, 2, 1], [0, 0, 0, 0], [4, 1, 2, 1]), ([2, 2, 2, 2], [2, 1, 4, 1], [2, 2, 2, 2], [2, 1, 4, 1]), ([0, 0, 0, 0], [4, 1, 1, 2], [0, 0, 0, 0], [4, 1, 1, 2]), ([3, 3, 3, 3], [2, 1, 1, 4], [3, 3, 3, 3], [2, 1, 1, 4]), ([0, 0, 0, 0], [4, 2, 1, 1], [0, 0, 0, 0], [4, 2, 1, 1]), ([1, 1, 1, 1], [2, 4, 1, 1], [1, 1, 1, 1], [2, 4, 1, 1]), ([1, 1, 1, 1], [1, 4, 2, 1], [1, 1, 1, 1], [1, 4, 2, 1]), ([2, 2, 2, 2], [1, 2, 4, 1], [2, 2, 2, 2], [1, 2, 4, 1]), ([1, 1, 1, 1], [1, 4, 1, 2], [1, 1, 1, 1], [1, 4, 1, 2]), ([3, 3, 3, 3], [1, 2, 1, 4], [3, 3, 3, 3], [1, 2, 1, 4]), ([2, 2, 2, 2], [1, 1, 4, 2], [2, 2, 2, 2], [1, 1, 4, 2]), ([3, 3, 3, 3], [1, 1, 2, 4], [3, 3, 3, 3], [1, 1, 2, 4])]
abbrev own_cond (P L R Y : List Int32) (a b : Int32) : Prop := own_in (4 : Int32) a ∧ own_in (4 : Int32) b ∧ own_in (4 : Int32) (own_rd R a) ∧ own_in (4 : Int32) (own_rd R b) ∧ own_fok P a ∧ own_fok (own_fP P a) b ∧ own_uR P a b = own_jV R a b ∧ (own_uP P L a b, own_uZ P L a b, own_jR R Y a b, own_jY R Y a b) ∈ own_S
abbrev own_last (P R : List Int32) : Prop := own_fok P 3 ∧ own_fV P 3 = own_rd R 3 ∧ own_fok (own_fP P 3) 2 ∧ own_fV (own_fP P 3) 2 = own_rd R 2 ∧ own_fok (own_fP (own_fP P 3) 2) 1 ∧ own_fV (own_fP (own_fP P 3) 2) 1 = own_rd R 1 ∧ own_fok (own_fP (own_fP (own_fP P 3) 2) 1) 0 ∧ own_fV (own_fP (own_fP (own_fP P 3) 2) 1) 0 = own_rd R 0
theorem own_S0 : (([0, 1, 2, 3] : List Int32), ([1, 1, 1, 1] : List Int32), ([0, 1, 2, 3] : List Int32), ([1, 1, 1, 1] : List Int32)) ∈ own_S := List.mem_cons_self ..
set_option maxRecDepth 65536 in
theorem own_all : ∀ s ∈ own_S, ∀ a ∈ own_four, ∀ b ∈ own_four, own_cond s.1 s.2.1 s.2.2.1 s.2.2.2 a b := by decide +kernel
set_option maxRecDepth 65536 in
set_option maxHeartbeats 40000000 in
theorem own_end : ∀ s ∈ own_S, own_last s.1 s.2.2.1 := by decide +kernel
theorem own_step {P L R Y : List Int32} {a b : Int32} (h : (P, L, R, Y) ∈ own_S) (ha : a ∈ own_four) (hb : b ∈ own_four) : own_cond P L R Y a b := own_all (P, L, R, Y) h a ha b hb
theorem own_fin {P L R Y : List Int32} (h : (P, L, R, Y) ∈ own_S) : own_last P R := own_end (P, L, R, Y) h
theorem own_and3 (x : Int32) : (x &&& (3 : Int32)) ∈ own_four := by
  have e := c_mask x (3 : Int32) 2 (by decide) (by decide)
  have h : (x &&& (3 : Int32)) = 0 ∨ (x &&& (3 : Int32)) = 1 ∨ (x &&& (3 : Int32)) = 2 ∨ (x &&& (3 : Int32)) = 3 := by
    simp only [← Int32.toInt_inj, Int32.reduceToInt]
    rw [e]
    omega
  rcases h with h | h | h | h <;> rw [h] <;> decide
theorem pn_0 : plainName "com/example/querist/querist/mst/DisjointSets" = true := by first | (simp [plainName, overriddenIn]; done) | decide +kernel
theorem d1_0 : decode prog_50_method_1_code 0 = .ok (.aload_n 0, 1) := by decide +kernel
theorem d1_1 : decode prog_50_method_1_code 1 = .ok (.invokespecial 1, 3) := by decide +kernel
theorem d1_4 : decode prog_50_method_1_code 4 = .ok (.aload_n 0, 1) := by decide +kernel
theorem d1_5 : decode prog_50_method_1_code 5 = .ok (.iload_n 1, 1) := by decide +kernel
theorem d1_6 : decode prog_50_method_1_code 6 = .ok (.newarray .int, 2) := by decide +kernel
theorem d1_8 : decode prog_50_method_1_code 8 = .ok (.putfield 7, 3) := by decide +kernel
theorem d1_11 : decode prog_50_method_1_code 11 = .ok (.aload_n 0, 1) := by decide +kernel
theorem d1_12 : decode prog_50_method_1_code 12 = .ok (.iload_n 1, 1) := by decide +kernel
theorem d1_13 : decode prog_50_method_1_code 13 = .ok (.newarray .int, 2) := by decide +kernel
theorem d1_15 : decode prog_50_method_1_code 15 = .ok (.putfield 13, 3) := by decide +kernel
theorem d1_18 : decode prog_50_method_1_code 18 = .ok (.iconst 0, 1) := by decide +kernel
theorem d1_19 : decode prog_50_method_1_code 19 = .ok (.istore_n 2, 1) := by decide +kernel
theorem d1_20 : decode prog_50_method_1_code 20 = .ok (.iload_n 2, 1) := by decide +kernel
theorem d1_21 : decode prog_50_method_1_code 21 = .ok (.iload_n 1, 1) := by decide +kernel
theorem d1_22 : decode prog_50_method_1_code 22 = .ok (.if_icmp .ge 23, 3) := by decide +kernel
theorem d1_25 : decode prog_50_method_1_code 25 = .ok (.aload_n 0, 1) := by decide +kernel
theorem d1_26 : decode prog_50_method_1_code 26 = .ok (.getfield 7, 3) := by decide +kernel
theorem d1_29 : decode prog_50_method_1_code 29 = .ok (.iload_n 2, 1) := by decide +kernel
theorem d1_30 : decode prog_50_method_1_code 30 = .ok (.iload_n 2, 1) := by decide +kernel
theorem d1_31 : decode prog_50_method_1_code 31 = .ok (.iastore, 1) := by decide +kernel
theorem d1_32 : decode prog_50_method_1_code 32 = .ok (.aload_n 0, 1) := by decide +kernel
theorem d1_33 : decode prog_50_method_1_code 33 = .ok (.getfield 13, 3) := by decide +kernel
theorem d1_36 : decode prog_50_method_1_code 36 = .ok (.iload_n 2, 1) := by decide +kernel
theorem d1_37 : decode prog_50_method_1_code 37 = .ok (.iconst 1, 1) := by decide +kernel
theorem d1_38 : decode prog_50_method_1_code 38 = .ok (.iastore, 1) := by decide +kernel
theorem d1_39 : decode prog_50_method_1_code 39 = .ok (.iinc 2 1, 3) := by decide +kernel
theorem d1_42 : decode prog_50_method_1_code 42 = .ok (.goto (-22), 3) := by decide +kernel
theorem d1_45 : decode prog_50_method_1_code 45 = .ok (.return_, 1) := by decide +kernel
theorem ef_1 (m : MethodId) (x0 : Addr) : entryFrame m #[(.ref x0), (.int (4 : Int32))] 3 = mkF m 0 #[.val (.ref x0), .val (.int (4 : Int32)), .unset] [] := by first | (simp [entryFrame, mkF, argsToLocals, Value.category]; done) | rfl
def Q1 (Z : State) (o0 : Addr) (u0 : Value) (u1 : Value) (h0 : Heap) (n0 : Nat) (v : Option Value) (h : Heap) (L : List Loc) : Prop := v = none ∧ Fr n0 L ∧ Keep h0 h [o0] ∧ Exa Z h o0 "com/example/querist/querist/mst/DisjointSets" ∧ ∃ (bp bz : Addr) (kp kz : ClassId), h0.size ≤ bp ∧ h0.size ≤ bz ∧ bp ≠ bz ∧ Fld Z h o0 "com/example/querist/querist/mst/DisjointSets" "parent" "[I" (.ref bp) ∧ Fld Z h o0 "com/example/querist/querist/mst/DisjointSets" "size" "[I" (.ref bz) ∧ own_A Z h bp kp .int (4 : Int32) [(0 : Int32), (1 : Int32), (2 : Int32), (3 : Int32)] ∧ own_A Z h bz kz .int (4 : Int32) [(1 : Int32), (1 : Int32), (1 : Int32), (1 : Int32)]
set_option maxRecDepth 65536 in
set_option maxHeartbeats 40000000 in
theorem rm1 (l : Launch) (Z : State) (a0 : Array Value) (hw : ∀ d ∈ tables_1, d.before a0 Z = true) (ws : List Jvm.Cond) (o0 : Addr) (u0 : Value) (u1 : Value) (h0 : Heap) (n0 : Nat) (Z0 : n0 ≤ h0.size) (F_parent_o0 : Fld Z h0 o0 "com/example/querist/querist/mst/DisjointSets" "parent" "[I" u0) (F_size_o0 : Fld Z h0 o0 "com/example/querist/querist/mst/DisjointSets" "size" "[I" u1) (E_o0 : Exa Z h0 o0 "com/example/querist/querist/mst/DisjointSets") (g_o0 : n0 ≤ o0) :
    MetFree l (⟨"com/example/querist/querist/mst/DisjointSets", "<init>", "(I)V"⟩ : MethodName) (head1 (Jvm.Cond.code (⟨"com/example/querist/querist/mst/DisjointSets", "<init>", "(I)V"⟩ : MethodName) prog_50_method_1_code 3 none :: ws) ({ frames := 1, cells := 2, slots := 8, locals := 12 } : Room)) (fun a U => a = #[(.ref o0), (.int (4 : Int32))] ∧ Z.Warmed39 U.vm ∧ U.heap = h0) (fun _ _ _ _ _ => True) (fun _ U o U' => ∃ v L, o = .returned v ∧ Q1 Z o0 u0 u1 h0 n0 v U'.heap L ∧ FrameEnd U o U' L ({ frames := 1, cells := 2, slots := 8, locals := 12 } : Room).cells ({ frames := 1, cells := 2, slots := 8, locals := 12 } : Room).slots) := by
  refine MetFree.of_bodySF (plainFor_of_name pn_0) hisR ?_
  intro p e s m args below meth c s₁ Bd hml0 hP hK
  obtain ⟨rfl, hZ, hh⟩ := hP
  have hx := Bd.exec
  have hby := Bd.bytes
  have hml : c.maxLocals = 3 := hml0
  have hown : s.vm.findClass "com/example/querist/querist/mst/DisjointSets" = some m.cls := findClass_of_methodNamed Bd.named
  have hnm := (name_of_methodNamed Bd.named Bd.method).1
  have X0 : Stand p l e ({ frames := 1, cells := 2, slots := 8, locals := 12 } : Room) s m #[(.ref o0), (.int (4 : Int32))] below meth c s₁ [] 0 0 := Stand.of_body Bd
  have e0 : s₁.heap = h0 := by rw [← hh, Bd.state]; rfl
  have N0 := Fr.nil n0
  have pre0 : ∀ t, Steps p.tables e below (s₁.setTop (mkF m 0 #[.val (.ref o0), .val (.int (4 : Int32)), .unset] [])) t → Steps p.tables e below (s₁.setTop (entryFrame m #[(.ref o0), (.int (4 : Int32))] 3)) t := fun t k => castTop (ef_1 m o0) k
  obtain ⟨T1, X1, e1, st1⟩ := initO X0 hx hZ hown (hw _ (List.mem_of_getElem? (i := 6) rfl)) (hw _ (List.mem_of_getElem? (i := 7) rfl)) (hw _ (List.mem_of_getElem? (i := 8) rfl)) e0 (g := (mkF m 1 #[.val (.ref o0), .val (.int (4 : Int32)), .unset] [(.ref o0)])) rfl (by rw [hml]; rfl) rfl (hb hby d1_1) (by decide) (W := 0) (by show 2 * 0 + _ ≤ _; exact Nat.le_of_eq rfl) (by decide)
  obtain ⟨T2, h2, k2, X2, e2, E2, A2, st2⟩ := newP X1 hx hZ (hw _ (List.mem_of_getElem? (i := 9) rfl)) e1 (g := (mkF m 6 #[.val (.ref o0), .val (.int (4 : Int32)), .unset] [(.int (4 : Int32)), (.ref o0)])) rfl (hb hby d1_6) rfl (by decide) (cap := 4) (by decide) (by decide) (by decide) (by decide)
  obtain ⟨b2, g2⟩ : ∃ z, z = h0.size := ⟨_, rfl⟩
  rw [← g2] at A2 st2
  have V_b2 : own_A Z h2 b2 k2 .int (4 : Int32) [(0 : Int32), (0 : Int32), (0 : Int32), (0 : Int32)] := own_new rfl ((Arv.new A2 (by decide)).pad (pad_rep [] _ 4))
  have g_b2 : n0 ≤ b2 := Nat.le_trans Z0 (Nat.le_of_eq g2.symm)
  have sz_b2 : h0.size ≤ b2 := Nat.le_trans (Keep.refl h0 [o0]).1 (Nat.le_of_eq g2.symm)
  have KK2 : Keep h0 h2 [o0] := (Keep.refl h0 [o0]).ext E2
  have ne_o0_b2 : o0 ≠ b2 := Nat.ne_of_lt (Nat.lt_of_lt_of_le F_parent_o0.lt (Nat.le_of_eq g2.symm))
  obtain ⟨T3, h3, X3, e3, W3, st3⟩ := putF X2 hx hZ hown (host := "") (Or.inl (hw _ (List.mem_of_getElem? (i := 10) rfl))) Via.refl e2 (F_parent_o0.ext E2) (E_o0.ext E2) (Or.inr ⟨(hw _ (List.mem_of_getElem? (i := 11) rfl)), rfl, hnm⟩) (hw _ (List.mem_of_getElem? (i := 1) rfl)) (ty := (.array .int)) (by decide) rfl rfl (g := (mkF m 8 #[.val (.ref o0), .val (.int (4 : Int32)), .unset] [(.ref b2), (.ref o0)])) rfl rfl (hb hby d1_8)
  have Fw3 := (F_parent_o0.ext E2).same W3
  have KK3 : Keep h0 h3 [o0] := KK2.wr W3 (Or.inl (List.mem_of_getElem? (i := 0) rfl))
  have N3 := Fr.snoc X3 N0 g_o0
  obtain ⟨T4, h4, k4, X4, e4, E4, A4, st4⟩ := newP X3 hx hZ (hw _ (List.mem_of_getElem? (i := 9) rfl)) e3 (g := (mkF m 13 #[.val (.ref o0), .val (.int (4 : Int32)), .unset] [(.int (4 : Int32)), (.ref o0)])) rfl (hb hby d1_13) rfl (by decide) (cap := 4) (by decide) (by decide) (by decide) (by decide)
  obtain ⟨b4, g4⟩ : ∃ z, z = h3.size := ⟨_, rfl⟩
  rw [← g4] at A4 st4
  have V_b4 : own_A Z h4 b4 k4 .int (4 : Int32) [(0 : Int32), (0 : Int32), (0 : Int32), (0 : Int32)] := own_new rfl ((Arv.new A4 (by decide)).pad (pad_rep [] _ 4))
  have g_b4 : n0 ≤ b4 := Nat.le_trans (Nat.le_trans (Nat.le_trans Z0 E2.1) (Keep.of_wr W3).1) (Nat.le_of_eq g4.symm)
  have sz_b4 : h0.size ≤ b4 := Nat.le_trans KK3.1 (Nat.le_of_eq g4.symm)
  have KK4 : Keep h0 h4 [o0] := KK3.ext E4
  have ne_b2_b4 : b2 ≠ b4 := Nat.ne_of_lt (Nat.lt_of_lt_of_le (V_b2.other W3 (Ne.symm ne_o0_b2)).lt (Nat.le_of_eq g4.symm))
  have ne_o0_b4 : o0 ≠ b4 := Nat.ne_of_lt (Nat.lt_of_lt_of_le Fw3.lt (Nat.le_of_eq g4.symm))
  obtain ⟨T5, h5, X5, e5, W5, st5⟩ := putF X4 hx hZ hown (host := "") (Or.inl (hw _ (List.mem_of_getElem? (i := 12) rfl))) Via.refl e4 (((F_size_o0.ext E2).other W3 (Or.inr (slot_ne (Or.inr (hw _ (List.mem_of_getElem? (i := 13) rfl))) (Or.inr (hw _ (List.mem_of_getElem? (i := 11) rfl))) (by decide) (t := (.array .int)) (t' := (.array .int)) (by decide) (by decide)))).ext E4) (((E_o0.ext E2).wr W3).ext E4) (Or.inr ⟨(hw _ (List.mem_of_getElem? (i := 13) rfl)), rfl, hnm⟩) (hw _ (List.mem_of_getElem? (i := 1) rfl)) (ty := (.array .int)) (by decide) rfl rfl (g := (mkF m 15 #[.val (.ref o0), .val (.int (4 : Int32)), .unset] [(.ref b4), (.ref o0)])) rfl rfl (hb hby d1_15)
  have Fw5 := (((F_size_o0.ext E2).other W3 (Or.inr (slot_ne (Or.inr (hw _ (List.mem_of_getElem? (i := 13) rfl))) (Or.inr (hw _ (List.mem_of_getElem? (i := 11) rfl))) (by decide) (t := (.array .int)) (t' := (.array .int)) (by decide) (by decide)))).ext E4).same W5
  have KK5 : Keep h0 h5 [o0] := KK4.wr W5 (Or.inl (List.mem_of_getElem? (i := 0) rfl))
  have N5 := Fr.snoc X5 N3 g_o0
  obtain ⟨T6, X6, e6, st6⟩ := getF X5 hx hZ hown (host := "") (Or.inl (hw _ (List.mem_of_getElem? (i := 10) rfl))) Via.refl e5 ((Fw3.ext E4).other W5 (Or.inr (slot_ne (Or.inr (hw _ (List.mem_of_getElem? (i := 11) rfl))) (Or.inr (hw _ (List.mem_of_getElem? (i := 13) rfl))) (by decide) (t := (.array .int)) (t' := (.array .int)) (by decide) (by decide)))) (g := (mkF m 26 #[.val (.ref o0), .val (.int (4 : Int32)), .val (.int (0 : Int32))] [(.ref o0)])) rfl rfl (hb hby d1_26)
  obtain ⟨c7, Ar7, hin7, -⟩ := own_read (((V_b2.other W3 (Ne.symm ne_o0_b2)).ext E4).other W5 (Ne.symm ne_o0_b2)) (by decide : own_in (4 : Int32) (0 : Int32))
  obtain ⟨T8, h8, X8, e8, W8, st8⟩ := stI X6 hx hZ e6 Ar7 (j := (0 : Int32)) hin7 (g := (mkF m 31 #[.val (.ref o0), .val (.int (4 : Int32)), .val (.int (0 : Int32))] [(.int (0 : Int32)), (.int (0 : Int32)), (.ref b2)])) rfl rfl (hb hby d1_31)
  have V8 : own_A Z h8 b2 k2 .int (4 : Int32) [(0 : Int32), (0 : Int32), (0 : Int32), (0 : Int32)] := own_write (((V_b2.other W3 (Ne.symm ne_o0_b2)).ext E4).other W5 (Ne.symm ne_o0_b2)) (by decide : own_in (4 : Int32) (0 : Int32)) W8
  have KK8 : Keep h0 h8 [o0] := KK5.wr W8 (Or.inr sz_b2)
  have N8 := Fr.snoc X8 N5 g_b2
  obtain ⟨T9, X9, e9, st9⟩ := getF X8 hx hZ hown (host := "") (Or.inl (hw _ (List.mem_of_getElem? (i := 12) rfl))) Via.refl e8 (Fw5.other W8 (Or.inl ne_o0_b2)) (g := (mkF m 33 #[.val (.ref o0), .val (.int (4 : Int32)), .val (.int (0 : Int32))] [(.ref o0)])) rfl rfl (hb hby d1_33)
  obtain ⟨c10, Ar10, hin10, -⟩ := own_read ((V_b4.other W5 (Ne.symm ne_o0_b4)).other W8 (Ne.symm ne_b2_b4)) (by decide : own_in (4 : Int32) (0 : Int32))
  obtain ⟨T11, h11, X11, e11, W11, st11⟩ := stI X9 hx hZ e9 Ar10 (j := (0 : Int32)) hin10 (g := (mkF m 38 #[.val (.ref o0), .val (.int (4 : Int32)), .val (.int (0 : Int32))] [(.int (1 : Int32)), (.int (0 : Int32)), (.ref b4)])) rfl rfl (hb hby d1_38)
  have V11 : own_A Z h11 b4 k4 .int (4 : Int32) [(1 : Int32), (0 : Int32), (0 : Int32), (0 : Int32)] := own_write ((V_b4.other W5 (Ne.symm ne_o0_b4)).other W8 (Ne.symm ne_b2_b4)) (by decide : own_in (4 : Int32) (0 : Int32)) W11
  have KK11 : Keep h0 h11 [o0] := KK8.wr W11 (Or.inr sz_b4)
  have N11 := Fr.snoc X11 N8 g_b4
  obtain ⟨T12, X12, e12, st12⟩ := getF X11 hx hZ hown (host := "") (Or.inl (hw _ (List.mem_of_getElem? (i := 10) rfl))) Via.refl e11 ((((Fw3.ext E4).other W5 (Or.inr (slot_ne (Or.inr (hw _ (List.mem_of_getElem? (i := 11) rfl))) (Or.inr (hw _ (List.mem_of_getElem? (i := 13) rfl))) (by decide) (t := (.array .int)) (t' := (.array .int)) (by decide) (by decide)))).other W8 (Or.inl ne_o0_b2)).other W11 (Or.inl ne_o0_b4)) (g := (mkF m 26 #[.val (.ref o0), .val (.int (4 : Int32)), .val (.int (1 : Int32))] [(.ref o0)])) rfl rfl (hb hby d1_26)
  obtain ⟨c13, Ar13, hin13, -⟩ := own_read (V8.other W11 ne_b2_b4) (by decide : own_in (4 : Int32) (1 : Int32))
  obtain ⟨T14, h14, X14, e14, W14, st14⟩ := stI X12 hx hZ e12 Ar13 (j := (1 : Int32)) hin13 (g := (mkF m 31 #[.val (.ref o0), .val (.int (4 : Int32)), .val (.int (1 : Int32))] [(.int (1 : Int32)), (.int (1 : Int32)), (.ref b2)])) rfl rfl (hb hby d1_31)
  have V14 : own_A Z h14 b2 k2 .int (4 : Int32) [(0 : Int32), (1 : Int32), (0 : Int32), (0 : Int32)] := own_write (V8.other W11 ne_b2_b4) (by decide : own_in (4 : Int32) (1 : Int32)) W14
  have KK14 : Keep h0 h14 [o0] := KK11.wr W14 (Or.inr sz_b2)
  have N14 := Fr.snoc X14 N11 g_b2
  obtain ⟨T15, X15, e15, st15⟩ := getF X14 hx hZ hown (host := "") (Or.inl (hw _ (List.mem_of_getElem? (i := 12) rfl))) Via.refl e14 (((Fw5.other W8 (Or.inl ne_o0_b2)).other W11 (Or.inl ne_o0_b4)).other W14 (Or.inl ne_o0_b2)) (g := (mkF m 33 #[.val (.ref o0), .val (.int (4 : Int32)), .val (.int (1 : Int32))] [(.ref o0)])) rfl rfl (hb hby d1_33)
  obtain ⟨c16, Ar16, hin16, -⟩ := own_read (V11.other W14 (Ne.symm ne_b2_b4)) (by decide : own_in (4 : Int32) (1 : Int32))
  obtain ⟨T17, h17, X17, e17, W17, st17⟩ := stI X15 hx hZ e15 Ar16 (j := (1 : Int32)) hin16 (g := (mkF m 38 #[.val (.ref o0), .val (.int (4 : Int32)), .val (.int (1 : Int32))] [(.int (1 : Int32)), (.int (1 : Int32)), (.ref b4)])) rfl rfl (hb hby d1_38)
  have V17 : own_A Z h17 b4 k4 .int (4 : Int32) [(1 : Int32), (1 : Int32), (0 : Int32), (0 : Int32)] := own_write (V11.other W14 (Ne.symm ne_b2_b4)) (by decide : own_in (4 : Int32) (1 : Int32)) W17
  have KK17 : Keep h0 h17 [o0] := KK14.wr W17 (Or.inr sz_b4)
  have N17 := Fr.snoc X17 N14 g_b4
  obtain ⟨T18, X18, e18, st18⟩ := getF X17 hx hZ hown (host := "") (Or.inl (hw _ (List.mem_of_getElem? (i := 10) rfl))) Via.refl e17 ((((((Fw3.ext E4).other W5 (Or.inr (slot_ne (Or.inr (hw _ (List.mem_of_getElem? (i := 11) rfl))) (Or.inr (hw _ (List.mem_of_getElem? (i := 13) rfl))) (by decide) (t := (.array .int)) (t' := (.array .int)) (by decide) (by decide)))).other W8 (Or.inl ne_o0_b2)).other W11 (Or.inl ne_o0_b4)).other W14 (Or.inl ne_o0_b2)).other W17 (Or.inl ne_o0_b4)) (g := (mkF m 26 #[.val (.ref o0), .val (.int (4 : Int32)), .val (.int (2 : Int32))] [(.ref o0)])) rfl rfl (hb hby d1_26)
  obtain ⟨c19, Ar19, hin19, -⟩ := own_read (V14.other W17 ne_b2_b4) (by decide : own_in (4 : Int32) (2 : Int32))
  obtain ⟨T20, h20, X20, e20, W20, st20⟩ := stI X18 hx hZ e18 Ar19 (j := (2 : Int32)) hin19 (g := (mkF m 31 #[.val (.ref o0), .val (.int (4 : Int32)), .val (.int (2 : Int32))] [(.int (2 : Int32)), (.int (2 : Int32)), (.ref b2)])) rfl rfl (hb hby d1_31)
  have V20 : own_A Z h20 b2 k2 .int (4 : Int32) [(0 : Int32), (1 : Int32), (2 : Int32), (0 : Int32)] := own_write (V14.other W17 ne_b2_b4) (by decide : own_in (4 : Int32) (2 : Int32)) W20
  have KK20 : Keep h0 h20 [o0] := KK17.wr W20 (Or.inr sz_b2)
  have N20 := Fr.snoc X20 N17 g_b2
  obtain ⟨T21, X21, e21, st21⟩ := getF X20 hx hZ hown (host := "") (Or.inl (hw _ (List.mem_of_getElem? (i := 12) rfl))) Via.refl e20 (((((Fw5.other W8 (Or.inl ne_o0_b2)).other W11 (Or.inl ne_o0_b4)).other W14 (Or.inl ne_o0_b2)).other W17 (Or.inl ne_o0_b4)).other W20 (Or.inl ne_o0_b2)) (g := (mkF m 33 #[.val (.ref o0), .val (.int (4 : Int32)), .val (.int (2 : Int32))] [(.ref o0)])) rfl rfl (hb hby d1_33)
  obtain ⟨c22, Ar22, hin22, -⟩ := own_read (V17.other W20 (Ne.symm ne_b2_b4)) (by decide : own_in (4 : Int32) (2 : Int32))
  obtain ⟨T23, h23, X23, e23, W23, st23⟩ := stI X21 hx hZ e21 Ar22 (j := (2 : Int32)) hin22 (g := (mkF m 38 #[.val (.ref o0), .val (.int (4 : Int32)), .val (.int (2 : Int32))] [(.int (1 : Int32)), (.int (2 : Int32)), (.ref b4)])) rfl rfl (hb hby d1_38)
  have V23 : own_A Z h23 b4 k4 .int (4 : Int32) [(1 : Int32), (1 : Int32), (1 : Int32), (0 : Int32)] := own_write (V17.other W20 (Ne.symm ne_b2_b4)) (by decide : own_in (4 : Int32) (2 : Int32)) W23
  have KK23 : Keep h0 h23 [o0] := KK20.wr W23 (Or.inr sz_b4)
  have N23 := Fr.snoc X23 N20 g_b4
  obtain ⟨T24, X24, e24, st24⟩ := getF X23 hx hZ hown (host := "") (Or.inl (hw _ (List.mem_of_getElem? (i := 10) rfl))) Via.refl e23 ((((((((Fw3.ext E4).other W5 (Or.inr (slot_ne (Or.inr (hw _ (List.mem_of_getElem? (i := 11) rfl))) (Or.inr (hw _ (List.mem_of_getElem? (i := 13) rfl))) (by decide) (t := (.array .int)) (t' := (.array .int)) (by decide) (by decide)))).other W8 (Or.inl ne_o0_b2)).other W11 (Or.inl ne_o0_b4)).other W14 (Or.inl ne_o0_b2)).other W17 (Or.inl ne_o0_b4)).other W20 (Or.inl ne_o0_b2)).other W23 (Or.inl ne_o0_b4)) (g := (mkF m 26 #[.val (.ref o0), .val (.int (4 : Int32)), .val (.int (3 : Int32))] [(.ref o0)])) rfl rfl (hb hby d1_26)
  obtain ⟨c25, Ar25, hin25, -⟩ := own_read (V20.other W23 ne_b2_b4) (by decide : own_in (4 : Int32) (3 : Int32))
  obtain ⟨T26, h26, X26, e26, W26, st26⟩ := stI X24 hx hZ e24 Ar25 (j := (3 : Int32)) hin25 (g := (mkF m 31 #[.val (.ref o0), .val (.int (4 : Int32)), .val (.int (3 : Int32))] [(.int (3 : Int32)), (.int (3 : Int32)), (.ref b2)])) rfl rfl (hb hby d1_31)
  have V26 : own_A Z h26 b2 k2 .int (4 : Int32) [(0 : Int32), (1 : Int32), (2 : Int32), (3 : Int32)] := own_write (V20.other W23 ne_b2_b4) (by decide : own_in (4 : Int32) (3 : Int32)) W26
  have KK26 : Keep h0 h26 [o0] := KK23.wr W26 (Or.inr sz_b2)
  have N26 := Fr.snoc X26 N23 g_b2
  obtain ⟨T27, X27, e27, st27⟩ := getF X26 hx hZ hown (host := "") (Or.inl (hw _ (List.mem_of_getElem? (i := 12) rfl))) Via.refl e26 (((((((Fw5.other W8 (Or.inl ne_o0_b2)).other W11 (Or.inl ne_o0_b4)).other W14 (Or.inl ne_o0_b2)).other W17 (Or.inl ne_o0_b4)).other W20 (Or.inl ne_o0_b2)).other W23 (Or.inl ne_o0_b4)).other W26 (Or.inl ne_o0_b2)) (g := (mkF m 33 #[.val (.ref o0), .val (.int (4 : Int32)), .val (.int (3 : Int32))] [(.ref o0)])) rfl rfl (hb hby d1_33)
  obtain ⟨c28, Ar28, hin28, -⟩ := own_read (V23.other W26 (Ne.symm ne_b2_b4)) (by decide : own_in (4 : Int32) (3 : Int32))
  obtain ⟨T29, h29, X29, e29, W29, st29⟩ := stI X27 hx hZ e27 Ar28 (j := (3 : Int32)) hin28 (g := (mkF m 38 #[.val (.ref o0), .val (.int (4 : Int32)), .val (.int (3 : Int32))] [(.int (1 : Int32)), (.int (3 : Int32)), (.ref b4)])) rfl rfl (hb hby d1_38)
  have V29 : own_A Z h29 b4 k4 .int (4 : Int32) [(1 : Int32), (1 : Int32), (1 : Int32), (1 : Int32)] := own_write (V23.other W26 (Ne.symm ne_b2_b4)) (by decide : own_in (4 : Int32) (3 : Int32)) W29
  have KK29 : Keep h0 h29 [o0] := KK26.wr W29 (Or.inr sz_b4)
  have N29 := Fr.snoc X29 N26 g_b4
  have pre30 : ∀ t, Steps p.tables e below (T29.setTop (mkF m 45 #[.val (.ref o0), .val (.int (4 : Int32)), .val (.int (4 : Int32))] [])) t → Steps p.tables e below (s₁.setTop (entryFrame m #[(.ref o0), (.int (4 : Int32))] 3)) t := fun t k => pre0 t (by
    show Steps p.tables e below (s₁.setTop (mkF m 0 #[.val (.ref o0), .val (.int (4 : Int32)), .unset] [])) _
    refine XS.aloadN X0.here hx rfl (hb hby d1_0) rfl rfl ?_
    show Steps p.tables e below (s₁.setTop (mkF m 1 #[.val (.ref o0), .val (.int (4 : Int32)), .unset] [(.ref o0)])) _
    refine st1 _ ?_
    show Steps p.tables e below (T1.setTop (mkF m 4 #[.val (.ref o0), .val (.int (4 : Int32)), .unset] [])) _
    refine XS.aloadN X1.here hx rfl (hb hby d1_4) rfl rfl ?_
    show Steps p.tables e below (T1.setTop (mkF m 5 #[.val (.ref o0), .val (.int (4 : Int32)), .unset] [(.ref o0)])) _
    refine XS.iloadN X1.here hx rfl (hb hby d1_5) rfl ?_
    show Steps p.tables e below (T1.setTop (mkF m 6 #[.val (.ref o0), .val (.int (4 : Int32)), .unset] [(.int (4 : Int32)), (.ref o0)])) _
    refine st2 _ ?_
    show Steps p.tables e below (T2.setTop (mkF m 8 #[.val (.ref o0), .val (.int (4 : Int32)), .unset] [(.ref b2), (.ref o0)])) _
    refine st3 _ ?_
    show Steps p.tables e below (T3.setTop (mkF m 11 #[.val (.ref o0), .val (.int (4 : Int32)), .unset] [])) _
    refine XS.aloadN X3.here hx rfl (hb hby d1_11) rfl rfl ?_
    show Steps p.tables e below (T3.setTop (mkF m 12 #[.val (.ref o0), .val (.int (4 : Int32)), .unset] [(.ref o0)])) _
    refine XS.iloadN X3.here hx rfl (hb hby d1_12) rfl ?_
    show Steps p.tables e below (T3.setTop (mkF m 13 #[.val (.ref o0), .val (.int (4 : Int32)), .unset] [(.int (4 : Int32)), (.ref o0)])) _
    refine st4 _ ?_
    show Steps p.tables e below (T4.setTop (mkF m 15 #[.val (.ref o0), .val (.int (4 : Int32)), .unset] [(.ref b4), (.ref o0)])) _
    refine st5 _ ?_
    show Steps p.tables e below (T5.setTop (mkF m 18 #[.val (.ref o0), .val (.int (4 : Int32)), .unset] [])) _
    refine XS.iconst X5.here hx rfl (hb hby d1_18) ?_
    show Steps p.tables e below (T5.setTop (mkF m 19 #[.val (.ref o0), .val (.int (4 : Int32)), .unset] [(.int (0 : Int32))])) _
    refine XS.istoreN X5.here hx rfl (hb hby d1_19) rfl (l' := #[.val (.ref o0), .val (.int (4 : Int32)), .val (.int (0 : Int32))]) rfl ?_
    show Steps p.tables e below (T5.setTop (mkF m 20 #[.val (.ref o0), .val (.int (4 : Int32)), .val (.int (0 : Int32))] [])) _
    refine XS.iloadN X5.here hx rfl (hb hby d1_20) rfl ?_
    show Steps p.tables e below (T5.setTop (mkF m 21 #[.val (.ref o0), .val (.int (4 : Int32)), .val (.int (0 : Int32))] [(.int (0 : Int32))])) _
    refine XS.iloadN X5.here hx rfl (hb hby d1_21) rfl ?_
    show Steps p.tables e below (T5.setTop (mkF m 22 #[.val (.ref o0), .val (.int (4 : Int32)), .val (.int (0 : Int32))] [(.int (4 : Int32)), (.int (0 : Int32))])) _
    refine XS.icmpNo X5.here hx rfl (hb hby d1_22) rfl (tlt (by decide : (0 : Int32) < (4 : Int32))).2.1 ?_
    show Steps p.tables e below (T5.setTop (mkF m 25 #[.val (.ref o0), .val (.int (4 : Int32)), .val (.int (0 : Int32))] [])) _
    refine XS.aloadN X5.here hx rfl (hb hby d1_25) rfl rfl ?_
    show Steps p.tables e below (T5.setTop (mkF m 26 #[.val (.ref o0), .val (.int (4 : Int32)), .val (.int (0 : Int32))] [(.ref o0)])) _
    refine st6 _ ?_
    show Steps p.tables e below (T6.setTop (mkF m 29 #[.val (.ref o0), .val (.int (4 : Int32)), .val (.int (0 : Int32))] [(.ref b2)])) _
    refine XS.iloadN X6.here hx rfl (hb hby d1_29) rfl ?_
    show Steps p.tables e below (T6.setTop (mkF m 30 #[.val (.ref o0), .val (.int (4 : Int32)), .val (.int (0 : Int32))] [(.int (0 : Int32)), (.ref b2)])) _
    refine XS.iloadN X6.here hx rfl (hb hby d1_30) rfl ?_
    show Steps p.tables e below (T6.setTop (mkF m 31 #[.val (.ref o0), .val (.int (4 : Int32)), .val (.int (0 : Int32))] [(.int (0 : Int32)), (.int (0 : Int32)), (.ref b2)])) _
    refine st8 _ ?_
    show Steps p.tables e below (T8.setTop (mkF m 32 #[.val (.ref o0), .val (.int (4 : Int32)), .val (.int (0 : Int32))] [])) _
    refine XS.aloadN X8.here hx rfl (hb hby d1_32) rfl rfl ?_
    show Steps p.tables e below (T8.setTop (mkF m 33 #[.val (.ref o0), .val (.int (4 : Int32)), .val (.int (0 : Int32))] [(.ref o0)])) _
    refine st9 _ ?_
    show Steps p.tables e below (T9.setTop (mkF m 36 #[.val (.ref o0), .val (.int (4 : Int32)), .val (.int (0 : Int32))] [(.ref b4)])) _
    refine XS.iloadN X9.here hx rfl (hb hby d1_36) rfl ?_
    show Steps p.tables e below (T9.setTop (mkF m 37 #[.val (.ref o0), .val (.int (4 : Int32)), .val (.int (0 : Int32))] [(.int (0 : Int32)), (.ref b4)])) _
    refine XS.iconst X9.here hx rfl (hb hby d1_37) ?_
    show Steps p.tables e below (T9.setTop (mkF m 38 #[.val (.ref o0), .val (.int (4 : Int32)), .val (.int (0 : Int32))] [(.int (1 : Int32)), (.int (0 : Int32)), (.ref b4)])) _
    refine st11 _ ?_
    show Steps p.tables e below (T11.setTop (mkF m 39 #[.val (.ref o0), .val (.int (4 : Int32)), .val (.int (0 : Int32))] [])) _
    refine XS.iinc X11.here hx rfl (hb hby d1_39) rfl (l' := #[.val (.ref o0), .val (.int (4 : Int32)), .val (.int (1 : Int32))]) rfl ?_
    show Steps p.tables e below (T11.setTop (mkF m 42 #[.val (.ref o0), .val (.int (4 : Int32)), .val (.int (1 : Int32))] [])) _
    refine XS.goto X11.here hx rfl (pc0 := 42) (pc' := 20) rfl (hb hby d1_42) (by decide) (by decide) ?_
    show Steps p.tables e below (T11.setTop (mkF m 20 #[.val (.ref o0), .val (.int (4 : Int32)), .val (.int (1 : Int32))] [])) _
    refine XS.iloadN X11.here hx rfl (hb hby d1_20) rfl ?_
    show Steps p.tables e below (T11.setTop (mkF m 21 #[.val (.ref o0), .val (.int (4 : Int32)), .val (.int (1 : Int32))] [(.int (1 : Int32))])) _
    refine XS.iloadN X11.here hx rfl (hb hby d1_21) rfl ?_
    show Steps p.tables e below (T11.setTop (mkF m 22 #[.val (.ref o0), .val (.int (4 : Int32)), .val (.int (1 : Int32))] [(.int (4 : Int32)), (.int (1 : Int32))])) _
    refine XS.icmpNo X11.here hx rfl (hb hby d1_22) rfl (tlt (by decide : (1 : Int32) < (4 : Int32))).2.1 ?_
    show Steps p.tables e below (T11.setTop (mkF m 25 #[.val (.ref o0), .val (.int (4 : Int32)), .val (.int (1 : Int32))] [])) _
    refine XS.aloadN X11.here hx rfl (hb hby d1_25) rfl rfl ?_
    show Steps p.tables e below (T11.setTop (mkF m 26 #[.val (.ref o0), .val (.int (4 : Int32)), .val (.int (1 : Int32))] [(.ref o0)])) _
    refine st12 _ ?_
    show Steps p.tables e below (T12.setTop (mkF m 29 #[.val (.ref o0), .val (.int (4 : Int32)), .val (.int (1 : Int32))] [(.ref b2)])) _
    refine XS.iloadN X12.here hx rfl (hb hby d1_29) rfl ?_
    show Steps p.tables e below (T12.setTop (mkF m 30 #[.val (.ref o0), .val (.int (4 : Int32)), .val (.int (1 : Int32))] [(.int (1 : Int32)), (.ref b2)])) _
    refine XS.iloadN X12.here hx rfl (hb hby d1_30) rfl ?_
    show Steps p.tables e below (T12.setTop (mkF m 31 #[.val (.ref o0), .val (.int (4 : Int32)), .val (.int (1 : Int32))] [(.int (1 : Int32)), (.int (1 : Int32)), (.ref b2)])) _
    refine st14 _ ?_
    show Steps p.tables e below (T14.setTop (mkF m 32 #[.val (.ref o0), .val (.int (4 : Int32)), .val (.int (1 : Int32))] [])) _
    refine XS.aloadN X14.here hx rfl (hb hby d1_32) rfl rfl ?_
    show Steps p.tables e below (T14.setTop (mkF m 33 #[.val (.ref o0), .val (.int (4 : Int32)), .val (.int (1 : Int32))] [(.ref o0)])) _
    refine st15 _ ?_
    show Steps p.tables e below (T15.setTop (mkF m 36 #[.val (.ref o0), .val (.int (4 : Int32)), .val (.int (1 : Int32))] [(.ref b4)])) _
    refine XS.iloadN X15.here hx rfl (hb hby d1_36) rfl ?_
    show Steps p.tables e below (T15.setTop (mkF m 37 #[.val (.ref o0), .val (.int (4 : Int32)), .val (.int (1 : Int32))] [(.int (1 : Int32)), (.ref b4)])) _
    refine XS.iconst X15.here hx rfl (hb hby d1_37) ?_
    show Steps p.tables e below (T15.setTop (mkF m 38 #[.val (.ref o0), .val (.int (4 : Int32)), .val (.int (1 : Int32))] [(.int (1 : Int32)), (.int (1 : Int32)), (.ref b4)])) _
    refine st17 _ ?_
    show Steps p.tables e below (T17.setTop (mkF m 39 #[.val (.ref o0), .val (.int (4 : Int32)), .val (.int (1 : Int32))] [])) _
    refine XS.iinc X17.here hx rfl (hb hby d1_39) rfl (l' := #[.val (.ref o0), .val (.int (4 : Int32)), .val (.int (2 : Int32))]) rfl ?_
    show Steps p.tables e below (T17.setTop (mkF m 42 #[.val (.ref o0), .val (.int (4 : Int32)), .val (.int (2 : Int32))] [])) _
    refine XS.goto X17.here hx rfl (pc0 := 42) (pc' := 20) rfl (hb hby d1_42) (by decide) (by decide) ?_
    show Steps p.tables e below (T17.setTop (mkF m 20 #[.val (.ref o0), .val (.int (4 : Int32)), .val (.int (2 : Int32))] [])) _
    refine XS.iloadN X17.here hx rfl (hb hby d1_20) rfl ?_
    show Steps p.tables e below (T17.setTop (mkF m 21 #[.val (.ref o0), .val (.int (4 : Int32)), .val (.int (2 : Int32))] [(.int (2 : Int32))])) _
    refine XS.iloadN X17.here hx rfl (hb hby d1_21) rfl ?_
    show Steps p.tables e below (T17.setTop (mkF m 22 #[.val (.ref o0), .val (.int (4 : Int32)), .val (.int (2 : Int32))] [(.int (4 : Int32)), (.int (2 : Int32))])) _
    refine XS.icmpNo X17.here hx rfl (hb hby d1_22) rfl (tlt (by decide : (2 : Int32) < (4 : Int32))).2.1 ?_
    show Steps p.tables e below (T17.setTop (mkF m 25 #[.val (.ref o0), .val (.int (4 : Int32)), .val (.int (2 : Int32))] [])) _
    refine XS.aloadN X17.here hx rfl (hb hby d1_25) rfl rfl ?_
    show Steps p.tables e below (T17.setTop (mkF m 26 #[.val (.ref o0), .val (.int (4 : Int32)), .val (.int (2 : Int32))] [(.ref o0)])) _
    refine st18 _ ?_
    show Steps p.tables e below (T18.setTop (mkF m 29 #[.val (.ref o0), .val (.int (4 : Int32)), .val (.int (2 : Int32))] [(.ref b2)])) _
    refine XS.iloadN X18.here hx rfl (hb hby d1_29) rfl ?_
    show Steps p.tables e below (T18.setTop (mkF m 30 #[.val (.ref o0), .val (.int (4 : Int32)), .val (.int (2 : Int32))] [(.int (2 : Int32)), (.ref b2)])) _
    refine XS.iloadN X18.here hx rfl (hb hby d1_30) rfl ?_
    show Steps p.tables e below (T18.setTop (mkF m 31 #[.val (.ref o0), .val (.int (4 : Int32)), .val (.int (2 : Int32))] [(.int (2 : Int32)), (.int (2 : Int32)), (.ref b2)])) _
    refine st20 _ ?_
    show Steps p.tables e below (T20.setTop (mkF m 32 #[.val (.ref o0), .val (.int (4 : Int32)), .val (.int (2 : Int32))] [])) _
    refine XS.aloadN X20.here hx rfl (hb hby d1_32) rfl rfl ?_
    show Steps p.tables e below (T20.setTop (mkF m 33 #[.val (.ref o0), .val (.int (4 : Int32)), .val (.int (2 : Int32))] [(.ref o0)])) _
    refine st21 _ ?_
    show Steps p.tables e below (T21.setTop (mkF m 36 #[.val (.ref o0), .val (.int (4 : Int32)), .val (.int (2 : Int32))] [(.ref b4)])) _
    refine XS.iloadN X21.here hx rfl (hb hby d1_36) rfl ?_
    show Steps p.tables e below (T21.setTop (mkF m 37 #[.val (.ref o0), .val (.int (4 : Int32)), .val (.int (2 : Int32))] [(.int (2 : Int32)), (.ref b4)])) _
    refine XS.iconst X21.here hx rfl (hb hby d1_37) ?_
    show Steps p.tables e below (T21.setTop (mkF m 38 #[.val (.ref o0), .val (.int (4 : Int32)), .val (.int (2 : Int32))] [(.int (1 : Int32)), (.int (2 : Int32)), (.ref b4)])) _
    refine st23 _ ?_
    show Steps p.tables e below (T23.setTop (mkF m 39 #[.val (.ref o0), .val (.int (4 : Int32)), .val (.int (2 : Int32))] [])) _
    refine XS.iinc X23.here hx rfl (hb hby d1_39) rfl (l' := #[.val (.ref o0), .val (.int (4 : Int32)), .val (.int (3 : Int32))]) rfl ?_
    show Steps p.tables e below (T23.setTop (mkF m 42 #[.val (.ref o0), .val (.int (4 : Int32)), .val (.int (3 : Int32))] [])) _
    refine XS.goto X23.here hx rfl (pc0 := 42) (pc' := 20) rfl (hb hby d1_42) (by decide) (by decide) ?_
    show Steps p.tables e below (T23.setTop (mkF m 20 #[.val (.ref o0), .val (.int (4 : Int32)), .val (.int (3 : Int32))] [])) _
    refine XS.iloadN X23.here hx rfl (hb hby d1_20) rfl ?_
    show Steps p.tables e below (T23.setTop (mkF m 21 #[.val (.ref o0), .val (.int (4 : Int32)), .val (.int (3 : Int32))] [(.int (3 : Int32))])) _
    refine XS.iloadN X23.here hx rfl (hb hby d1_21) rfl ?_
    show Steps p.tables e below (T23.setTop (mkF m 22 #[.val (.ref o0), .val (.int (4 : Int32)), .val (.int (3 : Int32))] [(.int (4 : Int32)), (.int (3 : Int32))])) _
    refine XS.icmpNo X23.here hx rfl (hb hby d1_22) rfl (tlt (by decide : (3 : Int32) < (4 : Int32))).2.1 ?_
    show Steps p.tables e below (T23.setTop (mkF m 25 #[.val (.ref o0), .val (.int (4 : Int32)), .val (.int (3 : Int32))] [])) _
    refine XS.aloadN X23.here hx rfl (hb hby d1_25) rfl rfl ?_
    show Steps p.tables e below (T23.setTop (mkF m 26 #[.val (.ref o0), .val (.int (4 : Int32)), .val (.int (3 : Int32))] [(.ref o0)])) _
    refine st24 _ ?_
    show Steps p.tables e below (T24.setTop (mkF m 29 #[.val (.ref o0), .val (.int (4 : Int32)), .val (.int (3 : Int32))] [(.ref b2)])) _
    refine XS.iloadN X24.here hx rfl (hb hby d1_29) rfl ?_
    show Steps p.tables e below (T24.setTop (mkF m 30 #[.val (.ref o0), .val (.int (4 : Int32)), .val (.int (3 : Int32))] [(.int (3 : Int32)), (.ref b2)])) _
    refine XS.iloadN X24.here hx rfl (hb hby d1_30) rfl ?_
    show Steps p.tables e below (T24.setTop (mkF m 31 #[.val (.ref o0), .val (.int (4 : Int32)), .val (.int (3 : Int32))] [(.int (3 : Int32)), (.int (3 : Int32)), (.ref b2)])) _
    refine st26 _ ?_
    show Steps p.tables e below (T26.setTop (mkF m 32 #[.val (.ref o0), .val (.int (4 : Int32)), .val (.int (3 : Int32))] [])) _
    refine XS.aloadN X26.here hx rfl (hb hby d1_32) rfl rfl ?_
    show Steps p.tables e below (T26.setTop (mkF m 33 #[.val (.ref o0), .val (.int (4 : Int32)), .val (.int (3 : Int32))] [(.ref o0)])) _
    refine st27 _ ?_
    show Steps p.tables e below (T27.setTop (mkF m 36 #[.val (.ref o0), .val (.int (4 : Int32)), .val (.int (3 : Int32))] [(.ref b4)])) _
    refine XS.iloadN X27.here hx rfl (hb hby d1_36) rfl ?_
    show Steps p.tables e below (T27.setTop (mkF m 37 #[.val (.ref o0), .val (.int (4 : Int32)), .val (.int (3 : Int32))] [(.int (3 : Int32)), (.ref b4)])) _
    refine XS.iconst X27.here hx rfl (hb hby d1_37) ?_
    show Steps p.tables e below (T27.setTop (mkF m 38 #[.val (.ref o0), .val (.int (4 : Int32)), .val (.int (3 : Int32))] [(.int (1 : Int32)), (.int (3 : Int32)), (.ref b4)])) _
    refine st29 _ ?_
    show Steps p.tables e below (T29.setTop (mkF m 39 #[.val (.ref o0), .val (.int (4 : Int32)), .val (.int (3 : Int32))] [])) _
    refine XS.iinc X29.here hx rfl (hb hby d1_39) rfl (l' := #[.val (.ref o0), .val (.int (4 : Int32)), .val (.int (4 : Int32))]) rfl ?_
    show Steps p.tables e below (T29.setTop (mkF m 42 #[.val (.ref o0), .val (.int (4 : Int32)), .val (.int (4 : Int32))] [])) _
    refine XS.goto X29.here hx rfl (pc0 := 42) (pc' := 20) rfl (hb hby d1_42) (by decide) (by decide) ?_
    show Steps p.tables e below (T29.setTop (mkF m 20 #[.val (.ref o0), .val (.int (4 : Int32)), .val (.int (4 : Int32))] [])) _
    refine XS.iloadN X29.here hx rfl (hb hby d1_20) rfl ?_
    show Steps p.tables e below (T29.setTop (mkF m 21 #[.val (.ref o0), .val (.int (4 : Int32)), .val (.int (4 : Int32))] [(.int (4 : Int32))])) _
    refine XS.iloadN X29.here hx rfl (hb hby d1_21) rfl ?_
    show Steps p.tables e below (T29.setTop (mkF m 22 #[.val (.ref o0), .val (.int (4 : Int32)), .val (.int (4 : Int32))] [(.int (4 : Int32)), (.int (4 : Int32))])) _
    refine XS.icmpYes X29.here hx rfl (pc0 := 22) (pc' := 45) rfl (hb hby d1_22) rfl (flt (by decide : ¬ ((4 : Int32) < (4 : Int32)))).2.1 (by decide) (by decide) ?_
    exact k)
  obtain ⟨fs, hr, hrun, hended, hW, hsame⟩ := X29.leave (v := none) (fun _ => rfl)
  refine ⟨_, _, pre30 _ ?_, hrun, hended, _, _, rfl, ?_, ⟨_, rfl⟩, hW, hsame.mono (by decide) (by decide)⟩
  · exact X29.returnOut hx Bd.returns (hb hby d1_45) hr
  · show Q1 Z o0 u0 u1 h0 n0 _ T29.heap _
    rw [e29]
    exact ⟨rfl, N29, KK29, ((((((((((((E_o0.ext E2).wr W3).ext E4).wr W5).wr W8).wr W11).wr W14).wr W17).wr W20).wr W23).wr W26).wr W29), b2, b4, k2, k4, sz_b2, sz_b4, ne_b2_b4, ((((((((((Fw3.ext E4).other W5 (Or.inr (slot_ne (Or.inr (hw _ (List.mem_of_getElem? (i := 11) rfl))) (Or.inr (hw _ (List.mem_of_getElem? (i := 13) rfl))) (by decide) (t := (.array .int)) (t' := (.array .int)) (by decide) (by decide)))).other W8 (Or.inl ne_o0_b2)).other W11 (Or.inl ne_o0_b4)).other W14 (Or.inl ne_o0_b2)).other W17 (Or.inl ne_o0_b4)).other W20 (Or.inl ne_o0_b2)).other W23 (Or.inl ne_o0_b4)).other W26 (Or.inl ne_o0_b2)).other W29 (Or.inl ne_o0_b4)), ((((((((Fw5.other W8 (Or.inl ne_o0_b2)).other W11 (Or.inl ne_o0_b4)).other W14 (Or.inl ne_o0_b2)).other W17 (Or.inl ne_o0_b4)).other W20 (Or.inl ne_o0_b2)).other W23 (Or.inl ne_o0_b4)).other W26 (Or.inl ne_o0_b2)).other W29 (Or.inl ne_o0_b4)), (V26.other W29 ne_b2_b4), V29⟩
theorem d6_0 : decode prog_50_method_2_code 0 = .ok (.iload_n 1, 1) := by decide +kernel
theorem d6_1 : decode prog_50_method_2_code 1 = .ok (.istore_n 2, 1) := by decide +kernel
theorem d6_2 : decode prog_50_method_2_code 2 = .ok (.aload_n 0, 1) := by decide +kernel
theorem d6_3 : decode prog_50_method_2_code 3 = .ok (.getfield 7, 3) := by decide +kernel
theorem d6_6 : decode prog_50_method_2_code 6 = .ok (.iload_n 2, 1) := by decide +kernel
theorem d6_7 : decode prog_50_method_2_code 7 = .ok (.iaload, 1) := by decide +kernel
theorem d6_8 : decode prog_50_method_2_code 8 = .ok (.iload_n 2, 1) := by decide +kernel
theorem d6_9 : decode prog_50_method_2_code 9 = .ok (.if_icmp .eq 30, 3) := by decide +kernel
theorem d6_39 : decode prog_50_method_2_code 39 = .ok (.iload_n 2, 1) := by decide +kernel
theorem d6_40 : decode prog_50_method_2_code 40 = .ok (.ireturn, 1) := by decide +kernel
theorem d6_12 : decode prog_50_method_2_code 12 = .ok (.aload_n 0, 1) := by decide +kernel
theorem d6_13 : decode prog_50_method_2_code 13 = .ok (.getfield 7, 3) := by decide +kernel
theorem d6_16 : decode prog_50_method_2_code 16 = .ok (.iload_n 2, 1) := by decide +kernel
theorem d6_17 : decode prog_50_method_2_code 17 = .ok (.aload_n 0, 1) := by decide +kernel
theorem d6_18 : decode prog_50_method_2_code 18 = .ok (.getfield 7, 3) := by decide +kernel
theorem d6_21 : decode prog_50_method_2_code 21 = .ok (.aload_n 0, 1) := by decide +kernel
theorem d6_22 : decode prog_50_method_2_code 22 = .ok (.getfield 7, 3) := by decide +kernel
theorem d6_25 : decode prog_50_method_2_code 25 = .ok (.iload_n 2, 1) := by decide +kernel
theorem d6_26 : decode prog_50_method_2_code 26 = .ok (.iaload, 1) := by decide +kernel
theorem d6_27 : decode prog_50_method_2_code 27 = .ok (.iaload, 1) := by decide +kernel
theorem d6_28 : decode prog_50_method_2_code 28 = .ok (.iastore, 1) := by decide +kernel
theorem d6_29 : decode prog_50_method_2_code 29 = .ok (.aload_n 0, 1) := by decide +kernel
theorem d6_30 : decode prog_50_method_2_code 30 = .ok (.getfield 7, 3) := by decide +kernel
theorem d6_33 : decode prog_50_method_2_code 33 = .ok (.iload_n 2, 1) := by decide +kernel
theorem d6_34 : decode prog_50_method_2_code 34 = .ok (.iaload, 1) := by decide +kernel
theorem d6_35 : decode prog_50_method_2_code 35 = .ok (.istore_n 2, 1) := by decide +kernel
theorem d6_36 : decode prog_50_method_2_code 36 = .ok (.goto (-34), 3) := by decide +kernel
theorem ef_6 (m : MethodId) (x0 : Addr) (x1 : Int32) : entryFrame m #[(.ref x0), (.int x1)] 3 = mkF m 0 #[.val (.ref x0), .val (.int x1), .unset] [] := by first | (simp [entryFrame, mkF, argsToLocals, Value.category]; done) | rfl
def Q6 (Z : State) (o0 : Addr) (p1 : Int32) (wp : Addr) (kp : ClassId) (P : List Int32) (h0 : Heap) (n0 : Nat) (v : Option Value) (h : Heap) (L : List Loc) : Prop := v = some (.int (own_fV P p1)) ∧ Fr n0 L ∧ Keep h0 h [wp] ∧ own_A Z h wp kp .int (4 : Int32) (own_fP P p1)
set_option maxRecDepth 65536 in
set_option maxHeartbeats 40000000 in
theorem rm6 (l : Launch) (Z : State) (a0 : Array Value) (hw : ∀ d ∈ tables_1, d.before a0 Z = true) (ws : List Jvm.Cond) (o0 : Addr) (p1 : Int32) (wp : Addr) (kp : ClassId) (P : List Int32) (h0 : Heap) (n0 : Nat) (Z0 : n0 ≤ h0.size) (F_parent_o0 : Fld Z h0 o0 "com/example/querist/querist/mst/DisjointSets" "parent" "[I" (.ref wp)) (V_wp : own_A Z h0 wp kp .int (4 : Int32) P) (n_o0_wp : o0 ≠ wp) (g_wp : n0 ≤ wp) (hi : own_in (4 : Int32) p1) (hok : own_fok P p1) :
    MetFree l (⟨"com/example/querist/querist/mst/DisjointSets", "find", "(I)I"⟩ : MethodName) (head1 (Jvm.Cond.code (⟨"com/example/querist/querist/mst/DisjointSets", "find", "(I)I"⟩ : MethodName) prog_50_method_2_code 3 (some .int) :: ws) ({ frames := 0, cells := 0, slots := 0, locals := 0 } : Room)) (fun a U => a = #[(.ref o0), (.int p1)] ∧ Z.Warmed39 U.vm ∧ U.heap = h0) (fun _ _ _ _ _ => True) (fun _ U o U' => ∃ v L, o = .returned v ∧ Q6 Z o0 p1 wp kp P h0 n0 v U'.heap L ∧ FrameEnd U o U' L ({ frames := 0, cells := 0, slots := 0, locals := 0 } : Room).cells ({ frames := 0, cells := 0, slots := 0, locals := 0 } : Room).slots) := by
  refine MetFree.of_bodySF (plainFor_of_name pn_0) hisR ?_
  intro p e s m args below meth c s₁ Bd hml0 hP hK
  obtain ⟨rfl, hZ, hh⟩ := hP
  have hx := Bd.exec
  have hby := Bd.bytes
  have hml : c.maxLocals = 3 := hml0
  have hown : s.vm.findClass "com/example/querist/querist/mst/DisjointSets" = some m.cls := findClass_of_methodNamed Bd.named
  have hnm := (name_of_methodNamed Bd.named Bd.method).1
  have X0 : Stand p l e ({ frames := 0, cells := 0, slots := 0, locals := 0 } : Room) s m #[(.ref o0), (.int p1)] below meth c s₁ [] 0 0 := Stand.of_body Bd
  have e0 : s₁.heap = h0 := by rw [← hh, Bd.state]; rfl
  have N0 := Fr.nil n0
  have pre0 : ∀ t, Steps p.tables e below (s₁.setTop (mkF m 0 #[.val (.ref o0), .val (.int p1), .unset] [])) t → Steps p.tables e below (s₁.setTop (entryFrame m #[(.ref o0), (.int p1)] 3)) t := fun t k => castTop (ef_6 m o0 p1) k
  obtain ⟨T1, X1, e1, st1⟩ := getF X0 hx hZ hown (host := "") (Or.inl (hw _ (List.mem_of_getElem? (i := 10) rfl))) Via.refl e0 F_parent_o0 (g := (mkF m 3 #[.val (.ref o0), .val (.int p1), .val (.int p1)] [(.ref o0)])) rfl rfl (hb hby d6_3)
  obtain ⟨c2, Ar2, hin2, hat2⟩ := own_read V_wp hi
  have pre3 : ∀ t, Steps p.tables e below (T1.setTop (mkF m 9 #[.val (.ref o0), .val (.int p1), .val (.int p1)] [(.int p1), (.int (own_rd P p1))])) t → Steps p.tables e below (s₁.setTop (entryFrame m #[(.ref o0), (.int p1)] 3)) t := fun t k => pre0 t (by
    show Steps p.tables e below (s₁.setTop (mkF m 0 #[.val (.ref o0), .val (.int p1), .unset] [])) _
    refine XS.iloadN X0.here hx rfl (hb hby d6_0) rfl ?_
    show Steps p.tables e below (s₁.setTop (mkF m 1 #[.val (.ref o0), .val (.int p1), .unset] [(.int p1)])) _
    refine XS.istoreN X0.here hx rfl (hb hby d6_1) rfl (l' := #[.val (.ref o0), .val (.int p1), .val (.int p1)]) rfl ?_
    show Steps p.tables e below (s₁.setTop (mkF m 2 #[.val (.ref o0), .val (.int p1), .val (.int p1)] [])) _
    refine XS.aloadN X0.here hx rfl (hb hby d6_2) rfl rfl ?_
    show Steps p.tables e below (s₁.setTop (mkF m 3 #[.val (.ref o0), .val (.int p1), .val (.int p1)] [(.ref o0)])) _
    refine st1 _ ?_
    show Steps p.tables e below (T1.setTop (mkF m 6 #[.val (.ref o0), .val (.int p1), .val (.int p1)] [(.ref wp)])) _
    refine XS.iloadN X1.here hx rfl (hb hby d6_6) rfl ?_
    show Steps p.tables e below (T1.setTop (mkF m 7 #[.val (.ref o0), .val (.int p1), .val (.int p1)] [(.int p1), (.ref wp)])) _
    refine X1.iaload hx (j := p1) (v := (.int (own_rd P p1))) (by rw [e1]; exact Ar2.1) (State.isArrayOf_alike hZ.alike Ar2.2.1) Ar2.2.2 hin2 hat2 (g := (mkF m 7 #[.val (.ref o0), .val (.int p1), .val (.int p1)] [(.int p1), (.ref wp)])) rfl rfl (hb hby d6_7) _ ?_
    show Steps p.tables e below (T1.setTop (mkF m 8 #[.val (.ref o0), .val (.int p1), .val (.int p1)] [(.int (own_rd P p1))])) _
    refine XS.iloadN X1.here hx rfl (hb hby d6_8) rfl ?_
    exact k)
  by_cases hc9_4 : (own_rd P p1) = p1
  · have pre5 : ∀ t, Steps p.tables e below (T1.setTop (mkF m 40 #[.val (.ref o0), .val (.int p1), .val (.int p1)] [(.int p1)])) t → Steps p.tables e below (s₁.setTop (entryFrame m #[(.ref o0), (.int p1)] 3)) t := fun t k => pre3 t (by
      show Steps p.tables e below (T1.setTop (mkF m 9 #[.val (.ref o0), .val (.int p1), .val (.int p1)] [(.int p1), (.int (own_rd P p1))])) _
      refine XS.icmpYes X1.here hx rfl (pc0 := 9) (pc' := 39) rfl (hb hby d6_9) rfl (teq hc9_4).1 (by decide) (by decide) ?_
      show Steps p.tables e below (T1.setTop (mkF m 39 #[.val (.ref o0), .val (.int p1), .val (.int p1)] [])) _
      refine XS.iloadN X1.here hx rfl (hb hby d6_39) rfl ?_
      exact k)
    obtain ⟨fs, hr, hrun, hended, hW, hsame⟩ := X1.leave (v := some (.int p1)) (fun h => by rw [Bd.returns] at h; cases h)
    refine ⟨_, _, pre5 _ ?_, hrun, hended, _, _, rfl, ?_, ⟨_, rfl⟩, hW, hsame.mono (by decide) (by decide)⟩
    · exact retI X1 hx Bd.returns (hb hby d6_40) hr
    · show Q6 Z o0 p1 wp kp P h0 n0 _ T1.heap _
      rw [e1]
      exact ⟨by rw [own_fV, if_pos hc9_4], N0, (Keep.refl h0 [wp]), by rw [own_fP, if_pos hc9_4]; exact V_wp⟩
  · have hb2 : own_in (4 : Int32) (own_rd (own_wr P p1 (own_rd P (own_rd P p1))) p1) := by have q := hok.2.1; simp only [own_fV, if_neg hc9_4] at q; exact q
    have hb3 : own_rd (own_wr P p1 (own_rd P (own_rd P p1))) (own_rd (own_wr P p1 (own_rd P (own_rd P p1))) p1) = (own_rd (own_wr P p1 (own_rd P (own_rd P p1))) p1) := by have q := hok.2.2; simp only [own_fV, own_fP, if_neg hc9_4] at q; exact q
    obtain ⟨T6, X6, e6, st6⟩ := getF X1 hx hZ hown (host := "") (Or.inl (hw _ (List.mem_of_getElem? (i := 10) rfl))) Via.refl e1 F_parent_o0 (g := (mkF m 13 #[.val (.ref o0), .val (.int p1), .val (.int p1)] [(.ref o0)])) rfl rfl (hb hby d6_13)
    obtain ⟨T7, X7, e7, st7⟩ := getF X6 hx hZ hown (host := "") (Or.inl (hw _ (List.mem_of_getElem? (i := 10) rfl))) Via.refl e6 F_parent_o0 (g := (mkF m 18 #[.val (.ref o0), .val (.int p1), .val (.int p1)] [(.ref o0), (.int p1), (.ref wp)])) rfl rfl (hb hby d6_18)
    obtain ⟨T8, X8, e8, st8⟩ := getF X7 hx hZ hown (host := "") (Or.inl (hw _ (List.mem_of_getElem? (i := 10) rfl))) Via.refl e7 F_parent_o0 (g := (mkF m 22 #[.val (.ref o0), .val (.int p1), .val (.int p1)] [(.ref o0), (.ref wp), (.int p1), (.ref wp)])) rfl rfl (hb hby d6_22)
    obtain ⟨c9, Ar9, hin9, hat9⟩ := own_read V_wp hi
    obtain ⟨c10, Ar10, hin10, hat10⟩ := own_read V_wp hok.1
    obtain ⟨c11, Ar11, hin11, -⟩ := own_read V_wp hi
    obtain ⟨T12, h12, X12, e12, W12, st12⟩ := stI X8 hx hZ e8 Ar11 (j := p1) hin11 (g := (mkF m 28 #[.val (.ref o0), .val (.int p1), .val (.int p1)] [(.int (own_rd P (own_rd P p1))), (.int p1), (.ref wp)])) rfl rfl (hb hby d6_28)
    have V12 : own_A Z h12 wp kp .int (4 : Int32) (own_wr P p1 (own_rd P (own_rd P p1))) := own_write V_wp hi W12
    have KK12 : Keep h0 h12 [wp] := (Keep.refl h0 [wp]).wr W12 (Or.inl (List.mem_of_getElem? (i := 0) rfl))
    have N12 := Fr.snoc X12 N0 g_wp
    obtain ⟨T13, X13, e13, st13⟩ := getF X12 hx hZ hown (host := "") (Or.inl (hw _ (List.mem_of_getElem? (i := 10) rfl))) Via.refl e12 (F_parent_o0.other W12 (Or.inl n_o0_wp)) (g := (mkF m 30 #[.val (.ref o0), .val (.int p1), .val (.int p1)] [(.ref o0)])) rfl rfl (hb hby d6_30)
    obtain ⟨c14, Ar14, hin14, hat14⟩ := own_read V12 hi
    obtain ⟨T15, X15, e15, st15⟩ := getF X13 hx hZ hown (host := "") (Or.inl (hw _ (List.mem_of_getElem? (i := 10) rfl))) Via.refl e13 (F_parent_o0.other W12 (Or.inl n_o0_wp)) (g := (mkF m 3 #[.val (.ref o0), .val (.int p1), .val (.int (own_rd (own_wr P p1 (own_rd P (own_rd P p1))) p1))] [(.ref o0)])) rfl rfl (hb hby d6_3)
    obtain ⟨c16, Ar16, hin16, hat16⟩ := own_read V12 hb2
    have pre17 : ∀ t, Steps p.tables e below (T15.setTop (mkF m 40 #[.val (.ref o0), .val (.int p1), .val (.int (own_rd (own_wr P p1 (own_rd P (own_rd P p1))) p1))] [(.int (own_rd (own_wr P p1 (own_rd P (own_rd P p1))) p1))])) t → Steps p.tables e below (s₁.setTop (entryFrame m #[(.ref o0), (.int p1)] 3)) t := fun t k => pre3 t (by
      show Steps p.tables e below (T1.setTop (mkF m 9 #[.val (.ref o0), .val (.int p1), .val (.int p1)] [(.int p1), (.int (own_rd P p1))])) _
      refine XS.icmpNo X1.here hx rfl (hb hby d6_9) rfl (feq hc9_4).1 ?_
      show Steps p.tables e below (T1.setTop (mkF m 12 #[.val (.ref o0), .val (.int p1), .val (.int p1)] [])) _
      refine XS.aloadN X1.here hx rfl (hb hby d6_12) rfl rfl ?_
      show Steps p.tables e below (T1.setTop (mkF m 13 #[.val (.ref o0), .val (.int p1), .val (.int p1)] [(.ref o0)])) _
      refine st6 _ ?_
      show Steps p.tables e below (T6.setTop (mkF m 16 #[.val (.ref o0), .val (.int p1), .val (.int p1)] [(.ref wp)])) _
      refine XS.iloadN X6.here hx rfl (hb hby d6_16) rfl ?_
      show Steps p.tables e below (T6.setTop (mkF m 17 #[.val (.ref o0), .val (.int p1), .val (.int p1)] [(.int p1), (.ref wp)])) _
      refine XS.aloadN X6.here hx rfl (hb hby d6_17) rfl rfl ?_
      show Steps p.tables e below (T6.setTop (mkF m 18 #[.val (.ref o0), .val (.int p1), .val (.int p1)] [(.ref o0), (.int p1), (.ref wp)])) _
      refine st7 _ ?_
      show Steps p.tables e below (T7.setTop (mkF m 21 #[.val (.ref o0), .val (.int p1), .val (.int p1)] [(.ref wp), (.int p1), (.ref wp)])) _
      refine XS.aloadN X7.here hx rfl (hb hby d6_21) rfl rfl ?_
      show Steps p.tables e below (T7.setTop (mkF m 22 #[.val (.ref o0), .val (.int p1), .val (.int p1)] [(.ref o0), (.ref wp), (.int p1), (.ref wp)])) _
      refine st8 _ ?_
      show Steps p.tables e below (T8.setTop (mkF m 25 #[.val (.ref o0), .val (.int p1), .val (.int p1)] [(.ref wp), (.ref wp), (.int p1), (.ref wp)])) _
      refine XS.iloadN X8.here hx rfl (hb hby d6_25) rfl ?_
      show Steps p.tables e below (T8.setTop (mkF m 26 #[.val (.ref o0), .val (.int p1), .val (.int p1)] [(.int p1), (.ref wp), (.ref wp), (.int p1), (.ref wp)])) _
      refine X8.iaload hx (j := p1) (v := (.int (own_rd P p1))) (by rw [e8]; exact Ar9.1) (State.isArrayOf_alike hZ.alike Ar9.2.1) Ar9.2.2 hin9 hat9 (g := (mkF m 26 #[.val (.ref o0), .val (.int p1), .val (.int p1)] [(.int p1), (.ref wp), (.ref wp), (.int p1), (.ref wp)])) rfl rfl (hb hby d6_26) _ ?_
      show Steps p.tables e below (T8.setTop (mkF m 27 #[.val (.ref o0), .val (.int p1), .val (.int p1)] [(.int (own_rd P p1)), (.ref wp), (.int p1), (.ref wp)])) _
      refine X8.iaload hx (j := (own_rd P p1)) (v := (.int (own_rd P (own_rd P p1)))) (by rw [e8]; exact Ar10.1) (State.isArrayOf_alike hZ.alike Ar10.2.1) Ar10.2.2 hin10 hat10 (g := (mkF m 27 #[.val (.ref o0), .val (.int p1), .val (.int p1)] [(.int (own_rd P p1)), (.ref wp), (.int p1), (.ref wp)])) rfl rfl (hb hby d6_27) _ ?_
      show Steps p.tables e below (T8.setTop (mkF m 28 #[.val (.ref o0), .val (.int p1), .val (.int p1)] [(.int (own_rd P (own_rd P p1))), (.int p1), (.ref wp)])) _
      refine st12 _ ?_
      show Steps p.tables e below (T12.setTop (mkF m 29 #[.val (.ref o0), .val (.int p1), .val (.int p1)] [])) _
      refine XS.aloadN X12.here hx rfl (hb hby d6_29) rfl rfl ?_
      show Steps p.tables e below (T12.setTop (mkF m 30 #[.val (.ref o0), .val (.int p1), .val (.int p1)] [(.ref o0)])) _
      refine st13 _ ?_
      show Steps p.tables e below (T13.setTop (mkF m 33 #[.val (.ref o0), .val (.int p1), .val (.int p1)] [(.ref wp)])) _
      refine XS.iloadN X13.here hx rfl (hb hby d6_33) rfl ?_
      show Steps p.tables e below (T13.setTop (mkF m 34 #[.val (.ref o0), .val (.int p1), .val (.int p1)] [(.int p1), (.ref wp)])) _
      refine X13.iaload hx (j := p1) (v := (.int (own_rd (own_wr P p1 (own_rd P (own_rd P p1))) p1))) (by rw [e13]; exact Ar14.1) (State.isArrayOf_alike hZ.alike Ar14.2.1) Ar14.2.2 hin14 hat14 (g := (mkF m 34 #[.val (.ref o0), .val (.int p1), .val (.int p1)] [(.int p1), (.ref wp)])) rfl rfl (hb hby d6_34) _ ?_
      show Steps p.tables e below (T13.setTop (mkF m 35 #[.val (.ref o0), .val (.int p1), .val (.int p1)] [(.int (own_rd (own_wr P p1 (own_rd P (own_rd P p1))) p1))])) _
      refine XS.istoreN X13.here hx rfl (hb hby d6_35) rfl (l' := #[.val (.ref o0), .val (.int p1), .val (.int (own_rd (own_wr P p1 (own_rd P (own_rd P p1))) p1))]) rfl ?_
      show Steps p.tables e below (T13.setTop (mkF m 36 #[.val (.ref o0), .val (.int p1), .val (.int (own_rd (own_wr P p1 (own_rd P (own_rd P p1))) p1))] [])) _
      refine XS.goto X13.here hx rfl (pc0 := 36) (pc' := 2) rfl (hb hby d6_36) (by decide) (by decide) ?_
      show Steps p.tables e below (T13.setTop (mkF m 2 #[.val (.ref o0), .val (.int p1), .val (.int (own_rd (own_wr P p1 (own_rd P (own_rd P p1))) p1))] [])) _
      refine XS.aloadN X13.here hx rfl (hb hby d6_2) rfl rfl ?_
      show Steps p.tables e below (T13.setTop (mkF m 3 #[.val (.ref o0), .val (.int p1), .val (.int (own_rd (own_wr P p1 (own_rd P (own_rd P p1))) p1))] [(.ref o0)])) _
      refine st15 _ ?_
      show Steps p.tables e below (T15.setTop (mkF m 6 #[.val (.ref o0), .val (.int p1), .val (.int (own_rd (own_wr P p1 (own_rd P (own_rd P p1))) p1))] [(.ref wp)])) _
      refine XS.iloadN X15.here hx rfl (hb hby d6_6) rfl ?_
      show Steps p.tables e below (T15.setTop (mkF m 7 #[.val (.ref o0), .val (.int p1), .val (.int (own_rd (own_wr P p1 (own_rd P (own_rd P p1))) p1))] [(.int (own_rd (own_wr P p1 (own_rd P (own_rd P p1))) p1)), (.ref wp)])) _
      refine X15.iaload hx (j := (own_rd (own_wr P p1 (own_rd P (own_rd P p1))) p1)) (v := (.int (own_rd (own_wr P p1 (own_rd P (own_rd P p1))) (own_rd (own_wr P p1 (own_rd P (own_rd P p1))) p1)))) (by rw [e15]; exact Ar16.1) (State.isArrayOf_alike hZ.alike Ar16.2.1) Ar16.2.2 hin16 hat16 (g := (mkF m 7 #[.val (.ref o0), .val (.int p1), .val (.int (own_rd (own_wr P p1 (own_rd P (own_rd P p1))) p1))] [(.int (own_rd (own_wr P p1 (own_rd P (own_rd P p1))) p1)), (.ref wp)])) rfl rfl (hb hby d6_7) _ ?_
      show Steps p.tables e below (T15.setTop (mkF m 8 #[.val (.ref o0), .val (.int p1), .val (.int (own_rd (own_wr P p1 (own_rd P (own_rd P p1))) p1))] [(.int (own_rd (own_wr P p1 (own_rd P (own_rd P p1))) (own_rd (own_wr P p1 (own_rd P (own_rd P p1))) p1)))])) _
      refine XS.iloadN X15.here hx rfl (hb hby d6_8) rfl ?_
      show Steps p.tables e below (T15.setTop (mkF m 9 #[.val (.ref o0), .val (.int p1), .val (.int (own_rd (own_wr P p1 (own_rd P (own_rd P p1))) p1))] [(.int (own_rd (own_wr P p1 (own_rd P (own_rd P p1))) p1)), (.int (own_rd (own_wr P p1 (own_rd P (own_rd P p1))) (own_rd (own_wr P p1 (own_rd P (own_rd P p1))) p1)))])) _
      refine XS.icmpYes X15.here hx rfl (pc0 := 9) (pc' := 39) rfl (hb hby d6_9) rfl (teq hb3).1 (by decide) (by decide) ?_
      show Steps p.tables e below (T15.setTop (mkF m 39 #[.val (.ref o0), .val (.int p1), .val (.int (own_rd (own_wr P p1 (own_rd P (own_rd P p1))) p1))] [])) _
      refine XS.iloadN X15.here hx rfl (hb hby d6_39) rfl ?_
      exact k)
    obtain ⟨fs, hr, hrun, hended, hW, hsame⟩ := X15.leave (v := some (.int (own_rd (own_wr P p1 (own_rd P (own_rd P p1))) p1))) (fun h => by rw [Bd.returns] at h; cases h)
    refine ⟨_, _, pre17 _ ?_, hrun, hended, _, _, rfl, ?_, ⟨_, rfl⟩, hW, hsame.mono (by decide) (by decide)⟩
    · exact retI X15 hx Bd.returns (hb hby d6_40) hr
    · show Q6 Z o0 p1 wp kp P h0 n0 _ T15.heap _
      rw [e15]
      exact ⟨by rw [own_fV, if_neg hc9_4], N12, KK12, by rw [own_fP, if_neg hc9_4]; exact V12⟩
theorem d5_0 : decode prog_50_method_3_code 0 = .ok (.aload_n 0, 1) := by decide +kernel
theorem d5_1 : decode prog_50_method_3_code 1 = .ok (.iload_n 1, 1) := by decide +kernel
theorem pd_0 : parseMethodDescriptor "(I)I" = some ⟨[.int], some .int⟩ := by decide +kernel
theorem d5_2 : decode prog_50_method_3_code 2 = .ok (.invokevirtual 16, 3) := by decide +kernel
theorem d5_5 : decode prog_50_method_3_code 5 = .ok (.istore_n 3, 1) := by decide +kernel
theorem d5_6 : decode prog_50_method_3_code 6 = .ok (.aload_n 0, 1) := by decide +kernel
theorem d5_7 : decode prog_50_method_3_code 7 = .ok (.iload_n 2, 1) := by decide +kernel
theorem d5_8 : decode prog_50_method_3_code 8 = .ok (.invokevirtual 16, 3) := by decide +kernel
theorem d5_11 : decode prog_50_method_3_code 11 = .ok (.istore 4, 2) := by decide +kernel
theorem d5_13 : decode prog_50_method_3_code 13 = .ok (.iload_n 3, 1) := by decide +kernel
theorem d5_14 : decode prog_50_method_3_code 14 = .ok (.iload 4, 2) := by decide +kernel
theorem d5_16 : decode prog_50_method_3_code 16 = .ok (.if_icmp .ne 5, 3) := by decide +kernel
theorem d5_19 : decode prog_50_method_3_code 19 = .ok (.iconst 0, 1) := by decide +kernel
theorem d5_20 : decode prog_50_method_3_code 20 = .ok (.ireturn, 1) := by decide +kernel
theorem d5_21 : decode prog_50_method_3_code 21 = .ok (.aload_n 0, 1) := by decide +kernel
theorem d5_22 : decode prog_50_method_3_code 22 = .ok (.getfield 13, 3) := by decide +kernel
theorem d5_25 : decode prog_50_method_3_code 25 = .ok (.iload_n 3, 1) := by decide +kernel
theorem d5_26 : decode prog_50_method_3_code 26 = .ok (.iaload, 1) := by decide +kernel
theorem d5_27 : decode prog_50_method_3_code 27 = .ok (.aload_n 0, 1) := by decide +kernel
theorem d5_28 : decode prog_50_method_3_code 28 = .ok (.getfield 13, 3) := by decide +kernel
theorem d5_31 : decode prog_50_method_3_code 31 = .ok (.iload 4, 2) := by decide +kernel
theorem d5_33 : decode prog_50_method_3_code 33 = .ok (.iaload, 1) := by decide +kernel
theorem d5_34 : decode prog_50_method_3_code 34 = .ok (.if_icmp .ge 13, 3) := by decide +kernel
theorem d5_37 : decode prog_50_method_3_code 37 = .ok (.iload_n 3, 1) := by decide +kernel
theorem d5_38 : decode prog_50_method_3_code 38 = .ok (.istore 5, 2) := by decide +kernel
theorem d5_40 : decode prog_50_method_3_code 40 = .ok (.iload 4, 2) := by decide +kernel
theorem d5_42 : decode prog_50_method_3_code 42 = .ok (.istore_n 3, 1) := by decide +kernel
theorem d5_43 : decode prog_50_method_3_code 43 = .ok (.iload 5, 2) := by decide +kernel
theorem d5_45 : decode prog_50_method_3_code 45 = .ok (.istore 4, 2) := by decide +kernel
theorem d5_47 : decode prog_50_method_3_code 47 = .ok (.aload_n 0, 1) := by decide +kernel
theorem d5_48 : decode prog_50_method_3_code 48 = .ok (.getfield 7, 3) := by decide +kernel
theorem d5_51 : decode prog_50_method_3_code 51 = .ok (.iload 4, 2) := by decide +kernel
theorem d5_53 : decode prog_50_method_3_code 53 = .ok (.iload_n 3, 1) := by decide +kernel
theorem d5_54 : decode prog_50_method_3_code 54 = .ok (.iastore, 1) := by decide +kernel
theorem d5_55 : decode prog_50_method_3_code 55 = .ok (.aload_n 0, 1) := by decide +kernel
theorem d5_56 : decode prog_50_method_3_code 56 = .ok (.getfield 13, 3) := by decide +kernel
theorem d5_59 : decode prog_50_method_3_code 59 = .ok (.iload_n 3, 1) := by decide +kernel
theorem d5_60 : decode prog_50_method_3_code 60 = .ok (.dup2, 1) := by decide +kernel
theorem d5_61 : decode prog_50_method_3_code 61 = .ok (.iaload, 1) := by decide +kernel
theorem d5_62 : decode prog_50_method_3_code 62 = .ok (.aload_n 0, 1) := by decide +kernel
theorem d5_63 : decode prog_50_method_3_code 63 = .ok (.getfield 13, 3) := by decide +kernel
theorem d5_66 : decode prog_50_method_3_code 66 = .ok (.iload 4, 2) := by decide +kernel
theorem d5_68 : decode prog_50_method_3_code 68 = .ok (.iaload, 1) := by decide +kernel
theorem d5_69 : decode prog_50_method_3_code 69 = .ok (.iadd, 1) := by decide +kernel
theorem d5_70 : decode prog_50_method_3_code 70 = .ok (.iastore, 1) := by decide +kernel
theorem d5_71 : decode prog_50_method_3_code 71 = .ok (.iconst 1, 1) := by decide +kernel
theorem d5_72 : decode prog_50_method_3_code 72 = .ok (.ireturn, 1) := by decide +kernel
theorem ef_5 (m : MethodId) (x0 : Addr) (x1 : Int32) (x2 : Int32) : entryFrame m #[(.ref x0), (.int x1), (.int x2)] 6 = mkF m 0 #[.val (.ref x0), .val (.int x1), .val (.int x2), .unset, .unset, .unset] [] := by first | (simp [entryFrame, mkF, argsToLocals, Value.category]; done) | rfl
def Q5 (Z : State) (o0 : Addr) (p1 : Int32) (p2 : Int32) (wp : Addr) (kp : ClassId) (P : List Int32) (wz : Addr) (kz : ClassId) (Y : List Int32) (h0 : Heap) (n0 : Nat) (v : Option Value) (h : Heap) (L : List Loc) : Prop := v = some (.int (own_uR P p1 p2)) ∧ Fr n0 L ∧ Keep h0 h [wp, wz] ∧ own_A Z h wp kp .int (4 : Int32) (own_uP P Y p1 p2) ∧ own_A Z h wz kz .int (4 : Int32) (own_uZ P Y p1 p2)
set_option maxRecDepth 65536 in
set_option maxHeartbeats 40000000 in
theorem rm5 (l : Launch) (Z : State) (a0 : Array Value) (hw : ∀ d ∈ tables_1, d.before a0 Z = true) (ws : List Jvm.Cond) (o0 : Addr) (p1 : Int32) (p2 : Int32) (wp : Addr) (kp : ClassId) (P : List Int32) (wz : Addr) (kz : ClassId) (Y : List Int32) (h0 : Heap) (n0 : Nat) (Z0 : n0 ≤ h0.size) (F_parent_o0 : Fld Z h0 o0 "com/example/querist/querist/mst/DisjointSets" "parent" "[I" (.ref wp)) (F_size_o0 : Fld Z h0 o0 "com/example/querist/querist/mst/DisjointSets" "size" "[I" (.ref wz)) (E_o0 : Exa Z h0 o0 "com/example/querist/querist/mst/DisjointSets") (V_wp : own_A Z h0 wp kp .int (4 : Int32) P) (V_wz : own_A Z h0 wz kz .int (4 : Int32) Y) (n_o0_wp : o0 ≠ wp) (n_o0_wz : o0 ≠ wz) (n_wp_wz : wp ≠ wz) (g_wp : n0 ≤ wp) (g_wz : n0 ≤ wz) (hi1 : own_in (4 : Int32) p1) (hi2 : own_in (4 : Int32) p2) (hok1 : own_fok P p1) (hok2 : own_fok (own_fP P p1) p2) :
    MetFree l (⟨"com/example/querist/querist/mst/DisjointSets", "union", "(II)Z"⟩ : MethodName) (head1 (Jvm.Cond.code (⟨"com/example/querist/querist/mst/DisjointSets", "union", "(II)Z"⟩ : MethodName) prog_50_method_3_code 6 (some .boolean) :: ws) ({ frames := 1, cells := 0, slots := 0, locals := 14 } : Room)) (fun a U => a = #[(.ref o0), (.int p1), (.int p2)] ∧ Z.Warmed39 U.vm ∧ U.heap = h0) (fun _ _ _ _ _ => True) (fun _ U o U' => ∃ v L, o = .returned v ∧ Q5 Z o0 p1 p2 wp kp P wz kz Y h0 n0 v U'.heap L ∧ FrameEnd U o U' L ({ frames := 1, cells := 0, slots := 0, locals := 14 } : Room).cells ({ frames := 1, cells := 0, slots := 0, locals := 14 } : Room).slots) := by
  refine MetFree.of_bodySF (plainFor_of_name pn_0) hisR ?_
  intro p e s m args below meth c s₁ Bd hml0 hP hK
  obtain ⟨rfl, hZ, hh⟩ := hP
  have hx := Bd.exec
  have hby := Bd.bytes
  have hml : c.maxLocals = 6 := hml0
  have hown : s.vm.findClass "com/example/querist/querist/mst/DisjointSets" = some m.cls := findClass_of_methodNamed Bd.named
  have hnm := (name_of_methodNamed Bd.named Bd.method).1
  have X0 : Stand p l e ({ frames := 1, cells := 0, slots := 0, locals := 14 } : Room) s m #[(.ref o0), (.int p1), (.int p2)] below meth c s₁ [] 0 0 := Stand.of_body Bd
  have e0 : s₁.heap = h0 := by rw [← hh, Bd.state]; rfl
  have N0 := Fr.nil n0
  have pre0 : ∀ t, Steps p.tables e below (s₁.setTop (mkF m 0 #[.val (.ref o0), .val (.int p1), .val (.int p2), .unset, .unset, .unset] [])) t → Steps p.tables e below (s₁.setTop (entryFrame m #[(.ref o0), (.int p1), (.int p2)] 6)) t := fun t k => castTop (ef_5 m o0 p1 p2) k
  obtain ⟨cq1, kq1, q1a, q1b, q1c⟩ := isOf hZ e0 E_o0
  obtain ⟨_, _, ⟨T1, L1, k1, n1⟩, -, X1, ⟨Lc1, hQ1, l1, y1, z1⟩, st1⟩ := X0.virtualBack hx (y := (⟨"com/example/querist/querist/mst/DisjointSets", "find", "(I)I"⟩ : MethodName)) (z := (⟨"com/example/querist/querist/mst/DisjointSets", "find", "(I)I"⟩ : MethodName)) hown (mvT hZ (hw _ (List.mem_of_getElem? (i := 26) rfl))) (mvT hZ (hw _ (List.mem_of_getElem? (i := 27) rfl))) (notFace_of_selects (args := #[]) (mvT hZ (hw _ (List.mem_of_getElem? (i := 29) rfl)))) (mvT hZ (hw _ (List.mem_of_getElem? (i := 29) rfl))) (mvT hZ (hw _ (List.mem_of_getElem? (i := 28) rfl))) (by decide) (backOf (W := 0) (rm6 l Z a0 hw [] o0 p1 wp kp P h0 n0 Z0 F_parent_o0 V_wp n_o0_wp g_wp hi1 hok1) hZ (hw _ (List.mem_of_getElem? (i := 30) rfl)) (hw _ (List.mem_of_getElem? (i := 2) rfl)) (by decide) (by decide)) q1a q1c (g := (mkF m 2 #[.val (.ref o0), .val (.int p1), .val (.int p2), .unset, .unset, .unset] [(.int p1), (.ref o0)])) rfl (by rw [hml]; rfl) (Steps.refl _) (argsL := [(.int p1)]) (rest := []) (lenOf pd_0 rfl) rfl (by show 2 * 0 + _ ≤ _; exact Nat.le_of_eq rfl) (hb hby d5_2) (fun _ _ => ⟨rfl, e0, (by decide : 0 + 0 ≤ _), (by decide : 0 + 0 ≤ _)⟩)
  dsimp only [Pt.U, Pt.locs, Pt.cells, Pt.slots] at X1 l1 y1 z1 st1 hQ1
  subst l1 y1 z1
  obtain ⟨rfl, N1q, K1, P1_0⟩ := hQ1
  have N1 := Fr.app N0 N1q
  have KK1 : Keep h0 T1.heap [wp, wz] := (Keep.refl h0 [wp, wz]).trans K1 (allS (Or.inl (List.mem_of_getElem? (i := 0) rfl)) all0)
  obtain ⟨cq2, kq2, q2a, q2b, q2c⟩ := isOf hZ rfl (E_o0.keep K1)
  obtain ⟨_, _, ⟨T2, L2, k2, n2⟩, -, X2, ⟨Lc2, hQ2, l2, y2, z2⟩, st2⟩ := X1.virtualBack hx (y := (⟨"com/example/querist/querist/mst/DisjointSets", "find", "(I)I"⟩ : MethodName)) (z := (⟨"com/example/querist/querist/mst/DisjointSets", "find", "(I)I"⟩ : MethodName)) hown (mvT hZ (hw _ (List.mem_of_getElem? (i := 26) rfl))) (mvT hZ (hw _ (List.mem_of_getElem? (i := 27) rfl))) (notFace_of_selects (args := #[]) (mvT hZ (hw _ (List.mem_of_getElem? (i := 29) rfl)))) (mvT hZ (hw _ (List.mem_of_getElem? (i := 29) rfl))) (mvT hZ (hw _ (List.mem_of_getElem? (i := 28) rfl))) (by decide) (backOf (W := 0) (rm6 l Z a0 hw [] o0 p2 wp kp (own_fP P p1) T1.heap n0 (Nat.le_trans Z0 K1.1) (F_parent_o0.keep K1 (ninS n_o0_wp nin0)) P1_0 n_o0_wp g_wp hi2 hok2) hZ (hw _ (List.mem_of_getElem? (i := 30) rfl)) (hw _ (List.mem_of_getElem? (i := 2) rfl)) (by decide) (by decide)) q2a q2c (g := (mkF m 8 #[.val (.ref o0), .val (.int p1), .val (.int p2), .val (.int (own_fV P p1)), .unset, .unset] [(.int p2), (.ref o0)])) rfl (by rw [hml]; rfl) (Steps.refl _) (argsL := [(.int p2)]) (rest := []) (lenOf pd_0 rfl) rfl (by show 2 * 0 + _ ≤ _; exact Nat.le_of_eq rfl) (hb hby d5_8) (fun _ _ => ⟨rfl, rfl, (by decide : 0 + 0 ≤ _), (by decide : 0 + 0 ≤ _)⟩)
  dsimp only [Pt.U, Pt.locs, Pt.cells, Pt.slots] at X2 l2 y2 z2 st2 hQ2
  subst l2 y2 z2
  obtain ⟨rfl, N2q, K2, P2_0⟩ := hQ2
  have N2 := Fr.app N1 N2q
  have KK2 : Keep h0 T2.heap [wp, wz] := KK1.trans K2 (allS (Or.inl (List.mem_of_getElem? (i := 0) rfl)) all0)
  have pre3 : ∀ t, Steps p.tables e below (T2.setTop (mkF m 16 #[.val (.ref o0), .val (.int p1), .val (.int p2), .val (.int (own_fV P p1)), .val (.int (own_fV (own_fP P p1) p2)), .unset] [(.int (own_fV (own_fP P p1) p2)), (.int (own_fV P p1))])) t → Steps p.tables e below (s₁.setTop (entryFrame m #[(.ref o0), (.int p1), (.int p2)] 6)) t := fun t k => pre0 t (by
    show Steps p.tables e below (s₁.setTop (mkF m 0 #[.val (.ref o0), .val (.int p1), .val (.int p2), .unset, .unset, .unset] [])) _
    refine XS.aloadN X0.here hx rfl (hb hby d5_0) rfl rfl ?_
    show Steps p.tables e below (s₁.setTop (mkF m 1 #[.val (.ref o0), .val (.int p1), .val (.int p2), .unset, .unset, .unset] [(.ref o0)])) _
    refine XS.iloadN X0.here hx rfl (hb hby d5_1) rfl ?_
    show Steps p.tables e below (s₁.setTop (mkF m 2 #[.val (.ref o0), .val (.int p1), .val (.int p2), .unset, .unset, .unset] [(.int p1), (.ref o0)])) _
    refine st1.trans ?_
    show Steps p.tables e below (T1.setTop (mkF m 5 #[.val (.ref o0), .val (.int p1), .val (.int p2), .unset, .unset, .unset] [(.int (own_fV P p1))])) _
    refine XS.istoreN X1.here hx rfl (hb hby d5_5) rfl (l' := #[.val (.ref o0), .val (.int p1), .val (.int p2), .val (.int (own_fV P p1)), .unset, .unset]) rfl ?_
    show Steps p.tables e below (T1.setTop (mkF m 6 #[.val (.ref o0), .val (.int p1), .val (.int p2), .val (.int (own_fV P p1)), .unset, .unset] [])) _
    refine XS.aloadN X1.here hx rfl (hb hby d5_6) rfl rfl ?_
    show Steps p.tables e below (T1.setTop (mkF m 7 #[.val (.ref o0), .val (.int p1), .val (.int p2), .val (.int (own_fV P p1)), .unset, .unset] [(.ref o0)])) _
    refine XS.iloadN X1.here hx rfl (hb hby d5_7) rfl ?_
    show Steps p.tables e below (T1.setTop (mkF m 8 #[.val (.ref o0), .val (.int p1), .val (.int p2), .val (.int (own_fV P p1)), .unset, .unset] [(.int p2), (.ref o0)])) _
    refine st2.trans ?_
    show Steps p.tables e below (T2.setTop (mkF m 11 #[.val (.ref o0), .val (.int p1), .val (.int p2), .val (.int (own_fV P p1)), .unset, .unset] [(.int (own_fV (own_fP P p1) p2))])) _
    refine XS.istore X2.here hx rfl (hb hby d5_11) rfl (l' := #[.val (.ref o0), .val (.int p1), .val (.int p2), .val (.int (own_fV P p1)), .val (.int (own_fV (own_fP P p1) p2)), .unset]) rfl ?_
    show Steps p.tables e below (T2.setTop (mkF m 13 #[.val (.ref o0), .val (.int p1), .val (.int p2), .val (.int (own_fV P p1)), .val (.int (own_fV (own_fP P p1) p2)), .unset] [])) _
    refine XS.iloadN X2.here hx rfl (hb hby d5_13) rfl ?_
    show Steps p.tables e below (T2.setTop (mkF m 14 #[.val (.ref o0), .val (.int p1), .val (.int p2), .val (.int (own_fV P p1)), .val (.int (own_fV (own_fP P p1) p2)), .unset] [(.int (own_fV P p1))])) _
    refine XS.iload X2.here hx rfl (hb hby d5_14) rfl ?_
    exact k)
  by_cases hc16_4 : (own_fV P p1) = (own_fV (own_fP P p1) p2)
  · have pre5 : ∀ t, Steps p.tables e below (T2.setTop (mkF m 20 #[.val (.ref o0), .val (.int p1), .val (.int p2), .val (.int (own_fV P p1)), .val (.int (own_fV (own_fP P p1) p2)), .unset] [(.int (0 : Int32))])) t → Steps p.tables e below (s₁.setTop (entryFrame m #[(.ref o0), (.int p1), (.int p2)] 6)) t := fun t k => pre3 t (by
      show Steps p.tables e below (T2.setTop (mkF m 16 #[.val (.ref o0), .val (.int p1), .val (.int p2), .val (.int (own_fV P p1)), .val (.int (own_fV (own_fP P p1) p2)), .unset] [(.int (own_fV (own_fP P p1) p2)), (.int (own_fV P p1))])) _
      refine XS.icmpNo X2.here hx rfl (hb hby d5_16) rfl (teq hc16_4).2 ?_
      show Steps p.tables e below (T2.setTop (mkF m 19 #[.val (.ref o0), .val (.int p1), .val (.int p2), .val (.int (own_fV P p1)), .val (.int (own_fV (own_fP P p1) p2)), .unset] [])) _
      refine XS.iconst X2.here hx rfl (hb hby d5_19) ?_
      exact k)
    obtain ⟨fs, hr, hrun, hended, hW, hsame⟩ := X2.leave (v := some (.int (0 : Int32))) (fun h => by rw [Bd.returns] at h; cases h)
    refine ⟨_, _, pre5 _ ?_, hrun, hended, _, _, rfl, ?_, ⟨_, rfl⟩, hW, hsame.mono (by decide) (by decide)⟩
    · exact retN X2 hx (t := .boolean) Bd.returns (by simp) (hb hby d5_20) hr
    · show Q5 Z o0 p1 p2 wp kp P wz kz Y h0 n0 _ T2.heap _
      exact ⟨by rw [own_uR, if_pos hc16_4], N2, KK2, by rw [own_uP, if_pos hc16_4]; exact P2_0, by rw [own_uZ, if_pos hc16_4]; exact ((V_wz.keep K1 (ninS (Ne.symm n_wp_wz) nin0)).keep K2 (ninS (Ne.symm n_wp_wz) nin0))⟩
  · obtain ⟨T6, X6, e6, st6⟩ := getF X2 hx hZ hown (host := "") (Or.inl (hw _ (List.mem_of_getElem? (i := 12) rfl))) Via.refl rfl ((F_size_o0.keep K1 (ninS n_o0_wp nin0)).keep K2 (ninS n_o0_wp nin0)) (g := (mkF m 22 #[.val (.ref o0), .val (.int p1), .val (.int p2), .val (.int (own_fV P p1)), .val (.int (own_fV (own_fP P p1) p2)), .unset] [(.ref o0)])) rfl rfl (hb hby d5_22)
    obtain ⟨c7, Ar7, hin7, hat7⟩ := own_read ((V_wz.keep K1 (ninS (Ne.symm n_wp_wz) nin0)).keep K2 (ninS (Ne.symm n_wp_wz) nin0)) hok1.2.1
    obtain ⟨T8, X8, e8, st8⟩ := getF X6 hx hZ hown (host := "") (Or.inl (hw _ (List.mem_of_getElem? (i := 12) rfl))) Via.refl e6 ((F_size_o0.keep K1 (ninS n_o0_wp nin0)).keep K2 (ninS n_o0_wp nin0)) (g := (mkF m 28 #[.val (.ref o0), .val (.int p1), .val (.int p2), .val (.int (own_fV P p1)), .val (.int (own_fV (own_fP P p1) p2)), .unset] [(.ref o0), (.int (own_rd Y (own_fV P p1)))])) rfl rfl (hb hby d5_28)
    obtain ⟨c9, Ar9, hin9, hat9⟩ := own_read ((V_wz.keep K1 (ninS (Ne.symm n_wp_wz) nin0)).keep K2 (ninS (Ne.symm n_wp_wz) nin0)) hok2.2.1
    have pre10 : ∀ t, Steps p.tables e below (T8.setTop (mkF m 34 #[.val (.ref o0), .val (.int p1), .val (.int p2), .val (.int (own_fV P p1)), .val (.int (own_fV (own_fP P p1) p2)), .unset] [(.int (own_rd Y (own_fV (own_fP P p1) p2))), (.int (own_rd Y (own_fV P p1)))])) t → Steps p.tables e below (s₁.setTop (entryFrame m #[(.ref o0), (.int p1), (.int p2)] 6)) t := fun t k => pre3 t (by
      show Steps p.tables e below (T2.setTop (mkF m 16 #[.val (.ref o0), .val (.int p1), .val (.int p2), .val (.int (own_fV P p1)), .val (.int (own_fV (own_fP P p1) p2)), .unset] [(.int (own_fV (own_fP P p1) p2)), (.int (own_fV P p1))])) _
      refine XS.icmpYes X2.here hx rfl (pc0 := 16) (pc' := 21) rfl (hb hby d5_16) rfl (feq hc16_4).2 (by decide) (by decide) ?_
      show Steps p.tables e below (T2.setTop (mkF m 21 #[.val (.ref o0), .val (.int p1), .val (.int p2), .val (.int (own_fV P p1)), .val (.int (own_fV (own_fP P p1) p2)), .unset] [])) _
      refine XS.aloadN X2.here hx rfl (hb hby d5_21) rfl rfl ?_
      show Steps p.tables e below (T2.setTop (mkF m 22 #[.val (.ref o0), .val (.int p1), .val (.int p2), .val (.int (own_fV P p1)), .val (.int (own_fV (own_fP P p1) p2)), .unset] [(.ref o0)])) _
      refine st6 _ ?_
      show Steps p.tables e below (T6.setTop (mkF m 25 #[.val (.ref o0), .val (.int p1), .val (.int p2), .val (.int (own_fV P p1)), .val (.int (own_fV (own_fP P p1) p2)), .unset] [(.ref wz)])) _
      refine XS.iloadN X6.here hx rfl (hb hby d5_25) rfl ?_
      show Steps p.tables e below (T6.setTop (mkF m 26 #[.val (.ref o0), .val (.int p1), .val (.int p2), .val (.int (own_fV P p1)), .val (.int (own_fV (own_fP P p1) p2)), .unset] [(.int (own_fV P p1)), (.ref wz)])) _
      refine X6.iaload hx (j := (own_fV P p1)) (v := (.int (own_rd Y (own_fV P p1)))) (by rw [e6]; exact Ar7.1) (State.isArrayOf_alike hZ.alike Ar7.2.1) Ar7.2.2 hin7 hat7 (g := (mkF m 26 #[.val (.ref o0), .val (.int p1), .val (.int p2), .val (.int (own_fV P p1)), .val (.int (own_fV (own_fP P p1) p2)), .unset] [(.int (own_fV P p1)), (.ref wz)])) rfl rfl (hb hby d5_26) _ ?_
      show Steps p.tables e below (T6.setTop (mkF m 27 #[.val (.ref o0), .val (.int p1), .val (.int p2), .val (.int (own_fV P p1)), .val (.int (own_fV (own_fP P p1) p2)), .unset] [(.int (own_rd Y (own_fV P p1)))])) _
      refine XS.aloadN X6.here hx rfl (hb hby d5_27) rfl rfl ?_
      show Steps p.tables e below (T6.setTop (mkF m 28 #[.val (.ref o0), .val (.int p1), .val (.int p2), .val (.int (own_fV P p1)), .val (.int (own_fV (own_fP P p1) p2)), .unset] [(.ref o0), (.int (own_rd Y (own_fV P p1)))])) _
      refine st8 _ ?_
      show Steps p.tables e below (T8.setTop (mkF m 31 #[.val (.ref o0), .val (.int p1), .val (.int p2), .val (.int (own_fV P p1)), .val (.int (own_fV (own_fP P p1) p2)), .unset] [(.ref wz), (.int (own_rd Y (own_fV P p1)))])) _
      refine XS.iload X8.here hx rfl (hb hby d5_31) rfl ?_
      show Steps p.tables e below (T8.setTop (mkF m 33 #[.val (.ref o0), .val (.int p1), .val (.int p2), .val (.int (own_fV P p1)), .val (.int (own_fV (own_fP P p1) p2)), .unset] [(.int (own_fV (own_fP P p1) p2)), (.ref wz), (.int (own_rd Y (own_fV P p1)))])) _
      refine X8.iaload hx (j := (own_fV (own_fP P p1) p2)) (v := (.int (own_rd Y (own_fV (own_fP P p1) p2)))) (by rw [e8]; exact Ar9.1) (State.isArrayOf_alike hZ.alike Ar9.2.1) Ar9.2.2 hin9 hat9 (g := (mkF m 33 #[.val (.ref o0), .val (.int p1), .val (.int p2), .val (.int (own_fV P p1)), .val (.int (own_fV (own_fP P p1) p2)), .unset] [(.int (own_fV (own_fP P p1) p2)), (.ref wz), (.int (own_rd Y (own_fV P p1)))])) rfl rfl (hb hby d5_33) _ ?_
      exact k)
    by_cases hc34_11 : (own_rd Y (own_fV P p1)) < (own_rd Y (own_fV (own_fP P p1) p2))
    · obtain ⟨T12, X12, e12, st12⟩ := getF X8 hx hZ hown (host := "") (Or.inl (hw _ (List.mem_of_getElem? (i := 10) rfl))) Via.refl e8 ((F_parent_o0.keep K1 (ninS n_o0_wp nin0)).keep K2 (ninS n_o0_wp nin0)) (g := (mkF m 48 #[.val (.ref o0), .val (.int p1), .val (.int p2), .val (.int (own_fV (own_fP P p1) p2)), .val (.int (own_fV P p1)), .val (.int (own_fV P p1))] [(.ref o0)])) rfl rfl (hb hby d5_48)
      obtain ⟨c13, Ar13, hin13, -⟩ := own_read P2_0 hok1.2.1
      obtain ⟨T14, h14, X14, e14, W14, st14⟩ := stI X12 hx hZ e12 Ar13 (j := (own_fV P p1)) hin13 (g := (mkF m 54 #[.val (.ref o0), .val (.int p1), .val (.int p2), .val (.int (own_fV (own_fP P p1) p2)), .val (.int (own_fV P p1)), .val (.int (own_fV P p1))] [(.int (own_fV (own_fP P p1) p2)), (.int (own_fV P p1)), (.ref wp)])) rfl rfl (hb hby d5_54)
      have V14 : own_A Z h14 wp kp .int (4 : Int32) (own_wr (own_fP (own_fP P p1) p2) (own_fV P p1) (own_fV (own_fP P p1) p2)) := own_write P2_0 hok1.2.1 W14
      have KK14 : Keep h0 h14 [wp, wz] := KK2.wr W14 (Or.inl (List.mem_of_getElem? (i := 0) rfl))
      have N14 := Fr.snoc X14 N2 g_wp
      obtain ⟨T15, X15, e15, st15⟩ := getF X14 hx hZ hown (host := "") (Or.inl (hw _ (List.mem_of_getElem? (i := 12) rfl))) Via.refl e14 (((F_size_o0.keep K1 (ninS n_o0_wp nin0)).keep K2 (ninS n_o0_wp nin0)).other W14 (Or.inl n_o0_wp)) (g := (mkF m 56 #[.val (.ref o0), .val (.int p1), .val (.int p2), .val (.int (own_fV (own_fP P p1) p2)), .val (.int (own_fV P p1)), .val (.int (own_fV P p1))] [(.ref o0)])) rfl rfl (hb hby d5_56)
      obtain ⟨c16, Ar16, hin16, hat16⟩ := own_read (((V_wz.keep K1 (ninS (Ne.symm n_wp_wz) nin0)).keep K2 (ninS (Ne.symm n_wp_wz) nin0)).other W14 (Ne.symm n_wp_wz)) hok2.2.1
      obtain ⟨T17, X17, e17, st17⟩ := getF X15 hx hZ hown (host := "") (Or.inl (hw _ (List.mem_of_getElem? (i := 12) rfl))) Via.refl e15 (((F_size_o0.keep K1 (ninS n_o0_wp nin0)).keep K2 (ninS n_o0_wp nin0)).other W14 (Or.inl n_o0_wp)) (g := (mkF m 63 #[.val (.ref o0), .val (.int p1), .val (.int p2), .val (.int (own_fV (own_fP P p1) p2)), .val (.int (own_fV P p1)), .val (.int (own_fV P p1))] [(.ref o0), (.int (own_rd Y (own_fV (own_fP P p1) p2))), (.int (own_fV (own_fP P p1) p2)), (.ref wz)])) rfl rfl (hb hby d5_63)
      obtain ⟨c18, Ar18, hin18, hat18⟩ := own_read (((V_wz.keep K1 (ninS (Ne.symm n_wp_wz) nin0)).keep K2 (ninS (Ne.symm n_wp_wz) nin0)).other W14 (Ne.symm n_wp_wz)) hok1.2.1
      obtain ⟨c19, Ar19, hin19, -⟩ := own_read (((V_wz.keep K1 (ninS (Ne.symm n_wp_wz) nin0)).keep K2 (ninS (Ne.symm n_wp_wz) nin0)).other W14 (Ne.symm n_wp_wz)) hok2.2.1
      obtain ⟨T20, h20, X20, e20, W20, st20⟩ := stI X17 hx hZ e17 Ar19 (j := (own_fV (own_fP P p1) p2)) hin19 (g := (mkF m 70 #[.val (.ref o0), .val (.int p1), .val (.int p2), .val (.int (own_fV (own_fP P p1) p2)), .val (.int (own_fV P p1)), .val (.int (own_fV P p1))] [(.int ((own_rd Y (own_fV (own_fP P p1) p2)) + (own_rd Y (own_fV P p1)))), (.int (own_fV (own_fP P p1) p2)), (.ref wz)])) rfl rfl (hb hby d5_70)
      have V20 : own_A Z h20 wz kz .int (4 : Int32) (own_wr Y (own_fV (own_fP P p1) p2) ((own_rd Y (own_fV (own_fP P p1) p2)) + (own_rd Y (own_fV P p1)))) := own_write (((V_wz.keep K1 (ninS (Ne.symm n_wp_wz) nin0)).keep K2 (ninS (Ne.symm n_wp_wz) nin0)).other W14 (Ne.symm n_wp_wz)) hok2.2.1 W20
      have KK20 : Keep h0 h20 [wp, wz] := KK14.wr W20 (Or.inl (List.mem_of_getElem? (i := 1) rfl))
      have N20 := Fr.snoc X20 N14 g_wz
      have pre21 : ∀ t, Steps p.tables e below (T20.setTop (mkF m 72 #[.val (.ref o0), .val (.int p1), .val (.int p2), .val (.int (own_fV (own_fP P p1) p2)), .val (.int (own_fV P p1)), .val (.int (own_fV P p1))] [(.int (1 : Int32))])) t → Steps p.tables e below (s₁.setTop (entryFrame m #[(.ref o0), (.int p1), (.int p2)] 6)) t := fun t k => pre10 t (by
        show Steps p.tables e below (T8.setTop (mkF m 34 #[.val (.ref o0), .val (.int p1), .val (.int p2), .val (.int (own_fV P p1)), .val (.int (own_fV (own_fP P p1) p2)), .unset] [(.int (own_rd Y (own_fV (own_fP P p1) p2))), (.int (own_rd Y (own_fV P p1)))])) _
        refine XS.icmpNo X8.here hx rfl (hb hby d5_34) rfl (tlt hc34_11).2.1 ?_
        show Steps p.tables e below (T8.setTop (mkF m 37 #[.val (.ref o0), .val (.int p1), .val (.int p2), .val (.int (own_fV P p1)), .val (.int (own_fV (own_fP P p1) p2)), .unset] [])) _
        refine XS.iloadN X8.here hx rfl (hb hby d5_37) rfl ?_
        show Steps p.tables e below (T8.setTop (mkF m 38 #[.val (.ref o0), .val (.int p1), .val (.int p2), .val (.int (own_fV P p1)), .val (.int (own_fV (own_fP P p1) p2)), .unset] [(.int (own_fV P p1))])) _
        refine XS.istore X8.here hx rfl (hb hby d5_38) rfl (l' := #[.val (.ref o0), .val (.int p1), .val (.int p2), .val (.int (own_fV P p1)), .val (.int (own_fV (own_fP P p1) p2)), .val (.int (own_fV P p1))]) rfl ?_
        show Steps p.tables e below (T8.setTop (mkF m 40 #[.val (.ref o0), .val (.int p1), .val (.int p2), .val (.int (own_fV P p1)), .val (.int (own_fV (own_fP P p1) p2)), .val (.int (own_fV P p1))] [])) _
        refine XS.iload X8.here hx rfl (hb hby d5_40) rfl ?_
        show Steps p.tables e below (T8.setTop (mkF m 42 #[.val (.ref o0), .val (.int p1), .val (.int p2), .val (.int (own_fV P p1)), .val (.int (own_fV (own_fP P p1) p2)), .val (.int (own_fV P p1))] [(.int (own_fV (own_fP P p1) p2))])) _
        refine XS.istoreN X8.here hx rfl (hb hby d5_42) rfl (l' := #[.val (.ref o0), .val (.int p1), .val (.int p2), .val (.int (own_fV (own_fP P p1) p2)), .val (.int (own_fV (own_fP P p1) p2)), .val (.int (own_fV P p1))]) rfl ?_
        show Steps p.tables e below (T8.setTop (mkF m 43 #[.val (.ref o0), .val (.int p1), .val (.int p2), .val (.int (own_fV (own_fP P p1) p2)), .val (.int (own_fV (own_fP P p1) p2)), .val (.int (own_fV P p1))] [])) _
        refine XS.iload X8.here hx rfl (hb hby d5_43) rfl ?_
        show Steps p.tables e below (T8.setTop (mkF m 45 #[.val (.ref o0), .val (.int p1), .val (.int p2), .val (.int (own_fV (own_fP P p1) p2)), .val (.int (own_fV (own_fP P p1) p2)), .val (.int (own_fV P p1))] [(.int (own_fV P p1))])) _
        refine XS.istore X8.here hx rfl (hb hby d5_45) rfl (l' := #[.val (.ref o0), .val (.int p1), .val (.int p2), .val (.int (own_fV (own_fP P p1) p2)), .val (.int (own_fV P p1)), .val (.int (own_fV P p1))]) rfl ?_
        show Steps p.tables e below (T8.setTop (mkF m 47 #[.val (.ref o0), .val (.int p1), .val (.int p2), .val (.int (own_fV (own_fP P p1) p2)), .val (.int (own_fV P p1)), .val (.int (own_fV P p1))] [])) _
        refine XS.aloadN X8.here hx rfl (hb hby d5_47) rfl rfl ?_
        show Steps p.tables e below (T8.setTop (mkF m 48 #[.val (.ref o0), .val (.int p1), .val (.int p2), .val (.int (own_fV (own_fP P p1) p2)), .val (.int (own_fV P p1)), .val (.int (own_fV P p1))] [(.ref o0)])) _
        refine st12 _ ?_
        show Steps p.tables e below (T12.setTop (mkF m 51 #[.val (.ref o0), .val (.int p1), .val (.int p2), .val (.int (own_fV (own_fP P p1) p2)), .val (.int (own_fV P p1)), .val (.int (own_fV P p1))] [(.ref wp)])) _
        refine XS.iload X12.here hx rfl (hb hby d5_51) rfl ?_
        show Steps p.tables e below (T12.setTop (mkF m 53 #[.val (.ref o0), .val (.int p1), .val (.int p2), .val (.int (own_fV (own_fP P p1) p2)), .val (.int (own_fV P p1)), .val (.int (own_fV P p1))] [(.int (own_fV P p1)), (.ref wp)])) _
        refine XS.iloadN X12.here hx rfl (hb hby d5_53) rfl ?_
        show Steps p.tables e below (T12.setTop (mkF m 54 #[.val (.ref o0), .val (.int p1), .val (.int p2), .val (.int (own_fV (own_fP P p1) p2)), .val (.int (own_fV P p1)), .val (.int (own_fV P p1))] [(.int (own_fV (own_fP P p1) p2)), (.int (own_fV P p1)), (.ref wp)])) _
        refine st14 _ ?_
        show Steps p.tables e below (T14.setTop (mkF m 55 #[.val (.ref o0), .val (.int p1), .val (.int p2), .val (.int (own_fV (own_fP P p1) p2)), .val (.int (own_fV P p1)), .val (.int (own_fV P p1))] [])) _
        refine XS.aloadN X14.here hx rfl (hb hby d5_55) rfl rfl ?_
        show Steps p.tables e below (T14.setTop (mkF m 56 #[.val (.ref o0), .val (.int p1), .val (.int p2), .val (.int (own_fV (own_fP P p1) p2)), .val (.int (own_fV P p1)), .val (.int (own_fV P p1))] [(.ref o0)])) _
        refine st15 _ ?_
        show Steps p.tables e below (T15.setTop (mkF m 59 #[.val (.ref o0), .val (.int p1), .val (.int p2), .val (.int (own_fV (own_fP P p1) p2)), .val (.int (own_fV P p1)), .val (.int (own_fV P p1))] [(.ref wz)])) _
        refine XS.iloadN X15.here hx rfl (hb hby d5_59) rfl ?_
        show Steps p.tables e below (T15.setTop (mkF m 60 #[.val (.ref o0), .val (.int p1), .val (.int p2), .val (.int (own_fV (own_fP P p1) p2)), .val (.int (own_fV P p1)), .val (.int (own_fV P p1))] [(.int (own_fV (own_fP P p1) p2)), (.ref wz)])) _
        refine Jvm.Free.XT.dup2 X15.here hx rfl (hb hby d5_60) rfl rfl rfl ?_
        show Steps p.tables e below (T15.setTop (mkF m 61 #[.val (.ref o0), .val (.int p1), .val (.int p2), .val (.int (own_fV (own_fP P p1) p2)), .val (.int (own_fV P p1)), .val (.int (own_fV P p1))] [(.int (own_fV (own_fP P p1) p2)), (.ref wz), (.int (own_fV (own_fP P p1) p2)), (.ref wz)])) _
        refine X15.iaload hx (j := (own_fV (own_fP P p1) p2)) (v := (.int (own_rd Y (own_fV (own_fP P p1) p2)))) (by rw [e15]; exact Ar16.1) (State.isArrayOf_alike hZ.alike Ar16.2.1) Ar16.2.2 hin16 hat16 (g := (mkF m 61 #[.val (.ref o0), .val (.int p1), .val (.int p2), .val (.int (own_fV (own_fP P p1) p2)), .val (.int (own_fV P p1)), .val (.int (own_fV P p1))] [(.int (own_fV (own_fP P p1) p2)), (.ref wz), (.int (own_fV (own_fP P p1) p2)), (.ref wz)])) rfl rfl (hb hby d5_61) _ ?_
        show Steps p.tables e below (T15.setTop (mkF m 62 #[.val (.ref o0), .val (.int p1), .val (.int p2), .val (.int (own_fV (own_fP P p1) p2)), .val (.int (own_fV P p1)), .val (.int (own_fV P p1))] [(.int (own_rd Y (own_fV (own_fP P p1) p2))), (.int (own_fV (own_fP P p1) p2)), (.ref wz)])) _
        refine XS.aloadN X15.here hx rfl (hb hby d5_62) rfl rfl ?_
        show Steps p.tables e below (T15.setTop (mkF m 63 #[.val (.ref o0), .val (.int p1), .val (.int p2), .val (.int (own_fV (own_fP P p1) p2)), .val (.int (own_fV P p1)), .val (.int (own_fV P p1))] [(.ref o0), (.int (own_rd Y (own_fV (own_fP P p1) p2))), (.int (own_fV (own_fP P p1) p2)), (.ref wz)])) _
        refine st17 _ ?_
        show Steps p.tables e below (T17.setTop (mkF m 66 #[.val (.ref o0), .val (.int p1), .val (.int p2), .val (.int (own_fV (own_fP P p1) p2)), .val (.int (own_fV P p1)), .val (.int (own_fV P p1))] [(.ref wz), (.int (own_rd Y (own_fV (own_fP P p1) p2))), (.int (own_fV (own_fP P p1) p2)), (.ref wz)])) _
        refine XS.iload X17.here hx rfl (hb hby d5_66) rfl ?_
        show Steps p.tables e below (T17.setTop (mkF m 68 #[.val (.ref o0), .val (.int p1), .val (.int p2), .val (.int (own_fV (own_fP P p1) p2)), .val (.int (own_fV P p1)), .val (.int (own_fV P p1))] [(.int (own_fV P p1)), (.ref wz), (.int (own_rd Y (own_fV (own_fP P p1) p2))), (.int (own_fV (own_fP P p1) p2)), (.ref wz)])) _
        refine X17.iaload hx (j := (own_fV P p1)) (v := (.int (own_rd Y (own_fV P p1)))) (by rw [e17]; exact Ar18.1) (State.isArrayOf_alike hZ.alike Ar18.2.1) Ar18.2.2 hin18 hat18 (g := (mkF m 68 #[.val (.ref o0), .val (.int p1), .val (.int p2), .val (.int (own_fV (own_fP P p1) p2)), .val (.int (own_fV P p1)), .val (.int (own_fV P p1))] [(.int (own_fV P p1)), (.ref wz), (.int (own_rd Y (own_fV (own_fP P p1) p2))), (.int (own_fV (own_fP P p1) p2)), (.ref wz)])) rfl rfl (hb hby d5_68) _ ?_
        show Steps p.tables e below (T17.setTop (mkF m 69 #[.val (.ref o0), .val (.int p1), .val (.int p2), .val (.int (own_fV (own_fP P p1) p2)), .val (.int (own_fV P p1)), .val (.int (own_fV P p1))] [(.int (own_rd Y (own_fV P p1))), (.int (own_rd Y (own_fV (own_fP P p1) p2))), (.int (own_fV (own_fP P p1) p2)), (.ref wz)])) _
        refine XS.iadd X17.here hx rfl (hb hby d5_69) rfl ?_
        show Steps p.tables e below (T17.setTop (mkF m 70 #[.val (.ref o0), .val (.int p1), .val (.int p2), .val (.int (own_fV (own_fP P p1) p2)), .val (.int (own_fV P p1)), .val (.int (own_fV P p1))] [(.int ((own_rd Y (own_fV (own_fP P p1) p2)) + (own_rd Y (own_fV P p1)))), (.int (own_fV (own_fP P p1) p2)), (.ref wz)])) _
        refine st20 _ ?_
        show Steps p.tables e below (T20.setTop (mkF m 71 #[.val (.ref o0), .val (.int p1), .val (.int p2), .val (.int (own_fV (own_fP P p1) p2)), .val (.int (own_fV P p1)), .val (.int (own_fV P p1))] [])) _
        refine XS.iconst X20.here hx rfl (hb hby d5_71) ?_
        exact k)
      obtain ⟨fs, hr, hrun, hended, hW, hsame⟩ := X20.leave (v := some (.int (1 : Int32))) (fun h => by rw [Bd.returns] at h; cases h)
      refine ⟨_, _, pre21 _ ?_, hrun, hended, _, _, rfl, ?_, ⟨_, rfl⟩, hW, hsame.mono (by decide) (by decide)⟩
      · exact retN X20 hx (t := .boolean) Bd.returns (by simp) (hb hby d5_72) hr
      · show Q5 Z o0 p1 p2 wp kp P wz kz Y h0 n0 _ T20.heap _
        rw [e20]
        exact ⟨by rw [own_uR, if_neg hc16_4], N20, KK20, by rw [own_uP, if_neg hc16_4, if_pos hc34_11]; exact (V14.other W20 n_wp_wz), by rw [own_uZ, if_neg hc16_4, if_pos hc34_11]; exact V20⟩
    · obtain ⟨T22, X22, e22, st22⟩ := getF X8 hx hZ hown (host := "") (Or.inl (hw _ (List.mem_of_getElem? (i := 10) rfl))) Via.refl e8 ((F_parent_o0.keep K1 (ninS n_o0_wp nin0)).keep K2 (ninS n_o0_wp nin0)) (g := (mkF m 48 #[.val (.ref o0), .val (.int p1), .val (.int p2), .val (.int (own_fV P p1)), .val (.int (own_fV (own_fP P p1) p2)), .unset] [(.ref o0)])) rfl rfl (hb hby d5_48)
      obtain ⟨c23, Ar23, hin23, -⟩ := own_read P2_0 hok2.2.1
      obtain ⟨T24, h24, X24, e24, W24, st24⟩ := stI X22 hx hZ e22 Ar23 (j := (own_fV (own_fP P p1) p2)) hin23 (g := (mkF m 54 #[.val (.ref o0), .val (.int p1), .val (.int p2), .val (.int (own_fV P p1)), .val (.int (own_fV (own_fP P p1) p2)), .unset] [(.int (own_fV P p1)), (.int (own_fV (own_fP P p1) p2)), (.ref wp)])) rfl rfl (hb hby d5_54)
      have V24 : own_A Z h24 wp kp .int (4 : Int32) (own_wr (own_fP (own_fP P p1) p2) (own_fV (own_fP P p1) p2) (own_fV P p1)) := own_write P2_0 hok2.2.1 W24
      have KK24 : Keep h0 h24 [wp, wz] := KK2.wr W24 (Or.inl (List.mem_of_getElem? (i := 0) rfl))
      have N24 := Fr.snoc X24 N2 g_wp
      obtain ⟨T25, X25, e25, st25⟩ := getF X24 hx hZ hown (host := "") (Or.inl (hw _ (List.mem_of_getElem? (i := 12) rfl))) Via.refl e24 (((F_size_o0.keep K1 (ninS n_o0_wp nin0)).keep K2 (ninS n_o0_wp nin0)).other W24 (Or.inl n_o0_wp)) (g := (mkF m 56 #[.val (.ref o0), .val (.int p1), .val (.int p2), .val (.int (own_fV P p1)), .val (.int (own_fV (own_fP P p1) p2)), .unset] [(.ref o0)])) rfl rfl (hb hby d5_56)
      obtain ⟨c26, Ar26, hin26, hat26⟩ := own_read (((V_wz.keep K1 (ninS (Ne.symm n_wp_wz) nin0)).keep K2 (ninS (Ne.symm n_wp_wz) nin0)).other W24 (Ne.symm n_wp_wz)) hok1.2.1
      obtain ⟨T27, X27, e27, st27⟩ := getF X25 hx hZ hown (host := "") (Or.inl (hw _ (List.mem_of_getElem? (i := 12) rfl))) Via.refl e25 (((F_size_o0.keep K1 (ninS n_o0_wp nin0)).keep K2 (ninS n_o0_wp nin0)).other W24 (Or.inl n_o0_wp)) (g := (mkF m 63 #[.val (.ref o0), .val (.int p1), .val (.int p2), .val (.int (own_fV P p1)), .val (.int (own_fV (own_fP P p1) p2)), .unset] [(.ref o0), (.int (own_rd Y (own_fV P p1))), (.int (own_fV P p1)), (.ref wz)])) rfl rfl (hb hby d5_63)
      obtain ⟨c28, Ar28, hin28, hat28⟩ := own_read (((V_wz.keep K1 (ninS (Ne.symm n_wp_wz) nin0)).keep K2 (ninS (Ne.symm n_wp_wz) nin0)).other W24 (Ne.symm n_wp_wz)) hok2.2.1
      obtain ⟨c29, Ar29, hin29, -⟩ := own_read (((V_wz.keep K1 (ninS (Ne.symm n_wp_wz) nin0)).keep K2 (ninS (Ne.symm n_wp_wz) nin0)).other W24 (Ne.symm n_wp_wz)) hok1.2.1
      obtain ⟨T30, h30, X30, e30, W30, st30⟩ := stI X27 hx hZ e27 Ar29 (j := (own_fV P p1)) hin29 (g := (mkF m 70 #[.val (.ref o0), .val (.int p1), .val (.int p2), .val (.int (own_fV P p1)), .val (.int (own_fV (own_fP P p1) p2)), .unset] [(.int ((own_rd Y (own_fV P p1)) + (own_rd Y (own_fV (own_fP P p1) p2)))), (.int (own_fV P p1)), (.ref wz)])) rfl rfl (hb hby d5_70)
      have V30 : own_A Z h30 wz kz .int (4 : Int32) (own_wr Y (own_fV P p1) ((own_rd Y (own_fV P p1)) + (own_rd Y (own_fV (own_fP P p1) p2)))) := own_write (((V_wz.keep K1 (ninS (Ne.symm n_wp_wz) nin0)).keep K2 (ninS (Ne.symm n_wp_wz) nin0)).other W24 (Ne.symm n_wp_wz)) hok1.2.1 W30
      have KK30 : Keep h0 h30 [wp, wz] := KK24.wr W30 (Or.inl (List.mem_of_getElem? (i := 1) rfl))
      have N30 := Fr.snoc X30 N24 g_wz
      have pre31 : ∀ t, Steps p.tables e below (T30.setTop (mkF m 72 #[.val (.ref o0), .val (.int p1), .val (.int p2), .val (.int (own_fV P p1)), .val (.int (own_fV (own_fP P p1) p2)), .unset] [(.int (1 : Int32))])) t → Steps p.tables e below (s₁.setTop (entryFrame m #[(.ref o0), (.int p1), (.int p2)] 6)) t := fun t k => pre10 t (by
        show Steps p.tables e below (T8.setTop (mkF m 34 #[.val (.ref o0), .val (.int p1), .val (.int p2), .val (.int (own_fV P p1)), .val (.int (own_fV (own_fP P p1) p2)), .unset] [(.int (own_rd Y (own_fV (own_fP P p1) p2))), (.int (own_rd Y (own_fV P p1)))])) _
        refine XS.icmpYes X8.here hx rfl (pc0 := 34) (pc' := 47) rfl (hb hby d5_34) rfl (flt hc34_11).2.1 (by decide) (by decide) ?_
        show Steps p.tables e below (T8.setTop (mkF m 47 #[.val (.ref o0), .val (.int p1), .val (.int p2), .val (.int (own_fV P p1)), .val (.int (own_fV (own_fP P p1) p2)), .unset] [])) _
        refine XS.aloadN X8.here hx rfl (hb hby d5_47) rfl rfl ?_
        show Steps p.tables e below (T8.setTop (mkF m 48 #[.val (.ref o0), .val (.int p1), .val (.int p2), .val (.int (own_fV P p1)), .val (.int (own_fV (own_fP P p1) p2)), .unset] [(.ref o0)])) _
        refine st22 _ ?_
        show Steps p.tables e below (T22.setTop (mkF m 51 #[.val (.ref o0), .val (.int p1), .val (.int p2), .val (.int (own_fV P p1)), .val (.int (own_fV (own_fP P p1) p2)), .unset] [(.ref wp)])) _
        refine XS.iload X22.here hx rfl (hb hby d5_51) rfl ?_
        show Steps p.tables e below (T22.setTop (mkF m 53 #[.val (.ref o0), .val (.int p1), .val (.int p2), .val (.int (own_fV P p1)), .val (.int (own_fV (own_fP P p1) p2)), .unset] [(.int (own_fV (own_fP P p1) p2)), (.ref wp)])) _
        refine XS.iloadN X22.here hx rfl (hb hby d5_53) rfl ?_
        show Steps p.tables e below (T22.setTop (mkF m 54 #[.val (.ref o0), .val (.int p1), .val (.int p2), .val (.int (own_fV P p1)), .val (.int (own_fV (own_fP P p1) p2)), .unset] [(.int (own_fV P p1)), (.int (own_fV (own_fP P p1) p2)), (.ref wp)])) _
        refine st24 _ ?_
        show Steps p.tables e below (T24.setTop (mkF m 55 #[.val (.ref o0), .val (.int p1), .val (.int p2), .val (.int (own_fV P p1)), .val (.int (own_fV (own_fP P p1) p2)), .unset] [])) _
        refine XS.aloadN X24.here hx rfl (hb hby d5_55) rfl rfl ?_
        show Steps p.tables e below (T24.setTop (mkF m 56 #[.val (.ref o0), .val (.int p1), .val (.int p2), .val (.int (own_fV P p1)), .val (.int (own_fV (own_fP P p1) p2)), .unset] [(.ref o0)])) _
        refine st25 _ ?_
        show Steps p.tables e below (T25.setTop (mkF m 59 #[.val (.ref o0), .val (.int p1), .val (.int p2), .val (.int (own_fV P p1)), .val (.int (own_fV (own_fP P p1) p2)), .unset] [(.ref wz)])) _
        refine XS.iloadN X25.here hx rfl (hb hby d5_59) rfl ?_
        show Steps p.tables e below (T25.setTop (mkF m 60 #[.val (.ref o0), .val (.int p1), .val (.int p2), .val (.int (own_fV P p1)), .val (.int (own_fV (own_fP P p1) p2)), .unset] [(.int (own_fV P p1)), (.ref wz)])) _
        refine Jvm.Free.XT.dup2 X25.here hx rfl (hb hby d5_60) rfl rfl rfl ?_
        show Steps p.tables e below (T25.setTop (mkF m 61 #[.val (.ref o0), .val (.int p1), .val (.int p2), .val (.int (own_fV P p1)), .val (.int (own_fV (own_fP P p1) p2)), .unset] [(.int (own_fV P p1)), (.ref wz), (.int (own_fV P p1)), (.ref wz)])) _
        refine X25.iaload hx (j := (own_fV P p1)) (v := (.int (own_rd Y (own_fV P p1)))) (by rw [e25]; exact Ar26.1) (State.isArrayOf_alike hZ.alike Ar26.2.1) Ar26.2.2 hin26 hat26 (g := (mkF m 61 #[.val (.ref o0), .val (.int p1), .val (.int p2), .val (.int (own_fV P p1)), .val (.int (own_fV (own_fP P p1) p2)), .unset] [(.int (own_fV P p1)), (.ref wz), (.int (own_fV P p1)), (.ref wz)])) rfl rfl (hb hby d5_61) _ ?_
        show Steps p.tables e below (T25.setTop (mkF m 62 #[.val (.ref o0), .val (.int p1), .val (.int p2), .val (.int (own_fV P p1)), .val (.int (own_fV (own_fP P p1) p2)), .unset] [(.int (own_rd Y (own_fV P p1))), (.int (own_fV P p1)), (.ref wz)])) _
        refine XS.aloadN X25.here hx rfl (hb hby d5_62) rfl rfl ?_
        show Steps p.tables e below (T25.setTop (mkF m 63 #[.val (.ref o0), .val (.int p1), .val (.int p2), .val (.int (own_fV P p1)), .val (.int (own_fV (own_fP P p1) p2)), .unset] [(.ref o0), (.int (own_rd Y (own_fV P p1))), (.int (own_fV P p1)), (.ref wz)])) _
        refine st27 _ ?_
        show Steps p.tables e below (T27.setTop (mkF m 66 #[.val (.ref o0), .val (.int p1), .val (.int p2), .val (.int (own_fV P p1)), .val (.int (own_fV (own_fP P p1) p2)), .unset] [(.ref wz), (.int (own_rd Y (own_fV P p1))), (.int (own_fV P p1)), (.ref wz)])) _
        refine XS.iload X27.here hx rfl (hb hby d5_66) rfl ?_
        show Steps p.tables e below (T27.setTop (mkF m 68 #[.val (.ref o0), .val (.int p1), .val (.int p2), .val (.int (own_fV P p1)), .val (.int (own_fV (own_fP P p1) p2)), .unset] [(.int (own_fV (own_fP P p1) p2)), (.ref wz), (.int (own_rd Y (own_fV P p1))), (.int (own_fV P p1)), (.ref wz)])) _
        refine X27.iaload hx (j := (own_fV (own_fP P p1) p2)) (v := (.int (own_rd Y (own_fV (own_fP P p1) p2)))) (by rw [e27]; exact Ar28.1) (State.isArrayOf_alike hZ.alike Ar28.2.1) Ar28.2.2 hin28 hat28 (g := (mkF m 68 #[.val (.ref o0), .val (.int p1), .val (.int p2), .val (.int (own_fV P p1)), .val (.int (own_fV (own_fP P p1) p2)), .unset] [(.int (own_fV (own_fP P p1) p2)), (.ref wz), (.int (own_rd Y (own_fV P p1))), (.int (own_fV P p1)), (.ref wz)])) rfl rfl (hb hby d5_68) _ ?_
        show Steps p.tables e below (T27.setTop (mkF m 69 #[.val (.ref o0), .val (.int p1), .val (.int p2), .val (.int (own_fV P p1)), .val (.int (own_fV (own_fP P p1) p2)), .unset] [(.int (own_rd Y (own_fV (own_fP P p1) p2))), (.int (own_rd Y (own_fV P p1))), (.int (own_fV P p1)), (.ref wz)])) _
        refine XS.iadd X27.here hx rfl (hb hby d5_69) rfl ?_
        show Steps p.tables e below (T27.setTop (mkF m 70 #[.val (.ref o0), .val (.int p1), .val (.int p2), .val (.int (own_fV P p1)), .val (.int (own_fV (own_fP P p1) p2)), .unset] [(.int ((own_rd Y (own_fV P p1)) + (own_rd Y (own_fV (own_fP P p1) p2)))), (.int (own_fV P p1)), (.ref wz)])) _
        refine st30 _ ?_
        show Steps p.tables e below (T30.setTop (mkF m 71 #[.val (.ref o0), .val (.int p1), .val (.int p2), .val (.int (own_fV P p1)), .val (.int (own_fV (own_fP P p1) p2)), .unset] [])) _
        refine XS.iconst X30.here hx rfl (hb hby d5_71) ?_
        exact k)
      obtain ⟨fs, hr, hrun, hended, hW, hsame⟩ := X30.leave (v := some (.int (1 : Int32))) (fun h => by rw [Bd.returns] at h; cases h)
      refine ⟨_, _, pre31 _ ?_, hrun, hended, _, _, rfl, ?_, ⟨_, rfl⟩, hW, hsame.mono (by decide) (by decide)⟩
      · exact retN X30 hx (t := .boolean) Bd.returns (by simp) (hb hby d5_72) hr
      · show Q5 Z o0 p1 p2 wp kp P wz kz Y h0 n0 _ T30.heap _
        rw [e30]
        exact ⟨by rw [own_uR, if_neg hc16_4], N30, KK30, by rw [own_uP, if_neg hc16_4, if_neg hc34_11]; exact (V24.other W30 n_wp_wz), by rw [own_uZ, if_neg hc16_4, if_neg hc34_11]; exact V30⟩
theorem pn_1 : plainName "com/example/querist/querist/mst/DisjointSetsFindPinLaw" = true := by first | (simp [plainName, overriddenIn]; done) | decide +kernel
theorem d4_0 : decode method_4_code 0 = .ok (.aload_n 0, 1) := by decide +kernel
theorem d4_1 : decode method_4_code 1 = .ok (.iload_n 2, 1) := by decide +kernel
theorem d4_2 : decode method_4_code 2 = .ok (.iaload, 1) := by decide +kernel
theorem d4_3 : decode method_4_code 3 = .ok (.istore 4, 2) := by decide +kernel
theorem d4_5 : decode method_4_code 5 = .ok (.aload_n 0, 1) := by decide +kernel
theorem d4_6 : decode method_4_code 6 = .ok (.iload_n 3, 1) := by decide +kernel
theorem d4_7 : decode method_4_code 7 = .ok (.iaload, 1) := by decide +kernel
theorem d4_8 : decode method_4_code 8 = .ok (.istore 5, 2) := by decide +kernel
theorem d4_10 : decode method_4_code 10 = .ok (.iload 4, 2) := by decide +kernel
theorem d4_12 : decode method_4_code 12 = .ok (.iload 5, 2) := by decide +kernel
theorem d4_14 : decode method_4_code 14 = .ok (.if_icmp .ne 5, 3) := by decide +kernel
theorem d4_17 : decode method_4_code 17 = .ok (.iconst 0, 1) := by decide +kernel
theorem d4_18 : decode method_4_code 18 = .ok (.ireturn, 1) := by decide +kernel
theorem d4_19 : decode method_4_code 19 = .ok (.aload_n 1, 1) := by decide +kernel
theorem d4_20 : decode method_4_code 20 = .ok (.iload 4, 2) := by decide +kernel
theorem d4_22 : decode method_4_code 22 = .ok (.iaload, 1) := by decide +kernel
theorem d4_23 : decode method_4_code 23 = .ok (.aload_n 1, 1) := by decide +kernel
theorem d4_24 : decode method_4_code 24 = .ok (.iload 5, 2) := by decide +kernel
theorem d4_26 : decode method_4_code 26 = .ok (.iaload, 1) := by decide +kernel
theorem d4_27 : decode method_4_code 27 = .ok (.if_icmp .ge 15, 3) := by decide +kernel
theorem d4_30 : decode method_4_code 30 = .ok (.iload 4, 2) := by decide +kernel
theorem d4_32 : decode method_4_code 32 = .ok (.istore 6, 2) := by decide +kernel
theorem d4_34 : decode method_4_code 34 = .ok (.iload 5, 2) := by decide +kernel
theorem d4_36 : decode method_4_code 36 = .ok (.istore 4, 2) := by decide +kernel
theorem d4_38 : decode method_4_code 38 = .ok (.iload 6, 2) := by decide +kernel
theorem d4_40 : decode method_4_code 40 = .ok (.istore 5, 2) := by decide +kernel
theorem d4_42 : decode method_4_code 42 = .ok (.aload_n 0, 1) := by decide +kernel
theorem d4_43 : decode method_4_code 43 = .ok (.iconst 0, 1) := by decide +kernel
theorem d4_44 : decode method_4_code 44 = .ok (.iaload, 1) := by decide +kernel
theorem d4_45 : decode method_4_code 45 = .ok (.iload 5, 2) := by decide +kernel
theorem d4_47 : decode method_4_code 47 = .ok (.if_icmp .ne 8, 3) := by decide +kernel
theorem d4_50 : decode method_4_code 50 = .ok (.aload_n 0, 1) := by decide +kernel
theorem d4_51 : decode method_4_code 51 = .ok (.iconst 0, 1) := by decide +kernel
theorem d4_52 : decode method_4_code 52 = .ok (.iload 4, 2) := by decide +kernel
theorem d4_54 : decode method_4_code 54 = .ok (.iastore, 1) := by decide +kernel
theorem d4_55 : decode method_4_code 55 = .ok (.aload_n 0, 1) := by decide +kernel
theorem d4_56 : decode method_4_code 56 = .ok (.iconst 1, 1) := by decide +kernel
theorem d4_57 : decode method_4_code 57 = .ok (.iaload, 1) := by decide +kernel
theorem d4_58 : decode method_4_code 58 = .ok (.iload 5, 2) := by decide +kernel
theorem d4_60 : decode method_4_code 60 = .ok (.if_icmp .ne 8, 3) := by decide +kernel
theorem d4_63 : decode method_4_code 63 = .ok (.aload_n 0, 1) := by decide +kernel
theorem d4_64 : decode method_4_code 64 = .ok (.iconst 1, 1) := by decide +kernel
theorem d4_65 : decode method_4_code 65 = .ok (.iload 4, 2) := by decide +kernel
theorem d4_67 : decode method_4_code 67 = .ok (.iastore, 1) := by decide +kernel
theorem d4_68 : decode method_4_code 68 = .ok (.aload_n 0, 1) := by decide +kernel
theorem d4_69 : decode method_4_code 69 = .ok (.iconst 2, 1) := by decide +kernel
theorem d4_70 : decode method_4_code 70 = .ok (.iaload, 1) := by decide +kernel
theorem d4_71 : decode method_4_code 71 = .ok (.iload 5, 2) := by decide +kernel
theorem d4_73 : decode method_4_code 73 = .ok (.if_icmp .ne 8, 3) := by decide +kernel
theorem d4_76 : decode method_4_code 76 = .ok (.aload_n 0, 1) := by decide +kernel
theorem d4_77 : decode method_4_code 77 = .ok (.iconst 2, 1) := by decide +kernel
theorem d4_78 : decode method_4_code 78 = .ok (.iload 4, 2) := by decide +kernel
theorem d4_80 : decode method_4_code 80 = .ok (.iastore, 1) := by decide +kernel
theorem d4_81 : decode method_4_code 81 = .ok (.aload_n 0, 1) := by decide +kernel
theorem d4_82 : decode method_4_code 82 = .ok (.iconst 3, 1) := by decide +kernel
theorem d4_83 : decode method_4_code 83 = .ok (.iaload, 1) := by decide +kernel
theorem d4_84 : decode method_4_code 84 = .ok (.iload 5, 2) := by decide +kernel
theorem d4_86 : decode method_4_code 86 = .ok (.if_icmp .ne 8, 3) := by decide +kernel
theorem d4_89 : decode method_4_code 89 = .ok (.aload_n 0, 1) := by decide +kernel
theorem d4_90 : decode method_4_code 90 = .ok (.iconst 3, 1) := by decide +kernel
theorem d4_91 : decode method_4_code 91 = .ok (.iload 4, 2) := by decide +kernel
theorem d4_93 : decode method_4_code 93 = .ok (.iastore, 1) := by decide +kernel
theorem d4_94 : decode method_4_code 94 = .ok (.aload_n 1, 1) := by decide +kernel
theorem d4_95 : decode method_4_code 95 = .ok (.iload 4, 2) := by decide +kernel
theorem d4_97 : decode method_4_code 97 = .ok (.dup2, 1) := by decide +kernel
theorem d4_98 : decode method_4_code 98 = .ok (.iaload, 1) := by decide +kernel
theorem d4_99 : decode method_4_code 99 = .ok (.aload_n 1, 1) := by decide +kernel
theorem d4_100 : decode method_4_code 100 = .ok (.iload 5, 2) := by decide +kernel
theorem d4_102 : decode method_4_code 102 = .ok (.iaload, 1) := by decide +kernel
theorem d4_103 : decode method_4_code 103 = .ok (.iadd, 1) := by decide +kernel
theorem d4_104 : decode method_4_code 104 = .ok (.iastore, 1) := by decide +kernel
theorem d4_105 : decode method_4_code 105 = .ok (.iconst 1, 1) := by decide +kernel
theorem d4_106 : decode method_4_code 106 = .ok (.ireturn, 1) := by decide +kernel
theorem ef_4 (m : MethodId) (x0 : Addr) (x1 : Addr) (x2 : Int32) (x3 : Int32) : entryFrame m #[(.ref x0), (.ref x1), (.int x2), (.int x3)] 7 = mkF m 0 #[.val (.ref x0), .val (.ref x1), .val (.int x2), .val (.int x3), .unset, .unset, .unset] [] := by first | (simp [entryFrame, mkF, argsToLocals, Value.category]; done) | rfl
def Q4 (Z : State) (o0 : Addr) (o1 : Addr) (p2 : Int32) (p3 : Int32) (kr : ClassId) (R : List Int32) (ky : ClassId) (Y : List Int32) (h0 : Heap) (n0 : Nat) (v : Option Value) (h : Heap) (L : List Loc) : Prop := v = some (.int (own_jV R p2 p3)) ∧ Fr n0 L ∧ Keep h0 h [o0, o1] ∧ own_A Z h o0 kr .int (4 : Int32) (own_jR R Y p2 p3) ∧ own_A Z h o1 ky .int (4 : Int32) (own_jY R Y p2 p3)
set_option maxRecDepth 65536 in
set_option maxHeartbeats 40000000 in
theorem rm4 (l : Launch) (Z : State) (a0 : Array Value) (hw : ∀ d ∈ tables_1, d.before a0 Z = true) (ws : List Jvm.Cond) (o0 : Addr) (o1 : Addr) (p2 : Int32) (p3 : Int32) (kr : ClassId) (R : List Int32) (ky : ClassId) (Y : List Int32) (h0 : Heap) (n0 : Nat) (Z0 : n0 ≤ h0.size) (V_o0 : own_A Z h0 o0 kr .int (4 : Int32) R) (V_o1 : own_A Z h0 o1 ky .int (4 : Int32) Y) (n_o0_o1 : o0 ≠ o1) (g_o0 : n0 ≤ o0) (g_o1 : n0 ≤ o1) (hi1 : own_in (4 : Int32) p2) (hi2 : own_in (4 : Int32) p3) (hb1 : own_in (4 : Int32) (own_rd R p2)) (hb2 : own_in (4 : Int32) (own_rd R p3)) :
    MetFree l (⟨"com/example/querist/querist/mst/DisjointSetsFindPinLaw", "join", "([I[III)Z"⟩ : MethodName) (head1 (Jvm.Cond.code (⟨"com/example/querist/querist/mst/DisjointSetsFindPinLaw", "join", "([I[III)Z"⟩ : MethodName) method_4_code 7 (some .boolean) :: ws) ({ frames := 0, cells := 0, slots := 0, locals := 0 } : Room)) (fun a U => a = #[(.ref o0), (.ref o1), (.int p2), (.int p3)] ∧ Z.Warmed39 U.vm ∧ U.heap = h0) (fun _ _ _ _ _ => True) (fun _ U o U' => ∃ v L, o = .returned v ∧ Q4 Z o0 o1 p2 p3 kr R ky Y h0 n0 v U'.heap L ∧ FrameEnd U o U' L ({ frames := 0, cells := 0, slots := 0, locals := 0 } : Room).cells ({ frames := 0, cells := 0, slots := 0, locals := 0 } : Room).slots) := by
  refine MetFree.of_bodySF (plainFor_of_name pn_1) hisR ?_
  intro p e s m args below meth c s₁ Bd hml0 hP hK
  obtain ⟨rfl, hZ, hh⟩ := hP
  have hx := Bd.exec
  have hby := Bd.bytes
  have hml : c.maxLocals = 7 := hml0
  have hown : s.vm.findClass "com/example/querist/querist/mst/DisjointSetsFindPinLaw" = some m.cls := findClass_of_methodNamed Bd.named
  have hnm := (name_of_methodNamed Bd.named Bd.method).1
  have X0 : Stand p l e ({ frames := 0, cells := 0, slots := 0, locals := 0 } : Room) s m #[(.ref o0), (.ref o1), (.int p2), (.int p3)] below meth c s₁ [] 0 0 := Stand.of_body Bd
  have e0 : s₁.heap = h0 := by rw [← hh, Bd.state]; rfl
  have N0 := Fr.nil n0
  have pre0 : ∀ t, Steps p.tables e below (s₁.setTop (mkF m 0 #[.val (.ref o0), .val (.ref o1), .val (.int p2), .val (.int p3), .unset, .unset, .unset] [])) t → Steps p.tables e below (s₁.setTop (entryFrame m #[(.ref o0), (.ref o1), (.int p2), (.int p3)] 7)) t := fun t k => castTop (ef_4 m o0 o1 p2 p3) k
  obtain ⟨c1, Ar1, hin1, hat1⟩ := own_read V_o0 hi1
  obtain ⟨c2, Ar2, hin2, hat2⟩ := own_read V_o0 hi2
  have pre3 : ∀ t, Steps p.tables e below (s₁.setTop (mkF m 14 #[.val (.ref o0), .val (.ref o1), .val (.int p2), .val (.int p3), .val (.int (own_rd R p2)), .val (.int (own_rd R p3)), .unset] [(.int (own_rd R p3)), (.int (own_rd R p2))])) t → Steps p.tables e below (s₁.setTop (entryFrame m #[(.ref o0), (.ref o1), (.int p2), (.int p3)] 7)) t := fun t k => pre0 t (by
    show Steps p.tables e below (s₁.setTop (mkF m 0 #[.val (.ref o0), .val (.ref o1), .val (.int p2), .val (.int p3), .unset, .unset, .unset] [])) _
    refine XS.aloadN X0.here hx rfl (hb hby d4_0) rfl rfl ?_
    show Steps p.tables e below (s₁.setTop (mkF m 1 #[.val (.ref o0), .val (.ref o1), .val (.int p2), .val (.int p3), .unset, .unset, .unset] [(.ref o0)])) _
    refine XS.iloadN X0.here hx rfl (hb hby d4_1) rfl ?_
    show Steps p.tables e below (s₁.setTop (mkF m 2 #[.val (.ref o0), .val (.ref o1), .val (.int p2), .val (.int p3), .unset, .unset, .unset] [(.int p2), (.ref o0)])) _
    refine X0.iaload hx (j := p2) (v := (.int (own_rd R p2))) (by rw [e0]; exact Ar1.1) (State.isArrayOf_alike hZ.alike Ar1.2.1) Ar1.2.2 hin1 hat1 (g := (mkF m 2 #[.val (.ref o0), .val (.ref o1), .val (.int p2), .val (.int p3), .unset, .unset, .unset] [(.int p2), (.ref o0)])) rfl rfl (hb hby d4_2) _ ?_
    show Steps p.tables e below (s₁.setTop (mkF m 3 #[.val (.ref o0), .val (.ref o1), .val (.int p2), .val (.int p3), .unset, .unset, .unset] [(.int (own_rd R p2))])) _
    refine XS.istore X0.here hx rfl (hb hby d4_3) rfl (l' := #[.val (.ref o0), .val (.ref o1), .val (.int p2), .val (.int p3), .val (.int (own_rd R p2)), .unset, .unset]) rfl ?_
    show Steps p.tables e below (s₁.setTop (mkF m 5 #[.val (.ref o0), .val (.ref o1), .val (.int p2), .val (.int p3), .val (.int (own_rd R p2)), .unset, .unset] [])) _
    refine XS.aloadN X0.here hx rfl (hb hby d4_5) rfl rfl ?_
    show Steps p.tables e below (s₁.setTop (mkF m 6 #[.val (.ref o0), .val (.ref o1), .val (.int p2), .val (.int p3), .val (.int (own_rd R p2)), .unset, .unset] [(.ref o0)])) _
    refine XS.iloadN X0.here hx rfl (hb hby d4_6) rfl ?_
    show Steps p.tables e below (s₁.setTop (mkF m 7 #[.val (.ref o0), .val (.ref o1), .val (.int p2), .val (.int p3), .val (.int (own_rd R p2)), .unset, .unset] [(.int p3), (.ref o0)])) _
    refine X0.iaload hx (j := p3) (v := (.int (own_rd R p3))) (by rw [e0]; exact Ar2.1) (State.isArrayOf_alike hZ.alike Ar2.2.1) Ar2.2.2 hin2 hat2 (g := (mkF m 7 #[.val (.ref o0), .val (.ref o1), .val (.int p2), .val (.int p3), .val (.int (own_rd R p2)), .unset, .unset] [(.int p3), (.ref o0)])) rfl rfl (hb hby d4_7) _ ?_
    show Steps p.tables e below (s₁.setTop (mkF m 8 #[.val (.ref o0), .val (.ref o1), .val (.int p2), .val (.int p3), .val (.int (own_rd R p2)), .unset, .unset] [(.int (own_rd R p3))])) _
    refine XS.istore X0.here hx rfl (hb hby d4_8) rfl (l' := #[.val (.ref o0), .val (.ref o1), .val (.int p2), .val (.int p3), .val (.int (own_rd R p2)), .val (.int (own_rd R p3)), .unset]) rfl ?_
    show Steps p.tables e below (s₁.setTop (mkF m 10 #[.val (.ref o0), .val (.ref o1), .val (.int p2), .val (.int p3), .val (.int (own_rd R p2)), .val (.int (own_rd R p3)), .unset] [])) _
    refine XS.iload X0.here hx rfl (hb hby d4_10) rfl ?_
    show Steps p.tables e below (s₁.setTop (mkF m 12 #[.val (.ref o0), .val (.ref o1), .val (.int p2), .val (.int p3), .val (.int (own_rd R p2)), .val (.int (own_rd R p3)), .unset] [(.int (own_rd R p2))])) _
    refine XS.iload X0.here hx rfl (hb hby d4_12) rfl ?_
    exact k)
  by_cases hc14_4 : (own_rd R p2) = (own_rd R p3)
  · have pre5 : ∀ t, Steps p.tables e below (s₁.setTop (mkF m 18 #[.val (.ref o0), .val (.ref o1), .val (.int p2), .val (.int p3), .val (.int (own_rd R p2)), .val (.int (own_rd R p3)), .unset] [(.int (0 : Int32))])) t → Steps p.tables e below (s₁.setTop (entryFrame m #[(.ref o0), (.ref o1), (.int p2), (.int p3)] 7)) t := fun t k => pre3 t (by
      show Steps p.tables e below (s₁.setTop (mkF m 14 #[.val (.ref o0), .val (.ref o1), .val (.int p2), .val (.int p3), .val (.int (own_rd R p2)), .val (.int (own_rd R p3)), .unset] [(.int (own_rd R p3)), (.int (own_rd R p2))])) _
      refine XS.icmpNo X0.here hx rfl (hb hby d4_14) rfl (teq hc14_4).2 ?_
      show Steps p.tables e below (s₁.setTop (mkF m 17 #[.val (.ref o0), .val (.ref o1), .val (.int p2), .val (.int p3), .val (.int (own_rd R p2)), .val (.int (own_rd R p3)), .unset] [])) _
      refine XS.iconst X0.here hx rfl (hb hby d4_17) ?_
      exact k)
    obtain ⟨fs, hr, hrun, hended, hW, hsame⟩ := X0.leave (v := some (.int (0 : Int32))) (fun h => by rw [Bd.returns] at h; cases h)
    refine ⟨_, _, pre5 _ ?_, hrun, hended, _, _, rfl, ?_, ⟨_, rfl⟩, hW, hsame.mono (by decide) (by decide)⟩
    · exact retN X0 hx (t := .boolean) Bd.returns (by simp) (hb hby d4_18) hr
    · show Q4 Z o0 o1 p2 p3 kr R ky Y h0 n0 _ s₁.heap _
      rw [e0]
      exact ⟨by rw [own_jV, if_pos hc14_4], N0, (Keep.refl h0 [o0, o1]), by rw [own_jR, if_pos hc14_4]; exact V_o0, by rw [own_jY, if_pos hc14_4]; exact V_o1⟩
  · obtain ⟨c6, Ar6, hin6, hat6⟩ := own_read V_o1 hb1
    obtain ⟨c7, Ar7, hin7, hat7⟩ := own_read V_o1 hb2
    have pre8 : ∀ t, Steps p.tables e below (s₁.setTop (mkF m 27 #[.val (.ref o0), .val (.ref o1), .val (.int p2), .val (.int p3), .val (.int (own_rd R p2)), .val (.int (own_rd R p3)), .unset] [(.int (own_rd Y (own_rd R p3))), (.int (own_rd Y (own_rd R p2)))])) t → Steps p.tables e below (s₁.setTop (entryFrame m #[(.ref o0), (.ref o1), (.int p2), (.int p3)] 7)) t := fun t k => pre3 t (by
      show Steps p.tables e below (s₁.setTop (mkF m 14 #[.val (.ref o0), .val (.ref o1), .val (.int p2), .val (.int p3), .val (.int (own_rd R p2)), .val (.int (own_rd R p3)), .unset] [(.int (own_rd R p3)), (.int (own_rd R p2))])) _
      refine XS.icmpYes X0.here hx rfl (pc0 := 14) (pc' := 19) rfl (hb hby d4_14) rfl (feq hc14_4).2 (by decide) (by decide) ?_
      show Steps p.tables e below (s₁.setTop (mkF m 19 #[.val (.ref o0), .val (.ref o1), .val (.int p2), .val (.int p3), .val (.int (own_rd R p2)), .val (.int (own_rd R p3)), .unset] [])) _
      refine XS.aloadN X0.here hx rfl (hb hby d4_19) rfl rfl ?_
      show Steps p.tables e below (s₁.setTop (mkF m 20 #[.val (.ref o0), .val (.ref o1), .val (.int p2), .val (.int p3), .val (.int (own_rd R p2)), .val (.int (own_rd R p3)), .unset] [(.ref o1)])) _
      refine XS.iload X0.here hx rfl (hb hby d4_20) rfl ?_
      show Steps p.tables e below (s₁.setTop (mkF m 22 #[.val (.ref o0), .val (.ref o1), .val (.int p2), .val (.int p3), .val (.int (own_rd R p2)), .val (.int (own_rd R p3)), .unset] [(.int (own_rd R p2)), (.ref o1)])) _
      refine X0.iaload hx (j := (own_rd R p2)) (v := (.int (own_rd Y (own_rd R p2)))) (by rw [e0]; exact Ar6.1) (State.isArrayOf_alike hZ.alike Ar6.2.1) Ar6.2.2 hin6 hat6 (g := (mkF m 22 #[.val (.ref o0), .val (.ref o1), .val (.int p2), .val (.int p3), .val (.int (own_rd R p2)), .val (.int (own_rd R p3)), .unset] [(.int (own_rd R p2)), (.ref o1)])) rfl rfl (hb hby d4_22) _ ?_
      show Steps p.tables e below (s₁.setTop (mkF m 23 #[.val (.ref o0), .val (.ref o1), .val (.int p2), .val (.int p3), .val (.int (own_rd R p2)), .val (.int (own_rd R p3)), .unset] [(.int (own_rd Y (own_rd R p2)))])) _
      refine XS.aloadN X0.here hx rfl (hb hby d4_23) rfl rfl ?_
      show Steps p.tables e below (s₁.setTop (mkF m 24 #[.val (.ref o0), .val (.ref o1), .val (.int p2), .val (.int p3), .val (.int (own_rd R p2)), .val (.int (own_rd R p3)), .unset] [(.ref o1), (.int (own_rd Y (own_rd R p2)))])) _
      refine XS.iload X0.here hx rfl (hb hby d4_24) rfl ?_
      show Steps p.tables e below (s₁.setTop (mkF m 26 #[.val (.ref o0), .val (.ref o1), .val (.int p2), .val (.int p3), .val (.int (own_rd R p2)), .val (.int (own_rd R p3)), .unset] [(.int (own_rd R p3)), (.ref o1), (.int (own_rd Y (own_rd R p2)))])) _
      refine X0.iaload hx (j := (own_rd R p3)) (v := (.int (own_rd Y (own_rd R p3)))) (by rw [e0]; exact Ar7.1) (State.isArrayOf_alike hZ.alike Ar7.2.1) Ar7.2.2 hin7 hat7 (g := (mkF m 26 #[.val (.ref o0), .val (.ref o1), .val (.int p2), .val (.int p3), .val (.int (own_rd R p2)), .val (.int (own_rd R p3)), .unset] [(.int (own_rd R p3)), (.ref o1), (.int (own_rd Y (own_rd R p2)))])) rfl rfl (hb hby d4_26) _ ?_
      exact k)
    by_cases hc27_9 : (own_rd Y (own_rd R p2)) < (own_rd Y (own_rd R p3))
    · have pre10 : ∀ t, Steps p.tables e below (s₁.setTop (mkF m 42 #[.val (.ref o0), .val (.ref o1), .val (.int p2), .val (.int p3), .val (.int (own_rd R p3)), .val (.int (own_rd R p2)), .val (.int (own_rd R p2))] [])) t → Steps p.tables e below (s₁.setTop (entryFrame m #[(.ref o0), (.ref o1), (.int p2), (.int p3)] 7)) t := fun t k => pre8 t (by
        show Steps p.tables e below (s₁.setTop (mkF m 27 #[.val (.ref o0), .val (.ref o1), .val (.int p2), .val (.int p3), .val (.int (own_rd R p2)), .val (.int (own_rd R p3)), .unset] [(.int (own_rd Y (own_rd R p3))), (.int (own_rd Y (own_rd R p2)))])) _
        refine XS.icmpNo X0.here hx rfl (hb hby d4_27) rfl (tlt hc27_9).2.1 ?_
        show Steps p.tables e below (s₁.setTop (mkF m 30 #[.val (.ref o0), .val (.ref o1), .val (.int p2), .val (.int p3), .val (.int (own_rd R p2)), .val (.int (own_rd R p3)), .unset] [])) _
        refine XS.iload X0.here hx rfl (hb hby d4_30) rfl ?_
        show Steps p.tables e below (s₁.setTop (mkF m 32 #[.val (.ref o0), .val (.ref o1), .val (.int p2), .val (.int p3), .val (.int (own_rd R p2)), .val (.int (own_rd R p3)), .unset] [(.int (own_rd R p2))])) _
        refine XS.istore X0.here hx rfl (hb hby d4_32) rfl (l' := #[.val (.ref o0), .val (.ref o1), .val (.int p2), .val (.int p3), .val (.int (own_rd R p2)), .val (.int (own_rd R p3)), .val (.int (own_rd R p2))]) rfl ?_
        show Steps p.tables e below (s₁.setTop (mkF m 34 #[.val (.ref o0), .val (.ref o1), .val (.int p2), .val (.int p3), .val (.int (own_rd R p2)), .val (.int (own_rd R p3)), .val (.int (own_rd R p2))] [])) _
        refine XS.iload X0.here hx rfl (hb hby d4_34) rfl ?_
        show Steps p.tables e below (s₁.setTop (mkF m 36 #[.val (.ref o0), .val (.ref o1), .val (.int p2), .val (.int p3), .val (.int (own_rd R p2)), .val (.int (own_rd R p3)), .val (.int (own_rd R p2))] [(.int (own_rd R p3))])) _
        refine XS.istore X0.here hx rfl (hb hby d4_36) rfl (l' := #[.val (.ref o0), .val (.ref o1), .val (.int p2), .val (.int p3), .val (.int (own_rd R p3)), .val (.int (own_rd R p3)), .val (.int (own_rd R p2))]) rfl ?_
        show Steps p.tables e below (s₁.setTop (mkF m 38 #[.val (.ref o0), .val (.ref o1), .val (.int p2), .val (.int p3), .val (.int (own_rd R p3)), .val (.int (own_rd R p3)), .val (.int (own_rd R p2))] [])) _
        refine XS.iload X0.here hx rfl (hb hby d4_38) rfl ?_
        show Steps p.tables e below (s₁.setTop (mkF m 40 #[.val (.ref o0), .val (.ref o1), .val (.int p2), .val (.int p3), .val (.int (own_rd R p3)), .val (.int (own_rd R p3)), .val (.int (own_rd R p2))] [(.int (own_rd R p2))])) _
        refine XS.istore X0.here hx rfl (hb hby d4_40) rfl (l' := #[.val (.ref o0), .val (.ref o1), .val (.int p2), .val (.int p3), .val (.int (own_rd R p3)), .val (.int (own_rd R p2)), .val (.int (own_rd R p2))]) rfl ?_
        exact k)
      obtain ⟨T11, lc11, X11, N11, KK11, G11_0, G11_1, prem11⟩ : ∃ (T' : State) (lc' : List Loc), Stand p l e ({ frames := 0, cells := 0, slots := 0, locals := 0 } : Room) s m #[(.ref o0), (.ref o1), (.int p2), (.int p3)] below meth c T' lc' 0 0 ∧ Fr n0 lc' ∧ Keep h0 T'.heap [o0, o1] ∧ own_A Z T'.heap o0 kr .int (4 : Int32) (own_j1 R (0 : Int32) (own_rd R p2) (own_rd R p3)) ∧ own_A Z T'.heap o1 ky .int (4 : Int32) Y ∧ ∀ t, Steps p.tables e below (T'.setTop (mkF m 55 #[.val (.ref o0), .val (.ref o1), .val (.int p2), .val (.int p3), .val (.int (own_rd R p3)), .val (.int (own_rd R p2)), .val (.int (own_rd R p2))] [])) t → Steps p.tables e below (s₁.setTop (entryFrame m #[(.ref o0), (.ref o1), (.int p2), (.int p3)] 7)) t := by
        obtain ⟨c12, Ar12, hin12, hat12⟩ := own_read V_o0 (by decide : own_in (4 : Int32) (0 : Int32))
        have pre13 : ∀ t, Steps p.tables e below (s₁.setTop (mkF m 47 #[.val (.ref o0), .val (.ref o1), .val (.int p2), .val (.int p3), .val (.int (own_rd R p3)), .val (.int (own_rd R p2)), .val (.int (own_rd R p2))] [(.int (own_rd R p2)), (.int (own_rd R (0 : Int32)))])) t → Steps p.tables e below (s₁.setTop (entryFrame m #[(.ref o0), (.ref o1), (.int p2), (.int p3)] 7)) t := fun t k => pre10 t (by
          show Steps p.tables e below (s₁.setTop (mkF m 42 #[.val (.ref o0), .val (.ref o1), .val (.int p2), .val (.int p3), .val (.int (own_rd R p3)), .val (.int (own_rd R p2)), .val (.int (own_rd R p2))] [])) _
          refine XS.aloadN X0.here hx rfl (hb hby d4_42) rfl rfl ?_
          show Steps p.tables e below (s₁.setTop (mkF m 43 #[.val (.ref o0), .val (.ref o1), .val (.int p2), .val (.int p3), .val (.int (own_rd R p3)), .val (.int (own_rd R p2)), .val (.int (own_rd R p2))] [(.ref o0)])) _
          refine XS.iconst X0.here hx rfl (hb hby d4_43) ?_
          show Steps p.tables e below (s₁.setTop (mkF m 44 #[.val (.ref o0), .val (.ref o1), .val (.int p2), .val (.int p3), .val (.int (own_rd R p3)), .val (.int (own_rd R p2)), .val (.int (own_rd R p2))] [(.int (0 : Int32)), (.ref o0)])) _
          refine X0.iaload hx (j := (0 : Int32)) (v := (.int (own_rd R (0 : Int32)))) (by rw [e0]; exact Ar12.1) (State.isArrayOf_alike hZ.alike Ar12.2.1) Ar12.2.2 hin12 hat12 (g := (mkF m 44 #[.val (.ref o0), .val (.ref o1), .val (.int p2), .val (.int p3), .val (.int (own_rd R p3)), .val (.int (own_rd R p2)), .val (.int (own_rd R p2))] [(.int (0 : Int32)), (.ref o0)])) rfl rfl (hb hby d4_44) _ ?_
          show Steps p.tables e below (s₁.setTop (mkF m 45 #[.val (.ref o0), .val (.ref o1), .val (.int p2), .val (.int p3), .val (.int (own_rd R p3)), .val (.int (own_rd R p2)), .val (.int (own_rd R p2))] [(.int (own_rd R (0 : Int32)))])) _
          refine XS.iload X0.here hx rfl (hb hby d4_45) rfl ?_
          exact k)
        by_cases hc47_14 : (own_rd R (0 : Int32)) = (own_rd R p2)
        · obtain ⟨c15, Ar15, hin15, -⟩ := own_read V_o0 (by decide : own_in (4 : Int32) (0 : Int32))
          obtain ⟨T16, h16, X16, e16, W16, st16⟩ := stI X0 hx hZ e0 Ar15 (j := (0 : Int32)) hin15 (g := (mkF m 54 #[.val (.ref o0), .val (.ref o1), .val (.int p2), .val (.int p3), .val (.int (own_rd R p3)), .val (.int (own_rd R p2)), .val (.int (own_rd R p2))] [(.int (own_rd R p3)), (.int (0 : Int32)), (.ref o0)])) rfl rfl (hb hby d4_54)
          have V16 : own_A Z h16 o0 kr .int (4 : Int32) (own_wr R (0 : Int32) (own_rd R p3)) := own_write V_o0 (by decide : own_in (4 : Int32) (0 : Int32)) W16
          have KK16 : Keep h0 h16 [o0, o1] := (Keep.refl h0 [o0, o1]).wr W16 (Or.inl (List.mem_of_getElem? (i := 0) rfl))
          have N16 := Fr.snoc X16 N0 g_o0
          have pre17 : ∀ t, Steps p.tables e below (T16.setTop (mkF m 55 #[.val (.ref o0), .val (.ref o1), .val (.int p2), .val (.int p3), .val (.int (own_rd R p3)), .val (.int (own_rd R p2)), .val (.int (own_rd R p2))] [])) t → Steps p.tables e below (s₁.setTop (entryFrame m #[(.ref o0), (.ref o1), (.int p2), (.int p3)] 7)) t := fun t k => pre13 t (by
            show Steps p.tables e below (s₁.setTop (mkF m 47 #[.val (.ref o0), .val (.ref o1), .val (.int p2), .val (.int p3), .val (.int (own_rd R p3)), .val (.int (own_rd R p2)), .val (.int (own_rd R p2))] [(.int (own_rd R p2)), (.int (own_rd R (0 : Int32)))])) _
            refine XS.icmpNo X0.here hx rfl (hb hby d4_47) rfl (teq hc47_14).2 ?_
            show Steps p.tables e below (s₁.setTop (mkF m 50 #[.val (.ref o0), .val (.ref o1), .val (.int p2), .val (.int p3), .val (.int (own_rd R p3)), .val (.int (own_rd R p2)), .val (.int (own_rd R p2))] [])) _
            refine XS.aloadN X0.here hx rfl (hb hby d4_50) rfl rfl ?_
            show Steps p.tables e below (s₁.setTop (mkF m 51 #[.val (.ref o0), .val (.ref o1), .val (.int p2), .val (.int p3), .val (.int (own_rd R p3)), .val (.int (own_rd R p2)), .val (.int (own_rd R p2))] [(.ref o0)])) _
            refine XS.iconst X0.here hx rfl (hb hby d4_51) ?_
            show Steps p.tables e below (s₁.setTop (mkF m 52 #[.val (.ref o0), .val (.ref o1), .val (.int p2), .val (.int p3), .val (.int (own_rd R p3)), .val (.int (own_rd R p2)), .val (.int (own_rd R p2))] [(.int (0 : Int32)), (.ref o0)])) _
            refine XS.iload X0.here hx rfl (hb hby d4_52) rfl ?_
            show Steps p.tables e below (s₁.setTop (mkF m 54 #[.val (.ref o0), .val (.ref o1), .val (.int p2), .val (.int p3), .val (.int (own_rd R p3)), .val (.int (own_rd R p2)), .val (.int (own_rd R p2))] [(.int (own_rd R p3)), (.int (0 : Int32)), (.ref o0)])) _
            refine st16 _ ?_
            exact k)
          exact ⟨T16, _, X16, N16, (by rw [e16]; exact KK16), (by rw [own_j1, if_pos hc47_14]; exact (by rw [e16]; exact V16)), (by rw [e16]; exact (V_o1.other W16 (Ne.symm n_o0_o1))), pre17⟩
        · have pre18 : ∀ t, Steps p.tables e below (s₁.setTop (mkF m 55 #[.val (.ref o0), .val (.ref o1), .val (.int p2), .val (.int p3), .val (.int (own_rd R p3)), .val (.int (own_rd R p2)), .val (.int (own_rd R p2))] [])) t → Steps p.tables e below (s₁.setTop (entryFrame m #[(.ref o0), (.ref o1), (.int p2), (.int p3)] 7)) t := fun t k => pre13 t (by
            show Steps p.tables e below (s₁.setTop (mkF m 47 #[.val (.ref o0), .val (.ref o1), .val (.int p2), .val (.int p3), .val (.int (own_rd R p3)), .val (.int (own_rd R p2)), .val (.int (own_rd R p2))] [(.int (own_rd R p2)), (.int (own_rd R (0 : Int32)))])) _
            refine XS.icmpYes X0.here hx rfl (pc0 := 47) (pc' := 55) rfl (hb hby d4_47) rfl (feq hc47_14).2 (by decide) (by decide) ?_
            exact k)
          exact ⟨s₁, _, X0, N0, (by rw [e0]; exact (Keep.refl h0 [o0, o1])), (by rw [own_j1, if_neg hc47_14]; exact (by rw [e0]; exact V_o0)), (by rw [e0]; exact V_o1), pre18⟩
      obtain ⟨T19, lc19, X19, N19, KK19, G19_0, G19_1, prem19⟩ : ∃ (T' : State) (lc' : List Loc), Stand p l e ({ frames := 0, cells := 0, slots := 0, locals := 0 } : Room) s m #[(.ref o0), (.ref o1), (.int p2), (.int p3)] below meth c T' lc' 0 0 ∧ Fr n0 lc' ∧ Keep h0 T'.heap [o0, o1] ∧ own_A Z T'.heap o0 kr .int (4 : Int32) (own_j1 (own_j1 R (0 : Int32) (own_rd R p2) (own_rd R p3)) (1 : Int32) (own_rd R p2) (own_rd R p3)) ∧ own_A Z T'.heap o1 ky .int (4 : Int32) Y ∧ ∀ t, Steps p.tables e below (T'.setTop (mkF m 68 #[.val (.ref o0), .val (.ref o1), .val (.int p2), .val (.int p3), .val (.int (own_rd R p3)), .val (.int (own_rd R p2)), .val (.int (own_rd R p2))] [])) t → Steps p.tables e below (s₁.setTop (entryFrame m #[(.ref o0), (.ref o1), (.int p2), (.int p3)] 7)) t := by
        obtain ⟨c20, Ar20, hin20, hat20⟩ := own_read G11_0 (by decide : own_in (4 : Int32) (1 : Int32))
        have pre21 : ∀ t, Steps p.tables e below (T11.setTop (mkF m 60 #[.val (.ref o0), .val (.ref o1), .val (.int p2), .val (.int p3), .val (.int (own_rd R p3)), .val (.int (own_rd R p2)), .val (.int (own_rd R p2))] [(.int (own_rd R p2)), (.int (own_rd (own_j1 R (0 : Int32) (own_rd R p2) (own_rd R p3)) (1 : Int32)))])) t → Steps p.tables e below (s₁.setTop (entryFrame m #[(.ref o0), (.ref o1), (.int p2), (.int p3)] 7)) t := fun t k => prem11 t (by
          show Steps p.tables e below (T11.setTop (mkF m 55 #[.val (.ref o0), .val (.ref o1), .val (.int p2), .val (.int p3), .val (.int (own_rd R p3)), .val (.int (own_rd R p2)), .val (.int (own_rd R p2))] [])) _
          refine XS.aloadN X11.here hx rfl (hb hby d4_55) rfl rfl ?_
          show Steps p.tables e below (T11.setTop (mkF m 56 #[.val (.ref o0), .val (.ref o1), .val (.int p2), .val (.int p3), .val (.int (own_rd R p3)), .val (.int (own_rd R p2)), .val (.int (own_rd R p2))] [(.ref o0)])) _
          refine XS.iconst X11.here hx rfl (hb hby d4_56) ?_
          show Steps p.tables e below (T11.setTop (mkF m 57 #[.val (.ref o0), .val (.ref o1), .val (.int p2), .val (.int p3), .val (.int (own_rd R p3)), .val (.int (own_rd R p2)), .val (.int (own_rd R p2))] [(.int (1 : Int32)), (.ref o0)])) _
          refine X11.iaload hx (j := (1 : Int32)) (v := (.int (own_rd (own_j1 R (0 : Int32) (own_rd R p2) (own_rd R p3)) (1 : Int32)))) Ar20.1 (State.isArrayOf_alike hZ.alike Ar20.2.1) Ar20.2.2 hin20 hat20 (g := (mkF m 57 #[.val (.ref o0), .val (.ref o1), .val (.int p2), .val (.int p3), .val (.int (own_rd R p3)), .val (.int (own_rd R p2)), .val (.int (own_rd R p2))] [(.int (1 : Int32)), (.ref o0)])) rfl rfl (hb hby d4_57) _ ?_
          show Steps p.tables e below (T11.setTop (mkF m 58 #[.val (.ref o0), .val (.ref o1), .val (.int p2), .val (.int p3), .val (.int (own_rd R p3)), .val (.int (own_rd R p2)), .val (.int (own_rd R p2))] [(.int (own_rd (own_j1 R (0 : Int32) (own_rd R p2) (own_rd R p3)) (1 : Int32)))])) _
          refine XS.iload X11.here hx rfl (hb hby d4_58) rfl ?_
          exact k)
        by_cases hc60_22 : (own_rd (own_j1 R (0 : Int32) (own_rd R p2) (own_rd R p3)) (1 : Int32)) = (own_rd R p2)
        · obtain ⟨c23, Ar23, hin23, -⟩ := own_read G11_0 (by decide : own_in (4 : Int32) (1 : Int32))
          obtain ⟨T24, h24, X24, e24, W24, st24⟩ := stI X11 hx hZ rfl Ar23 (j := (1 : Int32)) hin23 (g := (mkF m 67 #[.val (.ref o0), .val (.ref o1), .val (.int p2), .val (.int p3), .val (.int (own_rd R p3)), .val (.int (own_rd R p2)), .val (.int (own_rd R p2))] [(.int (own_rd R p3)), (.int (1 : Int32)), (.ref o0)])) rfl rfl (hb hby d4_67)
          have V24 : own_A Z h24 o0 kr .int (4 : Int32) (own_wr (own_j1 R (0 : Int32) (own_rd R p2) (own_rd R p3)) (1 : Int32) (own_rd R p3)) := own_write G11_0 (by decide : own_in (4 : Int32) (1 : Int32)) W24
          have KK24 : Keep h0 h24 [o0, o1] := KK11.wr W24 (Or.inl (List.mem_of_getElem? (i := 0) rfl))
          have N24 := Fr.snoc X24 N11 g_o0
          have pre25 : ∀ t, Steps p.tables e below (T24.setTop (mkF m 68 #[.val (.ref o0), .val (.ref o1), .val (.int p2), .val (.int p3), .val (.int (own_rd R p3)), .val (.int (own_rd R p2)), .val (.int (own_rd R p2))] [])) t → Steps p.tables e below (s₁.setTop (entryFrame m #[(.ref o0), (.ref o1), (.int p2), (.int p3)] 7)) t := fun t k => pre21 t (by
            show Steps p.tables e below (T11.setTop (mkF m 60 #[.val (.ref o0), .val (.ref o1), .val (.int p2), .val (.int p3), .val (.int (own_rd R p3)), .val (.int (own_rd R p2)), .val (.int (own_rd R p2))] [(.int (own_rd R p2)), (.int (own_rd (own_j1 R (0 : Int32) (own_rd R p2) (own_rd R p3)) (1 : Int32)))])) _
            refine XS.icmpNo X11.here hx rfl (hb hby d4_60) rfl (teq hc60_22).2 ?_
            show Steps p.tables e below (T11.setTop (mkF m 63 #[.val (.ref o0), .val (.ref o1), .val (.int p2), .val (.int p3), .val (.int (own_rd R p3)), .val (.int (own_rd R p2)), .val (.int (own_rd R p2))] [])) _
            refine XS.aloadN X11.here hx rfl (hb hby d4_63) rfl rfl ?_
            show Steps p.tables e below (T11.setTop (mkF m 64 #[.val (.ref o0), .val (.ref o1), .val (.int p2), .val (.int p3), .val (.int (own_rd R p3)), .val (.int (own_rd R p2)), .val (.int (own_rd R p2))] [(.ref o0)])) _
            refine XS.iconst X11.here hx rfl (hb hby d4_64) ?_
            show Steps p.tables e below (T11.setTop (mkF m 65 #[.val (.ref o0), .val (.ref o1), .val (.int p2), .val (.int p3), .val (.int (own_rd R p3)), .val (.int (own_rd R p2)), .val (.int (own_rd R p2))] [(.int (1 : Int32)), (.ref o0)])) _
            refine XS.iload X11.here hx rfl (hb hby d4_65) rfl ?_
            show Steps p.tables e below (T11.setTop (mkF m 67 #[.val (.ref o0), .val (.ref o1), .val (.int p2), .val (.int p3), .val (.int (own_rd R p3)), .val (.int (own_rd R p2)), .val (.int (own_rd R p2))] [(.int (own_rd R p3)), (.int (1 : Int32)), (.ref o0)])) _
            refine st24 _ ?_
            exact k)
          exact ⟨T24, _, X24, N24, (by rw [e24]; exact KK24), (by rw [own_j1, if_pos hc60_22]; exact (by rw [e24]; exact V24)), (by rw [e24]; exact (G11_1.other W24 (Ne.symm n_o0_o1))), pre25⟩
        · have pre26 : ∀ t, Steps p.tables e below (T11.setTop (mkF m 68 #[.val (.ref o0), .val (.ref o1), .val (.int p2), .val (.int p3), .val (.int (own_rd R p3)), .val (.int (own_rd R p2)), .val (.int (own_rd R p2))] [])) t → Steps p.tables e below (s₁.setTop (entryFrame m #[(.ref o0), (.ref o1), (.int p2), (.int p3)] 7)) t := fun t k => pre21 t (by
            show Steps p.tables e below (T11.setTop (mkF m 60 #[.val (.ref o0), .val (.ref o1), .val (.int p2), .val (.int p3), .val (.int (own_rd R p3)), .val (.int (own_rd R p2)), .val (.int (own_rd R p2))] [(.int (own_rd R p2)), (.int (own_rd (own_j1 R (0 : Int32) (own_rd R p2) (own_rd R p3)) (1 : Int32)))])) _
            refine XS.icmpYes X11.here hx rfl (pc0 := 60) (pc' := 68) rfl (hb hby d4_60) rfl (feq hc60_22).2 (by decide) (by decide) ?_
            exact k)
          exact ⟨T11, _, X11, N11, KK11, (by rw [own_j1, if_neg hc60_22]; exact G11_0), G11_1, pre26⟩
      obtain ⟨T27, lc27, X27, N27, KK27, G27_0, G27_1, prem27⟩ : ∃ (T' : State) (lc' : List Loc), Stand p l e ({ frames := 0, cells := 0, slots := 0, locals := 0 } : Room) s m #[(.ref o0), (.ref o1), (.int p2), (.int p3)] below meth c T' lc' 0 0 ∧ Fr n0 lc' ∧ Keep h0 T'.heap [o0, o1] ∧ own_A Z T'.heap o0 kr .int (4 : Int32) (own_j1 (own_j1 (own_j1 R (0 : Int32) (own_rd R p2) (own_rd R p3)) (1 : Int32) (own_rd R p2) (own_rd R p3)) (2 : Int32) (own_rd R p2) (own_rd R p3)) ∧ own_A Z T'.heap o1 ky .int (4 : Int32) Y ∧ ∀ t, Steps p.tables e below (T'.setTop (mkF m 81 #[.val (.ref o0), .val (.ref o1), .val (.int p2), .val (.int p3), .val (.int (own_rd R p3)), .val (.int (own_rd R p2)), .val (.int (own_rd R p2))] [])) t → Steps p.tables e below (s₁.setTop (entryFrame m #[(.ref o0), (.ref o1), (.int p2), (.int p3)] 7)) t := by
        obtain ⟨c28, Ar28, hin28, hat28⟩ := own_read G19_0 (by decide : own_in (4 : Int32) (2 : Int32))
        have pre29 : ∀ t, Steps p.tables e below (T19.setTop (mkF m 73 #[.val (.ref o0), .val (.ref o1), .val (.int p2), .val (.int p3), .val (.int (own_rd R p3)), .val (.int (own_rd R p2)), .val (.int (own_rd R p2))] [(.int (own_rd R p2)), (.int (own_rd (own_j1 (own_j1 R (0 : Int32) (own_rd R p2) (own_rd R p3)) (1 : Int32) (own_rd R p2) (own_rd R p3)) (2 : Int32)))])) t → Steps p.tables e below (s₁.setTop (entryFrame m #[(.ref o0), (.ref o1), (.int p2), (.int p3)] 7)) t := fun t k => prem19 t (by
          show Steps p.tables e below (T19.setTop (mkF m 68 #[.val (.ref o0), .val (.ref o1), .val (.int p2), .val (.int p3), .val (.int (own_rd R p3)), .val (.int (own_rd R p2)), .val (.int (own_rd R p2))] [])) _
          refine XS.aloadN X19.here hx rfl (hb hby d4_68) rfl rfl ?_
          show Steps p.tables e below (T19.setTop (mkF m 69 #[.val (.ref o0), .val (.ref o1), .val (.int p2), .val (.int p3), .val (.int (own_rd R p3)), .val (.int (own_rd R p2)), .val (.int (own_rd R p2))] [(.ref o0)])) _
          refine XS.iconst X19.here hx rfl (hb hby d4_69) ?_
          show Steps p.tables e below (T19.setTop (mkF m 70 #[.val (.ref o0), .val (.ref o1), .val (.int p2), .val (.int p3), .val (.int (own_rd R p3)), .val (.int (own_rd R p2)), .val (.int (own_rd R p2))] [(.int (2 : Int32)), (.ref o0)])) _
          refine X19.iaload hx (j := (2 : Int32)) (v := (.int (own_rd (own_j1 (own_j1 R (0 : Int32) (own_rd R p2) (own_rd R p3)) (1 : Int32) (own_rd R p2) (own_rd R p3)) (2 : Int32)))) Ar28.1 (State.isArrayOf_alike hZ.alike Ar28.2.1) Ar28.2.2 hin28 hat28 (g := (mkF m 70 #[.val (.ref o0), .val (.ref o1), .val (.int p2), .val (.int p3), .val (.int (own_rd R p3)), .val (.int (own_rd R p2)), .val (.int (own_rd R p2))] [(.int (2 : Int32)), (.ref o0)])) rfl rfl (hb hby d4_70) _ ?_
          show Steps p.tables e below (T19.setTop (mkF m 71 #[.val (.ref o0), .val (.ref o1), .val (.int p2), .val (.int p3), .val (.int (own_rd R p3)), .val (.int (own_rd R p2)), .val (.int (own_rd R p2))] [(.int (own_rd (own_j1 (own_j1 R (0 : Int32) (own_rd R p2) (own_rd R p3)) (1 : Int32) (own_rd R p2) (own_rd R p3)) (2 : Int32)))])) _
          refine XS.iload X19.here hx rfl (hb hby d4_71) rfl ?_
          exact k)
        by_cases hc73_30 : (own_rd (own_j1 (own_j1 R (0 : Int32) (own_rd R p2) (own_rd R p3)) (1 : Int32) (own_rd R p2) (own_rd R p3)) (2 : Int32)) = (own_rd R p2)
        · obtain ⟨c31, Ar31, hin31, -⟩ := own_read G19_0 (by decide : own_in (4 : Int32) (2 : Int32))
          obtain ⟨T32, h32, X32, e32, W32, st32⟩ := stI X19 hx hZ rfl Ar31 (j := (2 : Int32)) hin31 (g := (mkF m 80 #[.val (.ref o0), .val (.ref o1), .val (.int p2), .val (.int p3), .val (.int (own_rd R p3)), .val (.int (own_rd R p2)), .val (.int (own_rd R p2))] [(.int (own_rd R p3)), (.int (2 : Int32)), (.ref o0)])) rfl rfl (hb hby d4_80)
          have V32 : own_A Z h32 o0 kr .int (4 : Int32) (own_wr (own_j1 (own_j1 R (0 : Int32) (own_rd R p2) (own_rd R p3)) (1 : Int32) (own_rd R p2) (own_rd R p3)) (2 : Int32) (own_rd R p3)) := own_write G19_0 (by decide : own_in (4 : Int32) (2 : Int32)) W32
          have KK32 : Keep h0 h32 [o0, o1] := KK19.wr W32 (Or.inl (List.mem_of_getElem? (i := 0) rfl))
          have N32 := Fr.snoc X32 N19 g_o0
          have pre33 : ∀ t, Steps p.tables e below (T32.setTop (mkF m 81 #[.val (.ref o0), .val (.ref o1), .val (.int p2), .val (.int p3), .val (.int (own_rd R p3)), .val (.int (own_rd R p2)), .val (.int (own_rd R p2))] [])) t → Steps p.tables e below (s₁.setTop (entryFrame m #[(.ref o0), (.ref o1), (.int p2), (.int p3)] 7)) t := fun t k => pre29 t (by
            show Steps p.tables e below (T19.setTop (mkF m 73 #[.val (.ref o0), .val (.ref o1), .val (.int p2), .val (.int p3), .val (.int (own_rd R p3)), .val (.int (own_rd R p2)), .val (.int (own_rd R p2))] [(.int (own_rd R p2)), (.int (own_rd (own_j1 (own_j1 R (0 : Int32) (own_rd R p2) (own_rd R p3)) (1 : Int32) (own_rd R p2) (own_rd R p3)) (2 : Int32)))])) _
            refine XS.icmpNo X19.here hx rfl (hb hby d4_73) rfl (teq hc73_30).2 ?_
            show Steps p.tables e below (T19.setTop (mkF m 76 #[.val (.ref o0), .val (.ref o1), .val (.int p2), .val (.int p3), .val (.int (own_rd R p3)), .val (.int (own_rd R p2)), .val (.int (own_rd R p2))] [])) _
            refine XS.aloadN X19.here hx rfl (hb hby d4_76) rfl rfl ?_
            show Steps p.tables e below (T19.setTop (mkF m 77 #[.val (.ref o0), .val (.ref o1), .val (.int p2), .val (.int p3), .val (.int (own_rd R p3)), .val (.int (own_rd R p2)), .val (.int (own_rd R p2))] [(.ref o0)])) _
            refine XS.iconst X19.here hx rfl (hb hby d4_77) ?_
            show Steps p.tables e below (T19.setTop (mkF m 78 #[.val (.ref o0), .val (.ref o1), .val (.int p2), .val (.int p3), .val (.int (own_rd R p3)), .val (.int (own_rd R p2)), .val (.int (own_rd R p2))] [(.int (2 : Int32)), (.ref o0)])) _
            refine XS.iload X19.here hx rfl (hb hby d4_78) rfl ?_
            show Steps p.tables e below (T19.setTop (mkF m 80 #[.val (.ref o0), .val (.ref o1), .val (.int p2), .val (.int p3), .val (.int (own_rd R p3)), .val (.int (own_rd R p2)), .val (.int (own_rd R p2))] [(.int (own_rd R p3)), (.int (2 : Int32)), (.ref o0)])) _
            refine st32 _ ?_
            exact k)
          exact ⟨T32, _, X32, N32, (by rw [e32]; exact KK32), (by rw [own_j1, if_pos hc73_30]; exact (by rw [e32]; exact V32)), (by rw [e32]; exact (G19_1.other W32 (Ne.symm n_o0_o1))), pre33⟩
        · have pre34 : ∀ t, Steps p.tables e below (T19.setTop (mkF m 81 #[.val (.ref o0), .val (.ref o1), .val (.int p2), .val (.int p3), .val (.int (own_rd R p3)), .val (.int (own_rd R p2)), .val (.int (own_rd R p2))] [])) t → Steps p.tables e below (s₁.setTop (entryFrame m #[(.ref o0), (.ref o1), (.int p2), (.int p3)] 7)) t := fun t k => pre29 t (by
            show Steps p.tables e below (T19.setTop (mkF m 73 #[.val (.ref o0), .val (.ref o1), .val (.int p2), .val (.int p3), .val (.int (own_rd R p3)), .val (.int (own_rd R p2)), .val (.int (own_rd R p2))] [(.int (own_rd R p2)), (.int (own_rd (own_j1 (own_j1 R (0 : Int32) (own_rd R p2) (own_rd R p3)) (1 : Int32) (own_rd R p2) (own_rd R p3)) (2 : Int32)))])) _
            refine XS.icmpYes X19.here hx rfl (pc0 := 73) (pc' := 81) rfl (hb hby d4_73) rfl (feq hc73_30).2 (by decide) (by decide) ?_
            exact k)
          exact ⟨T19, _, X19, N19, KK19, (by rw [own_j1, if_neg hc73_30]; exact G19_0), G19_1, pre34⟩
      obtain ⟨T35, lc35, X35, N35, KK35, G35_0, G35_1, prem35⟩ : ∃ (T' : State) (lc' : List Loc), Stand p l e ({ frames := 0, cells := 0, slots := 0, locals := 0 } : Room) s m #[(.ref o0), (.ref o1), (.int p2), (.int p3)] below meth c T' lc' 0 0 ∧ Fr n0 lc' ∧ Keep h0 T'.heap [o0, o1] ∧ own_A Z T'.heap o0 kr .int (4 : Int32) (own_j1 (own_j1 (own_j1 (own_j1 R (0 : Int32) (own_rd R p2) (own_rd R p3)) (1 : Int32) (own_rd R p2) (own_rd R p3)) (2 : Int32) (own_rd R p2) (own_rd R p3)) (3 : Int32) (own_rd R p2) (own_rd R p3)) ∧ own_A Z T'.heap o1 ky .int (4 : Int32) Y ∧ ∀ t, Steps p.tables e below (T'.setTop (mkF m 94 #[.val (.ref o0), .val (.ref o1), .val (.int p2), .val (.int p3), .val (.int (own_rd R p3)), .val (.int (own_rd R p2)), .val (.int (own_rd R p2))] [])) t → Steps p.tables e below (s₁.setTop (entryFrame m #[(.ref o0), (.ref o1), (.int p2), (.int p3)] 7)) t := by
        obtain ⟨c36, Ar36, hin36, hat36⟩ := own_read G27_0 (by decide : own_in (4 : Int32) (3 : Int32))
        have pre37 : ∀ t, Steps p.tables e below (T27.setTop (mkF m 86 #[.val (.ref o0), .val (.ref o1), .val (.int p2), .val (.int p3), .val (.int (own_rd R p3)), .val (.int (own_rd R p2)), .val (.int (own_rd R p2))] [(.int (own_rd R p2)), (.int (own_rd (own_j1 (own_j1 (own_j1 R (0 : Int32) (own_rd R p2) (own_rd R p3)) (1 : Int32) (own_rd R p2) (own_rd R p3)) (2 : Int32) (own_rd R p2) (own_rd R p3)) (3 : Int32)))])) t → Steps p.tables e below (s₁.setTop (entryFrame m #[(.ref o0), (.ref o1), (.int p2), (.int p3)] 7)) t := fun t k => prem27 t (by
          show Steps p.tables e below (T27.setTop (mkF m 81 #[.val (.ref o0), .val (.ref o1), .val (.int p2), .val (.int p3), .val (.int (own_rd R p3)), .val (.int (own_rd R p2)), .val (.int (own_rd R p2))] [])) _
          refine XS.aloadN X27.here hx rfl (hb hby d4_81) rfl rfl ?_
          show Steps p.tables e below (T27.setTop (mkF m 82 #[.val (.ref o0), .val (.ref o1), .val (.int p2), .val (.int p3), .val (.int (own_rd R p3)), .val (.int (own_rd R p2)), .val (.int (own_rd R p2))] [(.ref o0)])) _
          refine XS.iconst X27.here hx rfl (hb hby d4_82) ?_
          show Steps p.tables e below (T27.setTop (mkF m 83 #[.val (.ref o0), .val (.ref o1), .val (.int p2), .val (.int p3), .val (.int (own_rd R p3)), .val (.int (own_rd R p2)), .val (.int (own_rd R p2))] [(.int (3 : Int32)), (.ref o0)])) _
          refine X27.iaload hx (j := (3 : Int32)) (v := (.int (own_rd (own_j1 (own_j1 (own_j1 R (0 : Int32) (own_rd R p2) (own_rd R p3)) (1 : Int32) (own_rd R p2) (own_rd R p3)) (2 : Int32) (own_rd R p2) (own_rd R p3)) (3 : Int32)))) Ar36.1 (State.isArrayOf_alike hZ.alike Ar36.2.1) Ar36.2.2 hin36 hat36 (g := (mkF m 83 #[.val (.ref o0), .val (.ref o1), .val (.int p2), .val (.int p3), .val (.int (own_rd R p3)), .val (.int (own_rd R p2)), .val (.int (own_rd R p2))] [(.int (3 : Int32)), (.ref o0)])) rfl rfl (hb hby d4_83) _ ?_
          show Steps p.tables e below (T27.setTop (mkF m 84 #[.val (.ref o0), .val (.ref o1), .val (.int p2), .val (.int p3), .val (.int (own_rd R p3)), .val (.int (own_rd R p2)), .val (.int (own_rd R p2))] [(.int (own_rd (own_j1 (own_j1 (own_j1 R (0 : Int32) (own_rd R p2) (own_rd R p3)) (1 : Int32) (own_rd R p2) (own_rd R p3)) (2 : Int32) (own_rd R p2) (own_rd R p3)) (3 : Int32)))])) _
          refine XS.iload X27.here hx rfl (hb hby d4_84) rfl ?_
          exact k)
        by_cases hc86_38 : (own_rd (own_j1 (own_j1 (own_j1 R (0 : Int32) (own_rd R p2) (own_rd R p3)) (1 : Int32) (own_rd R p2) (own_rd R p3)) (2 : Int32) (own_rd R p2) (own_rd R p3)) (3 : Int32)) = (own_rd R p2)
        · obtain ⟨c39, Ar39, hin39, -⟩ := own_read G27_0 (by decide : own_in (4 : Int32) (3 : Int32))
          obtain ⟨T40, h40, X40, e40, W40, st40⟩ := stI X27 hx hZ rfl Ar39 (j := (3 : Int32)) hin39 (g := (mkF m 93 #[.val (.ref o0), .val (.ref o1), .val (.int p2), .val (.int p3), .val (.int (own_rd R p3)), .val (.int (own_rd R p2)), .val (.int (own_rd R p2))] [(.int (own_rd R p3)), (.int (3 : Int32)), (.ref o0)])) rfl rfl (hb hby d4_93)
          have V40 : own_A Z h40 o0 kr .int (4 : Int32) (own_wr (own_j1 (own_j1 (own_j1 R (0 : Int32) (own_rd R p2) (own_rd R p3)) (1 : Int32) (own_rd R p2) (own_rd R p3)) (2 : Int32) (own_rd R p2) (own_rd R p3)) (3 : Int32) (own_rd R p3)) := own_write G27_0 (by decide : own_in (4 : Int32) (3 : Int32)) W40
          have KK40 : Keep h0 h40 [o0, o1] := KK27.wr W40 (Or.inl (List.mem_of_getElem? (i := 0) rfl))
          have N40 := Fr.snoc X40 N27 g_o0
          have pre41 : ∀ t, Steps p.tables e below (T40.setTop (mkF m 94 #[.val (.ref o0), .val (.ref o1), .val (.int p2), .val (.int p3), .val (.int (own_rd R p3)), .val (.int (own_rd R p2)), .val (.int (own_rd R p2))] [])) t → Steps p.tables e below (s₁.setTop (entryFrame m #[(.ref o0), (.ref o1), (.int p2), (.int p3)] 7)) t := fun t k => pre37 t (by
            show Steps p.tables e below (T27.setTop (mkF m 86 #[.val (.ref o0), .val (.ref o1), .val (.int p2), .val (.int p3), .val (.int (own_rd R p3)), .val (.int (own_rd R p2)), .val (.int (own_rd R p2))] [(.int (own_rd R p2)), (.int (own_rd (own_j1 (own_j1 (own_j1 R (0 : Int32) (own_rd R p2) (own_rd R p3)) (1 : Int32) (own_rd R p2) (own_rd R p3)) (2 : Int32) (own_rd R p2) (own_rd R p3)) (3 : Int32)))])) _
            refine XS.icmpNo X27.here hx rfl (hb hby d4_86) rfl (teq hc86_38).2 ?_
            show Steps p.tables e below (T27.setTop (mkF m 89 #[.val (.ref o0), .val (.ref o1), .val (.int p2), .val (.int p3), .val (.int (own_rd R p3)), .val (.int (own_rd R p2)), .val (.int (own_rd R p2))] [])) _
            refine XS.aloadN X27.here hx rfl (hb hby d4_89) rfl rfl ?_
            show Steps p.tables e below (T27.setTop (mkF m 90 #[.val (.ref o0), .val (.ref o1), .val (.int p2), .val (.int p3), .val (.int (own_rd R p3)), .val (.int (own_rd R p2)), .val (.int (own_rd R p2))] [(.ref o0)])) _
            refine XS.iconst X27.here hx rfl (hb hby d4_90) ?_
            show Steps p.tables e below (T27.setTop (mkF m 91 #[.val (.ref o0), .val (.ref o1), .val (.int p2), .val (.int p3), .val (.int (own_rd R p3)), .val (.int (own_rd R p2)), .val (.int (own_rd R p2))] [(.int (3 : Int32)), (.ref o0)])) _
            refine XS.iload X27.here hx rfl (hb hby d4_91) rfl ?_
            show Steps p.tables e below (T27.setTop (mkF m 93 #[.val (.ref o0), .val (.ref o1), .val (.int p2), .val (.int p3), .val (.int (own_rd R p3)), .val (.int (own_rd R p2)), .val (.int (own_rd R p2))] [(.int (own_rd R p3)), (.int (3 : Int32)), (.ref o0)])) _
            refine st40 _ ?_
            exact k)
          exact ⟨T40, _, X40, N40, (by rw [e40]; exact KK40), (by rw [own_j1, if_pos hc86_38]; exact (by rw [e40]; exact V40)), (by rw [e40]; exact (G27_1.other W40 (Ne.symm n_o0_o1))), pre41⟩
        · have pre42 : ∀ t, Steps p.tables e below (T27.setTop (mkF m 94 #[.val (.ref o0), .val (.ref o1), .val (.int p2), .val (.int p3), .val (.int (own_rd R p3)), .val (.int (own_rd R p2)), .val (.int (own_rd R p2))] [])) t → Steps p.tables e below (s₁.setTop (entryFrame m #[(.ref o0), (.ref o1), (.int p2), (.int p3)] 7)) t := fun t k => pre37 t (by
            show Steps p.tables e below (T27.setTop (mkF m 86 #[.val (.ref o0), .val (.ref o1), .val (.int p2), .val (.int p3), .val (.int (own_rd R p3)), .val (.int (own_rd R p2)), .val (.int (own_rd R p2))] [(.int (own_rd R p2)), (.int (own_rd (own_j1 (own_j1 (own_j1 R (0 : Int32) (own_rd R p2) (own_rd R p3)) (1 : Int32) (own_rd R p2) (own_rd R p3)) (2 : Int32) (own_rd R p2) (own_rd R p3)) (3 : Int32)))])) _
            refine XS.icmpYes X27.here hx rfl (pc0 := 86) (pc' := 94) rfl (hb hby d4_86) rfl (feq hc86_38).2 (by decide) (by decide) ?_
            exact k)
          exact ⟨T27, _, X27, N27, KK27, (by rw [own_j1, if_neg hc86_38]; exact G27_0), G27_1, pre42⟩
      obtain ⟨c43, Ar43, hin43, hat43⟩ := own_read G35_1 hb2
      obtain ⟨c44, Ar44, hin44, hat44⟩ := own_read G35_1 hb1
      obtain ⟨c45, Ar45, hin45, -⟩ := own_read G35_1 hb2
      obtain ⟨T46, h46, X46, e46, W46, st46⟩ := stI X35 hx hZ rfl Ar45 (j := (own_rd R p3)) hin45 (g := (mkF m 104 #[.val (.ref o0), .val (.ref o1), .val (.int p2), .val (.int p3), .val (.int (own_rd R p3)), .val (.int (own_rd R p2)), .val (.int (own_rd R p2))] [(.int ((own_rd Y (own_rd R p3)) + (own_rd Y (own_rd R p2)))), (.int (own_rd R p3)), (.ref o1)])) rfl rfl (hb hby d4_104)
      have V46 : own_A Z h46 o1 ky .int (4 : Int32) (own_wr Y (own_rd R p3) ((own_rd Y (own_rd R p3)) + (own_rd Y (own_rd R p2)))) := own_write G35_1 hb2 W46
      have KK46 : Keep h0 h46 [o0, o1] := KK35.wr W46 (Or.inl (List.mem_of_getElem? (i := 1) rfl))
      have N46 := Fr.snoc X46 N35 g_o1
      have pre47 : ∀ t, Steps p.tables e below (T46.setTop (mkF m 106 #[.val (.ref o0), .val (.ref o1), .val (.int p2), .val (.int p3), .val (.int (own_rd R p3)), .val (.int (own_rd R p2)), .val (.int (own_rd R p2))] [(.int (1 : Int32))])) t → Steps p.tables e below (s₁.setTop (entryFrame m #[(.ref o0), (.ref o1), (.int p2), (.int p3)] 7)) t := fun t k => prem35 t (by
        show Steps p.tables e below (T35.setTop (mkF m 94 #[.val (.ref o0), .val (.ref o1), .val (.int p2), .val (.int p3), .val (.int (own_rd R p3)), .val (.int (own_rd R p2)), .val (.int (own_rd R p2))] [])) _
        refine XS.aloadN X35.here hx rfl (hb hby d4_94) rfl rfl ?_
        show Steps p.tables e below (T35.setTop (mkF m 95 #[.val (.ref o0), .val (.ref o1), .val (.int p2), .val (.int p3), .val (.int (own_rd R p3)), .val (.int (own_rd R p2)), .val (.int (own_rd R p2))] [(.ref o1)])) _
        refine XS.iload X35.here hx rfl (hb hby d4_95) rfl ?_
        show Steps p.tables e below (T35.setTop (mkF m 97 #[.val (.ref o0), .val (.ref o1), .val (.int p2), .val (.int p3), .val (.int (own_rd R p3)), .val (.int (own_rd R p2)), .val (.int (own_rd R p2))] [(.int (own_rd R p3)), (.ref o1)])) _
        refine Jvm.Free.XT.dup2 X35.here hx rfl (hb hby d4_97) rfl rfl rfl ?_
        show Steps p.tables e below (T35.setTop (mkF m 98 #[.val (.ref o0), .val (.ref o1), .val (.int p2), .val (.int p3), .val (.int (own_rd R p3)), .val (.int (own_rd R p2)), .val (.int (own_rd R p2))] [(.int (own_rd R p3)), (.ref o1), (.int (own_rd R p3)), (.ref o1)])) _
        refine X35.iaload hx (j := (own_rd R p3)) (v := (.int (own_rd Y (own_rd R p3)))) Ar43.1 (State.isArrayOf_alike hZ.alike Ar43.2.1) Ar43.2.2 hin43 hat43 (g := (mkF m 98 #[.val (.ref o0), .val (.ref o1), .val (.int p2), .val (.int p3), .val (.int (own_rd R p3)), .val (.int (own_rd R p2)), .val (.int (own_rd R p2))] [(.int (own_rd R p3)), (.ref o1), (.int (own_rd R p3)), (.ref o1)])) rfl rfl (hb hby d4_98) _ ?_
        show Steps p.tables e below (T35.setTop (mkF m 99 #[.val (.ref o0), .val (.ref o1), .val (.int p2), .val (.int p3), .val (.int (own_rd R p3)), .val (.int (own_rd R p2)), .val (.int (own_rd R p2))] [(.int (own_rd Y (own_rd R p3))), (.int (own_rd R p3)), (.ref o1)])) _
        refine XS.aloadN X35.here hx rfl (hb hby d4_99) rfl rfl ?_
        show Steps p.tables e below (T35.setTop (mkF m 100 #[.val (.ref o0), .val (.ref o1), .val (.int p2), .val (.int p3), .val (.int (own_rd R p3)), .val (.int (own_rd R p2)), .val (.int (own_rd R p2))] [(.ref o1), (.int (own_rd Y (own_rd R p3))), (.int (own_rd R p3)), (.ref o1)])) _
        refine XS.iload X35.here hx rfl (hb hby d4_100) rfl ?_
        show Steps p.tables e below (T35.setTop (mkF m 102 #[.val (.ref o0), .val (.ref o1), .val (.int p2), .val (.int p3), .val (.int (own_rd R p3)), .val (.int (own_rd R p2)), .val (.int (own_rd R p2))] [(.int (own_rd R p2)), (.ref o1), (.int (own_rd Y (own_rd R p3))), (.int (own_rd R p3)), (.ref o1)])) _
        refine X35.iaload hx (j := (own_rd R p2)) (v := (.int (own_rd Y (own_rd R p2)))) Ar44.1 (State.isArrayOf_alike hZ.alike Ar44.2.1) Ar44.2.2 hin44 hat44 (g := (mkF m 102 #[.val (.ref o0), .val (.ref o1), .val (.int p2), .val (.int p3), .val (.int (own_rd R p3)), .val (.int (own_rd R p2)), .val (.int (own_rd R p2))] [(.int (own_rd R p2)), (.ref o1), (.int (own_rd Y (own_rd R p3))), (.int (own_rd R p3)), (.ref o1)])) rfl rfl (hb hby d4_102) _ ?_
        show Steps p.tables e below (T35.setTop (mkF m 103 #[.val (.ref o0), .val (.ref o1), .val (.int p2), .val (.int p3), .val (.int (own_rd R p3)), .val (.int (own_rd R p2)), .val (.int (own_rd R p2))] [(.int (own_rd Y (own_rd R p2))), (.int (own_rd Y (own_rd R p3))), (.int (own_rd R p3)), (.ref o1)])) _
        refine XS.iadd X35.here hx rfl (hb hby d4_103) rfl ?_
        show Steps p.tables e below (T35.setTop (mkF m 104 #[.val (.ref o0), .val (.ref o1), .val (.int p2), .val (.int p3), .val (.int (own_rd R p3)), .val (.int (own_rd R p2)), .val (.int (own_rd R p2))] [(.int ((own_rd Y (own_rd R p3)) + (own_rd Y (own_rd R p2)))), (.int (own_rd R p3)), (.ref o1)])) _
        refine st46 _ ?_
        show Steps p.tables e below (T46.setTop (mkF m 105 #[.val (.ref o0), .val (.ref o1), .val (.int p2), .val (.int p3), .val (.int (own_rd R p3)), .val (.int (own_rd R p2)), .val (.int (own_rd R p2))] [])) _
        refine XS.iconst X46.here hx rfl (hb hby d4_105) ?_
        exact k)
      obtain ⟨fs, hr, hrun, hended, hW, hsame⟩ := X46.leave (v := some (.int (1 : Int32))) (fun h => by rw [Bd.returns] at h; cases h)
      refine ⟨_, _, pre47 _ ?_, hrun, hended, _, _, rfl, ?_, ⟨_, rfl⟩, hW, hsame.mono (by decide) (by decide)⟩
      · exact retN X46 hx (t := .boolean) Bd.returns (by simp) (hb hby d4_106) hr
      · show Q4 Z o0 o1 p2 p3 kr R ky Y h0 n0 _ T46.heap _
        rw [e46]
        exact ⟨by rw [own_jV, if_neg hc14_4], N46, KK46, by rw [own_jR, if_neg hc14_4, if_pos hc27_9]; exact (G35_0.other W46 n_o0_o1), by rw [own_jY, if_neg hc14_4, if_pos hc27_9]; exact V46⟩
    · have pre48 : ∀ t, Steps p.tables e below (s₁.setTop (mkF m 42 #[.val (.ref o0), .val (.ref o1), .val (.int p2), .val (.int p3), .val (.int (own_rd R p2)), .val (.int (own_rd R p3)), .unset] [])) t → Steps p.tables e below (s₁.setTop (entryFrame m #[(.ref o0), (.ref o1), (.int p2), (.int p3)] 7)) t := fun t k => pre8 t (by
        show Steps p.tables e below (s₁.setTop (mkF m 27 #[.val (.ref o0), .val (.ref o1), .val (.int p2), .val (.int p3), .val (.int (own_rd R p2)), .val (.int (own_rd R p3)), .unset] [(.int (own_rd Y (own_rd R p3))), (.int (own_rd Y (own_rd R p2)))])) _
        refine XS.icmpYes X0.here hx rfl (pc0 := 27) (pc' := 42) rfl (hb hby d4_27) rfl (flt hc27_9).2.1 (by decide) (by decide) ?_
        exact k)
      obtain ⟨T49, lc49, X49, N49, KK49, G49_0, G49_1, prem49⟩ : ∃ (T' : State) (lc' : List Loc), Stand p l e ({ frames := 0, cells := 0, slots := 0, locals := 0 } : Room) s m #[(.ref o0), (.ref o1), (.int p2), (.int p3)] below meth c T' lc' 0 0 ∧ Fr n0 lc' ∧ Keep h0 T'.heap [o0, o1] ∧ own_A Z T'.heap o0 kr .int (4 : Int32) (own_j1 R (0 : Int32) (own_rd R p3) (own_rd R p2)) ∧ own_A Z T'.heap o1 ky .int (4 : Int32) Y ∧ ∀ t, Steps p.tables e below (T'.setTop (mkF m 55 #[.val (.ref o0), .val (.ref o1), .val (.int p2), .val (.int p3), .val (.int (own_rd R p2)), .val (.int (own_rd R p3)), .unset] [])) t → Steps p.tables e below (s₁.setTop (entryFrame m #[(.ref o0), (.ref o1), (.int p2), (.int p3)] 7)) t := by
        obtain ⟨c50, Ar50, hin50, hat50⟩ := own_read V_o0 (by decide : own_in (4 : Int32) (0 : Int32))
        have pre51 : ∀ t, Steps p.tables e below (s₁.setTop (mkF m 47 #[.val (.ref o0), .val (.ref o1), .val (.int p2), .val (.int p3), .val (.int (own_rd R p2)), .val (.int (own_rd R p3)), .unset] [(.int (own_rd R p3)), (.int (own_rd R (0 : Int32)))])) t → Steps p.tables e below (s₁.setTop (entryFrame m #[(.ref o0), (.ref o1), (.int p2), (.int p3)] 7)) t := fun t k => pre48 t (by
          show Steps p.tables e below (s₁.setTop (mkF m 42 #[.val (.ref o0), .val (.ref o1), .val (.int p2), .val (.int p3), .val (.int (own_rd R p2)), .val (.int (own_rd R p3)), .unset] [])) _
          refine XS.aloadN X0.here hx rfl (hb hby d4_42) rfl rfl ?_
          show Steps p.tables e below (s₁.setTop (mkF m 43 #[.val (.ref o0), .val (.ref o1), .val (.int p2), .val (.int p3), .val (.int (own_rd R p2)), .val (.int (own_rd R p3)), .unset] [(.ref o0)])) _
          refine XS.iconst X0.here hx rfl (hb hby d4_43) ?_
          show Steps p.tables e below (s₁.setTop (mkF m 44 #[.val (.ref o0), .val (.ref o1), .val (.int p2), .val (.int p3), .val (.int (own_rd R p2)), .val (.int (own_rd R p3)), .unset] [(.int (0 : Int32)), (.ref o0)])) _
          refine X0.iaload hx (j := (0 : Int32)) (v := (.int (own_rd R (0 : Int32)))) (by rw [e0]; exact Ar50.1) (State.isArrayOf_alike hZ.alike Ar50.2.1) Ar50.2.2 hin50 hat50 (g := (mkF m 44 #[.val (.ref o0), .val (.ref o1), .val (.int p2), .val (.int p3), .val (.int (own_rd R p2)), .val (.int (own_rd R p3)), .unset] [(.int (0 : Int32)), (.ref o0)])) rfl rfl (hb hby d4_44) _ ?_
          show Steps p.tables e below (s₁.setTop (mkF m 45 #[.val (.ref o0), .val (.ref o1), .val (.int p2), .val (.int p3), .val (.int (own_rd R p2)), .val (.int (own_rd R p3)), .unset] [(.int (own_rd R (0 : Int32)))])) _
          refine XS.iload X0.here hx rfl (hb hby d4_45) rfl ?_
          exact k)
        by_cases hc47_52 : (own_rd R (0 : Int32)) = (own_rd R p3)
        · obtain ⟨c53, Ar53, hin53, -⟩ := own_read V_o0 (by decide : own_in (4 : Int32) (0 : Int32))
          obtain ⟨T54, h54, X54, e54, W54, st54⟩ := stI X0 hx hZ e0 Ar53 (j := (0 : Int32)) hin53 (g := (mkF m 54 #[.val (.ref o0), .val (.ref o1), .val (.int p2), .val (.int p3), .val (.int (own_rd R p2)), .val (.int (own_rd R p3)), .unset] [(.int (own_rd R p2)), (.int (0 : Int32)), (.ref o0)])) rfl rfl (hb hby d4_54)
          have V54 : own_A Z h54 o0 kr .int (4 : Int32) (own_wr R (0 : Int32) (own_rd R p2)) := own_write V_o0 (by decide : own_in (4 : Int32) (0 : Int32)) W54
          have KK54 : Keep h0 h54 [o0, o1] := (Keep.refl h0 [o0, o1]).wr W54 (Or.inl (List.mem_of_getElem? (i := 0) rfl))
          have N54 := Fr.snoc X54 N0 g_o0
          have pre55 : ∀ t, Steps p.tables e below (T54.setTop (mkF m 55 #[.val (.ref o0), .val (.ref o1), .val (.int p2), .val (.int p3), .val (.int (own_rd R p2)), .val (.int (own_rd R p3)), .unset] [])) t → Steps p.tables e below (s₁.setTop (entryFrame m #[(.ref o0), (.ref o1), (.int p2), (.int p3)] 7)) t := fun t k => pre51 t (by
            show Steps p.tables e below (s₁.setTop (mkF m 47 #[.val (.ref o0), .val (.ref o1), .val (.int p2), .val (.int p3), .val (.int (own_rd R p2)), .val (.int (own_rd R p3)), .unset] [(.int (own_rd R p3)), (.int (own_rd R (0 : Int32)))])) _
            refine XS.icmpNo X0.here hx rfl (hb hby d4_47) rfl (teq hc47_52).2 ?_
            show Steps p.tables e below (s₁.setTop (mkF m 50 #[.val (.ref o0), .val (.ref o1), .val (.int p2), .val (.int p3), .val (.int (own_rd R p2)), .val (.int (own_rd R p3)), .unset] [])) _
            refine XS.aloadN X0.here hx rfl (hb hby d4_50) rfl rfl ?_
            show Steps p.tables e below (s₁.setTop (mkF m 51 #[.val (.ref o0), .val (.ref o1), .val (.int p2), .val (.int p3), .val (.int (own_rd R p2)), .val (.int (own_rd R p3)), .unset] [(.ref o0)])) _
            refine XS.iconst X0.here hx rfl (hb hby d4_51) ?_
            show Steps p.tables e below (s₁.setTop (mkF m 52 #[.val (.ref o0), .val (.ref o1), .val (.int p2), .val (.int p3), .val (.int (own_rd R p2)), .val (.int (own_rd R p3)), .unset] [(.int (0 : Int32)), (.ref o0)])) _
            refine XS.iload X0.here hx rfl (hb hby d4_52) rfl ?_
            show Steps p.tables e below (s₁.setTop (mkF m 54 #[.val (.ref o0), .val (.ref o1), .val (.int p2), .val (.int p3), .val (.int (own_rd R p2)), .val (.int (own_rd R p3)), .unset] [(.int (own_rd R p2)), (.int (0 : Int32)), (.ref o0)])) _
            refine st54 _ ?_
            exact k)
          exact ⟨T54, _, X54, N54, (by rw [e54]; exact KK54), (by rw [own_j1, if_pos hc47_52]; exact (by rw [e54]; exact V54)), (by rw [e54]; exact (V_o1.other W54 (Ne.symm n_o0_o1))), pre55⟩
        · have pre56 : ∀ t, Steps p.tables e below (s₁.setTop (mkF m 55 #[.val (.ref o0), .val (.ref o1), .val (.int p2), .val (.int p3), .val (.int (own_rd R p2)), .val (.int (own_rd R p3)), .unset] [])) t → Steps p.tables e below (s₁.setTop (entryFrame m #[(.ref o0), (.ref o1), (.int p2), (.int p3)] 7)) t := fun t k => pre51 t (by
            show Steps p.tables e below (s₁.setTop (mkF m 47 #[.val (.ref o0), .val (.ref o1), .val (.int p2), .val (.int p3), .val (.int (own_rd R p2)), .val (.int (own_rd R p3)), .unset] [(.int (own_rd R p3)), (.int (own_rd R (0 : Int32)))])) _
            refine XS.icmpYes X0.here hx rfl (pc0 := 47) (pc' := 55) rfl (hb hby d4_47) rfl (feq hc47_52).2 (by decide) (by decide) ?_
            exact k)
          exact ⟨s₁, _, X0, N0, (by rw [e0]; exact (Keep.refl h0 [o0, o1])), (by rw [own_j1, if_neg hc47_52]; exact (by rw [e0]; exact V_o0)), (by rw [e0]; exact V_o1), pre56⟩
      obtain ⟨T57, lc57, X57, N57, KK57, G57_0, G57_1, prem57⟩ : ∃ (T' : State) (lc' : List Loc), Stand p l e ({ frames := 0, cells := 0, slots := 0, locals := 0 } : Room) s m #[(.ref o0), (.ref o1), (.int p2), (.int p3)] below meth c T' lc' 0 0 ∧ Fr n0 lc' ∧ Keep h0 T'.heap [o0, o1] ∧ own_A Z T'.heap o0 kr .int (4 : Int32) (own_j1 (own_j1 R (0 : Int32) (own_rd R p3) (own_rd R p2)) (1 : Int32) (own_rd R p3) (own_rd R p2)) ∧ own_A Z T'.heap o1 ky .int (4 : Int32) Y ∧ ∀ t, Steps p.tables e below (T'.setTop (mkF m 68 #[.val (.ref o0), .val (.ref o1), .val (.int p2), .val (.int p3), .val (.int (own_rd R p2)), .val (.int (own_rd R p3)), .unset] [])) t → Steps p.tables e below (s₁.setTop (entryFrame m #[(.ref o0), (.ref o1), (.int p2), (.int p3)] 7)) t := by
        obtain ⟨c58, Ar58, hin58, hat58⟩ := own_read G49_0 (by decide : own_in (4 : Int32) (1 : Int32))
        have pre59 : ∀ t, Steps p.tables e below (T49.setTop (mkF m 60 #[.val (.ref o0), .val (.ref o1), .val (.int p2), .val (.int p3), .val (.int (own_rd R p2)), .val (.int (own_rd R p3)), .unset] [(.int (own_rd R p3)), (.int (own_rd (own_j1 R (0 : Int32) (own_rd R p3) (own_rd R p2)) (1 : Int32)))])) t → Steps p.tables e below (s₁.setTop (entryFrame m #[(.ref o0), (.ref o1), (.int p2), (.int p3)] 7)) t := fun t k => prem49 t (by
          show Steps p.tables e below (T49.setTop (mkF m 55 #[.val (.ref o0), .val (.ref o1), .val (.int p2), .val (.int p3), .val (.int (own_rd R p2)), .val (.int (own_rd R p3)), .unset] [])) _
          refine XS.aloadN X49.here hx rfl (hb hby d4_55) rfl rfl ?_
          show Steps p.tables e below (T49.setTop (mkF m 56 #[.val (.ref o0), .val (.ref o1), .val (.int p2), .val (.int p3), .val (.int (own_rd R p2)), .val (.int (own_rd R p3)), .unset] [(.ref o0)])) _
          refine XS.iconst X49.here hx rfl (hb hby d4_56) ?_
          show Steps p.tables e below (T49.setTop (mkF m 57 #[.val (.ref o0), .val (.ref o1), .val (.int p2), .val (.int p3), .val (.int (own_rd R p2)), .val (.int (own_rd R p3)), .unset] [(.int (1 : Int32)), (.ref o0)])) _
          refine X49.iaload hx (j := (1 : Int32)) (v := (.int (own_rd (own_j1 R (0 : Int32) (own_rd R p3) (own_rd R p2)) (1 : Int32)))) Ar58.1 (State.isArrayOf_alike hZ.alike Ar58.2.1) Ar58.2.2 hin58 hat58 (g := (mkF m 57 #[.val (.ref o0), .val (.ref o1), .val (.int p2), .val (.int p3), .val (.int (own_rd R p2)), .val (.int (own_rd R p3)), .unset] [(.int (1 : Int32)), (.ref o0)])) rfl rfl (hb hby d4_57) _ ?_
          show Steps p.tables e below (T49.setTop (mkF m 58 #[.val (.ref o0), .val (.ref o1), .val (.int p2), .val (.int p3), .val (.int (own_rd R p2)), .val (.int (own_rd R p3)), .unset] [(.int (own_rd (own_j1 R (0 : Int32) (own_rd R p3) (own_rd R p2)) (1 : Int32)))])) _
          refine XS.iload X49.here hx rfl (hb hby d4_58) rfl ?_
          exact k)
        by_cases hc60_60 : (own_rd (own_j1 R (0 : Int32) (own_rd R p3) (own_rd R p2)) (1 : Int32)) = (own_rd R p3)
        · obtain ⟨c61, Ar61, hin61, -⟩ := own_read G49_0 (by decide : own_in (4 : Int32) (1 : Int32))
          obtain ⟨T62, h62, X62, e62, W62, st62⟩ := stI X49 hx hZ rfl Ar61 (j := (1 : Int32)) hin61 (g := (mkF m 67 #[.val (.ref o0), .val (.ref o1), .val (.int p2), .val (.int p3), .val (.int (own_rd R p2)), .val (.int (own_rd R p3)), .unset] [(.int (own_rd R p2)), (.int (1 : Int32)), (.ref o0)])) rfl rfl (hb hby d4_67)
          have V62 : own_A Z h62 o0 kr .int (4 : Int32) (own_wr (own_j1 R (0 : Int32) (own_rd R p3) (own_rd R p2)) (1 : Int32) (own_rd R p2)) := own_write G49_0 (by decide : own_in (4 : Int32) (1 : Int32)) W62
          have KK62 : Keep h0 h62 [o0, o1] := KK49.wr W62 (Or.inl (List.mem_of_getElem? (i := 0) rfl))
          have N62 := Fr.snoc X62 N49 g_o0
          have pre63 : ∀ t, Steps p.tables e below (T62.setTop (mkF m 68 #[.val (.ref o0), .val (.ref o1), .val (.int p2), .val (.int p3), .val (.int (own_rd R p2)), .val (.int (own_rd R p3)), .unset] [])) t → Steps p.tables e below (s₁.setTop (entryFrame m #[(.ref o0), (.ref o1), (.int p2), (.int p3)] 7)) t := fun t k => pre59 t (by
            show Steps p.tables e below (T49.setTop (mkF m 60 #[.val (.ref o0), .val (.ref o1), .val (.int p2), .val (.int p3), .val (.int (own_rd R p2)), .val (.int (own_rd R p3)), .unset] [(.int (own_rd R p3)), (.int (own_rd (own_j1 R (0 : Int32) (own_rd R p3) (own_rd R p2)) (1 : Int32)))])) _
            refine XS.icmpNo X49.here hx rfl (hb hby d4_60) rfl (teq hc60_60).2 ?_
            show Steps p.tables e below (T49.setTop (mkF m 63 #[.val (.ref o0), .val (.ref o1), .val (.int p2), .val (.int p3), .val (.int (own_rd R p2)), .val (.int (own_rd R p3)), .unset] [])) _
            refine XS.aloadN X49.here hx rfl (hb hby d4_63) rfl rfl ?_
            show Steps p.tables e below (T49.setTop (mkF m 64 #[.val (.ref o0), .val (.ref o1), .val (.int p2), .val (.int p3), .val (.int (own_rd R p2)), .val (.int (own_rd R p3)), .unset] [(.ref o0)])) _
            refine XS.iconst X49.here hx rfl (hb hby d4_64) ?_
            show Steps p.tables e below (T49.setTop (mkF m 65 #[.val (.ref o0), .val (.ref o1), .val (.int p2), .val (.int p3), .val (.int (own_rd R p2)), .val (.int (own_rd R p3)), .unset] [(.int (1 : Int32)), (.ref o0)])) _
            refine XS.iload X49.here hx rfl (hb hby d4_65) rfl ?_
            show Steps p.tables e below (T49.setTop (mkF m 67 #[.val (.ref o0), .val (.ref o1), .val (.int p2), .val (.int p3), .val (.int (own_rd R p2)), .val (.int (own_rd R p3)), .unset] [(.int (own_rd R p2)), (.int (1 : Int32)), (.ref o0)])) _
            refine st62 _ ?_
            exact k)
          exact ⟨T62, _, X62, N62, (by rw [e62]; exact KK62), (by rw [own_j1, if_pos hc60_60]; exact (by rw [e62]; exact V62)), (by rw [e62]; exact (G49_1.other W62 (Ne.symm n_o0_o1))), pre63⟩
        · have pre64 : ∀ t, Steps p.tables e below (T49.setTop (mkF m 68 #[.val (.ref o0), .val (.ref o1), .val (.int p2), .val (.int p3), .val (.int (own_rd R p2)), .val (.int (own_rd R p3)), .unset] [])) t → Steps p.tables e below (s₁.setTop (entryFrame m #[(.ref o0), (.ref o1), (.int p2), (.int p3)] 7)) t := fun t k => pre59 t (by
            show Steps p.tables e below (T49.setTop (mkF m 60 #[.val (.ref o0), .val (.ref o1), .val (.int p2), .val (.int p3), .val (.int (own_rd R p2)), .val (.int (own_rd R p3)), .unset] [(.int (own_rd R p3)), (.int (own_rd (own_j1 R (0 : Int32) (own_rd R p3) (own_rd R p2)) (1 : Int32)))])) _
            refine XS.icmpYes X49.here hx rfl (pc0 := 60) (pc' := 68) rfl (hb hby d4_60) rfl (feq hc60_60).2 (by decide) (by decide) ?_
            exact k)
          exact ⟨T49, _, X49, N49, KK49, (by rw [own_j1, if_neg hc60_60]; exact G49_0), G49_1, pre64⟩
      obtain ⟨T65, lc65, X65, N65, KK65, G65_0, G65_1, prem65⟩ : ∃ (T' : State) (lc' : List Loc), Stand p l e ({ frames := 0, cells := 0, slots := 0, locals := 0 } : Room) s m #[(.ref o0), (.ref o1), (.int p2), (.int p3)] below meth c T' lc' 0 0 ∧ Fr n0 lc' ∧ Keep h0 T'.heap [o0, o1] ∧ own_A Z T'.heap o0 kr .int (4 : Int32) (own_j1 (own_j1 (own_j1 R (0 : Int32) (own_rd R p3) (own_rd R p2)) (1 : Int32) (own_rd R p3) (own_rd R p2)) (2 : Int32) (own_rd R p3) (own_rd R p2)) ∧ own_A Z T'.heap o1 ky .int (4 : Int32) Y ∧ ∀ t, Steps p.tables e below (T'.setTop (mkF m 81 #[.val (.ref o0), .val (.ref o1), .val (.int p2), .val (.int p3), .val (.int (own_rd R p2)), .val (.int (own_rd R p3)), .unset] [])) t → Steps p.tables e below (s₁.setTop (entryFrame m #[(.ref o0), (.ref o1), (.int p2), (.int p3)] 7)) t := by
        obtain ⟨c66, Ar66, hin66, hat66⟩ := own_read G57_0 (by decide : own_in (4 : Int32) (2 : Int32))
        have pre67 : ∀ t, Steps p.tables e below (T57.setTop (mkF m 73 #[.val (.ref o0), .val (.ref o1), .val (.int p2), .val (.int p3), .val (.int (own_rd R p2)), .val (.int (own_rd R p3)), .unset] [(.int (own_rd R p3)), (.int (own_rd (own_j1 (own_j1 R (0 : Int32) (own_rd R p3) (own_rd R p2)) (1 : Int32) (own_rd R p3) (own_rd R p2)) (2 : Int32)))])) t → Steps p.tables e below (s₁.setTop (entryFrame m #[(.ref o0), (.ref o1), (.int p2), (.int p3)] 7)) t := fun t k => prem57 t (by
          show Steps p.tables e below (T57.setTop (mkF m 68 #[.val (.ref o0), .val (.ref o1), .val (.int p2), .val (.int p3), .val (.int (own_rd R p2)), .val (.int (own_rd R p3)), .unset] [])) _
          refine XS.aloadN X57.here hx rfl (hb hby d4_68) rfl rfl ?_
          show Steps p.tables e below (T57.setTop (mkF m 69 #[.val (.ref o0), .val (.ref o1), .val (.int p2), .val (.int p3), .val (.int (own_rd R p2)), .val (.int (own_rd R p3)), .unset] [(.ref o0)])) _
          refine XS.iconst X57.here hx rfl (hb hby d4_69) ?_
          show Steps p.tables e below (T57.setTop (mkF m 70 #[.val (.ref o0), .val (.ref o1), .val (.int p2), .val (.int p3), .val (.int (own_rd R p2)), .val (.int (own_rd R p3)), .unset] [(.int (2 : Int32)), (.ref o0)])) _
          refine X57.iaload hx (j := (2 : Int32)) (v := (.int (own_rd (own_j1 (own_j1 R (0 : Int32) (own_rd R p3) (own_rd R p2)) (1 : Int32) (own_rd R p3) (own_rd R p2)) (2 : Int32)))) Ar66.1 (State.isArrayOf_alike hZ.alike Ar66.2.1) Ar66.2.2 hin66 hat66 (g := (mkF m 70 #[.val (.ref o0), .val (.ref o1), .val (.int p2), .val (.int p3), .val (.int (own_rd R p2)), .val (.int (own_rd R p3)), .unset] [(.int (2 : Int32)), (.ref o0)])) rfl rfl (hb hby d4_70) _ ?_
          show Steps p.tables e below (T57.setTop (mkF m 71 #[.val (.ref o0), .val (.ref o1), .val (.int p2), .val (.int p3), .val (.int (own_rd R p2)), .val (.int (own_rd R p3)), .unset] [(.int (own_rd (own_j1 (own_j1 R (0 : Int32) (own_rd R p3) (own_rd R p2)) (1 : Int32) (own_rd R p3) (own_rd R p2)) (2 : Int32)))])) _
          refine XS.iload X57.here hx rfl (hb hby d4_71) rfl ?_
          exact k)
        by_cases hc73_68 : (own_rd (own_j1 (own_j1 R (0 : Int32) (own_rd R p3) (own_rd R p2)) (1 : Int32) (own_rd R p3) (own_rd R p2)) (2 : Int32)) = (own_rd R p3)
        · obtain ⟨c69, Ar69, hin69, -⟩ := own_read G57_0 (by decide : own_in (4 : Int32) (2 : Int32))
          obtain ⟨T70, h70, X70, e70, W70, st70⟩ := stI X57 hx hZ rfl Ar69 (j := (2 : Int32)) hin69 (g := (mkF m 80 #[.val (.ref o0), .val (.ref o1), .val (.int p2), .val (.int p3), .val (.int (own_rd R p2)), .val (.int (own_rd R p3)), .unset] [(.int (own_rd R p2)), (.int (2 : Int32)), (.ref o0)])) rfl rfl (hb hby d4_80)
          have V70 : own_A Z h70 o0 kr .int (4 : Int32) (own_wr (own_j1 (own_j1 R (0 : Int32) (own_rd R p3) (own_rd R p2)) (1 : Int32) (own_rd R p3) (own_rd R p2)) (2 : Int32) (own_rd R p2)) := own_write G57_0 (by decide : own_in (4 : Int32) (2 : Int32)) W70
          have KK70 : Keep h0 h70 [o0, o1] := KK57.wr W70 (Or.inl (List.mem_of_getElem? (i := 0) rfl))
          have N70 := Fr.snoc X70 N57 g_o0
          have pre71 : ∀ t, Steps p.tables e below (T70.setTop (mkF m 81 #[.val (.ref o0), .val (.ref o1), .val (.int p2), .val (.int p3), .val (.int (own_rd R p2)), .val (.int (own_rd R p3)), .unset] [])) t → Steps p.tables e below (s₁.setTop (entryFrame m #[(.ref o0), (.ref o1), (.int p2), (.int p3)] 7)) t := fun t k => pre67 t (by
            show Steps p.tables e below (T57.setTop (mkF m 73 #[.val (.ref o0), .val (.ref o1), .val (.int p2), .val (.int p3), .val (.int (own_rd R p2)), .val (.int (own_rd R p3)), .unset] [(.int (own_rd R p3)), (.int (own_rd (own_j1 (own_j1 R (0 : Int32) (own_rd R p3) (own_rd R p2)) (1 : Int32) (own_rd R p3) (own_rd R p2)) (2 : Int32)))])) _
            refine XS.icmpNo X57.here hx rfl (hb hby d4_73) rfl (teq hc73_68).2 ?_
            show Steps p.tables e below (T57.setTop (mkF m 76 #[.val (.ref o0), .val (.ref o1), .val (.int p2), .val (.int p3), .val (.int (own_rd R p2)), .val (.int (own_rd R p3)), .unset] [])) _
            refine XS.aloadN X57.here hx rfl (hb hby d4_76) rfl rfl ?_
            show Steps p.tables e below (T57.setTop (mkF m 77 #[.val (.ref o0), .val (.ref o1), .val (.int p2), .val (.int p3), .val (.int (own_rd R p2)), .val (.int (own_rd R p3)), .unset] [(.ref o0)])) _
            refine XS.iconst X57.here hx rfl (hb hby d4_77) ?_
            show Steps p.tables e below (T57.setTop (mkF m 78 #[.val (.ref o0), .val (.ref o1), .val (.int p2), .val (.int p3), .val (.int (own_rd R p2)), .val (.int (own_rd R p3)), .unset] [(.int (2 : Int32)), (.ref o0)])) _
            refine XS.iload X57.here hx rfl (hb hby d4_78) rfl ?_
            show Steps p.tables e below (T57.setTop (mkF m 80 #[.val (.ref o0), .val (.ref o1), .val (.int p2), .val (.int p3), .val (.int (own_rd R p2)), .val (.int (own_rd R p3)), .unset] [(.int (own_rd R p2)), (.int (2 : Int32)), (.ref o0)])) _
            refine st70 _ ?_
            exact k)
          exact ⟨T70, _, X70, N70, (by rw [e70]; exact KK70), (by rw [own_j1, if_pos hc73_68]; exact (by rw [e70]; exact V70)), (by rw [e70]; exact (G57_1.other W70 (Ne.symm n_o0_o1))), pre71⟩
        · have pre72 : ∀ t, Steps p.tables e below (T57.setTop (mkF m 81 #[.val (.ref o0), .val (.ref o1), .val (.int p2), .val (.int p3), .val (.int (own_rd R p2)), .val (.int (own_rd R p3)), .unset] [])) t → Steps p.tables e below (s₁.setTop (entryFrame m #[(.ref o0), (.ref o1), (.int p2), (.int p3)] 7)) t := fun t k => pre67 t (by
            show Steps p.tables e below (T57.setTop (mkF m 73 #[.val (.ref o0), .val (.ref o1), .val (.int p2), .val (.int p3), .val (.int (own_rd R p2)), .val (.int (own_rd R p3)), .unset] [(.int (own_rd R p3)), (.int (own_rd (own_j1 (own_j1 R (0 : Int32) (own_rd R p3) (own_rd R p2)) (1 : Int32) (own_rd R p3) (own_rd R p2)) (2 : Int32)))])) _
            refine XS.icmpYes X57.here hx rfl (pc0 := 73) (pc' := 81) rfl (hb hby d4_73) rfl (feq hc73_68).2 (by decide) (by decide) ?_
            exact k)
          exact ⟨T57, _, X57, N57, KK57, (by rw [own_j1, if_neg hc73_68]; exact G57_0), G57_1, pre72⟩
      obtain ⟨T73, lc73, X73, N73, KK73, G73_0, G73_1, prem73⟩ : ∃ (T' : State) (lc' : List Loc), Stand p l e ({ frames := 0, cells := 0, slots := 0, locals := 0 } : Room) s m #[(.ref o0), (.ref o1), (.int p2), (.int p3)] below meth c T' lc' 0 0 ∧ Fr n0 lc' ∧ Keep h0 T'.heap [o0, o1] ∧ own_A Z T'.heap o0 kr .int (4 : Int32) (own_j1 (own_j1 (own_j1 (own_j1 R (0 : Int32) (own_rd R p3) (own_rd R p2)) (1 : Int32) (own_rd R p3) (own_rd R p2)) (2 : Int32) (own_rd R p3) (own_rd R p2)) (3 : Int32) (own_rd R p3) (own_rd R p2)) ∧ own_A Z T'.heap o1 ky .int (4 : Int32) Y ∧ ∀ t, Steps p.tables e below (T'.setTop (mkF m 94 #[.val (.ref o0), .val (.ref o1), .val (.int p2), .val (.int p3), .val (.int (own_rd R p2)), .val (.int (own_rd R p3)), .unset] [])) t → Steps p.tables e below (s₁.setTop (entryFrame m #[(.ref o0), (.ref o1), (.int p2), (.int p3)] 7)) t := by
        obtain ⟨c74, Ar74, hin74, hat74⟩ := own_read G65_0 (by decide : own_in (4 : Int32) (3 : Int32))
        have pre75 : ∀ t, Steps p.tables e below (T65.setTop (mkF m 86 #[.val (.ref o0), .val (.ref o1), .val (.int p2), .val (.int p3), .val (.int (own_rd R p2)), .val (.int (own_rd R p3)), .unset] [(.int (own_rd R p3)), (.int (own_rd (own_j1 (own_j1 (own_j1 R (0 : Int32) (own_rd R p3) (own_rd R p2)) (1 : Int32) (own_rd R p3) (own_rd R p2)) (2 : Int32) (own_rd R p3) (own_rd R p2)) (3 : Int32)))])) t → Steps p.tables e below (s₁.setTop (entryFrame m #[(.ref o0), (.ref o1), (.int p2), (.int p3)] 7)) t := fun t k => prem65 t (by
          show Steps p.tables e below (T65.setTop (mkF m 81 #[.val (.ref o0), .val (.ref o1), .val (.int p2), .val (.int p3), .val (.int (own_rd R p2)), .val (.int (own_rd R p3)), .unset] [])) _
          refine XS.aloadN X65.here hx rfl (hb hby d4_81) rfl rfl ?_
          show Steps p.tables e below (T65.setTop (mkF m 82 #[.val (.ref o0), .val (.ref o1), .val (.int p2), .val (.int p3), .val (.int (own_rd R p2)), .val (.int (own_rd R p3)), .unset] [(.ref o0)])) _
          refine XS.iconst X65.here hx rfl (hb hby d4_82) ?_
          show Steps p.tables e below (T65.setTop (mkF m 83 #[.val (.ref o0), .val (.ref o1), .val (.int p2), .val (.int p3), .val (.int (own_rd R p2)), .val (.int (own_rd R p3)), .unset] [(.int (3 : Int32)), (.ref o0)])) _
          refine X65.iaload hx (j := (3 : Int32)) (v := (.int (own_rd (own_j1 (own_j1 (own_j1 R (0 : Int32) (own_rd R p3) (own_rd R p2)) (1 : Int32) (own_rd R p3) (own_rd R p2)) (2 : Int32) (own_rd R p3) (own_rd R p2)) (3 : Int32)))) Ar74.1 (State.isArrayOf_alike hZ.alike Ar74.2.1) Ar74.2.2 hin74 hat74 (g := (mkF m 83 #[.val (.ref o0), .val (.ref o1), .val (.int p2), .val (.int p3), .val (.int (own_rd R p2)), .val (.int (own_rd R p3)), .unset] [(.int (3 : Int32)), (.ref o0)])) rfl rfl (hb hby d4_83) _ ?_
          show Steps p.tables e below (T65.setTop (mkF m 84 #[.val (.ref o0), .val (.ref o1), .val (.int p2), .val (.int p3), .val (.int (own_rd R p2)), .val (.int (own_rd R p3)), .unset] [(.int (own_rd (own_j1 (own_j1 (own_j1 R (0 : Int32) (own_rd R p3) (own_rd R p2)) (1 : Int32) (own_rd R p3) (own_rd R p2)) (2 : Int32) (own_rd R p3) (own_rd R p2)) (3 : Int32)))])) _
          refine XS.iload X65.here hx rfl (hb hby d4_84) rfl ?_
          exact k)
        by_cases hc86_76 : (own_rd (own_j1 (own_j1 (own_j1 R (0 : Int32) (own_rd R p3) (own_rd R p2)) (1 : Int32) (own_rd R p3) (own_rd R p2)) (2 : Int32) (own_rd R p3) (own_rd R p2)) (3 : Int32)) = (own_rd R p3)
        · obtain ⟨c77, Ar77, hin77, -⟩ := own_read G65_0 (by decide : own_in (4 : Int32) (3 : Int32))
          obtain ⟨T78, h78, X78, e78, W78, st78⟩ := stI X65 hx hZ rfl Ar77 (j := (3 : Int32)) hin77 (g := (mkF m 93 #[.val (.ref o0), .val (.ref o1), .val (.int p2), .val (.int p3), .val (.int (own_rd R p2)), .val (.int (own_rd R p3)), .unset] [(.int (own_rd R p2)), (.int (3 : Int32)), (.ref o0)])) rfl rfl (hb hby d4_93)
          have V78 : own_A Z h78 o0 kr .int (4 : Int32) (own_wr (own_j1 (own_j1 (own_j1 R (0 : Int32) (own_rd R p3) (own_rd R p2)) (1 : Int32) (own_rd R p3) (own_rd R p2)) (2 : Int32) (own_rd R p3) (own_rd R p2)) (3 : Int32) (own_rd R p2)) := own_write G65_0 (by decide : own_in (4 : Int32) (3 : Int32)) W78
          have KK78 : Keep h0 h78 [o0, o1] := KK65.wr W78 (Or.inl (List.mem_of_getElem? (i := 0) rfl))
          have N78 := Fr.snoc X78 N65 g_o0
          have pre79 : ∀ t, Steps p.tables e below (T78.setTop (mkF m 94 #[.val (.ref o0), .val (.ref o1), .val (.int p2), .val (.int p3), .val (.int (own_rd R p2)), .val (.int (own_rd R p3)), .unset] [])) t → Steps p.tables e below (s₁.setTop (entryFrame m #[(.ref o0), (.ref o1), (.int p2), (.int p3)] 7)) t := fun t k => pre75 t (by
            show Steps p.tables e below (T65.setTop (mkF m 86 #[.val (.ref o0), .val (.ref o1), .val (.int p2), .val (.int p3), .val (.int (own_rd R p2)), .val (.int (own_rd R p3)), .unset] [(.int (own_rd R p3)), (.int (own_rd (own_j1 (own_j1 (own_j1 R (0 : Int32) (own_rd R p3) (own_rd R p2)) (1 : Int32) (own_rd R p3) (own_rd R p2)) (2 : Int32) (own_rd R p3) (own_rd R p2)) (3 : Int32)))])) _
            refine XS.icmpNo X65.here hx rfl (hb hby d4_86) rfl (teq hc86_76).2 ?_
            show Steps p.tables e below (T65.setTop (mkF m 89 #[.val (.ref o0), .val (.ref o1), .val (.int p2), .val (.int p3), .val (.int (own_rd R p2)), .val (.int (own_rd R p3)), .unset] [])) _
            refine XS.aloadN X65.here hx rfl (hb hby d4_89) rfl rfl ?_
            show Steps p.tables e below (T65.setTop (mkF m 90 #[.val (.ref o0), .val (.ref o1), .val (.int p2), .val (.int p3), .val (.int (own_rd R p2)), .val (.int (own_rd R p3)), .unset] [(.ref o0)])) _
            refine XS.iconst X65.here hx rfl (hb hby d4_90) ?_
            show Steps p.tables e below (T65.setTop (mkF m 91 #[.val (.ref o0), .val (.ref o1), .val (.int p2), .val (.int p3), .val (.int (own_rd R p2)), .val (.int (own_rd R p3)), .unset] [(.int (3 : Int32)), (.ref o0)])) _
            refine XS.iload X65.here hx rfl (hb hby d4_91) rfl ?_
            show Steps p.tables e below (T65.setTop (mkF m 93 #[.val (.ref o0), .val (.ref o1), .val (.int p2), .val (.int p3), .val (.int (own_rd R p2)), .val (.int (own_rd R p3)), .unset] [(.int (own_rd R p2)), (.int (3 : Int32)), (.ref o0)])) _
            refine st78 _ ?_
            exact k)
          exact ⟨T78, _, X78, N78, (by rw [e78]; exact KK78), (by rw [own_j1, if_pos hc86_76]; exact (by rw [e78]; exact V78)), (by rw [e78]; exact (G65_1.other W78 (Ne.symm n_o0_o1))), pre79⟩
        · have pre80 : ∀ t, Steps p.tables e below (T65.setTop (mkF m 94 #[.val (.ref o0), .val (.ref o1), .val (.int p2), .val (.int p3), .val (.int (own_rd R p2)), .val (.int (own_rd R p3)), .unset] [])) t → Steps p.tables e below (s₁.setTop (entryFrame m #[(.ref o0), (.ref o1), (.int p2), (.int p3)] 7)) t := fun t k => pre75 t (by
            show Steps p.tables e below (T65.setTop (mkF m 86 #[.val (.ref o0), .val (.ref o1), .val (.int p2), .val (.int p3), .val (.int (own_rd R p2)), .val (.int (own_rd R p3)), .unset] [(.int (own_rd R p3)), (.int (own_rd (own_j1 (own_j1 (own_j1 R (0 : Int32) (own_rd R p3) (own_rd R p2)) (1 : Int32) (own_rd R p3) (own_rd R p2)) (2 : Int32) (own_rd R p3) (own_rd R p2)) (3 : Int32)))])) _
            refine XS.icmpYes X65.here hx rfl (pc0 := 86) (pc' := 94) rfl (hb hby d4_86) rfl (feq hc86_76).2 (by decide) (by decide) ?_
            exact k)
          exact ⟨T65, _, X65, N65, KK65, (by rw [own_j1, if_neg hc86_76]; exact G65_0), G65_1, pre80⟩
      obtain ⟨c81, Ar81, hin81, hat81⟩ := own_read G73_1 hb1
      obtain ⟨c82, Ar82, hin82, hat82⟩ := own_read G73_1 hb2
      obtain ⟨c83, Ar83, hin83, -⟩ := own_read G73_1 hb1
      obtain ⟨T84, h84, X84, e84, W84, st84⟩ := stI X73 hx hZ rfl Ar83 (j := (own_rd R p2)) hin83 (g := (mkF m 104 #[.val (.ref o0), .val (.ref o1), .val (.int p2), .val (.int p3), .val (.int (own_rd R p2)), .val (.int (own_rd R p3)), .unset] [(.int ((own_rd Y (own_rd R p2)) + (own_rd Y (own_rd R p3)))), (.int (own_rd R p2)), (.ref o1)])) rfl rfl (hb hby d4_104)
      have V84 : own_A Z h84 o1 ky .int (4 : Int32) (own_wr Y (own_rd R p2) ((own_rd Y (own_rd R p2)) + (own_rd Y (own_rd R p3)))) := own_write G73_1 hb1 W84
      have KK84 : Keep h0 h84 [o0, o1] := KK73.wr W84 (Or.inl (List.mem_of_getElem? (i := 1) rfl))
      have N84 := Fr.snoc X84 N73 g_o1
      have pre85 : ∀ t, Steps p.tables e below (T84.setTop (mkF m 106 #[.val (.ref o0), .val (.ref o1), .val (.int p2), .val (.int p3), .val (.int (own_rd R p2)), .val (.int (own_rd R p3)), .unset] [(.int (1 : Int32))])) t → Steps p.tables e below (s₁.setTop (entryFrame m #[(.ref o0), (.ref o1), (.int p2), (.int p3)] 7)) t := fun t k => prem73 t (by
        show Steps p.tables e below (T73.setTop (mkF m 94 #[.val (.ref o0), .val (.ref o1), .val (.int p2), .val (.int p3), .val (.int (own_rd R p2)), .val (.int (own_rd R p3)), .unset] [])) _
        refine XS.aloadN X73.here hx rfl (hb hby d4_94) rfl rfl ?_
        show Steps p.tables e below (T73.setTop (mkF m 95 #[.val (.ref o0), .val (.ref o1), .val (.int p2), .val (.int p3), .val (.int (own_rd R p2)), .val (.int (own_rd R p3)), .unset] [(.ref o1)])) _
        refine XS.iload X73.here hx rfl (hb hby d4_95) rfl ?_
        show Steps p.tables e below (T73.setTop (mkF m 97 #[.val (.ref o0), .val (.ref o1), .val (.int p2), .val (.int p3), .val (.int (own_rd R p2)), .val (.int (own_rd R p3)), .unset] [(.int (own_rd R p2)), (.ref o1)])) _
        refine Jvm.Free.XT.dup2 X73.here hx rfl (hb hby d4_97) rfl rfl rfl ?_
        show Steps p.tables e below (T73.setTop (mkF m 98 #[.val (.ref o0), .val (.ref o1), .val (.int p2), .val (.int p3), .val (.int (own_rd R p2)), .val (.int (own_rd R p3)), .unset] [(.int (own_rd R p2)), (.ref o1), (.int (own_rd R p2)), (.ref o1)])) _
        refine X73.iaload hx (j := (own_rd R p2)) (v := (.int (own_rd Y (own_rd R p2)))) Ar81.1 (State.isArrayOf_alike hZ.alike Ar81.2.1) Ar81.2.2 hin81 hat81 (g := (mkF m 98 #[.val (.ref o0), .val (.ref o1), .val (.int p2), .val (.int p3), .val (.int (own_rd R p2)), .val (.int (own_rd R p3)), .unset] [(.int (own_rd R p2)), (.ref o1), (.int (own_rd R p2)), (.ref o1)])) rfl rfl (hb hby d4_98) _ ?_
        show Steps p.tables e below (T73.setTop (mkF m 99 #[.val (.ref o0), .val (.ref o1), .val (.int p2), .val (.int p3), .val (.int (own_rd R p2)), .val (.int (own_rd R p3)), .unset] [(.int (own_rd Y (own_rd R p2))), (.int (own_rd R p2)), (.ref o1)])) _
        refine XS.aloadN X73.here hx rfl (hb hby d4_99) rfl rfl ?_
        show Steps p.tables e below (T73.setTop (mkF m 100 #[.val (.ref o0), .val (.ref o1), .val (.int p2), .val (.int p3), .val (.int (own_rd R p2)), .val (.int (own_rd R p3)), .unset] [(.ref o1), (.int (own_rd Y (own_rd R p2))), (.int (own_rd R p2)), (.ref o1)])) _
        refine XS.iload X73.here hx rfl (hb hby d4_100) rfl ?_
        show Steps p.tables e below (T73.setTop (mkF m 102 #[.val (.ref o0), .val (.ref o1), .val (.int p2), .val (.int p3), .val (.int (own_rd R p2)), .val (.int (own_rd R p3)), .unset] [(.int (own_rd R p3)), (.ref o1), (.int (own_rd Y (own_rd R p2))), (.int (own_rd R p2)), (.ref o1)])) _
        refine X73.iaload hx (j := (own_rd R p3)) (v := (.int (own_rd Y (own_rd R p3)))) Ar82.1 (State.isArrayOf_alike hZ.alike Ar82.2.1) Ar82.2.2 hin82 hat82 (g := (mkF m 102 #[.val (.ref o0), .val (.ref o1), .val (.int p2), .val (.int p3), .val (.int (own_rd R p2)), .val (.int (own_rd R p3)), .unset] [(.int (own_rd R p3)), (.ref o1), (.int (own_rd Y (own_rd R p2))), (.int (own_rd R p2)), (.ref o1)])) rfl rfl (hb hby d4_102) _ ?_
        show Steps p.tables e below (T73.setTop (mkF m 103 #[.val (.ref o0), .val (.ref o1), .val (.int p2), .val (.int p3), .val (.int (own_rd R p2)), .val (.int (own_rd R p3)), .unset] [(.int (own_rd Y (own_rd R p3))), (.int (own_rd Y (own_rd R p2))), (.int (own_rd R p2)), (.ref o1)])) _
        refine XS.iadd X73.here hx rfl (hb hby d4_103) rfl ?_
        show Steps p.tables e below (T73.setTop (mkF m 104 #[.val (.ref o0), .val (.ref o1), .val (.int p2), .val (.int p3), .val (.int (own_rd R p2)), .val (.int (own_rd R p3)), .unset] [(.int ((own_rd Y (own_rd R p2)) + (own_rd Y (own_rd R p3)))), (.int (own_rd R p2)), (.ref o1)])) _
        refine st84 _ ?_
        show Steps p.tables e below (T84.setTop (mkF m 105 #[.val (.ref o0), .val (.ref o1), .val (.int p2), .val (.int p3), .val (.int (own_rd R p2)), .val (.int (own_rd R p3)), .unset] [])) _
        refine XS.iconst X84.here hx rfl (hb hby d4_105) ?_
        exact k)
      obtain ⟨fs, hr, hrun, hended, hW, hsame⟩ := X84.leave (v := some (.int (1 : Int32))) (fun h => by rw [Bd.returns] at h; cases h)
      refine ⟨_, _, pre85 _ ?_, hrun, hended, _, _, rfl, ?_, ⟨_, rfl⟩, hW, hsame.mono (by decide) (by decide)⟩
      · exact retN X84 hx (t := .boolean) Bd.returns (by simp) (hb hby d4_106) hr
      · show Q4 Z o0 o1 p2 p3 kr R ky Y h0 n0 _ T84.heap _
        rw [e84]
        exact ⟨by rw [own_jV, if_neg hc14_4], N84, KK84, by rw [own_jR, if_neg hc14_4, if_neg hc27_9]; exact (G73_0.other W84 n_o0_o1), by rw [own_jY, if_neg hc14_4, if_neg hc27_9]; exact V84⟩
theorem d3_0 : decode method_3_code 0 = .ok (.iload_n 3, 1) := by decide +kernel
theorem d3_1 : decode method_3_code 1 = .ok (.iconst 3, 1) := by decide +kernel
theorem d3_2 : decode method_3_code 2 = .ok (.iand, 1) := by decide +kernel
theorem d3_3 : decode method_3_code 3 = .ok (.istore 4, 2) := by decide +kernel
theorem d3_5 : decode method_3_code 5 = .ok (.iload_n 3, 1) := by decide +kernel
theorem d3_6 : decode method_3_code 6 = .ok (.iconst 2, 1) := by decide +kernel
theorem d3_7 : decode method_3_code 7 = .ok (.iushr, 1) := by decide +kernel
theorem d3_8 : decode method_3_code 8 = .ok (.iconst 3, 1) := by decide +kernel
theorem d3_9 : decode method_3_code 9 = .ok (.iand, 1) := by decide +kernel
theorem d3_10 : decode method_3_code 10 = .ok (.istore 5, 2) := by decide +kernel
theorem d3_12 : decode method_3_code 12 = .ok (.aload_n 1, 1) := by decide +kernel
theorem d3_13 : decode method_3_code 13 = .ok (.aload_n 2, 1) := by decide +kernel
theorem d3_14 : decode method_3_code 14 = .ok (.iload 4, 2) := by decide +kernel
theorem d3_16 : decode method_3_code 16 = .ok (.iload 5, 2) := by decide +kernel
theorem pd_1 : parseMethodDescriptor "([I[III)Z" = some ⟨[(.array .int), (.array .int), .int, .int], some .boolean⟩ := by decide +kernel
theorem d3_18 : decode method_3_code 18 = .ok (.invokestatic 22, 3) := by decide +kernel
theorem d3_21 : decode method_3_code 21 = .ok (.istore 6, 2) := by decide +kernel
theorem d3_23 : decode method_3_code 23 = .ok (.aload_n 0, 1) := by decide +kernel
theorem d3_24 : decode method_3_code 24 = .ok (.iload 4, 2) := by decide +kernel
theorem d3_26 : decode method_3_code 26 = .ok (.iload 5, 2) := by decide +kernel
theorem pd_2 : parseMethodDescriptor "(II)Z" = some ⟨[.int, .int], some .boolean⟩ := by decide +kernel
theorem d3_28 : decode method_3_code 28 = .ok (.invokevirtual 26, 3) := by decide +kernel
theorem d3_31 : decode method_3_code 31 = .ok (.iload 6, 2) := by decide +kernel
theorem d3_33 : decode method_3_code 33 = .ok (.if_icmp .ne 7, 3) := by decide +kernel
theorem d3_36 : decode method_3_code 36 = .ok (.iconst 1, 1) := by decide +kernel
theorem d3_37 : decode method_3_code 37 = .ok (.goto 4, 3) := by decide +kernel
theorem d3_41 : decode method_3_code 41 = .ok (.ireturn, 1) := by decide +kernel
theorem ef_3 (m : MethodId) (x0 : Addr) (x1 : Addr) (x2 : Addr) (x3 : Int32) : entryFrame m #[(.ref x0), (.ref x1), (.ref x2), (.int x3)] 7 = mkF m 0 #[.val (.ref x0), .val (.ref x1), .val (.ref x2), .val (.int x3), .unset, .unset, .unset] [] := by first | (simp [entryFrame, mkF, argsToLocals, Value.category]; done) | rfl
def Q3 (Z : State) (o0 : Addr) (o1 : Addr) (o2 : Addr) (p3 : Int32) (wp : Addr) (kp : ClassId) (P : List Int32) (wz : Addr) (kz : ClassId) (L2 : List Int32) (kr : ClassId) (R : List Int32) (ky : ClassId) (Y : List Int32) (h0 : Heap) (n0 : Nat) (v : Option Value) (h : Heap) (L : List Loc) : Prop := v = some (.int (1 : Int32)) ∧ Fr n0 L ∧ Keep h0 h [wp, wz, o1, o2] ∧ ∃ P' L' R' Y' : List Int32, (P', L', R', Y') ∈ own_S ∧ own_A Z h wp kp .int (4 : Int32) P' ∧ own_A Z h wz kz .int (4 : Int32) L' ∧ own_A Z h o1 kr .int (4 : Int32) R' ∧ own_A Z h o2 ky .int (4 : Int32) Y'
set_option maxRecDepth 65536 in
set_option maxHeartbeats 40000000 in
theorem rm3 (l : Launch) (Z : State) (a0 : Array Value) (hw : ∀ d ∈ tables_1, d.before a0 Z = true) (ws : List Jvm.Cond) (o0 : Addr) (o1 : Addr) (o2 : Addr) (p3 : Int32) (wp : Addr) (kp : ClassId) (P : List Int32) (wz : Addr) (kz : ClassId) (L2 : List Int32) (kr : ClassId) (R : List Int32) (ky : ClassId) (Y : List Int32) (h0 : Heap) (n0 : Nat) (Z0 : n0 ≤ h0.size) (F_parent_o0 : Fld Z h0 o0 "com/example/querist/querist/mst/DisjointSets" "parent" "[I" (.ref wp)) (F_size_o0 : Fld Z h0 o0 "com/example/querist/querist/mst/DisjointSets" "size" "[I" (.ref wz)) (E_o0 : Exa Z h0 o0 "com/example/querist/querist/mst/DisjointSets") (V_wp : own_A Z h0 wp kp .int (4 : Int32) P) (V_wz : own_A Z h0 wz kz .int (4 : Int32) L2) (V_o1 : own_A Z h0 o1 kr .int (4 : Int32) R) (V_o2 : own_A Z h0 o2 ky .int (4 : Int32) Y) (n_o0_o1 : o0 ≠ o1) (n_o0_o2 : o0 ≠ o2) (n_o0_wp : o0 ≠ wp) (n_o0_wz : o0 ≠ wz) (n_o1_o2 : o1 ≠ o2) (n_o1_wp : o1 ≠ wp) (n_o1_wz : o1 ≠ wz) (n_o2_wp : o2 ≠ wp) (n_o2_wz : o2 ≠ wz) (n_wp_wz : wp ≠ wz) (g_wp : n0 ≤ wp) (g_wz : n0 ≤ wz) (g_o1 : n0 ≤ o1) (g_o2 : n0 ≤ o2) (hS : (P, L2, R, Y) ∈ own_S) :
    MetFree l (⟨"com/example/querist/querist/mst/DisjointSetsFindPinLaw", "step", "(Lcom/example/querist/querist/mst/DisjointSets;[I[II)Z"⟩ : MethodName) (head1 (Jvm.Cond.code (⟨"com/example/querist/querist/mst/DisjointSetsFindPinLaw", "step", "(Lcom/example/querist/querist/mst/DisjointSets;[I[II)Z"⟩ : MethodName) method_3_code 7 (some .boolean) :: ws) ({ frames := 2, cells := 0, slots := 0, locals := 31 } : Room)) (fun a U => a = #[(.ref o0), (.ref o1), (.ref o2), (.int p3)] ∧ Z.Warmed39 U.vm ∧ U.heap = h0) (fun _ _ _ _ _ => True) (fun _ U o U' => ∃ v L, o = .returned v ∧ Q3 Z o0 o1 o2 p3 wp kp P wz kz L2 kr R ky Y h0 n0 v U'.heap L ∧ FrameEnd U o U' L ({ frames := 2, cells := 0, slots := 0, locals := 31 } : Room).cells ({ frames := 2, cells := 0, slots := 0, locals := 31 } : Room).slots) := by
  refine MetFree.of_bodySF (plainFor_of_name pn_1) hisR ?_
  intro p e s m args below meth c s₁ Bd hml0 hP hK
  obtain ⟨rfl, hZ, hh⟩ := hP
  have hx := Bd.exec
  have hby := Bd.bytes
  have hml : c.maxLocals = 7 := hml0
  have hown : s.vm.findClass "com/example/querist/querist/mst/DisjointSetsFindPinLaw" = some m.cls := findClass_of_methodNamed Bd.named
  have hnm := (name_of_methodNamed Bd.named Bd.method).1
  have X0 : Stand p l e ({ frames := 2, cells := 0, slots := 0, locals := 31 } : Room) s m #[(.ref o0), (.ref o1), (.ref o2), (.int p3)] below meth c s₁ [] 0 0 := Stand.of_body Bd
  have e0 : s₁.heap = h0 := by rw [← hh, Bd.state]; rfl
  have N0 := Fr.nil n0
  have pre0 : ∀ t, Steps p.tables e below (s₁.setTop (mkF m 0 #[.val (.ref o0), .val (.ref o1), .val (.ref o2), .val (.int p3), .unset, .unset, .unset] [])) t → Steps p.tables e below (s₁.setTop (entryFrame m #[(.ref o0), (.ref o1), (.ref o2), (.int p3)] 7)) t := fun t k => castTop (ef_3 m o0 o1 o2 p3) k
  obtain ⟨v1_0, hv1, prem1⟩ : ∃ (v1_0 : Int32), v1_0 ∈ own_four ∧ ∀ t, Steps p.tables e below (s₁.setTop (mkF m 3 #[.val (.ref o0), .val (.ref o1), .val (.ref o2), .val (.int p3), .unset, .unset, .unset] [(.int v1_0)])) t → Steps p.tables e below (s₁.setTop (entryFrame m #[(.ref o0), (.ref o1), (.ref o2), (.int p3)] 7)) t := by
    have pre2 : ∀ t, Steps p.tables e below (s₁.setTop (mkF m 3 #[.val (.ref o0), .val (.ref o1), .val (.ref o2), .val (.int p3), .unset, .unset, .unset] [(.int (p3 &&& (3 : Int32)))])) t → Steps p.tables e below (s₁.setTop (entryFrame m #[(.ref o0), (.ref o1), (.ref o2), (.int p3)] 7)) t := fun t k => pre0 t (by
      show Steps p.tables e below (s₁.setTop (mkF m 0 #[.val (.ref o0), .val (.ref o1), .val (.ref o2), .val (.int p3), .unset, .unset, .unset] [])) _
      refine XS.iloadN X0.here hx rfl (hb hby d3_0) rfl ?_
      show Steps p.tables e below (s₁.setTop (mkF m 1 #[.val (.ref o0), .val (.ref o1), .val (.ref o2), .val (.int p3), .unset, .unset, .unset] [(.int p3)])) _
      refine XS.iconst X0.here hx rfl (hb hby d3_1) ?_
      show Steps p.tables e below (s₁.setTop (mkF m 2 #[.val (.ref o0), .val (.ref o1), .val (.ref o2), .val (.int p3), .unset, .unset, .unset] [(.int (3 : Int32)), (.int p3)])) _
      refine XS.iand X0.here hx rfl (hb hby d3_2) rfl ?_
      exact k)
    exact ⟨(p3 &&& (3 : Int32)), (own_and3 p3), pre2⟩
  have pre3 : ∀ t, Steps p.tables e below (s₁.setTop (mkF m 5 #[.val (.ref o0), .val (.ref o1), .val (.ref o2), .val (.int p3), .val (.int v1_0), .unset, .unset] [])) t → Steps p.tables e below (s₁.setTop (entryFrame m #[(.ref o0), (.ref o1), (.ref o2), (.int p3)] 7)) t := fun t k => prem1 t (by
    show Steps p.tables e below (s₁.setTop (mkF m 3 #[.val (.ref o0), .val (.ref o1), .val (.ref o2), .val (.int p3), .unset, .unset, .unset] [(.int v1_0)])) _
    refine XS.istore X0.here hx rfl (hb hby d3_3) rfl (l' := #[.val (.ref o0), .val (.ref o1), .val (.ref o2), .val (.int p3), .val (.int v1_0), .unset, .unset]) rfl ?_
    exact k)
  obtain ⟨v4_0, hv4, prem4⟩ : ∃ (v4_0 : Int32), v4_0 ∈ own_four ∧ ∀ t, Steps p.tables e below (s₁.setTop (mkF m 10 #[.val (.ref o0), .val (.ref o1), .val (.ref o2), .val (.int p3), .val (.int v1_0), .unset, .unset] [(.int v4_0)])) t → Steps p.tables e below (s₁.setTop (entryFrame m #[(.ref o0), (.ref o1), (.ref o2), (.int p3)] 7)) t := by
    have pre5 : ∀ t, Steps p.tables e below (s₁.setTop (mkF m 10 #[.val (.ref o0), .val (.ref o1), .val (.ref o2), .val (.int p3), .val (.int v1_0), .unset, .unset] [(.int (((p3.toUInt32 >>> ((2 : Int32) &&& 31).toUInt32).toInt32) &&& (3 : Int32)))])) t → Steps p.tables e below (s₁.setTop (entryFrame m #[(.ref o0), (.ref o1), (.ref o2), (.int p3)] 7)) t := fun t k => pre3 t (by
      show Steps p.tables e below (s₁.setTop (mkF m 5 #[.val (.ref o0), .val (.ref o1), .val (.ref o2), .val (.int p3), .val (.int v1_0), .unset, .unset] [])) _
      refine XS.iloadN X0.here hx rfl (hb hby d3_5) rfl ?_
      show Steps p.tables e below (s₁.setTop (mkF m 6 #[.val (.ref o0), .val (.ref o1), .val (.ref o2), .val (.int p3), .val (.int v1_0), .unset, .unset] [(.int p3)])) _
      refine XS.iconst X0.here hx rfl (hb hby d3_6) ?_
      show Steps p.tables e below (s₁.setTop (mkF m 7 #[.val (.ref o0), .val (.ref o1), .val (.ref o2), .val (.int p3), .val (.int v1_0), .unset, .unset] [(.int (2 : Int32)), (.int p3)])) _
      refine XS.iushr X0.here hx rfl (hb hby d3_7) rfl ?_
      show Steps p.tables e below (s₁.setTop (mkF m 8 #[.val (.ref o0), .val (.ref o1), .val (.ref o2), .val (.int p3), .val (.int v1_0), .unset, .unset] [(.int ((p3.toUInt32 >>> ((2 : Int32) &&& 31).toUInt32).toInt32))])) _
      refine XS.iconst X0.here hx rfl (hb hby d3_8) ?_
      show Steps p.tables e below (s₁.setTop (mkF m 9 #[.val (.ref o0), .val (.ref o1), .val (.ref o2), .val (.int p3), .val (.int v1_0), .unset, .unset] [(.int (3 : Int32)), (.int ((p3.toUInt32 >>> ((2 : Int32) &&& 31).toUInt32).toInt32))])) _
      refine XS.iand X0.here hx rfl (hb hby d3_9) rfl ?_
      exact k)
    exact ⟨(((p3.toUInt32 >>> ((2 : Int32) &&& 31).toUInt32).toInt32) &&& (3 : Int32)), (own_and3 _), pre5⟩
  have hC : own_cond P L2 R Y v1_0 v4_0 := own_step hS hv1 hv4
  obtain ⟨_, _, ⟨T6, L6, k6, n6⟩, -, X6, ⟨Lc6, hQ6, l6, y6, z6⟩, st6⟩ := Jvm.LawKit.callS X0 hx (y := (⟨"com/example/querist/querist/mst/DisjointSetsFindPinLaw", "join", "([I[III)Z"⟩ : MethodName)) hown (mvT hZ (hw _ (List.mem_of_getElem? (i := 18) rfl))) (mvT hZ (hw _ (List.mem_of_getElem? (i := 19) rfl))) (mvT hZ (hw _ (List.mem_of_getElem? (i := 16) rfl))) (mvT hZ (hw _ (List.mem_of_getElem? (i := 20) rfl))) (by decide) (backOf (W := 0) (rm4 l Z a0 hw [] o1 o2 v1_0 v4_0 kr R ky Y h0 n0 Z0 V_o1 V_o2 n_o1_o2 g_o1 g_o2 hC.1 hC.2.1 hC.2.2.1 hC.2.2.2.1) hZ (hw _ (List.mem_of_getElem? (i := 20) rfl)) (hw _ (List.mem_of_getElem? (i := 16) rfl)) (by decide) (by decide)) (g := (mkF m 18 #[.val (.ref o0), .val (.ref o1), .val (.ref o2), .val (.int p3), .val (.int v1_0), .val (.int v4_0), .unset] [(.int v4_0), (.int v1_0), (.ref o2), (.ref o1)])) rfl (by rw [hml]; rfl) (argsL := [(.ref o1), (.ref o2), (.int v1_0), (.int v4_0)]) (rest := []) (lenOf pd_1 rfl) rfl (by show 2 * 0 + _ ≤ _; exact Nat.le_of_eq rfl) (hb hby d3_18) (fun _ _ => ⟨rfl, e0, (by decide : 0 + 0 ≤ _), (by decide : 0 + 0 ≤ _)⟩)
  dsimp only [Pt.U, Pt.locs, Pt.cells, Pt.slots] at X6 l6 y6 z6 st6 hQ6
  subst l6 y6 z6
  obtain ⟨rfl, N6q, K6, P6_0, P6_1⟩ := hQ6
  have N6 := Fr.app N0 N6q
  have KK6 : Keep h0 T6.heap [wp, wz, o1, o2] := (Keep.refl h0 [wp, wz, o1, o2]).trans K6 (allS (Or.inl (List.mem_of_getElem? (i := 2) rfl)) (allS (Or.inl (List.mem_of_getElem? (i := 3) rfl)) all0))
  obtain ⟨cq7, kq7, q7a, q7b, q7c⟩ := isOf hZ rfl (E_o0.keep K6)
  obtain ⟨_, _, ⟨T7, L7, k7, n7⟩, -, X7, ⟨Lc7, hQ7, l7, y7, z7⟩, st7⟩ := X6.virtualBack hx (y := (⟨"com/example/querist/querist/mst/DisjointSets", "union", "(II)Z"⟩ : MethodName)) (z := (⟨"com/example/querist/querist/mst/DisjointSets", "union", "(II)Z"⟩ : MethodName)) hown (mvT hZ (hw _ (List.mem_of_getElem? (i := 21) rfl))) (mvT hZ (hw _ (List.mem_of_getElem? (i := 22) rfl))) (notFace_of_selects (args := #[]) (mvT hZ (hw _ (List.mem_of_getElem? (i := 24) rfl)))) (mvT hZ (hw _ (List.mem_of_getElem? (i := 24) rfl))) (mvT hZ (hw _ (List.mem_of_getElem? (i := 23) rfl))) (by decide) (backOf (W := 0) (rm5 l Z a0 hw [] o0 v1_0 v4_0 wp kp P wz kz L2 T6.heap n0 (Nat.le_trans Z0 K6.1) (F_parent_o0.keep K6 (ninS n_o0_o1 (ninS n_o0_o2 nin0))) (F_size_o0.keep K6 (ninS n_o0_o1 (ninS n_o0_o2 nin0))) (E_o0.keep K6) (V_wp.keep K6 (ninS (Ne.symm n_o1_wp) (ninS (Ne.symm n_o2_wp) nin0))) (V_wz.keep K6 (ninS (Ne.symm n_o1_wz) (ninS (Ne.symm n_o2_wz) nin0))) n_o0_wp n_o0_wz n_wp_wz g_wp g_wz hC.1 hC.2.1 hC.2.2.2.2.1 hC.2.2.2.2.2.1) hZ (hw _ (List.mem_of_getElem? (i := 25) rfl)) (hw _ (List.mem_of_getElem? (i := 2) rfl)) (by decide) (by decide)) q7a q7c (g := (mkF m 28 #[.val (.ref o0), .val (.ref o1), .val (.ref o2), .val (.int p3), .val (.int v1_0), .val (.int v4_0), .val (.int (own_jV R v1_0 v4_0))] [(.int v4_0), (.int v1_0), (.ref o0)])) rfl (by rw [hml]; rfl) (Steps.refl _) (argsL := [(.int v1_0), (.int v4_0)]) (rest := []) (lenOf pd_2 rfl) rfl (by show 2 * 0 + _ ≤ _; exact Nat.le_of_eq rfl) (hb hby d3_28) (fun _ _ => ⟨rfl, rfl, (by decide : 0 + 0 ≤ _), (by decide : 0 + 0 ≤ _)⟩)
  dsimp only [Pt.U, Pt.locs, Pt.cells, Pt.slots] at X7 l7 y7 z7 st7 hQ7
  subst l7 y7 z7
  obtain ⟨rfl, N7q, K7, P7_0, P7_1⟩ := hQ7
  have N7 := Fr.app N6 N7q
  have KK7 : Keep h0 T7.heap [wp, wz, o1, o2] := KK6.trans K7 (allS (Or.inl (List.mem_of_getElem? (i := 0) rfl)) (allS (Or.inl (List.mem_of_getElem? (i := 1) rfl)) all0))
  have pre8 : ∀ t, Steps p.tables e below (T7.setTop (mkF m 41 #[.val (.ref o0), .val (.ref o1), .val (.ref o2), .val (.int p3), .val (.int v1_0), .val (.int v4_0), .val (.int (own_jV R v1_0 v4_0))] [(.int (1 : Int32))])) t → Steps p.tables e below (s₁.setTop (entryFrame m #[(.ref o0), (.ref o1), (.ref o2), (.int p3)] 7)) t := fun t k => prem4 t (by
    show Steps p.tables e below (s₁.setTop (mkF m 10 #[.val (.ref o0), .val (.ref o1), .val (.ref o2), .val (.int p3), .val (.int v1_0), .unset, .unset] [(.int v4_0)])) _
    refine XS.istore X0.here hx rfl (hb hby d3_10) rfl (l' := #[.val (.ref o0), .val (.ref o1), .val (.ref o2), .val (.int p3), .val (.int v1_0), .val (.int v4_0), .unset]) rfl ?_
    show Steps p.tables e below (s₁.setTop (mkF m 12 #[.val (.ref o0), .val (.ref o1), .val (.ref o2), .val (.int p3), .val (.int v1_0), .val (.int v4_0), .unset] [])) _
    refine XS.aloadN X0.here hx rfl (hb hby d3_12) rfl rfl ?_
    show Steps p.tables e below (s₁.setTop (mkF m 13 #[.val (.ref o0), .val (.ref o1), .val (.ref o2), .val (.int p3), .val (.int v1_0), .val (.int v4_0), .unset] [(.ref o1)])) _
    refine XS.aloadN X0.here hx rfl (hb hby d3_13) rfl rfl ?_
    show Steps p.tables e below (s₁.setTop (mkF m 14 #[.val (.ref o0), .val (.ref o1), .val (.ref o2), .val (.int p3), .val (.int v1_0), .val (.int v4_0), .unset] [(.ref o2), (.ref o1)])) _
    refine XS.iload X0.here hx rfl (hb hby d3_14) rfl ?_
    show Steps p.tables e below (s₁.setTop (mkF m 16 #[.val (.ref o0), .val (.ref o1), .val (.ref o2), .val (.int p3), .val (.int v1_0), .val (.int v4_0), .unset] [(.int v1_0), (.ref o2), (.ref o1)])) _
    refine XS.iload X0.here hx rfl (hb hby d3_16) rfl ?_
    show Steps p.tables e below (s₁.setTop (mkF m 18 #[.val (.ref o0), .val (.ref o1), .val (.ref o2), .val (.int p3), .val (.int v1_0), .val (.int v4_0), .unset] [(.int v4_0), (.int v1_0), (.ref o2), (.ref o1)])) _
    refine st6 _ ?_
    show Steps p.tables e below (T6.setTop (mkF m 21 #[.val (.ref o0), .val (.ref o1), .val (.ref o2), .val (.int p3), .val (.int v1_0), .val (.int v4_0), .unset] [(.int (own_jV R v1_0 v4_0))])) _
    refine XS.istore X6.here hx rfl (hb hby d3_21) rfl (l' := #[.val (.ref o0), .val (.ref o1), .val (.ref o2), .val (.int p3), .val (.int v1_0), .val (.int v4_0), .val (.int (own_jV R v1_0 v4_0))]) rfl ?_
    show Steps p.tables e below (T6.setTop (mkF m 23 #[.val (.ref o0), .val (.ref o1), .val (.ref o2), .val (.int p3), .val (.int v1_0), .val (.int v4_0), .val (.int (own_jV R v1_0 v4_0))] [])) _
    refine XS.aloadN X6.here hx rfl (hb hby d3_23) rfl rfl ?_
    show Steps p.tables e below (T6.setTop (mkF m 24 #[.val (.ref o0), .val (.ref o1), .val (.ref o2), .val (.int p3), .val (.int v1_0), .val (.int v4_0), .val (.int (own_jV R v1_0 v4_0))] [(.ref o0)])) _
    refine XS.iload X6.here hx rfl (hb hby d3_24) rfl ?_
    show Steps p.tables e below (T6.setTop (mkF m 26 #[.val (.ref o0), .val (.ref o1), .val (.ref o2), .val (.int p3), .val (.int v1_0), .val (.int v4_0), .val (.int (own_jV R v1_0 v4_0))] [(.int v1_0), (.ref o0)])) _
    refine XS.iload X6.here hx rfl (hb hby d3_26) rfl ?_
    show Steps p.tables e below (T6.setTop (mkF m 28 #[.val (.ref o0), .val (.ref o1), .val (.ref o2), .val (.int p3), .val (.int v1_0), .val (.int v4_0), .val (.int (own_jV R v1_0 v4_0))] [(.int v4_0), (.int v1_0), (.ref o0)])) _
    refine st7.trans ?_
    show Steps p.tables e below (T7.setTop (mkF m 31 #[.val (.ref o0), .val (.ref o1), .val (.ref o2), .val (.int p3), .val (.int v1_0), .val (.int v4_0), .val (.int (own_jV R v1_0 v4_0))] [(.int (own_uR P v1_0 v4_0))])) _
    refine XS.iload X7.here hx rfl (hb hby d3_31) rfl ?_
    show Steps p.tables e below (T7.setTop (mkF m 33 #[.val (.ref o0), .val (.ref o1), .val (.ref o2), .val (.int p3), .val (.int v1_0), .val (.int v4_0), .val (.int (own_jV R v1_0 v4_0))] [(.int (own_jV R v1_0 v4_0)), (.int (own_uR P v1_0 v4_0))])) _
    refine XS.icmpNo X7.here hx rfl (hb hby d3_33) rfl (teq hC.2.2.2.2.2.2.1).2 ?_
    show Steps p.tables e below (T7.setTop (mkF m 36 #[.val (.ref o0), .val (.ref o1), .val (.ref o2), .val (.int p3), .val (.int v1_0), .val (.int v4_0), .val (.int (own_jV R v1_0 v4_0))] [])) _
    refine XS.iconst X7.here hx rfl (hb hby d3_36) ?_
    show Steps p.tables e below (T7.setTop (mkF m 37 #[.val (.ref o0), .val (.ref o1), .val (.ref o2), .val (.int p3), .val (.int v1_0), .val (.int v4_0), .val (.int (own_jV R v1_0 v4_0))] [(.int (1 : Int32))])) _
    refine XS.goto X7.here hx rfl (pc0 := 37) (pc' := 41) rfl (hb hby d3_37) (by decide) (by decide) ?_
    exact k)
  obtain ⟨fs, hr, hrun, hended, hW, hsame⟩ := X7.leave (v := some (.int (1 : Int32))) (fun h => by rw [Bd.returns] at h; cases h)
  refine ⟨_, _, pre8 _ ?_, hrun, hended, _, _, rfl, ?_, ⟨_, rfl⟩, hW, hsame.mono (by decide) (by decide)⟩
  · exact retN X7 hx (t := .boolean) Bd.returns (by simp) (hb hby d3_41) hr
  · show Q3 Z o0 o1 o2 p3 wp kp P wz kz L2 kr R ky Y h0 n0 _ T7.heap _
    exact ⟨rfl, N7, KK7, _, _, _, _, hC.2.2.2.2.2.2.2, P7_0, P7_1, (P6_0.keep K7 (ninS n_o1_wp (ninS n_o1_wz nin0))), (P6_1.keep K7 (ninS n_o2_wp (ninS n_o2_wz nin0)))⟩
theorem pd_3 : parseMethodDescriptor "(I)V" = some ⟨[.int], none⟩ := by decide +kernel
theorem pd_4 : parseMethodDescriptor "(Lcom/example/querist/querist/mst/DisjointSets;[I[II)Z" = some ⟨[(.object "com/example/querist/querist/mst/DisjointSets"), (.array .int), (.array .int), .int], some .boolean⟩ := by decide +kernel
theorem ef_0 (m : MethodId) (x0 : Int32) (x1 : Int32) (x2 : Int32) (x3 : Int32) : entryFrame m #[(.int x0), (.int x1), (.int x2), (.int x3)] maxLocals = mkF m 0 #[.val (.int x0), .val (.int x1), .val (.int x2), .val (.int x3), .unset, .unset, .unset, .unset] [] := by first | (simp [entryFrame, mkF, argsToLocals, Value.category, maxLocals]; done) | rfl
def Q0 (Z : State) (p0 : Int32) (p1 : Int32) (p2 : Int32) (p3 : Int32) (h0 : Heap) (n0 : Nat) (v : Option Value) (h : Heap) (L : List Loc) : Prop := v = some (.int 1) ∧ Fr n0 L
set_option maxRecDepth 65536 in
set_option maxHeartbeats 40000000 in
theorem rm0 (l : Launch) (Z : State) (a0 : Array Value) (hw : ∀ d ∈ tables_1, d.before a0 Z = true) (ws : List Jvm.Cond) (p0 : Int32) (p1 : Int32) (p2 : Int32) (p3 : Int32) (h0 : Heap) (n0 : Nat) (Z0 : n0 ≤ h0.size) :
    MetFree l x (head1 (Jvm.Cond.code x code maxLocals ret :: ws) room_1) (fun a U => a = #[(.int p0), (.int p1), (.int p2), (.int p3)] ∧ Z.Warmed39 U.vm ∧ U.heap = h0) (fun _ _ _ _ _ => True) (fun _ U o U' => ∃ v L, o = .returned v ∧ Q0 Z p0 p1 p2 p3 h0 n0 v U'.heap L ∧ FrameEnd U o U' L room_1.cells room_1.slots) := by
  refine MetFree.of_bodySF (plainFor_of_name pn_1) hisR ?_
  intro p e s m args below meth c s₁ Bd hml0 hP hK
  obtain ⟨rfl, hZ, hh⟩ := hP
  have hx := Bd.exec
  have hby := Bd.bytes
  have hml : c.maxLocals = 8 := hml0
  have hown : s.vm.findClass "com/example/querist/querist/mst/DisjointSetsFindPinLaw" = some m.cls := findClass_of_methodNamed Bd.named
  have hnm := (name_of_methodNamed Bd.named Bd.method).1
  have X0 : Stand p l e room_1 s m #[(.int p0), (.int p1), (.int p2), (.int p3)] below meth c s₁ [] 0 0 := Stand.of_body Bd
  have e0 : s₁.heap = h0 := by rw [← hh, Bd.state]; rfl
  have N0 := Fr.nil n0
  have pre0 : ∀ t, Steps p.tables e below (s₁.setTop (mkF m 0 #[.val (.int p0), .val (.int p1), .val (.int p2), .val (.int p3), .unset, .unset, .unset, .unset] [])) t → Steps p.tables e below (s₁.setTop (entryFrame m #[(.int p0), (.int p1), (.int p2), (.int p3)] maxLocals)) t := fun t k => castTop (ef_0 m p0 p1 p2 p3) k
  obtain ⟨T1, h1, X1, e1, E1, A1, D1, -, st1⟩ := newO X0 hx hZ hown (hw _ (List.mem_of_getElem? (i := 0) rfl)) (hw _ (List.mem_of_getElem? (i := 1) rfl)) (hw _ (List.mem_of_getElem? (i := 2) rfl)) e0 (g := (mkF m 0 #[.val (.int p0), .val (.int p1), .val (.int p2), .val (.int p3), .unset, .unset, .unset, .unset] [])) rfl (hb hby at_0) (by decide) (by decide)
  obtain ⟨b1, g1⟩ : ∃ z, z = h0.size := ⟨_, rfl⟩
  rw [← g1] at A1 D1 st1
  have F_parent_b1 : Fld Z h1 b1 "com/example/querist/querist/mst/DisjointSets" "parent" "[I" .null := D1 (Or.inr (hw _ (List.mem_of_getElem? (i := 11) rfl))) (ty := (.array .int)) (by decide)
  have F_size_b1 : Fld Z h1 b1 "com/example/querist/querist/mst/DisjointSets" "size" "[I" .null := D1 (Or.inr (hw _ (List.mem_of_getElem? (i := 13) rfl))) (ty := (.array .int)) (by decide)
  have g_b1 : n0 ≤ b1 := Nat.le_trans Z0 (Nat.le_of_eq g1.symm)
  have sz_b1 : h0.size ≤ b1 := Nat.le_trans (Keep.refl h0 []).1 (Nat.le_of_eq g1.symm)
  have KK1 : Keep h0 h1 [] := (Keep.refl h0 []).ext E1
  obtain ⟨_, _, ⟨T2, L2, k2, n2⟩, -, X2, ⟨Lc2, hQ2, l2, y2, z2⟩, st2⟩ := X1.specialBack hx (y := (⟨"com/example/querist/querist/mst/DisjointSets", "<init>", "(I)V"⟩ : MethodName)) rfl hown (mvT hZ (hw _ (List.mem_of_getElem? (i := 3) rfl))) (mvT hZ (hw _ (List.mem_of_getElem? (i := 4) rfl))) (mvT hZ (hw _ (List.mem_of_getElem? (i := 5) rfl))) (by decide) (backOf (W := 1) (rm1 l Z a0 hw [] b1 .null .null h1 n0 (Nat.le_trans Z0 E1.1) F_parent_b1 F_size_b1 A1 g_b1) hZ (hw _ (List.mem_of_getElem? (i := 5) rfl)) (hw _ (List.mem_of_getElem? (i := 2) rfl)) (by decide) (by decide)) (g := (mkF m 5 #[.val (.int p0), .val (.int p1), .val (.int p2), .val (.int p3), .unset, .unset, .unset, .unset] [(.int (4 : Int32)), (.ref b1), (.ref b1)])) rfl (by rw [hml]; rfl) (Steps.refl _) (a := b1) (argsL := [(.int (4 : Int32))]) (rest := [(.ref b1)]) (lenOf pd_3 rfl) rfl (by show 2 * 0 + _ ≤ _; exact Nat.le_of_eq rfl) (hb hby at_5) (fun _ _ => ⟨rfl, e1, (by decide : 1 + 2 ≤ _), (by decide : 2 + 8 ≤ _)⟩)
  dsimp only [Pt.U, Pt.locs, Pt.cells, Pt.slots] at X2 l2 y2 z2 st2 hQ2
  subst l2 y2 z2
  obtain ⟨rfl, N2q, K2, Pe2, bp2, bz2, kp2, kz2, szp2, szz2, ne_bp2_bz2, Pf2, Pg2, Vp2, Vz2⟩ := hQ2
  have N2 := Fr.app N0 N2q
  have g_bp2 : n0 ≤ bp2 := Nat.le_trans (Nat.le_trans Z0 E1.1) szp2
  have sz_bp2 : h0.size ≤ bp2 := Nat.le_trans KK1.1 szp2
  have ne_b1_bp2 : b1 ≠ bp2 := Nat.ne_of_lt (Nat.lt_of_lt_of_le A1.lt szp2)
  have g_bz2 : n0 ≤ bz2 := Nat.le_trans (Nat.le_trans Z0 E1.1) szz2
  have sz_bz2 : h0.size ≤ bz2 := Nat.le_trans KK1.1 szz2
  have ne_b1_bz2 : b1 ≠ bz2 := Nat.ne_of_lt (Nat.lt_of_lt_of_le A1.lt szz2)
  have KK2 : Keep h0 T2.heap [] := KK1.trans K2 (allS (Or.inr sz_b1) all0)
  obtain ⟨T3, h3, k3, X3, e3, E3, A3, st3⟩ := newP X2 hx hZ (hw _ (List.mem_of_getElem? (i := 9) rfl)) rfl (g := (mkF m 11 #[.val (.int p0), .val (.int p1), .val (.int p2), .val (.int p3), .val (.ref b1), .unset, .unset, .unset] [(.int (4 : Int32))])) rfl (hb hby at_11) rfl (by decide) (cap := 4) (by decide) (by decide) (by decide) (by decide)
  obtain ⟨b3, g3⟩ : ∃ z, z = T2.heap.size := ⟨_, rfl⟩
  rw [← g3] at A3 st3
  have V_b3 : own_A Z h3 b3 k3 .int (4 : Int32) [(0 : Int32), (0 : Int32), (0 : Int32), (0 : Int32)] := own_new rfl ((Arv.new A3 (by decide)).pad (pad_rep [] _ 4))
  have g_b3 : n0 ≤ b3 := Nat.le_trans (Nat.le_trans (Nat.le_trans Z0 E1.1) K2.1) (Nat.le_of_eq g3.symm)
  have sz_b3 : h0.size ≤ b3 := Nat.le_trans KK2.1 (Nat.le_of_eq g3.symm)
  have KK3 : Keep h0 h3 [] := KK2.ext E3
  have ne_b1_b3 : b1 ≠ b3 := Nat.ne_of_lt (Nat.lt_of_lt_of_le Pe2.lt (Nat.le_of_eq g3.symm))
  have ne_bp2_b3 : bp2 ≠ b3 := Nat.ne_of_lt (Nat.lt_of_lt_of_le Vp2.lt (Nat.le_of_eq g3.symm))
  have ne_bz2_b3 : bz2 ≠ b3 := Nat.ne_of_lt (Nat.lt_of_lt_of_le Vz2.lt (Nat.le_of_eq g3.symm))
  obtain ⟨c4, Ar4, hin4, -⟩ := own_read V_b3 (by decide : own_in (4 : Int32) (0 : Int32))
  obtain ⟨T5, h5, X5, e5, W5, st5⟩ := stI X3 hx hZ e3 Ar4 (j := (0 : Int32)) hin4 (g := (mkF m 16 #[.val (.int p0), .val (.int p1), .val (.int p2), .val (.int p3), .val (.ref b1), .unset, .unset, .unset] [(.int (0 : Int32)), (.int (0 : Int32)), (.ref b3), (.ref b3)])) rfl rfl (hb hby at_16)
  have V5 : own_A Z h5 b3 k3 .int (4 : Int32) [(0 : Int32), (0 : Int32), (0 : Int32), (0 : Int32)] := own_write V_b3 (by decide : own_in (4 : Int32) (0 : Int32)) W5
  have KK5 : Keep h0 h5 [] := KK3.wr W5 (Or.inr sz_b3)
  have N5 := Fr.snoc X5 N2 g_b3
  obtain ⟨c6, Ar6, hin6, -⟩ := own_read V5 (by decide : own_in (4 : Int32) (1 : Int32))
  obtain ⟨T7, h7, X7, e7, W7, st7⟩ := stI X5 hx hZ e5 Ar6 (j := (1 : Int32)) hin6 (g := (mkF m 20 #[.val (.int p0), .val (.int p1), .val (.int p2), .val (.int p3), .val (.ref b1), .unset, .unset, .unset] [(.int (1 : Int32)), (.int (1 : Int32)), (.ref b3), (.ref b3)])) rfl rfl (hb hby at_20)
  have V7 : own_A Z h7 b3 k3 .int (4 : Int32) [(0 : Int32), (1 : Int32), (0 : Int32), (0 : Int32)] := own_write V5 (by decide : own_in (4 : Int32) (1 : Int32)) W7
  have KK7 : Keep h0 h7 [] := KK5.wr W7 (Or.inr sz_b3)
  have N7 := Fr.snoc X7 N5 g_b3
  obtain ⟨c8, Ar8, hin8, -⟩ := own_read V7 (by decide : own_in (4 : Int32) (2 : Int32))
  obtain ⟨T9, h9, X9, e9, W9, st9⟩ := stI X7 hx hZ e7 Ar8 (j := (2 : Int32)) hin8 (g := (mkF m 24 #[.val (.int p0), .val (.int p1), .val (.int p2), .val (.int p3), .val (.ref b1), .unset, .unset, .unset] [(.int (2 : Int32)), (.int (2 : Int32)), (.ref b3), (.ref b3)])) rfl rfl (hb hby at_24)
  have V9 : own_A Z h9 b3 k3 .int (4 : Int32) [(0 : Int32), (1 : Int32), (2 : Int32), (0 : Int32)] := own_write V7 (by decide : own_in (4 : Int32) (2 : Int32)) W9
  have KK9 : Keep h0 h9 [] := KK7.wr W9 (Or.inr sz_b3)
  have N9 := Fr.snoc X9 N7 g_b3
  obtain ⟨c10, Ar10, hin10, -⟩ := own_read V9 (by decide : own_in (4 : Int32) (3 : Int32))
  obtain ⟨T11, h11, X11, e11, W11, st11⟩ := stI X9 hx hZ e9 Ar10 (j := (3 : Int32)) hin10 (g := (mkF m 28 #[.val (.int p0), .val (.int p1), .val (.int p2), .val (.int p3), .val (.ref b1), .unset, .unset, .unset] [(.int (3 : Int32)), (.int (3 : Int32)), (.ref b3), (.ref b3)])) rfl rfl (hb hby at_28)
  have V11 : own_A Z h11 b3 k3 .int (4 : Int32) [(0 : Int32), (1 : Int32), (2 : Int32), (3 : Int32)] := own_write V9 (by decide : own_in (4 : Int32) (3 : Int32)) W11
  have KK11 : Keep h0 h11 [] := KK9.wr W11 (Or.inr sz_b3)
  have N11 := Fr.snoc X11 N9 g_b3
  obtain ⟨T12, h12, k12, X12, e12, E12, A12, st12⟩ := newP X11 hx hZ (hw _ (List.mem_of_getElem? (i := 9) rfl)) e11 (g := (mkF m 32 #[.val (.int p0), .val (.int p1), .val (.int p2), .val (.int p3), .val (.ref b1), .val (.ref b3), .unset, .unset] [(.int (4 : Int32))])) rfl (hb hby at_32) rfl (by decide) (cap := 4) (by decide) (by decide) (by decide) (by decide)
  obtain ⟨b12, g12⟩ : ∃ z, z = h11.size := ⟨_, rfl⟩
  rw [← g12] at A12 st12
  have V_b12 : own_A Z h12 b12 k12 .int (4 : Int32) [(0 : Int32), (0 : Int32), (0 : Int32), (0 : Int32)] := own_new rfl ((Arv.new A12 (by decide)).pad (pad_rep [] _ 4))
  have g_b12 : n0 ≤ b12 := Nat.le_trans (Nat.le_trans (Nat.le_trans (Nat.le_trans (Nat.le_trans (Nat.le_trans (Nat.le_trans (Nat.le_trans Z0 E1.1) K2.1) E3.1) (Keep.of_wr W5).1) (Keep.of_wr W7).1) (Keep.of_wr W9).1) (Keep.of_wr W11).1) (Nat.le_of_eq g12.symm)
  have sz_b12 : h0.size ≤ b12 := Nat.le_trans KK11.1 (Nat.le_of_eq g12.symm)
  have KK12 : Keep h0 h12 [] := KK11.ext E12
  have ne_b1_b12 : b1 ≠ b12 := Nat.ne_of_lt (Nat.lt_of_lt_of_le (((((Pe2.ext E3).wr W5).wr W7).wr W9).wr W11).lt (Nat.le_of_eq g12.symm))
  have ne_b3_b12 : b3 ≠ b12 := Nat.ne_of_lt (Nat.lt_of_lt_of_le V11.lt (Nat.le_of_eq g12.symm))
  have ne_bp2_b12 : bp2 ≠ b12 := Nat.ne_of_lt (Nat.lt_of_lt_of_le (((((Vp2.ext E3).other W5 ne_bp2_b3).other W7 ne_bp2_b3).other W9 ne_bp2_b3).other W11 ne_bp2_b3).lt (Nat.le_of_eq g12.symm))
  have ne_bz2_b12 : bz2 ≠ b12 := Nat.ne_of_lt (Nat.lt_of_lt_of_le (((((Vz2.ext E3).other W5 ne_bz2_b3).other W7 ne_bz2_b3).other W9 ne_bz2_b3).other W11 ne_bz2_b3).lt (Nat.le_of_eq g12.symm))
  obtain ⟨c13, Ar13, hin13, -⟩ := own_read V_b12 (by decide : own_in (4 : Int32) (0 : Int32))
  obtain ⟨T14, h14, X14, e14, W14, st14⟩ := stI X12 hx hZ e12 Ar13 (j := (0 : Int32)) hin13 (g := (mkF m 37 #[.val (.int p0), .val (.int p1), .val (.int p2), .val (.int p3), .val (.ref b1), .val (.ref b3), .unset, .unset] [(.int (1 : Int32)), (.int (0 : Int32)), (.ref b12), (.ref b12)])) rfl rfl (hb hby at_37)
  have V14 : own_A Z h14 b12 k12 .int (4 : Int32) [(1 : Int32), (0 : Int32), (0 : Int32), (0 : Int32)] := own_write V_b12 (by decide : own_in (4 : Int32) (0 : Int32)) W14
  have KK14 : Keep h0 h14 [] := KK12.wr W14 (Or.inr sz_b12)
  have N14 := Fr.snoc X14 N11 g_b12
  obtain ⟨c15, Ar15, hin15, -⟩ := own_read V14 (by decide : own_in (4 : Int32) (1 : Int32))
  obtain ⟨T16, h16, X16, e16, W16, st16⟩ := stI X14 hx hZ e14 Ar15 (j := (1 : Int32)) hin15 (g := (mkF m 41 #[.val (.int p0), .val (.int p1), .val (.int p2), .val (.int p3), .val (.ref b1), .val (.ref b3), .unset, .unset] [(.int (1 : Int32)), (.int (1 : Int32)), (.ref b12), (.ref b12)])) rfl rfl (hb hby at_41)
  have V16 : own_A Z h16 b12 k12 .int (4 : Int32) [(1 : Int32), (1 : Int32), (0 : Int32), (0 : Int32)] := own_write V14 (by decide : own_in (4 : Int32) (1 : Int32)) W16
  have KK16 : Keep h0 h16 [] := KK14.wr W16 (Or.inr sz_b12)
  have N16 := Fr.snoc X16 N14 g_b12
  obtain ⟨c17, Ar17, hin17, -⟩ := own_read V16 (by decide : own_in (4 : Int32) (2 : Int32))
  obtain ⟨T18, h18, X18, e18, W18, st18⟩ := stI X16 hx hZ e16 Ar17 (j := (2 : Int32)) hin17 (g := (mkF m 45 #[.val (.int p0), .val (.int p1), .val (.int p2), .val (.int p3), .val (.ref b1), .val (.ref b3), .unset, .unset] [(.int (1 : Int32)), (.int (2 : Int32)), (.ref b12), (.ref b12)])) rfl rfl (hb hby at_45)
  have V18 : own_A Z h18 b12 k12 .int (4 : Int32) [(1 : Int32), (1 : Int32), (1 : Int32), (0 : Int32)] := own_write V16 (by decide : own_in (4 : Int32) (2 : Int32)) W18
  have KK18 : Keep h0 h18 [] := KK16.wr W18 (Or.inr sz_b12)
  have N18 := Fr.snoc X18 N16 g_b12
  obtain ⟨c19, Ar19, hin19, -⟩ := own_read V18 (by decide : own_in (4 : Int32) (3 : Int32))
  obtain ⟨T20, h20, X20, e20, W20, st20⟩ := stI X18 hx hZ e18 Ar19 (j := (3 : Int32)) hin19 (g := (mkF m 49 #[.val (.int p0), .val (.int p1), .val (.int p2), .val (.int p3), .val (.ref b1), .val (.ref b3), .unset, .unset] [(.int (1 : Int32)), (.int (3 : Int32)), (.ref b12), (.ref b12)])) rfl rfl (hb hby at_49)
  have V20 : own_A Z h20 b12 k12 .int (4 : Int32) [(1 : Int32), (1 : Int32), (1 : Int32), (1 : Int32)] := own_write V18 (by decide : own_in (4 : Int32) (3 : Int32)) W20
  have KK20 : Keep h0 h20 [] := KK18.wr W20 (Or.inr sz_b12)
  have N20 := Fr.snoc X20 N18 g_b12
  obtain ⟨_, _, ⟨T21, L21, k21, n21⟩, -, X21, ⟨Lc21, hQ21, l21, y21, z21⟩, st21⟩ := Jvm.LawKit.callS X20 hx (y := (⟨"com/example/querist/querist/mst/DisjointSetsFindPinLaw", "step", "(Lcom/example/querist/querist/mst/DisjointSets;[I[II)Z"⟩ : MethodName)) hown (mvT hZ (hw _ (List.mem_of_getElem? (i := 14) rfl))) (mvT hZ (hw _ (List.mem_of_getElem? (i := 15) rfl))) (mvT hZ (hw _ (List.mem_of_getElem? (i := 16) rfl))) (mvT hZ (hw _ (List.mem_of_getElem? (i := 17) rfl))) (by decide) (backOf (W := 1) (rm3 l Z a0 hw [] b1 b3 b12 p0 bp2 kp2 ([(0 : Int32), (1 : Int32), (2 : Int32), (3 : Int32)]) bz2 kz2 ([(1 : Int32), (1 : Int32), (1 : Int32), (1 : Int32)]) k3 ([(0 : Int32), (1 : Int32), (2 : Int32), (3 : Int32)]) k12 ([(1 : Int32), (1 : Int32), (1 : Int32), (1 : Int32)]) h20 n0 (Nat.le_trans (Nat.le_trans (Nat.le_trans (Nat.le_trans (Nat.le_trans (Nat.le_trans (Nat.le_trans (Nat.le_trans (Nat.le_trans (Nat.le_trans (Nat.le_trans (Nat.le_trans Z0 E1.1) K2.1) E3.1) (Keep.of_wr W5).1) (Keep.of_wr W7).1) (Keep.of_wr W9).1) (Keep.of_wr W11).1) E12.1) (Keep.of_wr W14).1) (Keep.of_wr W16).1) (Keep.of_wr W18).1) (Keep.of_wr W20).1) ((((((((((Pf2.ext E3).other W5 (Or.inl ne_b1_b3)).other W7 (Or.inl ne_b1_b3)).other W9 (Or.inl ne_b1_b3)).other W11 (Or.inl ne_b1_b3)).ext E12).other W14 (Or.inl ne_b1_b12)).other W16 (Or.inl ne_b1_b12)).other W18 (Or.inl ne_b1_b12)).other W20 (Or.inl ne_b1_b12)) ((((((((((Pg2.ext E3).other W5 (Or.inl ne_b1_b3)).other W7 (Or.inl ne_b1_b3)).other W9 (Or.inl ne_b1_b3)).other W11 (Or.inl ne_b1_b3)).ext E12).other W14 (Or.inl ne_b1_b12)).other W16 (Or.inl ne_b1_b12)).other W18 (Or.inl ne_b1_b12)).other W20 (Or.inl ne_b1_b12)) ((((((((((Pe2.ext E3).wr W5).wr W7).wr W9).wr W11).ext E12).wr W14).wr W16).wr W18).wr W20) ((((((((((Vp2.ext E3).other W5 ne_bp2_b3).other W7 ne_bp2_b3).other W9 ne_bp2_b3).other W11 ne_bp2_b3).ext E12).other W14 ne_bp2_b12).other W16 ne_bp2_b12).other W18 ne_bp2_b12).other W20 ne_bp2_b12) ((((((((((Vz2.ext E3).other W5 ne_bz2_b3).other W7 ne_bz2_b3).other W9 ne_bz2_b3).other W11 ne_bz2_b3).ext E12).other W14 ne_bz2_b12).other W16 ne_bz2_b12).other W18 ne_bz2_b12).other W20 ne_bz2_b12) (((((V11.ext E12).other W14 ne_b3_b12).other W16 ne_b3_b12).other W18 ne_b3_b12).other W20 ne_b3_b12) V20 ne_b1_b3 ne_b1_b12 ne_b1_bp2 ne_b1_bz2 ne_b3_b12 (Ne.symm ne_bp2_b3) (Ne.symm ne_bz2_b3) (Ne.symm ne_bp2_b12) (Ne.symm ne_bz2_b12) ne_bp2_bz2 g_bp2 g_bz2 g_b3 g_b12 own_S0) hZ (hw _ (List.mem_of_getElem? (i := 17) rfl)) (hw _ (List.mem_of_getElem? (i := 16) rfl)) (by decide) (by decide)) (g := (mkF m 64 #[.val (.int p0), .val (.int p1), .val (.int p2), .val (.int p3), .val (.ref b1), .val (.ref b3), .val (.ref b12), .val (.int (1 : Int32))] [(.int p0), (.ref b12), (.ref b3), (.ref b1), (.int (1 : Int32))])) rfl (by rw [hml]; rfl) (argsL := [(.ref b1), (.ref b3), (.ref b12), (.int p0)]) (rest := [(.int (1 : Int32))]) (lenOf pd_4 rfl) rfl (by show 2 * 0 + _ ≤ _; exact Nat.le_of_eq rfl) (hb hby at_64) (fun _ _ => ⟨rfl, e20, (by decide : 5 + 0 ≤ _), (by decide : 18 + 0 ≤ _)⟩)
  dsimp only [Pt.U, Pt.locs, Pt.cells, Pt.slots] at X21 l21 y21 z21 st21 hQ21
  subst l21 y21 z21
  obtain ⟨rfl, N21q, K21, P21', L21', R21', Y21', hS21, Va21, Vb21, Vc21, Vd21⟩ := hQ21
  have N21 := Fr.app N20 N21q
  have KK21 : Keep h0 T21.heap [] := KK20.trans K21 (allS (Or.inr sz_bp2) (allS (Or.inr sz_bz2) (allS (Or.inr sz_b3) (allS (Or.inr sz_b12) all0))))
  obtain ⟨_, _, ⟨T22, L22, k22, n22⟩, -, X22, ⟨Lc22, hQ22, l22, y22, z22⟩, st22⟩ := Jvm.LawKit.callS X21 hx (y := (⟨"com/example/querist/querist/mst/DisjointSetsFindPinLaw", "step", "(Lcom/example/querist/querist/mst/DisjointSets;[I[II)Z"⟩ : MethodName)) hown (mvT hZ (hw _ (List.mem_of_getElem? (i := 14) rfl))) (mvT hZ (hw _ (List.mem_of_getElem? (i := 15) rfl))) (mvT hZ (hw _ (List.mem_of_getElem? (i := 16) rfl))) (mvT hZ (hw _ (List.mem_of_getElem? (i := 17) rfl))) (by decide) (backOf (W := 1) (rm3 l Z a0 hw [] b1 b3 b12 p1 bp2 kp2 P21' bz2 kz2 L21' k3 R21' k12 Y21' T21.heap n0 (Nat.le_trans (Nat.le_trans (Nat.le_trans (Nat.le_trans (Nat.le_trans (Nat.le_trans (Nat.le_trans (Nat.le_trans (Nat.le_trans (Nat.le_trans (Nat.le_trans (Nat.le_trans (Nat.le_trans Z0 E1.1) K2.1) E3.1) (Keep.of_wr W5).1) (Keep.of_wr W7).1) (Keep.of_wr W9).1) (Keep.of_wr W11).1) E12.1) (Keep.of_wr W14).1) (Keep.of_wr W16).1) (Keep.of_wr W18).1) (Keep.of_wr W20).1) K21.1) (((((((((((Pf2.ext E3).other W5 (Or.inl ne_b1_b3)).other W7 (Or.inl ne_b1_b3)).other W9 (Or.inl ne_b1_b3)).other W11 (Or.inl ne_b1_b3)).ext E12).other W14 (Or.inl ne_b1_b12)).other W16 (Or.inl ne_b1_b12)).other W18 (Or.inl ne_b1_b12)).other W20 (Or.inl ne_b1_b12)).keep K21 (ninS ne_b1_bp2 (ninS ne_b1_bz2 (ninS ne_b1_b3 (ninS ne_b1_b12 nin0))))) (((((((((((Pg2.ext E3).other W5 (Or.inl ne_b1_b3)).other W7 (Or.inl ne_b1_b3)).other W9 (Or.inl ne_b1_b3)).other W11 (Or.inl ne_b1_b3)).ext E12).other W14 (Or.inl ne_b1_b12)).other W16 (Or.inl ne_b1_b12)).other W18 (Or.inl ne_b1_b12)).other W20 (Or.inl ne_b1_b12)).keep K21 (ninS ne_b1_bp2 (ninS ne_b1_bz2 (ninS ne_b1_b3 (ninS ne_b1_b12 nin0))))) (((((((((((Pe2.ext E3).wr W5).wr W7).wr W9).wr W11).ext E12).wr W14).wr W16).wr W18).wr W20).keep K21) Va21 Vb21 Vc21 Vd21 ne_b1_b3 ne_b1_b12 ne_b1_bp2 ne_b1_bz2 ne_b3_b12 (Ne.symm ne_bp2_b3) (Ne.symm ne_bz2_b3) (Ne.symm ne_bp2_b12) (Ne.symm ne_bz2_b12) ne_bp2_bz2 g_bp2 g_bz2 g_b3 g_b12 hS21) hZ (hw _ (List.mem_of_getElem? (i := 17) rfl)) (hw _ (List.mem_of_getElem? (i := 16) rfl)) (by decide) (by decide)) (g := (mkF m 79 #[.val (.int p0), .val (.int p1), .val (.int p2), .val (.int p3), .val (.ref b1), .val (.ref b3), .val (.ref b12), .val (.int (1 : Int32))] [(.int p1), (.ref b12), (.ref b3), (.ref b1), (.int (1 : Int32))])) rfl (by rw [hml]; rfl) (argsL := [(.ref b1), (.ref b3), (.ref b12), (.int p1)]) (rest := [(.int (1 : Int32))]) (lenOf pd_4 rfl) rfl (by show 2 * 0 + _ ≤ _; exact Nat.le_of_eq rfl) (hb hby at_79) (fun _ _ => ⟨rfl, rfl, (by decide : 5 + 0 ≤ _), (by decide : 18 + 0 ≤ _)⟩)
  dsimp only [Pt.U, Pt.locs, Pt.cells, Pt.slots] at X22 l22 y22 z22 st22 hQ22
  subst l22 y22 z22
  obtain ⟨rfl, N22q, K22, P22', L22', R22', Y22', hS22, Va22, Vb22, Vc22, Vd22⟩ := hQ22
  have N22 := Fr.app N21 N22q
  have KK22 : Keep h0 T22.heap [] := KK21.trans K22 (allS (Or.inr sz_bp2) (allS (Or.inr sz_bz2) (allS (Or.inr sz_b3) (allS (Or.inr sz_b12) all0))))
  obtain ⟨_, _, ⟨T23, L23, k23, n23⟩, -, X23, ⟨Lc23, hQ23, l23, y23, z23⟩, st23⟩ := Jvm.LawKit.callS X22 hx (y := (⟨"com/example/querist/querist/mst/DisjointSetsFindPinLaw", "step", "(Lcom/example/querist/querist/mst/DisjointSets;[I[II)Z"⟩ : MethodName)) hown (mvT hZ (hw _ (List.mem_of_getElem? (i := 14) rfl))) (mvT hZ (hw _ (List.mem_of_getElem? (i := 15) rfl))) (mvT hZ (hw _ (List.mem_of_getElem? (i := 16) rfl))) (mvT hZ (hw _ (List.mem_of_getElem? (i := 17) rfl))) (by decide) (backOf (W := 1) (rm3 l Z a0 hw [] b1 b3 b12 p2 bp2 kp2 P22' bz2 kz2 L22' k3 R22' k12 Y22' T22.heap n0 (Nat.le_trans (Nat.le_trans (Nat.le_trans (Nat.le_trans (Nat.le_trans (Nat.le_trans (Nat.le_trans (Nat.le_trans (Nat.le_trans (Nat.le_trans (Nat.le_trans (Nat.le_trans (Nat.le_trans (Nat.le_trans Z0 E1.1) K2.1) E3.1) (Keep.of_wr W5).1) (Keep.of_wr W7).1) (Keep.of_wr W9).1) (Keep.of_wr W11).1) E12.1) (Keep.of_wr W14).1) (Keep.of_wr W16).1) (Keep.of_wr W18).1) (Keep.of_wr W20).1) K21.1) K22.1) ((((((((((((Pf2.ext E3).other W5 (Or.inl ne_b1_b3)).other W7 (Or.inl ne_b1_b3)).other W9 (Or.inl ne_b1_b3)).other W11 (Or.inl ne_b1_b3)).ext E12).other W14 (Or.inl ne_b1_b12)).other W16 (Or.inl ne_b1_b12)).other W18 (Or.inl ne_b1_b12)).other W20 (Or.inl ne_b1_b12)).keep K21 (ninS ne_b1_bp2 (ninS ne_b1_bz2 (ninS ne_b1_b3 (ninS ne_b1_b12 nin0))))).keep K22 (ninS ne_b1_bp2 (ninS ne_b1_bz2 (ninS ne_b1_b3 (ninS ne_b1_b12 nin0))))) ((((((((((((Pg2.ext E3).other W5 (Or.inl ne_b1_b3)).other W7 (Or.inl ne_b1_b3)).other W9 (Or.inl ne_b1_b3)).other W11 (Or.inl ne_b1_b3)).ext E12).other W14 (Or.inl ne_b1_b12)).other W16 (Or.inl ne_b1_b12)).other W18 (Or.inl ne_b1_b12)).other W20 (Or.inl ne_b1_b12)).keep K21 (ninS ne_b1_bp2 (ninS ne_b1_bz2 (ninS ne_b1_b3 (ninS ne_b1_b12 nin0))))).keep K22 (ninS ne_b1_bp2 (ninS ne_b1_bz2 (ninS ne_b1_b3 (ninS ne_b1_b12 nin0))))) ((((((((((((Pe2.ext E3).wr W5).wr W7).wr W9).wr W11).ext E12).wr W14).wr W16).wr W18).wr W20).keep K21).keep K22) Va22 Vb22 Vc22 Vd22 ne_b1_b3 ne_b1_b12 ne_b1_bp2 ne_b1_bz2 ne_b3_b12 (Ne.symm ne_bp2_b3) (Ne.symm ne_bz2_b3) (Ne.symm ne_bp2_b12) (Ne.symm ne_bz2_b12) ne_bp2_bz2 g_bp2 g_bz2 g_b3 g_b12 hS22) hZ (hw _ (List.mem_of_getElem? (i := 17) rfl)) (hw _ (List.mem_of_getElem? (i := 16) rfl)) (by decide) (by decide)) (g := (mkF m 94 #[.val (.int p0), .val (.int p1), .val (.int p2), .val (.int p3), .val (.ref b1), .val (.ref b3), .val (.ref b12), .val (.int (1 : Int32))] [(.int p2), (.ref b12), (.ref b3), (.ref b1), (.int (1 : Int32))])) rfl (by rw [hml]; rfl) (argsL := [(.ref b1), (.ref b3), (.ref b12), (.int p2)]) (rest := [(.int (1 : Int32))]) (lenOf pd_4 rfl) rfl (by show 2 * 0 + _ ≤ _; exact Nat.le_of_eq rfl) (hb hby at_94) (fun _ _ => ⟨rfl, rfl, (by decide : 5 + 0 ≤ _), (by decide : 18 + 0 ≤ _)⟩)
  dsimp only [Pt.U, Pt.locs, Pt.cells, Pt.slots] at X23 l23 y23 z23 st23 hQ23
  subst l23 y23 z23
  obtain ⟨rfl, N23q, K23, P23', L23', R23', Y23', hS23, Va23, Vb23, Vc23, Vd23⟩ := hQ23
  have N23 := Fr.app N22 N23q
  have KK23 : Keep h0 T23.heap [] := KK22.trans K23 (allS (Or.inr sz_bp2) (allS (Or.inr sz_bz2) (allS (Or.inr sz_b3) (allS (Or.inr sz_b12) all0))))
  obtain ⟨_, _, ⟨T24, L24, k24, n24⟩, -, X24, ⟨Lc24, hQ24, l24, y24, z24⟩, st24⟩ := Jvm.LawKit.callS X23 hx (y := (⟨"com/example/querist/querist/mst/DisjointSetsFindPinLaw", "step", "(Lcom/example/querist/querist/mst/DisjointSets;[I[II)Z"⟩ : MethodName)) hown (mvT hZ (hw _ (List.mem_of_getElem? (i := 14) rfl))) (mvT hZ (hw _ (List.mem_of_getElem? (i := 15) rfl))) (mvT hZ (hw _ (List.mem_of_getElem? (i := 16) rfl))) (mvT hZ (hw _ (List.mem_of_getElem? (i := 17) rfl))) (by decide) (backOf (W := 1) (rm3 l Z a0 hw [] b1 b3 b12 p3 bp2 kp2 P23' bz2 kz2 L23' k3 R23' k12 Y23' T23.heap n0 (Nat.le_trans (Nat.le_trans (Nat.le_trans (Nat.le_trans (Nat.le_trans (Nat.le_trans (Nat.le_trans (Nat.le_trans (Nat.le_trans (Nat.le_trans (Nat.le_trans (Nat.le_trans (Nat.le_trans (Nat.le_trans (Nat.le_trans Z0 E1.1) K2.1) E3.1) (Keep.of_wr W5).1) (Keep.of_wr W7).1) (Keep.of_wr W9).1) (Keep.of_wr W11).1) E12.1) (Keep.of_wr W14).1) (Keep.of_wr W16).1) (Keep.of_wr W18).1) (Keep.of_wr W20).1) K21.1) K22.1) K23.1) (((((((((((((Pf2.ext E3).other W5 (Or.inl ne_b1_b3)).other W7 (Or.inl ne_b1_b3)).other W9 (Or.inl ne_b1_b3)).other W11 (Or.inl ne_b1_b3)).ext E12).other W14 (Or.inl ne_b1_b12)).other W16 (Or.inl ne_b1_b12)).other W18 (Or.inl ne_b1_b12)).other W20 (Or.inl ne_b1_b12)).keep K21 (ninS ne_b1_bp2 (ninS ne_b1_bz2 (ninS ne_b1_b3 (ninS ne_b1_b12 nin0))))).keep K22 (ninS ne_b1_bp2 (ninS ne_b1_bz2 (ninS ne_b1_b3 (ninS ne_b1_b12 nin0))))).keep K23 (ninS ne_b1_bp2 (ninS ne_b1_bz2 (ninS ne_b1_b3 (ninS ne_b1_b12 nin0))))) (((((((((((((Pg2.ext E3).other W5 (Or.inl ne_b1_b3)).other W7 (Or.inl ne_b1_b3)).other W9 (Or.inl ne_b1_b3)).other W11 (Or.inl ne_b1_b3)).ext E12).other W14 (Or.inl ne_b1_b12)).other W16 (Or.inl ne_b1_b12)).other W18 (Or.inl ne_b1_b12)).other W20 (Or.inl ne_b1_b12)).keep K21 (ninS ne_b1_bp2 (ninS ne_b1_bz2 (ninS ne_b1_b3 (ninS ne_b1_b12 nin0))))).keep K22 (ninS ne_b1_bp2 (ninS ne_b1_bz2 (ninS ne_b1_b3 (ninS ne_b1_b12 nin0))))).keep K23 (ninS ne_b1_bp2 (ninS ne_b1_bz2 (ninS ne_b1_b3 (ninS ne_b1_b12 nin0))))) (((((((((((((Pe2.ext E3).wr W5).wr W7).wr W9).wr W11).ext E12).wr W14).wr W16).wr W18).wr W20).keep K21).keep K22).keep K23) Va23 Vb23 Vc23 Vd23 ne_b1_b3 ne_b1_b12 ne_b1_bp2 ne_b1_bz2 ne_b3_b12 (Ne.symm ne_bp2_b3) (Ne.symm ne_bz2_b3) (Ne.symm ne_bp2_b12) (Ne.symm ne_bz2_b12) ne_bp2_bz2 g_bp2 g_bz2 g_b3 g_b12 hS23) hZ (hw _ (List.mem_of_getElem? (i := 17) rfl)) (hw _ (List.mem_of_getElem? (i := 16) rfl)) (by decide) (by decide)) (g := (mkF m 109 #[.val (.int p0), .val (.int p1), .val (.int p2), .val (.int p3), .val (.ref b1), .val (.ref b3), .val (.ref b12), .val (.int (1 : Int32))] [(.int p3), (.ref b12), (.ref b3), (.ref b1), (.int (1 : Int32))])) rfl (by rw [hml]; rfl) (argsL := [(.ref b1), (.ref b3), (.ref b12), (.int p3)]) (rest := [(.int (1 : Int32))]) (lenOf pd_4 rfl) rfl (by show 2 * 0 + _ ≤ _; exact Nat.le_of_eq rfl) (hb hby at_109) (fun _ _ => ⟨rfl, rfl, (by decide : 5 + 0 ≤ _), (by decide : 18 + 0 ≤ _)⟩)
  dsimp only [Pt.U, Pt.locs, Pt.cells, Pt.slots] at X24 l24 y24 z24 st24 hQ24
  subst l24 y24 z24
  obtain ⟨rfl, N24q, K24, P24', L24', R24', Y24', hS24, Va24, Vb24, Vc24, Vd24⟩ := hQ24
  have N24 := Fr.app N23 N24q
  have KK24 : Keep h0 T24.heap [] := KK23.trans K24 (allS (Or.inr sz_bp2) (allS (Or.inr sz_bz2) (allS (Or.inr sz_b3) (allS (Or.inr sz_b12) all0))))
  obtain ⟨cq25, kq25, q25a, q25b, q25c⟩ := isOf hZ rfl ((((((((((((((Pe2.ext E3).wr W5).wr W7).wr W9).wr W11).ext E12).wr W14).wr W16).wr W18).wr W20).keep K21).keep K22).keep K23).keep K24)
  obtain ⟨_, _, ⟨T25, L25, k25, n25⟩, -, X25, ⟨Lc25, hQ25, l25, y25, z25⟩, st25⟩ := X24.virtualBack hx (y := (⟨"com/example/querist/querist/mst/DisjointSets", "find", "(I)I"⟩ : MethodName)) (z := (⟨"com/example/querist/querist/mst/DisjointSets", "find", "(I)I"⟩ : MethodName)) hown (mvT hZ (hw _ (List.mem_of_getElem? (i := 31) rfl))) (mvT hZ (hw _ (List.mem_of_getElem? (i := 27) rfl))) (notFace_of_selects (args := #[]) (mvT hZ (hw _ (List.mem_of_getElem? (i := 29) rfl)))) (mvT hZ (hw _ (List.mem_of_getElem? (i := 29) rfl))) (mvT hZ (hw _ (List.mem_of_getElem? (i := 28) rfl))) (by decide) (backOf (W := 1) (rm6 l Z a0 hw [] b1 (3 : Int32) bp2 kp2 P24' T24.heap n0 (Nat.le_trans (Nat.le_trans (Nat.le_trans (Nat.le_trans (Nat.le_trans (Nat.le_trans (Nat.le_trans (Nat.le_trans (Nat.le_trans (Nat.le_trans (Nat.le_trans (Nat.le_trans (Nat.le_trans (Nat.le_trans (Nat.le_trans (Nat.le_trans Z0 E1.1) K2.1) E3.1) (Keep.of_wr W5).1) (Keep.of_wr W7).1) (Keep.of_wr W9).1) (Keep.of_wr W11).1) E12.1) (Keep.of_wr W14).1) (Keep.of_wr W16).1) (Keep.of_wr W18).1) (Keep.of_wr W20).1) K21.1) K22.1) K23.1) K24.1) ((((((((((((((Pf2.ext E3).other W5 (Or.inl ne_b1_b3)).other W7 (Or.inl ne_b1_b3)).other W9 (Or.inl ne_b1_b3)).other W11 (Or.inl ne_b1_b3)).ext E12).other W14 (Or.inl ne_b1_b12)).other W16 (Or.inl ne_b1_b12)).other W18 (Or.inl ne_b1_b12)).other W20 (Or.inl ne_b1_b12)).keep K21 (ninS ne_b1_bp2 (ninS ne_b1_bz2 (ninS ne_b1_b3 (ninS ne_b1_b12 nin0))))).keep K22 (ninS ne_b1_bp2 (ninS ne_b1_bz2 (ninS ne_b1_b3 (ninS ne_b1_b12 nin0))))).keep K23 (ninS ne_b1_bp2 (ninS ne_b1_bz2 (ninS ne_b1_b3 (ninS ne_b1_b12 nin0))))).keep K24 (ninS ne_b1_bp2 (ninS ne_b1_bz2 (ninS ne_b1_b3 (ninS ne_b1_b12 nin0))))) Va24 ne_b1_bp2 g_bp2 (by decide) (own_fin hS24).1) hZ (hw _ (List.mem_of_getElem? (i := 30) rfl)) (hw _ (List.mem_of_getElem? (i := 2) rfl)) (by decide) (by decide)) q25a q25c (g := (mkF m 120 #[.val (.int p0), .val (.int p1), .val (.int p2), .val (.int p3), .val (.ref b1), .val (.ref b3), .val (.ref b12), .val (.int (1 : Int32))] [(.int (3 : Int32)), (.ref b1), (.int (1 : Int32))])) rfl (by rw [hml]; rfl) (Steps.refl _) (argsL := [(.int (3 : Int32))]) (rest := [(.int (1 : Int32))]) (lenOf pd_0 rfl) rfl (by show 2 * 0 + _ ≤ _; exact Nat.le_of_eq rfl) (hb hby at_120) (fun _ _ => ⟨rfl, rfl, (by decide : 5 + 0 ≤ _), (by decide : 18 + 0 ≤ _)⟩)
  dsimp only [Pt.U, Pt.locs, Pt.cells, Pt.slots] at X25 l25 y25 z25 st25 hQ25
  subst l25 y25 z25
  obtain ⟨rfl, N25q, K25, P25_0⟩ := hQ25
  have N25 := Fr.app N24 N25q
  have KK25 : Keep h0 T25.heap [] := KK24.trans K25 (allS (Or.inr sz_bp2) all0)
  obtain ⟨c26, Ar26, hin26, hat26⟩ := own_read (Vc24.keep K25 (ninS (Ne.symm ne_bp2_b3) nin0)) (by decide : own_in (4 : Int32) (3 : Int32))
  obtain ⟨cq27, kq27, q27a, q27b, q27c⟩ := isOf hZ rfl (((((((((((((((Pe2.ext E3).wr W5).wr W7).wr W9).wr W11).ext E12).wr W14).wr W16).wr W18).wr W20).keep K21).keep K22).keep K23).keep K24).keep K25)
  obtain ⟨_, _, ⟨T27, L27, k27, n27⟩, -, X27, ⟨Lc27, hQ27, l27, y27, z27⟩, st27⟩ := X25.virtualBack hx (y := (⟨"com/example/querist/querist/mst/DisjointSets", "find", "(I)I"⟩ : MethodName)) (z := (⟨"com/example/querist/querist/mst/DisjointSets", "find", "(I)I"⟩ : MethodName)) hown (mvT hZ (hw _ (List.mem_of_getElem? (i := 31) rfl))) (mvT hZ (hw _ (List.mem_of_getElem? (i := 27) rfl))) (notFace_of_selects (args := #[]) (mvT hZ (hw _ (List.mem_of_getElem? (i := 29) rfl)))) (mvT hZ (hw _ (List.mem_of_getElem? (i := 29) rfl))) (mvT hZ (hw _ (List.mem_of_getElem? (i := 28) rfl))) (by decide) (backOf (W := 1) (rm6 l Z a0 hw [] b1 (2 : Int32) bp2 kp2 (own_fP P24' (3 : Int32)) T25.heap n0 (Nat.le_trans (Nat.le_trans (Nat.le_trans (Nat.le_trans (Nat.le_trans (Nat.le_trans (Nat.le_trans (Nat.le_trans (Nat.le_trans (Nat.le_trans (Nat.le_trans (Nat.le_trans (Nat.le_trans (Nat.le_trans (Nat.le_trans (Nat.le_trans (Nat.le_trans Z0 E1.1) K2.1) E3.1) (Keep.of_wr W5).1) (Keep.of_wr W7).1) (Keep.of_wr W9).1) (Keep.of_wr W11).1) E12.1) (Keep.of_wr W14).1) (Keep.of_wr W16).1) (Keep.of_wr W18).1) (Keep.of_wr W20).1) K21.1) K22.1) K23.1) K24.1) K25.1) (((((((((((((((Pf2.ext E3).other W5 (Or.inl ne_b1_b3)).other W7 (Or.inl ne_b1_b3)).other W9 (Or.inl ne_b1_b3)).other W11 (Or.inl ne_b1_b3)).ext E12).other W14 (Or.inl ne_b1_b12)).other W16 (Or.inl ne_b1_b12)).other W18 (Or.inl ne_b1_b12)).other W20 (Or.inl ne_b1_b12)).keep K21 (ninS ne_b1_bp2 (ninS ne_b1_bz2 (ninS ne_b1_b3 (ninS ne_b1_b12 nin0))))).keep K22 (ninS ne_b1_bp2 (ninS ne_b1_bz2 (ninS ne_b1_b3 (ninS ne_b1_b12 nin0))))).keep K23 (ninS ne_b1_bp2 (ninS ne_b1_bz2 (ninS ne_b1_b3 (ninS ne_b1_b12 nin0))))).keep K24 (ninS ne_b1_bp2 (ninS ne_b1_bz2 (ninS ne_b1_b3 (ninS ne_b1_b12 nin0))))).keep K25 (ninS ne_b1_bp2 nin0)) P25_0 ne_b1_bp2 g_bp2 (by decide) (own_fin hS24).2.2.1) hZ (hw _ (List.mem_of_getElem? (i := 30) rfl)) (hw _ (List.mem_of_getElem? (i := 2) rfl)) (by decide) (by decide)) q27a q27c (g := (mkF m 143 #[.val (.int p0), .val (.int p1), .val (.int p2), .val (.int p3), .val (.ref b1), .val (.ref b3), .val (.ref b12), .val (.int (1 : Int32))] [(.int (2 : Int32)), (.ref b1), (.int (1 : Int32))])) rfl (by rw [hml]; rfl) (Steps.refl _) (argsL := [(.int (2 : Int32))]) (rest := [(.int (1 : Int32))]) (lenOf pd_0 rfl) rfl (by show 2 * 0 + _ ≤ _; exact Nat.le_of_eq rfl) (hb hby at_143) (fun _ _ => ⟨rfl, rfl, (by decide : 5 + 0 ≤ _), (by decide : 18 + 0 ≤ _)⟩)
  dsimp only [Pt.U, Pt.locs, Pt.cells, Pt.slots] at X27 l27 y27 z27 st27 hQ27
  subst l27 y27 z27
  obtain ⟨rfl, N27q, K27, P27_0⟩ := hQ27
  have N27 := Fr.app N25 N27q
  have KK27 : Keep h0 T27.heap [] := KK25.trans K27 (allS (Or.inr sz_bp2) all0)
  obtain ⟨c28, Ar28, hin28, hat28⟩ := own_read ((Vc24.keep K25 (ninS (Ne.symm ne_bp2_b3) nin0)).keep K27 (ninS (Ne.symm ne_bp2_b3) nin0)) (by decide : own_in (4 : Int32) (2 : Int32))
  obtain ⟨cq29, kq29, q29a, q29b, q29c⟩ := isOf hZ rfl ((((((((((((((((Pe2.ext E3).wr W5).wr W7).wr W9).wr W11).ext E12).wr W14).wr W16).wr W18).wr W20).keep K21).keep K22).keep K23).keep K24).keep K25).keep K27)
  obtain ⟨_, _, ⟨T29, L29, k29, n29⟩, -, X29, ⟨Lc29, hQ29, l29, y29, z29⟩, st29⟩ := X27.virtualBack hx (y := (⟨"com/example/querist/querist/mst/DisjointSets", "find", "(I)I"⟩ : MethodName)) (z := (⟨"com/example/querist/querist/mst/DisjointSets", "find", "(I)I"⟩ : MethodName)) hown (mvT hZ (hw _ (List.mem_of_getElem? (i := 31) rfl))) (mvT hZ (hw _ (List.mem_of_getElem? (i := 27) rfl))) (notFace_of_selects (args := #[]) (mvT hZ (hw _ (List.mem_of_getElem? (i := 29) rfl)))) (mvT hZ (hw _ (List.mem_of_getElem? (i := 29) rfl))) (mvT hZ (hw _ (List.mem_of_getElem? (i := 28) rfl))) (by decide) (backOf (W := 1) (rm6 l Z a0 hw [] b1 (1 : Int32) bp2 kp2 (own_fP (own_fP P24' (3 : Int32)) (2 : Int32)) T27.heap n0 (Nat.le_trans (Nat.le_trans (Nat.le_trans (Nat.le_trans (Nat.le_trans (Nat.le_trans (Nat.le_trans (Nat.le_trans (Nat.le_trans (Nat.le_trans (Nat.le_trans (Nat.le_trans (Nat.le_trans (Nat.le_trans (Nat.le_trans (Nat.le_trans (Nat.le_trans (Nat.le_trans Z0 E1.1) K2.1) E3.1) (Keep.of_wr W5).1) (Keep.of_wr W7).1) (Keep.of_wr W9).1) (Keep.of_wr W11).1) E12.1) (Keep.of_wr W14).1) (Keep.of_wr W16).1) (Keep.of_wr W18).1) (Keep.of_wr W20).1) K21.1) K22.1) K23.1) K24.1) K25.1) K27.1) ((((((((((((((((Pf2.ext E3).other W5 (Or.inl ne_b1_b3)).other W7 (Or.inl ne_b1_b3)).other W9 (Or.inl ne_b1_b3)).other W11 (Or.inl ne_b1_b3)).ext E12).other W14 (Or.inl ne_b1_b12)).other W16 (Or.inl ne_b1_b12)).other W18 (Or.inl ne_b1_b12)).other W20 (Or.inl ne_b1_b12)).keep K21 (ninS ne_b1_bp2 (ninS ne_b1_bz2 (ninS ne_b1_b3 (ninS ne_b1_b12 nin0))))).keep K22 (ninS ne_b1_bp2 (ninS ne_b1_bz2 (ninS ne_b1_b3 (ninS ne_b1_b12 nin0))))).keep K23 (ninS ne_b1_bp2 (ninS ne_b1_bz2 (ninS ne_b1_b3 (ninS ne_b1_b12 nin0))))).keep K24 (ninS ne_b1_bp2 (ninS ne_b1_bz2 (ninS ne_b1_b3 (ninS ne_b1_b12 nin0))))).keep K25 (ninS ne_b1_bp2 nin0)).keep K27 (ninS ne_b1_bp2 nin0)) P27_0 ne_b1_bp2 g_bp2 (by decide) (own_fin hS24).2.2.2.2.1) hZ (hw _ (List.mem_of_getElem? (i := 30) rfl)) (hw _ (List.mem_of_getElem? (i := 2) rfl)) (by decide) (by decide)) q29a q29c (g := (mkF m 166 #[.val (.int p0), .val (.int p1), .val (.int p2), .val (.int p3), .val (.ref b1), .val (.ref b3), .val (.ref b12), .val (.int (1 : Int32))] [(.int (1 : Int32)), (.ref b1), (.int (1 : Int32))])) rfl (by rw [hml]; rfl) (Steps.refl _) (argsL := [(.int (1 : Int32))]) (rest := [(.int (1 : Int32))]) (lenOf pd_0 rfl) rfl (by show 2 * 0 + _ ≤ _; exact Nat.le_of_eq rfl) (hb hby at_166) (fun _ _ => ⟨rfl, rfl, (by decide : 5 + 0 ≤ _), (by decide : 18 + 0 ≤ _)⟩)
  dsimp only [Pt.U, Pt.locs, Pt.cells, Pt.slots] at X29 l29 y29 z29 st29 hQ29
  subst l29 y29 z29
  obtain ⟨rfl, N29q, K29, P29_0⟩ := hQ29
  have N29 := Fr.app N27 N29q
  have KK29 : Keep h0 T29.heap [] := KK27.trans K29 (allS (Or.inr sz_bp2) all0)
  obtain ⟨c30, Ar30, hin30, hat30⟩ := own_read (((Vc24.keep K25 (ninS (Ne.symm ne_bp2_b3) nin0)).keep K27 (ninS (Ne.symm ne_bp2_b3) nin0)).keep K29 (ninS (Ne.symm ne_bp2_b3) nin0)) (by decide : own_in (4 : Int32) (1 : Int32))
  obtain ⟨cq31, kq31, q31a, q31b, q31c⟩ := isOf hZ rfl (((((((((((((((((Pe2.ext E3).wr W5).wr W7).wr W9).wr W11).ext E12).wr W14).wr W16).wr W18).wr W20).keep K21).keep K22).keep K23).keep K24).keep K25).keep K27).keep K29)
  obtain ⟨_, _, ⟨T31, L31, k31, n31⟩, -, X31, ⟨Lc31, hQ31, l31, y31, z31⟩, st31⟩ := X29.virtualBack hx (y := (⟨"com/example/querist/querist/mst/DisjointSets", "find", "(I)I"⟩ : MethodName)) (z := (⟨"com/example/querist/querist/mst/DisjointSets", "find", "(I)I"⟩ : MethodName)) hown (mvT hZ (hw _ (List.mem_of_getElem? (i := 31) rfl))) (mvT hZ (hw _ (List.mem_of_getElem? (i := 27) rfl))) (notFace_of_selects (args := #[]) (mvT hZ (hw _ (List.mem_of_getElem? (i := 29) rfl)))) (mvT hZ (hw _ (List.mem_of_getElem? (i := 29) rfl))) (mvT hZ (hw _ (List.mem_of_getElem? (i := 28) rfl))) (by decide) (backOf (W := 1) (rm6 l Z a0 hw [] b1 (0 : Int32) bp2 kp2 (own_fP (own_fP (own_fP P24' (3 : Int32)) (2 : Int32)) (1 : Int32)) T29.heap n0 (Nat.le_trans (Nat.le_trans (Nat.le_trans (Nat.le_trans (Nat.le_trans (Nat.le_trans (Nat.le_trans (Nat.le_trans (Nat.le_trans (Nat.le_trans (Nat.le_trans (Nat.le_trans (Nat.le_trans (Nat.le_trans (Nat.le_trans (Nat.le_trans (Nat.le_trans (Nat.le_trans (Nat.le_trans Z0 E1.1) K2.1) E3.1) (Keep.of_wr W5).1) (Keep.of_wr W7).1) (Keep.of_wr W9).1) (Keep.of_wr W11).1) E12.1) (Keep.of_wr W14).1) (Keep.of_wr W16).1) (Keep.of_wr W18).1) (Keep.of_wr W20).1) K21.1) K22.1) K23.1) K24.1) K25.1) K27.1) K29.1) (((((((((((((((((Pf2.ext E3).other W5 (Or.inl ne_b1_b3)).other W7 (Or.inl ne_b1_b3)).other W9 (Or.inl ne_b1_b3)).other W11 (Or.inl ne_b1_b3)).ext E12).other W14 (Or.inl ne_b1_b12)).other W16 (Or.inl ne_b1_b12)).other W18 (Or.inl ne_b1_b12)).other W20 (Or.inl ne_b1_b12)).keep K21 (ninS ne_b1_bp2 (ninS ne_b1_bz2 (ninS ne_b1_b3 (ninS ne_b1_b12 nin0))))).keep K22 (ninS ne_b1_bp2 (ninS ne_b1_bz2 (ninS ne_b1_b3 (ninS ne_b1_b12 nin0))))).keep K23 (ninS ne_b1_bp2 (ninS ne_b1_bz2 (ninS ne_b1_b3 (ninS ne_b1_b12 nin0))))).keep K24 (ninS ne_b1_bp2 (ninS ne_b1_bz2 (ninS ne_b1_b3 (ninS ne_b1_b12 nin0))))).keep K25 (ninS ne_b1_bp2 nin0)).keep K27 (ninS ne_b1_bp2 nin0)).keep K29 (ninS ne_b1_bp2 nin0)) P29_0 ne_b1_bp2 g_bp2 (by decide) (own_fin hS24).2.2.2.2.2.2.1) hZ (hw _ (List.mem_of_getElem? (i := 30) rfl)) (hw _ (List.mem_of_getElem? (i := 2) rfl)) (by decide) (by decide)) q31a q31c (g := (mkF m 189 #[.val (.int p0), .val (.int p1), .val (.int p2), .val (.int p3), .val (.ref b1), .val (.ref b3), .val (.ref b12), .val (.int (1 : Int32))] [(.int (0 : Int32)), (.ref b1), (.int (1 : Int32))])) rfl (by rw [hml]; rfl) (Steps.refl _) (argsL := [(.int (0 : Int32))]) (rest := [(.int (1 : Int32))]) (lenOf pd_0 rfl) rfl (by show 2 * 0 + _ ≤ _; exact Nat.le_of_eq rfl) (hb hby at_189) (fun _ _ => ⟨rfl, rfl, (by decide : 5 + 0 ≤ _), (by decide : 18 + 0 ≤ _)⟩)
  dsimp only [Pt.U, Pt.locs, Pt.cells, Pt.slots] at X31 l31 y31 z31 st31 hQ31
  subst l31 y31 z31
  obtain ⟨rfl, N31q, K31, P31_0⟩ := hQ31
  have N31 := Fr.app N29 N31q
  have KK31 : Keep h0 T31.heap [] := KK29.trans K31 (allS (Or.inr sz_bp2) all0)
  obtain ⟨c32, Ar32, hin32, hat32⟩ := own_read ((((Vc24.keep K25 (ninS (Ne.symm ne_bp2_b3) nin0)).keep K27 (ninS (Ne.symm ne_bp2_b3) nin0)).keep K29 (ninS (Ne.symm ne_bp2_b3) nin0)).keep K31 (ninS (Ne.symm ne_bp2_b3) nin0)) (by decide : own_in (4 : Int32) (0 : Int32))
  have pre33 : ∀ t, Steps p.tables e below (T31.setTop (mkF m 209 #[.val (.int p0), .val (.int p1), .val (.int p2), .val (.int p3), .val (.ref b1), .val (.ref b3), .val (.ref b12), .val (.int (1 : Int32))] [(.int (1 : Int32))])) t → Steps p.tables e below (s₁.setTop (entryFrame m #[(.int p0), (.int p1), (.int p2), (.int p3)] maxLocals)) t := fun t k => pre0 t (by
    show Steps p.tables e below (s₁.setTop (mkF m 0 #[.val (.int p0), .val (.int p1), .val (.int p2), .val (.int p3), .unset, .unset, .unset, .unset] [])) _
    refine st1 _ ?_
    show Steps p.tables e below (T1.setTop (mkF m 3 #[.val (.int p0), .val (.int p1), .val (.int p2), .val (.int p3), .unset, .unset, .unset, .unset] [(.ref b1)])) _
    refine XS.dup X1.here hx rfl (hb hby at_3) rfl rfl ?_
    show Steps p.tables e below (T1.setTop (mkF m 4 #[.val (.int p0), .val (.int p1), .val (.int p2), .val (.int p3), .unset, .unset, .unset, .unset] [(.ref b1), (.ref b1)])) _
    refine XS.iconst X1.here hx rfl (hb hby at_4) ?_
    show Steps p.tables e below (T1.setTop (mkF m 5 #[.val (.int p0), .val (.int p1), .val (.int p2), .val (.int p3), .unset, .unset, .unset, .unset] [(.int (4 : Int32)), (.ref b1), (.ref b1)])) _
    refine st2.trans ?_
    show Steps p.tables e below (T2.setTop (mkF m 8 #[.val (.int p0), .val (.int p1), .val (.int p2), .val (.int p3), .unset, .unset, .unset, .unset] [(.ref b1)])) _
    refine XS.astore X2.here hx rfl (hb hby at_8) rfl rfl (l' := #[.val (.int p0), .val (.int p1), .val (.int p2), .val (.int p3), .val (.ref b1), .unset, .unset, .unset]) rfl ?_
    show Steps p.tables e below (T2.setTop (mkF m 10 #[.val (.int p0), .val (.int p1), .val (.int p2), .val (.int p3), .val (.ref b1), .unset, .unset, .unset] [])) _
    refine XS.iconst X2.here hx rfl (hb hby at_10) ?_
    show Steps p.tables e below (T2.setTop (mkF m 11 #[.val (.int p0), .val (.int p1), .val (.int p2), .val (.int p3), .val (.ref b1), .unset, .unset, .unset] [(.int (4 : Int32))])) _
    refine st3 _ ?_
    show Steps p.tables e below (T3.setTop (mkF m 13 #[.val (.int p0), .val (.int p1), .val (.int p2), .val (.int p3), .val (.ref b1), .unset, .unset, .unset] [(.ref b3)])) _
    refine XS.dup X3.here hx rfl (hb hby at_13) rfl rfl ?_
    show Steps p.tables e below (T3.setTop (mkF m 14 #[.val (.int p0), .val (.int p1), .val (.int p2), .val (.int p3), .val (.ref b1), .unset, .unset, .unset] [(.ref b3), (.ref b3)])) _
    refine XS.iconst X3.here hx rfl (hb hby at_14) ?_
    show Steps p.tables e below (T3.setTop (mkF m 15 #[.val (.int p0), .val (.int p1), .val (.int p2), .val (.int p3), .val (.ref b1), .unset, .unset, .unset] [(.int (0 : Int32)), (.ref b3), (.ref b3)])) _
    refine XS.iconst X3.here hx rfl (hb hby at_15) ?_
    show Steps p.tables e below (T3.setTop (mkF m 16 #[.val (.int p0), .val (.int p1), .val (.int p2), .val (.int p3), .val (.ref b1), .unset, .unset, .unset] [(.int (0 : Int32)), (.int (0 : Int32)), (.ref b3), (.ref b3)])) _
    refine st5 _ ?_
    show Steps p.tables e below (T5.setTop (mkF m 17 #[.val (.int p0), .val (.int p1), .val (.int p2), .val (.int p3), .val (.ref b1), .unset, .unset, .unset] [(.ref b3)])) _
    refine XS.dup X5.here hx rfl (hb hby at_17) rfl rfl ?_
    show Steps p.tables e below (T5.setTop (mkF m 18 #[.val (.int p0), .val (.int p1), .val (.int p2), .val (.int p3), .val (.ref b1), .unset, .unset, .unset] [(.ref b3), (.ref b3)])) _
    refine XS.iconst X5.here hx rfl (hb hby at_18) ?_
    show Steps p.tables e below (T5.setTop (mkF m 19 #[.val (.int p0), .val (.int p1), .val (.int p2), .val (.int p3), .val (.ref b1), .unset, .unset, .unset] [(.int (1 : Int32)), (.ref b3), (.ref b3)])) _
    refine XS.iconst X5.here hx rfl (hb hby at_19) ?_
    show Steps p.tables e below (T5.setTop (mkF m 20 #[.val (.int p0), .val (.int p1), .val (.int p2), .val (.int p3), .val (.ref b1), .unset, .unset, .unset] [(.int (1 : Int32)), (.int (1 : Int32)), (.ref b3), (.ref b3)])) _
    refine st7 _ ?_
    show Steps p.tables e below (T7.setTop (mkF m 21 #[.val (.int p0), .val (.int p1), .val (.int p2), .val (.int p3), .val (.ref b1), .unset, .unset, .unset] [(.ref b3)])) _
    refine XS.dup X7.here hx rfl (hb hby at_21) rfl rfl ?_
    show Steps p.tables e below (T7.setTop (mkF m 22 #[.val (.int p0), .val (.int p1), .val (.int p2), .val (.int p3), .val (.ref b1), .unset, .unset, .unset] [(.ref b3), (.ref b3)])) _
    refine XS.iconst X7.here hx rfl (hb hby at_22) ?_
    show Steps p.tables e below (T7.setTop (mkF m 23 #[.val (.int p0), .val (.int p1), .val (.int p2), .val (.int p3), .val (.ref b1), .unset, .unset, .unset] [(.int (2 : Int32)), (.ref b3), (.ref b3)])) _
    refine XS.iconst X7.here hx rfl (hb hby at_23) ?_
    show Steps p.tables e below (T7.setTop (mkF m 24 #[.val (.int p0), .val (.int p1), .val (.int p2), .val (.int p3), .val (.ref b1), .unset, .unset, .unset] [(.int (2 : Int32)), (.int (2 : Int32)), (.ref b3), (.ref b3)])) _
    refine st9 _ ?_
    show Steps p.tables e below (T9.setTop (mkF m 25 #[.val (.int p0), .val (.int p1), .val (.int p2), .val (.int p3), .val (.ref b1), .unset, .unset, .unset] [(.ref b3)])) _
    refine XS.dup X9.here hx rfl (hb hby at_25) rfl rfl ?_
    show Steps p.tables e below (T9.setTop (mkF m 26 #[.val (.int p0), .val (.int p1), .val (.int p2), .val (.int p3), .val (.ref b1), .unset, .unset, .unset] [(.ref b3), (.ref b3)])) _
    refine XS.iconst X9.here hx rfl (hb hby at_26) ?_
    show Steps p.tables e below (T9.setTop (mkF m 27 #[.val (.int p0), .val (.int p1), .val (.int p2), .val (.int p3), .val (.ref b1), .unset, .unset, .unset] [(.int (3 : Int32)), (.ref b3), (.ref b3)])) _
    refine XS.iconst X9.here hx rfl (hb hby at_27) ?_
    show Steps p.tables e below (T9.setTop (mkF m 28 #[.val (.int p0), .val (.int p1), .val (.int p2), .val (.int p3), .val (.ref b1), .unset, .unset, .unset] [(.int (3 : Int32)), (.int (3 : Int32)), (.ref b3), (.ref b3)])) _
    refine st11 _ ?_
    show Steps p.tables e below (T11.setTop (mkF m 29 #[.val (.int p0), .val (.int p1), .val (.int p2), .val (.int p3), .val (.ref b1), .unset, .unset, .unset] [(.ref b3)])) _
    refine XS.astore X11.here hx rfl (hb hby at_29) rfl rfl (l' := #[.val (.int p0), .val (.int p1), .val (.int p2), .val (.int p3), .val (.ref b1), .val (.ref b3), .unset, .unset]) rfl ?_
    show Steps p.tables e below (T11.setTop (mkF m 31 #[.val (.int p0), .val (.int p1), .val (.int p2), .val (.int p3), .val (.ref b1), .val (.ref b3), .unset, .unset] [])) _
    refine XS.iconst X11.here hx rfl (hb hby at_31) ?_
    show Steps p.tables e below (T11.setTop (mkF m 32 #[.val (.int p0), .val (.int p1), .val (.int p2), .val (.int p3), .val (.ref b1), .val (.ref b3), .unset, .unset] [(.int (4 : Int32))])) _
    refine st12 _ ?_
    show Steps p.tables e below (T12.setTop (mkF m 34 #[.val (.int p0), .val (.int p1), .val (.int p2), .val (.int p3), .val (.ref b1), .val (.ref b3), .unset, .unset] [(.ref b12)])) _
    refine XS.dup X12.here hx rfl (hb hby at_34) rfl rfl ?_
    show Steps p.tables e below (T12.setTop (mkF m 35 #[.val (.int p0), .val (.int p1), .val (.int p2), .val (.int p3), .val (.ref b1), .val (.ref b3), .unset, .unset] [(.ref b12), (.ref b12)])) _
    refine XS.iconst X12.here hx rfl (hb hby at_35) ?_
    show Steps p.tables e below (T12.setTop (mkF m 36 #[.val (.int p0), .val (.int p1), .val (.int p2), .val (.int p3), .val (.ref b1), .val (.ref b3), .unset, .unset] [(.int (0 : Int32)), (.ref b12), (.ref b12)])) _
    refine XS.iconst X12.here hx rfl (hb hby at_36) ?_
    show Steps p.tables e below (T12.setTop (mkF m 37 #[.val (.int p0), .val (.int p1), .val (.int p2), .val (.int p3), .val (.ref b1), .val (.ref b3), .unset, .unset] [(.int (1 : Int32)), (.int (0 : Int32)), (.ref b12), (.ref b12)])) _
    refine st14 _ ?_
    show Steps p.tables e below (T14.setTop (mkF m 38 #[.val (.int p0), .val (.int p1), .val (.int p2), .val (.int p3), .val (.ref b1), .val (.ref b3), .unset, .unset] [(.ref b12)])) _
    refine XS.dup X14.here hx rfl (hb hby at_38) rfl rfl ?_
    show Steps p.tables e below (T14.setTop (mkF m 39 #[.val (.int p0), .val (.int p1), .val (.int p2), .val (.int p3), .val (.ref b1), .val (.ref b3), .unset, .unset] [(.ref b12), (.ref b12)])) _
    refine XS.iconst X14.here hx rfl (hb hby at_39) ?_
    show Steps p.tables e below (T14.setTop (mkF m 40 #[.val (.int p0), .val (.int p1), .val (.int p2), .val (.int p3), .val (.ref b1), .val (.ref b3), .unset, .unset] [(.int (1 : Int32)), (.ref b12), (.ref b12)])) _
    refine XS.iconst X14.here hx rfl (hb hby at_40) ?_
    show Steps p.tables e below (T14.setTop (mkF m 41 #[.val (.int p0), .val (.int p1), .val (.int p2), .val (.int p3), .val (.ref b1), .val (.ref b3), .unset, .unset] [(.int (1 : Int32)), (.int (1 : Int32)), (.ref b12), (.ref b12)])) _
    refine st16 _ ?_
    show Steps p.tables e below (T16.setTop (mkF m 42 #[.val (.int p0), .val (.int p1), .val (.int p2), .val (.int p3), .val (.ref b1), .val (.ref b3), .unset, .unset] [(.ref b12)])) _
    refine XS.dup X16.here hx rfl (hb hby at_42) rfl rfl ?_
    show Steps p.tables e below (T16.setTop (mkF m 43 #[.val (.int p0), .val (.int p1), .val (.int p2), .val (.int p3), .val (.ref b1), .val (.ref b3), .unset, .unset] [(.ref b12), (.ref b12)])) _
    refine XS.iconst X16.here hx rfl (hb hby at_43) ?_
    show Steps p.tables e below (T16.setTop (mkF m 44 #[.val (.int p0), .val (.int p1), .val (.int p2), .val (.int p3), .val (.ref b1), .val (.ref b3), .unset, .unset] [(.int (2 : Int32)), (.ref b12), (.ref b12)])) _
    refine XS.iconst X16.here hx rfl (hb hby at_44) ?_
    show Steps p.tables e below (T16.setTop (mkF m 45 #[.val (.int p0), .val (.int p1), .val (.int p2), .val (.int p3), .val (.ref b1), .val (.ref b3), .unset, .unset] [(.int (1 : Int32)), (.int (2 : Int32)), (.ref b12), (.ref b12)])) _
    refine st18 _ ?_
    show Steps p.tables e below (T18.setTop (mkF m 46 #[.val (.int p0), .val (.int p1), .val (.int p2), .val (.int p3), .val (.ref b1), .val (.ref b3), .unset, .unset] [(.ref b12)])) _
    refine XS.dup X18.here hx rfl (hb hby at_46) rfl rfl ?_
    show Steps p.tables e below (T18.setTop (mkF m 47 #[.val (.int p0), .val (.int p1), .val (.int p2), .val (.int p3), .val (.ref b1), .val (.ref b3), .unset, .unset] [(.ref b12), (.ref b12)])) _
    refine XS.iconst X18.here hx rfl (hb hby at_47) ?_
    show Steps p.tables e below (T18.setTop (mkF m 48 #[.val (.int p0), .val (.int p1), .val (.int p2), .val (.int p3), .val (.ref b1), .val (.ref b3), .unset, .unset] [(.int (3 : Int32)), (.ref b12), (.ref b12)])) _
    refine XS.iconst X18.here hx rfl (hb hby at_48) ?_
    show Steps p.tables e below (T18.setTop (mkF m 49 #[.val (.int p0), .val (.int p1), .val (.int p2), .val (.int p3), .val (.ref b1), .val (.ref b3), .unset, .unset] [(.int (1 : Int32)), (.int (3 : Int32)), (.ref b12), (.ref b12)])) _
    refine st20 _ ?_
    show Steps p.tables e below (T20.setTop (mkF m 50 #[.val (.int p0), .val (.int p1), .val (.int p2), .val (.int p3), .val (.ref b1), .val (.ref b3), .unset, .unset] [(.ref b12)])) _
    refine XS.astore X20.here hx rfl (hb hby at_50) rfl rfl (l' := #[.val (.int p0), .val (.int p1), .val (.int p2), .val (.int p3), .val (.ref b1), .val (.ref b3), .val (.ref b12), .unset]) rfl ?_
    show Steps p.tables e below (T20.setTop (mkF m 52 #[.val (.int p0), .val (.int p1), .val (.int p2), .val (.int p3), .val (.ref b1), .val (.ref b3), .val (.ref b12), .unset] [])) _
    refine XS.iconst X20.here hx rfl (hb hby at_52) ?_
    show Steps p.tables e below (T20.setTop (mkF m 53 #[.val (.int p0), .val (.int p1), .val (.int p2), .val (.int p3), .val (.ref b1), .val (.ref b3), .val (.ref b12), .unset] [(.int (1 : Int32))])) _
    refine XS.istore X20.here hx rfl (hb hby at_53) rfl (l' := #[.val (.int p0), .val (.int p1), .val (.int p2), .val (.int p3), .val (.ref b1), .val (.ref b3), .val (.ref b12), .val (.int (1 : Int32))]) rfl ?_
    show Steps p.tables e below (T20.setTop (mkF m 55 #[.val (.int p0), .val (.int p1), .val (.int p2), .val (.int p3), .val (.ref b1), .val (.ref b3), .val (.ref b12), .val (.int (1 : Int32))] [])) _
    refine XS.iload X20.here hx rfl (hb hby at_55) rfl ?_
    show Steps p.tables e below (T20.setTop (mkF m 57 #[.val (.int p0), .val (.int p1), .val (.int p2), .val (.int p3), .val (.ref b1), .val (.ref b3), .val (.ref b12), .val (.int (1 : Int32))] [(.int (1 : Int32))])) _
    refine XS.aload X20.here hx rfl (hb hby at_57) rfl rfl ?_
    show Steps p.tables e below (T20.setTop (mkF m 59 #[.val (.int p0), .val (.int p1), .val (.int p2), .val (.int p3), .val (.ref b1), .val (.ref b3), .val (.ref b12), .val (.int (1 : Int32))] [(.ref b1), (.int (1 : Int32))])) _
    refine XS.aload X20.here hx rfl (hb hby at_59) rfl rfl ?_
    show Steps p.tables e below (T20.setTop (mkF m 61 #[.val (.int p0), .val (.int p1), .val (.int p2), .val (.int p3), .val (.ref b1), .val (.ref b3), .val (.ref b12), .val (.int (1 : Int32))] [(.ref b3), (.ref b1), (.int (1 : Int32))])) _
    refine XS.aload X20.here hx rfl (hb hby at_61) rfl rfl ?_
    show Steps p.tables e below (T20.setTop (mkF m 63 #[.val (.int p0), .val (.int p1), .val (.int p2), .val (.int p3), .val (.ref b1), .val (.ref b3), .val (.ref b12), .val (.int (1 : Int32))] [(.ref b12), (.ref b3), (.ref b1), (.int (1 : Int32))])) _
    refine XS.iloadN X20.here hx rfl (hb hby at_63) rfl ?_
    show Steps p.tables e below (T20.setTop (mkF m 64 #[.val (.int p0), .val (.int p1), .val (.int p2), .val (.int p3), .val (.ref b1), .val (.ref b3), .val (.ref b12), .val (.int (1 : Int32))] [(.int p0), (.ref b12), (.ref b3), (.ref b1), (.int (1 : Int32))])) _
    refine st21 _ ?_
    show Steps p.tables e below (T21.setTop (mkF m 67 #[.val (.int p0), .val (.int p1), .val (.int p2), .val (.int p3), .val (.ref b1), .val (.ref b3), .val (.ref b12), .val (.int (1 : Int32))] [(.int (1 : Int32)), (.int (1 : Int32))])) _
    refine XS.iand X21.here hx rfl (hb hby at_67) rfl ?_
    show Steps p.tables e below (T21.setTop (mkF m 68 #[.val (.int p0), .val (.int p1), .val (.int p2), .val (.int p3), .val (.ref b1), .val (.ref b3), .val (.ref b12), .val (.int (1 : Int32))] [(.int (1 : Int32))])) _
    refine XS.istore X21.here hx rfl (hb hby at_68) rfl (l' := #[.val (.int p0), .val (.int p1), .val (.int p2), .val (.int p3), .val (.ref b1), .val (.ref b3), .val (.ref b12), .val (.int (1 : Int32))]) rfl ?_
    show Steps p.tables e below (T21.setTop (mkF m 70 #[.val (.int p0), .val (.int p1), .val (.int p2), .val (.int p3), .val (.ref b1), .val (.ref b3), .val (.ref b12), .val (.int (1 : Int32))] [])) _
    refine XS.iload X21.here hx rfl (hb hby at_70) rfl ?_
    show Steps p.tables e below (T21.setTop (mkF m 72 #[.val (.int p0), .val (.int p1), .val (.int p2), .val (.int p3), .val (.ref b1), .val (.ref b3), .val (.ref b12), .val (.int (1 : Int32))] [(.int (1 : Int32))])) _
    refine XS.aload X21.here hx rfl (hb hby at_72) rfl rfl ?_
    show Steps p.tables e below (T21.setTop (mkF m 74 #[.val (.int p0), .val (.int p1), .val (.int p2), .val (.int p3), .val (.ref b1), .val (.ref b3), .val (.ref b12), .val (.int (1 : Int32))] [(.ref b1), (.int (1 : Int32))])) _
    refine XS.aload X21.here hx rfl (hb hby at_74) rfl rfl ?_
    show Steps p.tables e below (T21.setTop (mkF m 76 #[.val (.int p0), .val (.int p1), .val (.int p2), .val (.int p3), .val (.ref b1), .val (.ref b3), .val (.ref b12), .val (.int (1 : Int32))] [(.ref b3), (.ref b1), (.int (1 : Int32))])) _
    refine XS.aload X21.here hx rfl (hb hby at_76) rfl rfl ?_
    show Steps p.tables e below (T21.setTop (mkF m 78 #[.val (.int p0), .val (.int p1), .val (.int p2), .val (.int p3), .val (.ref b1), .val (.ref b3), .val (.ref b12), .val (.int (1 : Int32))] [(.ref b12), (.ref b3), (.ref b1), (.int (1 : Int32))])) _
    refine XS.iloadN X21.here hx rfl (hb hby at_78) rfl ?_
    show Steps p.tables e below (T21.setTop (mkF m 79 #[.val (.int p0), .val (.int p1), .val (.int p2), .val (.int p3), .val (.ref b1), .val (.ref b3), .val (.ref b12), .val (.int (1 : Int32))] [(.int p1), (.ref b12), (.ref b3), (.ref b1), (.int (1 : Int32))])) _
    refine st22 _ ?_
    show Steps p.tables e below (T22.setTop (mkF m 82 #[.val (.int p0), .val (.int p1), .val (.int p2), .val (.int p3), .val (.ref b1), .val (.ref b3), .val (.ref b12), .val (.int (1 : Int32))] [(.int (1 : Int32)), (.int (1 : Int32))])) _
    refine XS.iand X22.here hx rfl (hb hby at_82) rfl ?_
    show Steps p.tables e below (T22.setTop (mkF m 83 #[.val (.int p0), .val (.int p1), .val (.int p2), .val (.int p3), .val (.ref b1), .val (.ref b3), .val (.ref b12), .val (.int (1 : Int32))] [(.int (1 : Int32))])) _
    refine XS.istore X22.here hx rfl (hb hby at_83) rfl (l' := #[.val (.int p0), .val (.int p1), .val (.int p2), .val (.int p3), .val (.ref b1), .val (.ref b3), .val (.ref b12), .val (.int (1 : Int32))]) rfl ?_
    show Steps p.tables e below (T22.setTop (mkF m 85 #[.val (.int p0), .val (.int p1), .val (.int p2), .val (.int p3), .val (.ref b1), .val (.ref b3), .val (.ref b12), .val (.int (1 : Int32))] [])) _
    refine XS.iload X22.here hx rfl (hb hby at_85) rfl ?_
    show Steps p.tables e below (T22.setTop (mkF m 87 #[.val (.int p0), .val (.int p1), .val (.int p2), .val (.int p3), .val (.ref b1), .val (.ref b3), .val (.ref b12), .val (.int (1 : Int32))] [(.int (1 : Int32))])) _
    refine XS.aload X22.here hx rfl (hb hby at_87) rfl rfl ?_
    show Steps p.tables e below (T22.setTop (mkF m 89 #[.val (.int p0), .val (.int p1), .val (.int p2), .val (.int p3), .val (.ref b1), .val (.ref b3), .val (.ref b12), .val (.int (1 : Int32))] [(.ref b1), (.int (1 : Int32))])) _
    refine XS.aload X22.here hx rfl (hb hby at_89) rfl rfl ?_
    show Steps p.tables e below (T22.setTop (mkF m 91 #[.val (.int p0), .val (.int p1), .val (.int p2), .val (.int p3), .val (.ref b1), .val (.ref b3), .val (.ref b12), .val (.int (1 : Int32))] [(.ref b3), (.ref b1), (.int (1 : Int32))])) _
    refine XS.aload X22.here hx rfl (hb hby at_91) rfl rfl ?_
    show Steps p.tables e below (T22.setTop (mkF m 93 #[.val (.int p0), .val (.int p1), .val (.int p2), .val (.int p3), .val (.ref b1), .val (.ref b3), .val (.ref b12), .val (.int (1 : Int32))] [(.ref b12), (.ref b3), (.ref b1), (.int (1 : Int32))])) _
    refine XS.iloadN X22.here hx rfl (hb hby at_93) rfl ?_
    show Steps p.tables e below (T22.setTop (mkF m 94 #[.val (.int p0), .val (.int p1), .val (.int p2), .val (.int p3), .val (.ref b1), .val (.ref b3), .val (.ref b12), .val (.int (1 : Int32))] [(.int p2), (.ref b12), (.ref b3), (.ref b1), (.int (1 : Int32))])) _
    refine st23 _ ?_
    show Steps p.tables e below (T23.setTop (mkF m 97 #[.val (.int p0), .val (.int p1), .val (.int p2), .val (.int p3), .val (.ref b1), .val (.ref b3), .val (.ref b12), .val (.int (1 : Int32))] [(.int (1 : Int32)), (.int (1 : Int32))])) _
    refine XS.iand X23.here hx rfl (hb hby at_97) rfl ?_
    show Steps p.tables e below (T23.setTop (mkF m 98 #[.val (.int p0), .val (.int p1), .val (.int p2), .val (.int p3), .val (.ref b1), .val (.ref b3), .val (.ref b12), .val (.int (1 : Int32))] [(.int (1 : Int32))])) _
    refine XS.istore X23.here hx rfl (hb hby at_98) rfl (l' := #[.val (.int p0), .val (.int p1), .val (.int p2), .val (.int p3), .val (.ref b1), .val (.ref b3), .val (.ref b12), .val (.int (1 : Int32))]) rfl ?_
    show Steps p.tables e below (T23.setTop (mkF m 100 #[.val (.int p0), .val (.int p1), .val (.int p2), .val (.int p3), .val (.ref b1), .val (.ref b3), .val (.ref b12), .val (.int (1 : Int32))] [])) _
    refine XS.iload X23.here hx rfl (hb hby at_100) rfl ?_
    show Steps p.tables e below (T23.setTop (mkF m 102 #[.val (.int p0), .val (.int p1), .val (.int p2), .val (.int p3), .val (.ref b1), .val (.ref b3), .val (.ref b12), .val (.int (1 : Int32))] [(.int (1 : Int32))])) _
    refine XS.aload X23.here hx rfl (hb hby at_102) rfl rfl ?_
    show Steps p.tables e below (T23.setTop (mkF m 104 #[.val (.int p0), .val (.int p1), .val (.int p2), .val (.int p3), .val (.ref b1), .val (.ref b3), .val (.ref b12), .val (.int (1 : Int32))] [(.ref b1), (.int (1 : Int32))])) _
    refine XS.aload X23.here hx rfl (hb hby at_104) rfl rfl ?_
    show Steps p.tables e below (T23.setTop (mkF m 106 #[.val (.int p0), .val (.int p1), .val (.int p2), .val (.int p3), .val (.ref b1), .val (.ref b3), .val (.ref b12), .val (.int (1 : Int32))] [(.ref b3), (.ref b1), (.int (1 : Int32))])) _
    refine XS.aload X23.here hx rfl (hb hby at_106) rfl rfl ?_
    show Steps p.tables e below (T23.setTop (mkF m 108 #[.val (.int p0), .val (.int p1), .val (.int p2), .val (.int p3), .val (.ref b1), .val (.ref b3), .val (.ref b12), .val (.int (1 : Int32))] [(.ref b12), (.ref b3), (.ref b1), (.int (1 : Int32))])) _
    refine XS.iloadN X23.here hx rfl (hb hby at_108) rfl ?_
    show Steps p.tables e below (T23.setTop (mkF m 109 #[.val (.int p0), .val (.int p1), .val (.int p2), .val (.int p3), .val (.ref b1), .val (.ref b3), .val (.ref b12), .val (.int (1 : Int32))] [(.int p3), (.ref b12), (.ref b3), (.ref b1), (.int (1 : Int32))])) _
    refine st24 _ ?_
    show Steps p.tables e below (T24.setTop (mkF m 112 #[.val (.int p0), .val (.int p1), .val (.int p2), .val (.int p3), .val (.ref b1), .val (.ref b3), .val (.ref b12), .val (.int (1 : Int32))] [(.int (1 : Int32)), (.int (1 : Int32))])) _
    refine XS.iand X24.here hx rfl (hb hby at_112) rfl ?_
    show Steps p.tables e below (T24.setTop (mkF m 113 #[.val (.int p0), .val (.int p1), .val (.int p2), .val (.int p3), .val (.ref b1), .val (.ref b3), .val (.ref b12), .val (.int (1 : Int32))] [(.int (1 : Int32))])) _
    refine XS.istore X24.here hx rfl (hb hby at_113) rfl (l' := #[.val (.int p0), .val (.int p1), .val (.int p2), .val (.int p3), .val (.ref b1), .val (.ref b3), .val (.ref b12), .val (.int (1 : Int32))]) rfl ?_
    show Steps p.tables e below (T24.setTop (mkF m 115 #[.val (.int p0), .val (.int p1), .val (.int p2), .val (.int p3), .val (.ref b1), .val (.ref b3), .val (.ref b12), .val (.int (1 : Int32))] [])) _
    refine XS.iload X24.here hx rfl (hb hby at_115) rfl ?_
    show Steps p.tables e below (T24.setTop (mkF m 117 #[.val (.int p0), .val (.int p1), .val (.int p2), .val (.int p3), .val (.ref b1), .val (.ref b3), .val (.ref b12), .val (.int (1 : Int32))] [(.int (1 : Int32))])) _
    refine XS.aload X24.here hx rfl (hb hby at_117) rfl rfl ?_
    show Steps p.tables e below (T24.setTop (mkF m 119 #[.val (.int p0), .val (.int p1), .val (.int p2), .val (.int p3), .val (.ref b1), .val (.ref b3), .val (.ref b12), .val (.int (1 : Int32))] [(.ref b1), (.int (1 : Int32))])) _
    refine XS.iconst X24.here hx rfl (hb hby at_119) ?_
    show Steps p.tables e below (T24.setTop (mkF m 120 #[.val (.int p0), .val (.int p1), .val (.int p2), .val (.int p3), .val (.ref b1), .val (.ref b3), .val (.ref b12), .val (.int (1 : Int32))] [(.int (3 : Int32)), (.ref b1), (.int (1 : Int32))])) _
    refine st25.trans ?_
    show Steps p.tables e below (T25.setTop (mkF m 123 #[.val (.int p0), .val (.int p1), .val (.int p2), .val (.int p3), .val (.ref b1), .val (.ref b3), .val (.ref b12), .val (.int (1 : Int32))] [(.int (own_fV P24' (3 : Int32))), (.int (1 : Int32))])) _
    refine XS.aload X25.here hx rfl (hb hby at_123) rfl rfl ?_
    show Steps p.tables e below (T25.setTop (mkF m 125 #[.val (.int p0), .val (.int p1), .val (.int p2), .val (.int p3), .val (.ref b1), .val (.ref b3), .val (.ref b12), .val (.int (1 : Int32))] [(.ref b3), (.int (own_fV P24' (3 : Int32))), (.int (1 : Int32))])) _
    refine XS.iconst X25.here hx rfl (hb hby at_125) ?_
    show Steps p.tables e below (T25.setTop (mkF m 126 #[.val (.int p0), .val (.int p1), .val (.int p2), .val (.int p3), .val (.ref b1), .val (.ref b3), .val (.ref b12), .val (.int (1 : Int32))] [(.int (3 : Int32)), (.ref b3), (.int (own_fV P24' (3 : Int32))), (.int (1 : Int32))])) _
    refine X25.iaload hx (j := (3 : Int32)) (v := (.int (own_rd R24' (3 : Int32)))) Ar26.1 (State.isArrayOf_alike hZ.alike Ar26.2.1) Ar26.2.2 hin26 hat26 (g := (mkF m 126 #[.val (.int p0), .val (.int p1), .val (.int p2), .val (.int p3), .val (.ref b1), .val (.ref b3), .val (.ref b12), .val (.int (1 : Int32))] [(.int (3 : Int32)), (.ref b3), (.int (own_fV P24' (3 : Int32))), (.int (1 : Int32))])) rfl rfl (hb hby at_126) _ ?_
    show Steps p.tables e below (T25.setTop (mkF m 127 #[.val (.int p0), .val (.int p1), .val (.int p2), .val (.int p3), .val (.ref b1), .val (.ref b3), .val (.ref b12), .val (.int (1 : Int32))] [(.int (own_rd R24' (3 : Int32))), (.int (own_fV P24' (3 : Int32))), (.int (1 : Int32))])) _
    refine XS.icmpNo X25.here hx rfl (hb hby at_127) rfl (teq (own_fin hS24).2.1).2 ?_
    show Steps p.tables e below (T25.setTop (mkF m 130 #[.val (.int p0), .val (.int p1), .val (.int p2), .val (.int p3), .val (.ref b1), .val (.ref b3), .val (.ref b12), .val (.int (1 : Int32))] [(.int (1 : Int32))])) _
    refine XS.iconst X25.here hx rfl (hb hby at_130) ?_
    show Steps p.tables e below (T25.setTop (mkF m 131 #[.val (.int p0), .val (.int p1), .val (.int p2), .val (.int p3), .val (.ref b1), .val (.ref b3), .val (.ref b12), .val (.int (1 : Int32))] [(.int (1 : Int32)), (.int (1 : Int32))])) _
    refine XS.goto X25.here hx rfl (pc0 := 131) (pc' := 135) rfl (hb hby at_131) (by decide) (by decide) ?_
    show Steps p.tables e below (T25.setTop (mkF m 135 #[.val (.int p0), .val (.int p1), .val (.int p2), .val (.int p3), .val (.ref b1), .val (.ref b3), .val (.ref b12), .val (.int (1 : Int32))] [(.int (1 : Int32)), (.int (1 : Int32))])) _
    refine XS.iand X25.here hx rfl (hb hby at_135) rfl ?_
    show Steps p.tables e below (T25.setTop (mkF m 136 #[.val (.int p0), .val (.int p1), .val (.int p2), .val (.int p3), .val (.ref b1), .val (.ref b3), .val (.ref b12), .val (.int (1 : Int32))] [(.int (1 : Int32))])) _
    refine XS.istore X25.here hx rfl (hb hby at_136) rfl (l' := #[.val (.int p0), .val (.int p1), .val (.int p2), .val (.int p3), .val (.ref b1), .val (.ref b3), .val (.ref b12), .val (.int (1 : Int32))]) rfl ?_
    show Steps p.tables e below (T25.setTop (mkF m 138 #[.val (.int p0), .val (.int p1), .val (.int p2), .val (.int p3), .val (.ref b1), .val (.ref b3), .val (.ref b12), .val (.int (1 : Int32))] [])) _
    refine XS.iload X25.here hx rfl (hb hby at_138) rfl ?_
    show Steps p.tables e below (T25.setTop (mkF m 140 #[.val (.int p0), .val (.int p1), .val (.int p2), .val (.int p3), .val (.ref b1), .val (.ref b3), .val (.ref b12), .val (.int (1 : Int32))] [(.int (1 : Int32))])) _
    refine XS.aload X25.here hx rfl (hb hby at_140) rfl rfl ?_
    show Steps p.tables e below (T25.setTop (mkF m 142 #[.val (.int p0), .val (.int p1), .val (.int p2), .val (.int p3), .val (.ref b1), .val (.ref b3), .val (.ref b12), .val (.int (1 : Int32))] [(.ref b1), (.int (1 : Int32))])) _
    refine XS.iconst X25.here hx rfl (hb hby at_142) ?_
    show Steps p.tables e below (T25.setTop (mkF m 143 #[.val (.int p0), .val (.int p1), .val (.int p2), .val (.int p3), .val (.ref b1), .val (.ref b3), .val (.ref b12), .val (.int (1 : Int32))] [(.int (2 : Int32)), (.ref b1), (.int (1 : Int32))])) _
    refine st27.trans ?_
    show Steps p.tables e below (T27.setTop (mkF m 146 #[.val (.int p0), .val (.int p1), .val (.int p2), .val (.int p3), .val (.ref b1), .val (.ref b3), .val (.ref b12), .val (.int (1 : Int32))] [(.int (own_fV (own_fP P24' (3 : Int32)) (2 : Int32))), (.int (1 : Int32))])) _
    refine XS.aload X27.here hx rfl (hb hby at_146) rfl rfl ?_
    show Steps p.tables e below (T27.setTop (mkF m 148 #[.val (.int p0), .val (.int p1), .val (.int p2), .val (.int p3), .val (.ref b1), .val (.ref b3), .val (.ref b12), .val (.int (1 : Int32))] [(.ref b3), (.int (own_fV (own_fP P24' (3 : Int32)) (2 : Int32))), (.int (1 : Int32))])) _
    refine XS.iconst X27.here hx rfl (hb hby at_148) ?_
    show Steps p.tables e below (T27.setTop (mkF m 149 #[.val (.int p0), .val (.int p1), .val (.int p2), .val (.int p3), .val (.ref b1), .val (.ref b3), .val (.ref b12), .val (.int (1 : Int32))] [(.int (2 : Int32)), (.ref b3), (.int (own_fV (own_fP P24' (3 : Int32)) (2 : Int32))), (.int (1 : Int32))])) _
    refine X27.iaload hx (j := (2 : Int32)) (v := (.int (own_rd R24' (2 : Int32)))) Ar28.1 (State.isArrayOf_alike hZ.alike Ar28.2.1) Ar28.2.2 hin28 hat28 (g := (mkF m 149 #[.val (.int p0), .val (.int p1), .val (.int p2), .val (.int p3), .val (.ref b1), .val (.ref b3), .val (.ref b12), .val (.int (1 : Int32))] [(.int (2 : Int32)), (.ref b3), (.int (own_fV (own_fP P24' (3 : Int32)) (2 : Int32))), (.int (1 : Int32))])) rfl rfl (hb hby at_149) _ ?_
    show Steps p.tables e below (T27.setTop (mkF m 150 #[.val (.int p0), .val (.int p1), .val (.int p2), .val (.int p3), .val (.ref b1), .val (.ref b3), .val (.ref b12), .val (.int (1 : Int32))] [(.int (own_rd R24' (2 : Int32))), (.int (own_fV (own_fP P24' (3 : Int32)) (2 : Int32))), (.int (1 : Int32))])) _
    refine XS.icmpNo X27.here hx rfl (hb hby at_150) rfl (teq (own_fin hS24).2.2.2.1).2 ?_
    show Steps p.tables e below (T27.setTop (mkF m 153 #[.val (.int p0), .val (.int p1), .val (.int p2), .val (.int p3), .val (.ref b1), .val (.ref b3), .val (.ref b12), .val (.int (1 : Int32))] [(.int (1 : Int32))])) _
    refine XS.iconst X27.here hx rfl (hb hby at_153) ?_
    show Steps p.tables e below (T27.setTop (mkF m 154 #[.val (.int p0), .val (.int p1), .val (.int p2), .val (.int p3), .val (.ref b1), .val (.ref b3), .val (.ref b12), .val (.int (1 : Int32))] [(.int (1 : Int32)), (.int (1 : Int32))])) _
    refine XS.goto X27.here hx rfl (pc0 := 154) (pc' := 158) rfl (hb hby at_154) (by decide) (by decide) ?_
    show Steps p.tables e below (T27.setTop (mkF m 158 #[.val (.int p0), .val (.int p1), .val (.int p2), .val (.int p3), .val (.ref b1), .val (.ref b3), .val (.ref b12), .val (.int (1 : Int32))] [(.int (1 : Int32)), (.int (1 : Int32))])) _
    refine XS.iand X27.here hx rfl (hb hby at_158) rfl ?_
    show Steps p.tables e below (T27.setTop (mkF m 159 #[.val (.int p0), .val (.int p1), .val (.int p2), .val (.int p3), .val (.ref b1), .val (.ref b3), .val (.ref b12), .val (.int (1 : Int32))] [(.int (1 : Int32))])) _
    refine XS.istore X27.here hx rfl (hb hby at_159) rfl (l' := #[.val (.int p0), .val (.int p1), .val (.int p2), .val (.int p3), .val (.ref b1), .val (.ref b3), .val (.ref b12), .val (.int (1 : Int32))]) rfl ?_
    show Steps p.tables e below (T27.setTop (mkF m 161 #[.val (.int p0), .val (.int p1), .val (.int p2), .val (.int p3), .val (.ref b1), .val (.ref b3), .val (.ref b12), .val (.int (1 : Int32))] [])) _
    refine XS.iload X27.here hx rfl (hb hby at_161) rfl ?_
    show Steps p.tables e below (T27.setTop (mkF m 163 #[.val (.int p0), .val (.int p1), .val (.int p2), .val (.int p3), .val (.ref b1), .val (.ref b3), .val (.ref b12), .val (.int (1 : Int32))] [(.int (1 : Int32))])) _
    refine XS.aload X27.here hx rfl (hb hby at_163) rfl rfl ?_
    show Steps p.tables e below (T27.setTop (mkF m 165 #[.val (.int p0), .val (.int p1), .val (.int p2), .val (.int p3), .val (.ref b1), .val (.ref b3), .val (.ref b12), .val (.int (1 : Int32))] [(.ref b1), (.int (1 : Int32))])) _
    refine XS.iconst X27.here hx rfl (hb hby at_165) ?_
    show Steps p.tables e below (T27.setTop (mkF m 166 #[.val (.int p0), .val (.int p1), .val (.int p2), .val (.int p3), .val (.ref b1), .val (.ref b3), .val (.ref b12), .val (.int (1 : Int32))] [(.int (1 : Int32)), (.ref b1), (.int (1 : Int32))])) _
    refine st29.trans ?_
    show Steps p.tables e below (T29.setTop (mkF m 169 #[.val (.int p0), .val (.int p1), .val (.int p2), .val (.int p3), .val (.ref b1), .val (.ref b3), .val (.ref b12), .val (.int (1 : Int32))] [(.int (own_fV (own_fP (own_fP P24' (3 : Int32)) (2 : Int32)) (1 : Int32))), (.int (1 : Int32))])) _
    refine XS.aload X29.here hx rfl (hb hby at_169) rfl rfl ?_
    show Steps p.tables e below (T29.setTop (mkF m 171 #[.val (.int p0), .val (.int p1), .val (.int p2), .val (.int p3), .val (.ref b1), .val (.ref b3), .val (.ref b12), .val (.int (1 : Int32))] [(.ref b3), (.int (own_fV (own_fP (own_fP P24' (3 : Int32)) (2 : Int32)) (1 : Int32))), (.int (1 : Int32))])) _
    refine XS.iconst X29.here hx rfl (hb hby at_171) ?_
    show Steps p.tables e below (T29.setTop (mkF m 172 #[.val (.int p0), .val (.int p1), .val (.int p2), .val (.int p3), .val (.ref b1), .val (.ref b3), .val (.ref b12), .val (.int (1 : Int32))] [(.int (1 : Int32)), (.ref b3), (.int (own_fV (own_fP (own_fP P24' (3 : Int32)) (2 : Int32)) (1 : Int32))), (.int (1 : Int32))])) _
    refine X29.iaload hx (j := (1 : Int32)) (v := (.int (own_rd R24' (1 : Int32)))) Ar30.1 (State.isArrayOf_alike hZ.alike Ar30.2.1) Ar30.2.2 hin30 hat30 (g := (mkF m 172 #[.val (.int p0), .val (.int p1), .val (.int p2), .val (.int p3), .val (.ref b1), .val (.ref b3), .val (.ref b12), .val (.int (1 : Int32))] [(.int (1 : Int32)), (.ref b3), (.int (own_fV (own_fP (own_fP P24' (3 : Int32)) (2 : Int32)) (1 : Int32))), (.int (1 : Int32))])) rfl rfl (hb hby at_172) _ ?_
    show Steps p.tables e below (T29.setTop (mkF m 173 #[.val (.int p0), .val (.int p1), .val (.int p2), .val (.int p3), .val (.ref b1), .val (.ref b3), .val (.ref b12), .val (.int (1 : Int32))] [(.int (own_rd R24' (1 : Int32))), (.int (own_fV (own_fP (own_fP P24' (3 : Int32)) (2 : Int32)) (1 : Int32))), (.int (1 : Int32))])) _
    refine XS.icmpNo X29.here hx rfl (hb hby at_173) rfl (teq (own_fin hS24).2.2.2.2.2.1).2 ?_
    show Steps p.tables e below (T29.setTop (mkF m 176 #[.val (.int p0), .val (.int p1), .val (.int p2), .val (.int p3), .val (.ref b1), .val (.ref b3), .val (.ref b12), .val (.int (1 : Int32))] [(.int (1 : Int32))])) _
    refine XS.iconst X29.here hx rfl (hb hby at_176) ?_
    show Steps p.tables e below (T29.setTop (mkF m 177 #[.val (.int p0), .val (.int p1), .val (.int p2), .val (.int p3), .val (.ref b1), .val (.ref b3), .val (.ref b12), .val (.int (1 : Int32))] [(.int (1 : Int32)), (.int (1 : Int32))])) _
    refine XS.goto X29.here hx rfl (pc0 := 177) (pc' := 181) rfl (hb hby at_177) (by decide) (by decide) ?_
    show Steps p.tables e below (T29.setTop (mkF m 181 #[.val (.int p0), .val (.int p1), .val (.int p2), .val (.int p3), .val (.ref b1), .val (.ref b3), .val (.ref b12), .val (.int (1 : Int32))] [(.int (1 : Int32)), (.int (1 : Int32))])) _
    refine XS.iand X29.here hx rfl (hb hby at_181) rfl ?_
    show Steps p.tables e below (T29.setTop (mkF m 182 #[.val (.int p0), .val (.int p1), .val (.int p2), .val (.int p3), .val (.ref b1), .val (.ref b3), .val (.ref b12), .val (.int (1 : Int32))] [(.int (1 : Int32))])) _
    refine XS.istore X29.here hx rfl (hb hby at_182) rfl (l' := #[.val (.int p0), .val (.int p1), .val (.int p2), .val (.int p3), .val (.ref b1), .val (.ref b3), .val (.ref b12), .val (.int (1 : Int32))]) rfl ?_
    show Steps p.tables e below (T29.setTop (mkF m 184 #[.val (.int p0), .val (.int p1), .val (.int p2), .val (.int p3), .val (.ref b1), .val (.ref b3), .val (.ref b12), .val (.int (1 : Int32))] [])) _
    refine XS.iload X29.here hx rfl (hb hby at_184) rfl ?_
    show Steps p.tables e below (T29.setTop (mkF m 186 #[.val (.int p0), .val (.int p1), .val (.int p2), .val (.int p3), .val (.ref b1), .val (.ref b3), .val (.ref b12), .val (.int (1 : Int32))] [(.int (1 : Int32))])) _
    refine XS.aload X29.here hx rfl (hb hby at_186) rfl rfl ?_
    show Steps p.tables e below (T29.setTop (mkF m 188 #[.val (.int p0), .val (.int p1), .val (.int p2), .val (.int p3), .val (.ref b1), .val (.ref b3), .val (.ref b12), .val (.int (1 : Int32))] [(.ref b1), (.int (1 : Int32))])) _
    refine XS.iconst X29.here hx rfl (hb hby at_188) ?_
    show Steps p.tables e below (T29.setTop (mkF m 189 #[.val (.int p0), .val (.int p1), .val (.int p2), .val (.int p3), .val (.ref b1), .val (.ref b3), .val (.ref b12), .val (.int (1 : Int32))] [(.int (0 : Int32)), (.ref b1), (.int (1 : Int32))])) _
    refine st31.trans ?_
    show Steps p.tables e below (T31.setTop (mkF m 192 #[.val (.int p0), .val (.int p1), .val (.int p2), .val (.int p3), .val (.ref b1), .val (.ref b3), .val (.ref b12), .val (.int (1 : Int32))] [(.int (own_fV (own_fP (own_fP (own_fP P24' (3 : Int32)) (2 : Int32)) (1 : Int32)) (0 : Int32))), (.int (1 : Int32))])) _
    refine XS.aload X31.here hx rfl (hb hby at_192) rfl rfl ?_
    show Steps p.tables e below (T31.setTop (mkF m 194 #[.val (.int p0), .val (.int p1), .val (.int p2), .val (.int p3), .val (.ref b1), .val (.ref b3), .val (.ref b12), .val (.int (1 : Int32))] [(.ref b3), (.int (own_fV (own_fP (own_fP (own_fP P24' (3 : Int32)) (2 : Int32)) (1 : Int32)) (0 : Int32))), (.int (1 : Int32))])) _
    refine XS.iconst X31.here hx rfl (hb hby at_194) ?_
    show Steps p.tables e below (T31.setTop (mkF m 195 #[.val (.int p0), .val (.int p1), .val (.int p2), .val (.int p3), .val (.ref b1), .val (.ref b3), .val (.ref b12), .val (.int (1 : Int32))] [(.int (0 : Int32)), (.ref b3), (.int (own_fV (own_fP (own_fP (own_fP P24' (3 : Int32)) (2 : Int32)) (1 : Int32)) (0 : Int32))), (.int (1 : Int32))])) _
    refine X31.iaload hx (j := (0 : Int32)) (v := (.int (own_rd R24' (0 : Int32)))) Ar32.1 (State.isArrayOf_alike hZ.alike Ar32.2.1) Ar32.2.2 hin32 hat32 (g := (mkF m 195 #[.val (.int p0), .val (.int p1), .val (.int p2), .val (.int p3), .val (.ref b1), .val (.ref b3), .val (.ref b12), .val (.int (1 : Int32))] [(.int (0 : Int32)), (.ref b3), (.int (own_fV (own_fP (own_fP (own_fP P24' (3 : Int32)) (2 : Int32)) (1 : Int32)) (0 : Int32))), (.int (1 : Int32))])) rfl rfl (hb hby at_195) _ ?_
    show Steps p.tables e below (T31.setTop (mkF m 196 #[.val (.int p0), .val (.int p1), .val (.int p2), .val (.int p3), .val (.ref b1), .val (.ref b3), .val (.ref b12), .val (.int (1 : Int32))] [(.int (own_rd R24' (0 : Int32))), (.int (own_fV (own_fP (own_fP (own_fP P24' (3 : Int32)) (2 : Int32)) (1 : Int32)) (0 : Int32))), (.int (1 : Int32))])) _
    refine XS.icmpNo X31.here hx rfl (hb hby at_196) rfl (teq (own_fin hS24).2.2.2.2.2.2.2).2 ?_
    show Steps p.tables e below (T31.setTop (mkF m 199 #[.val (.int p0), .val (.int p1), .val (.int p2), .val (.int p3), .val (.ref b1), .val (.ref b3), .val (.ref b12), .val (.int (1 : Int32))] [(.int (1 : Int32))])) _
    refine XS.iconst X31.here hx rfl (hb hby at_199) ?_
    show Steps p.tables e below (T31.setTop (mkF m 200 #[.val (.int p0), .val (.int p1), .val (.int p2), .val (.int p3), .val (.ref b1), .val (.ref b3), .val (.ref b12), .val (.int (1 : Int32))] [(.int (1 : Int32)), (.int (1 : Int32))])) _
    refine XS.goto X31.here hx rfl (pc0 := 200) (pc' := 204) rfl (hb hby at_200) (by decide) (by decide) ?_
    show Steps p.tables e below (T31.setTop (mkF m 204 #[.val (.int p0), .val (.int p1), .val (.int p2), .val (.int p3), .val (.ref b1), .val (.ref b3), .val (.ref b12), .val (.int (1 : Int32))] [(.int (1 : Int32)), (.int (1 : Int32))])) _
    refine XS.iand X31.here hx rfl (hb hby at_204) rfl ?_
    show Steps p.tables e below (T31.setTop (mkF m 205 #[.val (.int p0), .val (.int p1), .val (.int p2), .val (.int p3), .val (.ref b1), .val (.ref b3), .val (.ref b12), .val (.int (1 : Int32))] [(.int (1 : Int32))])) _
    refine XS.istore X31.here hx rfl (hb hby at_205) rfl (l' := #[.val (.int p0), .val (.int p1), .val (.int p2), .val (.int p3), .val (.ref b1), .val (.ref b3), .val (.ref b12), .val (.int (1 : Int32))]) rfl ?_
    show Steps p.tables e below (T31.setTop (mkF m 207 #[.val (.int p0), .val (.int p1), .val (.int p2), .val (.int p3), .val (.ref b1), .val (.ref b3), .val (.ref b12), .val (.int (1 : Int32))] [])) _
    refine XS.iload X31.here hx rfl (hb hby at_207) rfl ?_
    exact k)
  obtain ⟨fs, hr, hrun, hended, hW, hsame⟩ := X31.leave (v := some (.int (1 : Int32))) (fun h => by rw [Bd.returns] at h; cases h)
  refine ⟨_, _, pre33 _ ?_, hrun, hended, _, _, rfl, ?_, ⟨_, rfl⟩, hW, hsame.mono (by decide) (by decide)⟩
  · exact retN X31 hx (t := .boolean) Bd.returns (by simp) (hb hby at_209) hr
  · show Q0 Z p0 p1 p2 p3 h0 n0 _ T31.heap _
    exact ⟨rfl, N31⟩
set_option maxRecDepth 65536 in
set_option maxHeartbeats 40000000 in
theorem comes_1 {Post : Tables → Env → Array Value → State → Outcome → State → Prop} (hpost : ∀ tb e args s v u, (limb_1_1.after args s (.returned v) u = true ∧ limb_1_2.after args s (.returned v) u = true ∧ True) → FrameEnd s (.returned v) u (Jvm.fieldLocs frame_1_writes args s ++ Jvm.arrayLocs frame_1_arrays args s ++ Jvm.staticLocs frame_1_statics s) 24 128 → Post tb e args s (.returned v) u) :
    ArmFor flags0 classFile x code maxLocals ret World_1 tables_1 room_1 Calls_1 rest_1 Pre_1 Post := by
  intro l hfl _ _ p e ha hc hk s m args below hf hA hF happ hP
  obtain ⟨hcalls, hrest, hpre⟩ := hP
  obtain ⟨-, -, -, hnamed, -, -, -, hat⟩ := (Spec.applies_iff hf).mp happ
  obtain ⟨hg, hn⟩ := and_e (Cond.before_iff.mp (show (Jvm.Cond.and given_1 narrow_1).before args s = true from hpre))
  obtain ⟨g1, g2⟩ := and_e hg
  obtain ⟨g3, g4⟩ := and_e g2
  obtain ⟨g5, g6⟩ := and_e g4
  obtain ⟨g7, g8⟩ := and_e g6
  obtain ⟨w0, w1, w2, w3, rfl⟩ : ∃ w0 w1 w2 w3 : Value, args = #[w0, w1, w2, w3] := by
    have hs : args.size = 4 := by simpa [Cond.value, given_1] using g1
    obtain ⟨L⟩ := args
    match L, hs with
    | [w0, w1, w2, w3], _ => exact ⟨w0, w1, w2, w3, rfl⟩
  have hw := fun d (hd : d ∈ tables_1) => atoms_spec (ws := Jvm.Cond.code x code maxLocals ret :: tables_1) hat d (List.mem_cons_of_mem _ hd)
  have hfit : Fit s := fun {y c} hc i hi => by
    obtain ⟨ha, rfl⟩ := Array.getElem?_eq_some_iff.mp hc
    have q := List.all_eq_true.mp ((Array.all_eq_true_iff_forall_mem.mp hF) _ (Array.getElem_mem ha)) i (List.mem_range.mpr hi)
    simpa [Array.getElem?_eq_getElem hi] using q
  obtain ⟨i0, ei0⟩ := is_v g3
  obtain rfl : w0 = (.int i0) := Option.some.inj ei0
  obtain ⟨i1, ei1⟩ := is_v g5
  obtain rfl : w1 = (.int i1) := Option.some.inj ei1
  obtain ⟨i2, ei2⟩ := is_v g7
  obtain rfl : w2 = (.int i2) := Option.some.inj ei2
  obtain ⟨i3, ei3⟩ := is_v g8
  obtain rfl : w3 = (.int i3) := Option.some.inj ei3
  obtain ⟨n, o, h1, h2, h3, _, L, rfl, ⟨rfl, N⟩, hq⟩ := rm0 l s _ hw tables_1 i0 i1 i2 i3 s.heap s.heap.size (Nat.le_refl _) p e ha hc hk s m _ below hf ((Spec.applies_iff_loose hf).mp happ).1 ⟨rfl, State.Warmed39.refl s, rfl⟩ trivial
  refine ⟨n, _, h1, h2, h3, hpost _ _ _ _ _ _ ⟨Cond.after_iff.mpr rfl, Cond.after_iff.mpr (eq_i res_at (Term.int_eval (1)) rfl), trivial⟩ ⟨hq.1, hq.2.1, (hq.2.2.sift fun y hy => Or.inr (N y hy)).mono (by decide) (by decide)⟩⟩
theorem main_1_1 : Claimed_1_1 := comes_1 fun _ _ _ _ _ _ h hF => ⟨h.1, hF⟩
theorem main_1_2 : Claimed_1_2 := comes_1 fun _ _ _ _ _ _ h hF => ⟨h.2.1, hF⟩
end Jvm.Pilot.@@N@@
namespace Jvm.Pilot.@@N@@
open Jvm Jvm.ClassFile Sem Op Lib Jvm.Free Jvm.Stand Jvm.Pilot.@@N@@.Jvm.D
/-! MADE BY PROGRAM (witnessworld.py) out of the Statement's table words and the real class files: 9 classes; the members and pool entries that the words name. The judged class is class 1, her method 1. -/
namespace start1
open Jvm.ClassFile
def u (s : String) : CpInfo := .utf8 (stringToUtf16 s)
/-- a pool by its gaps: so many unusable entries, then the entry; so many at the end -/
def gap : Nat → List CpInfo → List CpInfo
  | 0, r => r
  | n + 1, r => .unusable :: gap n r
def poolList (es : List (Nat × CpInfo)) (last : Nat) : List CpInfo := es.foldr (fun e r => gap e.1 (e.2 :: r)) (gap last [])
def pool (es : List (Nat × CpInfo)) (last : Nat) : Array CpInfo := ⟨poolList es last⟩
def fileOf (pool : Array CpInfo) (this : Nat) (attrs : Array Attribute := #[]) (ms : Array MethodInfo := #[]) (fl : Nat := 33) (sup : Nat := 0) (ifs : Array Nat := #[]) (fds : Array FieldInfo := #[]) : ClassFile where
  minorVersion := 0
  majorVersion := 65
  constantPool := pool
  accessFlags := fl
  thisClass := this
  superClass := sup
  interfaces := ifs
  fields := fds
  methods := ms
  attributes := attrs
def plain (name : String) (sup : Option ClassId) : Class where
  name := name
  kind := .ordinary
  loader := none
  accessFlags := 33
  super := sup
  interfaces := #[]
  cf := none
  fields := #[]
  methods := #[]
  instanceTypes := #[]
  staticTypes := #[]
  resolved := #[]
  callSites := []
  init := .initialized
  statics := none
  mirror := none

def pool0 : Array CpInfo := pool [(5, u "<init>"), (0, u "()V"), (1, .class_ 10), (1, u "java/lang/Object")] 113

def k0c0 : Code := { maxStack := 0, maxLocals := 1, code := object_method_1_code, exceptionTable := #[], attributes := #[] }
def k0m0 : Method := { name := "<init>", desc := "()V", sig := { parameters := [], returnType := none }, accessFlags := 1, code := some k0c0 }
/-- java/lang/Object -/
def k0 : Class := { plain "java/lang/Object" none with
  accessFlags := 33
  interfaces := #[]
  cf := some (fileOf pool0 8 #[] #[{ accessFlags := 1, nameIndex := 5, descriptorIndex := 6, attributes := #[] }] 33 0 #[] #[])
  fields := #[]
  methods := #[k0m0]
  instanceTypes := #[]
  staticTypes := #[]
  resolved := Array.replicate 124 none
  statics := none }

def pool1 : Array CpInfo := pool [(2, .class_ 4), (1, u "java/lang/Object"), (0, u "<init>"), (0, u "()V"), (0, .class_ 8), (0, u "com/example/querist/querist/mst/DisjointSets"), (0, .methodref 7 10), (0, .nameAndType 5 11), (0, u "(I)V"), (0, .methodref 13 14), (0, .class_ 15), (0, .nameAndType 16 17), (0, u "com/example/querist/querist/mst/DisjointSetsFindPinLaw"), (0, u "step"), (0, u "(Lcom/example/querist/querist/mst/DisjointSets;[I[II)Z"), (0, .methodref 7 19), (0, .nameAndType 20 21), (0, u "find"), (0, u "(I)I"), (0, .methodref 13 23), (0, .nameAndType 24 25), (0, u "join"), (0, u "([I[III)Z"), (0, .methodref 7 27), (0, .nameAndType 28 29), (0, u "union"), (0, u "(II)Z"), (2, u "law"), (0, u "(IIII)Z")] 5

def k1m0 : Method := { name := "<init>", desc := "()V", sig := { parameters := [], returnType := none }, accessFlags := 1, code := none }
def k1c1 : Code := { maxStack := 5, maxLocals := 8, code := code, exceptionTable := #[], attributes := #[] }
def k1m1 : Method := { name := "law", desc := "(IIII)Z", sig := { parameters := [.int, .int, .int, .int], returnType := some .boolean }, accessFlags := 9, code := some k1c1 }
def k1c2 : Code := { maxStack := 4, maxLocals := 7, code := method_3_code, exceptionTable := #[], attributes := #[] }
def k1m2 : Method := { name := "step", desc := "(Lcom/example/querist/querist/mst/DisjointSets;[I[II)Z", sig := { parameters := [(.object "com/example/querist/querist/mst/DisjointSets"), (.array .int), (.array .int), .int], returnType := some .boolean }, accessFlags := 10, code := some k1c2 }
def k1c3 : Code := { maxStack := 5, maxLocals := 7, code := method_4_code, exceptionTable := #[], attributes := #[] }
def k1m3 : Method := { name := "join", desc := "([I[III)Z", sig := { parameters := [(.array .int), (.array .int), .int, .int], returnType := some .boolean }, accessFlags := 10, code := some k1c3 }
/-- com/example/querist/querist/mst/DisjointSetsFindPinLaw -/
def k1 : Class := { plain "com/example/querist/querist/mst/DisjointSetsFindPinLaw" (some 0) with
  accessFlags := 49
  interfaces := #[]
  cf := some (fileOf pool1 13 #[] #[{ accessFlags := 1, nameIndex := 5, descriptorIndex := 6, attributes := #[] }, { accessFlags := 9, nameIndex := 32, descriptorIndex := 33, attributes := #[] }, { accessFlags := 10, nameIndex := 16, descriptorIndex := 17, attributes := #[] }, { accessFlags := 10, nameIndex := 24, descriptorIndex := 25, attributes := #[] }] 49 2 #[] #[])
  fields := #[]
  methods := #[k1m0, k1m1, k1m2, k1m3]
  instanceTypes := #[]
  staticTypes := #[]
  resolved := Array.replicate 39 none
  statics := none }

def pool2 : Array CpInfo := pool [(1, .methodref 2 3), (0, .class_ 4), (0, .nameAndType 5 6), (0, u "java/lang/Object"), (0, u "<init>"), (0, u "()V"), (0, .fieldref 8 9), (0, .class_ 10), (0, .nameAndType 11 12), (0, u "com/example/querist/querist/mst/DisjointSets"), (0, u "parent"), (0, u "[I"), (0, .fieldref 8 14), (0, .nameAndType 15 12), (0, u "size"), (0, .methodref 8 17), (0, .nameAndType 18 19), (0, u "find"), (0, u "(I)I"), (0, u "(I)V"), (3, u "union"), (0, u "(II)Z")] 2

def k2c0 : Code := { maxStack := 3, maxLocals := 3, code := prog_50_method_1_code, exceptionTable := #[], attributes := #[] }
def k2m0 : Method := { name := "<init>", desc := "(I)V", sig := { parameters := [.int], returnType := none }, accessFlags := 0, code := some k2c0 }
def k2c1 : Code := { maxStack := 5, maxLocals := 3, code := prog_50_method_2_code, exceptionTable := #[], attributes := #[] }
def k2m1 : Method := { name := "find", desc := "(I)I", sig := { parameters := [.int], returnType := some .int }, accessFlags := 0, code := some k2c1 }
def k2c2 : Code := { maxStack := 5, maxLocals := 6, code := prog_50_method_3_code, exceptionTable := #[], attributes := #[] }
def k2m2 : Method := { name := "union", desc := "(II)Z", sig := { parameters := [.int, .int], returnType := some .boolean }, accessFlags := 0, code := some k2c2 }
/-- com/example/querist/querist/mst/DisjointSets -/
def k2 : Class := { plain "com/example/querist/querist/mst/DisjointSets" (some 0) with
  accessFlags := 48
  interfaces := #[]
  cf := some (fileOf pool2 8 #[] #[{ accessFlags := 0, nameIndex := 5, descriptorIndex := 20, attributes := #[] }, { accessFlags := 0, nameIndex := 18, descriptorIndex := 19, attributes := #[] }, { accessFlags := 0, nameIndex := 24, descriptorIndex := 25, attributes := #[] }] 48 2 #[] #[{ accessFlags := 18, nameIndex := 11, descriptorIndex := 12, attributes := #[] }, { accessFlags := 18, nameIndex := 15, descriptorIndex := 12, attributes := #[] }])
  fields := #[{ name := "parent", type := (.array .int), accessFlags := 18, slot := 0, constantValue := 0 }, { name := "size", type := (.array .int), accessFlags := 18, slot := 1, constantValue := 0 }]
  methods := #[k2m0, k2m1, k2m2]
  instanceTypes := #[(.array .int), (.array .int)]
  staticTypes := #[]
  resolved := Array.replicate 28 none
  statics := none }

def pool3 : Array CpInfo := pool [(1, u "java/lang/Cloneable"), (0, .class_ 1), (0, u "java/lang/Object"), (0, .class_ 3)] 3

/-- java/lang/Cloneable -/
def k3 : Class := { plain "java/lang/Cloneable" (some 0) with
  accessFlags := 1537
  interfaces := #[]
  cf := some (fileOf pool3 2 #[] #[] 1537 4 #[] #[])
  fields := #[]
  methods := #[]
  instanceTypes := #[]
  staticTypes := #[]
  resolved := Array.replicate 8 none
  statics := none }

def pool4 : Array CpInfo := pool [(1, u "java/io/Serializable"), (0, .class_ 1), (0, u "java/lang/Object"), (0, .class_ 3)] 3

/-- java/io/Serializable -/
def k4 : Class := { plain "java/io/Serializable" (some 0) with
  accessFlags := 1537
  interfaces := #[]
  cf := some (fileOf pool4 2 #[] #[] 1537 4 #[] #[])
  fields := #[]
  methods := #[]
  instanceTypes := #[]
  staticTypes := #[]
  resolved := Array.replicate 8 none
  statics := none }

/-- the primitive byte -/
def k5 : Class := { plain "byte" none with kind := .primitive 'B', accessFlags := 0x411 }
/-- [B -/
def k6 : Class := { plain "[B" (some 0) with kind := .array 5 .byte, interfaces := #[3, 4], accessFlags := 1041 }

/-- the primitive int -/
def k7 : Class := { plain "int" none with kind := .primitive 'I', accessFlags := 0x411 }
/-- [I -/
def k8 : Class := { plain "[I" (some 0) with kind := .array 7 .int, interfaces := #[3, 4], accessFlags := 1041 }

def heap : Heap := #[]
def classes : Array Class := #[k0, k1, k2, k3, k4, k5, k6, k7, k8]
def interned : List (Array UInt16 × Addr) := []
def slotsUsed : Nat := 0
def theMethod : MethodId := ⟨1, 1⟩
def args0 : Array Value := #[.int 5, .int 3, .int 6, .int 1]
def aboutOver (below : List Frame) : State where
  vm := { classes := classes, interned := interned.toArray }
  heap := heap
  slotsUsed := slotsUsed
  threads := #[{ frames := .invoking theMethod args0 :: below }]
def below0 : List Frame := [.native { method := ⟨0, 0⟩, args := #[] }]
def about1 : State := aboutOver below0
def p0 : Program := .bare "" "" ""
def e0 : Env := launch0.env 0 0 0
theorem w_frames : about1.frames = Frame.invoking theMethod args0 :: below0 := rfl
set_option maxRecDepth 65536 in
theorem w_args : argsFit about1.vm theMethod args0 = true := by decide +kernel
set_option maxRecDepth 65536 in
theorem w_heap : heapFits about1 = true := by decide +kernel
set_option maxRecDepth 65536 in
theorem w_runnable : about1.curStatus? = some .runnable := by decide +kernel
set_option maxRecDepth 65536 in
theorem w_alone : about1.alone = true := by decide +kernel
set_option maxRecDepth 65536 in
theorem w_named : about1.methodNamed? x = some theMethod := by decide +kernel
set_option maxRecDepth 65536 in
theorem w_hears : about1.hears theMethod below0 = true := by decide +kernel
set_option maxRecDepth 65536 in
theorem w_ripe : about1.ripe theMethod args0 below0 = true := by decide +kernel
theorem w_running : about1.status = .running := rfl
set_option maxRecDepth 65536 in
theorem w_room : about1.hasRoom e0.platform room_1 = true :=
  launch0.hasRoom_least _ room_1 (by decide +kernel) (by decide +kernel) (by decide +kernel) (by decide +kernel) (by decide +kernel) (by decide +kernel)
theorem allAtoms_all (ts : List Jvm.Cond) (a : Array Jvm.Value) (st : Jvm.State) : (allAtoms ts).before a st = ts.all (fun c => c.before a st) := by
  induction ts with
  | nil => rfl
  | cons c t ih =>
    show (Jvm.Cond.and c (allAtoms t)).before a st = _
    rw [Jvm.Cond.before_and, ih, List.all_cons]
def words1 : List Jvm.Cond := Jvm.Cond.code x code maxLocals ret :: tables_1
/-- a 'code' word, met by the world's own term for the bytes: nothing is compared byte by byte -/
theorem code_word {y : MethodName} {bytes : ByteArray} {mx : Nat} {rt : Option FieldType} {a : Array Value} {s : State} {m : MethodId} {meth : Method} {c : Code} (h1 : s.methodNamed? y = some m) (h2 : s.vm.method? m = some meth) (h3 : meth.code = some c) (h4 : c.code = bytes)
    (h5 : (c.maxLocals == mx && c.exceptionTable.isEmpty && decide (c.maxStack ≤ mostOperands) && decide (meth.sig.returnType = rt) && !meth.locks && decide (parseMethodDescriptor y.desc = some meth.sig)) = true) : (Jvm.Cond.code y bytes mx rt).before a s = true := by
  simp only [Bool.and_eq_true, beq_iff_eq, Bool.not_eq_true', decide_eq_true_eq] at h5
  obtain ⟨⟨⟨⟨⟨g1, g2⟩, g3⟩, g4⟩, g5⟩, g6⟩ := h5
  simp [Cond.before, Cond.holds, Cond.value, h1, h2, h3, h4, g1, g2, g3, g4, g5, g6]
def isCode : Jvm.Cond → Bool
  | .code _ _ _ _ => true
  | _ => false
theorem all_split {L : List Jvm.Cond} {P : Jvm.Cond → Bool} (h1 : L.all (fun c => isCode c || P c) = true) (h2 : ∀ c ∈ L.filter isCode, P c = true) : L.all P = true := by
  refine List.all_eq_true.mpr fun c hc => ?_
  have h := List.all_eq_true.mp h1 c hc
  rcases Bool.eq_false_or_eq_true (isCode c) with hi | hi
  · exact h2 c (List.mem_filter.mpr ⟨hc, hi⟩)
  · simpa [hi] using h
set_option maxRecDepth 65536 in
theorem w_c0 : (Jvm.Cond.code x code maxLocals ret).before args0 about1 = true := code_word (m := ⟨1, 1⟩) (meth := k1m1) (c := k1c1) (by decide +kernel) rfl rfl rfl (by decide +kernel)
set_option maxRecDepth 65536 in
theorem w_c1 : (Jvm.Cond.code ({ cls := "com/example/querist/querist/mst/DisjointSets", name := "<init>", desc := "(I)V" } : Jvm.MethodName) prog_50_method_1_code (3 : Nat) (Option.none : Option Jvm.ClassFile.FieldType)).before args0 about1 = true := code_word (m := ⟨2, 0⟩) (meth := k2m0) (c := k2c0) (by decide +kernel) rfl rfl rfl (by decide +kernel)
set_option maxRecDepth 65536 in
theorem w_c2 : (Jvm.Cond.code ({ cls := "java/lang/Object", name := "<init>", desc := "()V" } : Jvm.MethodName) object_method_1_code (1 : Nat) (Option.none : Option Jvm.ClassFile.FieldType)).before args0 about1 = true := code_word (m := ⟨0, 0⟩) (meth := k0m0) (c := k0c0) (by decide +kernel) rfl rfl rfl (by decide +kernel)
set_option maxRecDepth 65536 in
theorem w_c3 : (Jvm.Cond.code ({ cls := "com/example/querist/querist/mst/DisjointSetsFindPinLaw", name := "step", desc := "(Lcom/example/querist/querist/mst/DisjointSets;[I[II)Z" } : Jvm.MethodName) method_3_code (7 : Nat) (Option.some Jvm.ClassFile.FieldType.boolean)).before args0 about1 = true := code_word (m := ⟨1, 2⟩) (meth := k1m2) (c := k1c2) (by decide +kernel) rfl rfl rfl (by decide +kernel)
set_option maxRecDepth 65536 in
theorem w_c4 : (Jvm.Cond.code ({ cls := "com/example/querist/querist/mst/DisjointSetsFindPinLaw", name := "join", desc := "([I[III)Z" } : Jvm.MethodName) method_4_code (7 : Nat) (Option.some Jvm.ClassFile.FieldType.boolean)).before args0 about1 = true := code_word (m := ⟨1, 3⟩) (meth := k1m3) (c := k1c3) (by decide +kernel) rfl rfl rfl (by decide +kernel)
set_option maxRecDepth 65536 in
theorem w_c5 : (Jvm.Cond.code ({ cls := "com/example/querist/querist/mst/DisjointSets", name := "union", desc := "(II)Z" } : Jvm.MethodName) prog_50_method_3_code (6 : Nat) (Option.some Jvm.ClassFile.FieldType.boolean)).before args0 about1 = true := code_word (m := ⟨2, 2⟩) (meth := k2m2) (c := k2c2) (by decide +kernel) rfl rfl rfl (by decide +kernel)
set_option maxRecDepth 65536 in
theorem w_c6 : (Jvm.Cond.code ({ cls := "com/example/querist/querist/mst/DisjointSets", name := "find", desc := "(I)I" } : Jvm.MethodName) prog_50_method_2_code (3 : Nat) (Option.some Jvm.ClassFile.FieldType.int)).before args0 about1 = true := code_word (m := ⟨2, 1⟩) (meth := k2m1) (c := k2c1) (by decide +kernel) rfl rfl rfl (by decide +kernel)
def codes1 : List Jvm.Cond := [Jvm.Cond.code x code maxLocals ret, Jvm.Cond.code ({ cls := "com/example/querist/querist/mst/DisjointSets", name := "<init>", desc := "(I)V" } : Jvm.MethodName) prog_50_method_1_code (3 : Nat) (Option.none : Option Jvm.ClassFile.FieldType), Jvm.Cond.code ({ cls := "java/lang/Object", name := "<init>", desc := "()V" } : Jvm.MethodName) object_method_1_code (1 : Nat) (Option.none : Option Jvm.ClassFile.FieldType), Jvm.Cond.code ({ cls := "com/example/querist/querist/mst/DisjointSetsFindPinLaw", name := "step", desc := "(Lcom/example/querist/querist/mst/DisjointSets;[I[II)Z" } : Jvm.MethodName) method_3_code (7 : Nat) (Option.some Jvm.ClassFile.FieldType.boolean), Jvm.Cond.code ({ cls := "com/example/querist/querist/mst/DisjointSetsFindPinLaw", name := "join", desc := "([I[III)Z" } : Jvm.MethodName) method_4_code (7 : Nat) (Option.some Jvm.ClassFile.FieldType.boolean), Jvm.Cond.code ({ cls := "com/example/querist/querist/mst/DisjointSets", name := "union", desc := "(II)Z" } : Jvm.MethodName) prog_50_method_3_code (6 : Nat) (Option.some Jvm.ClassFile.FieldType.boolean), Jvm.Cond.code ({ cls := "com/example/querist/querist/mst/DisjointSets", name := "find", desc := "(I)I" } : Jvm.MethodName) prog_50_method_2_code (3 : Nat) (Option.some Jvm.ClassFile.FieldType.int)]
set_option maxRecDepth 65536 in
theorem codes_eq : words1.filter isCode = codes1 := rfl
theorem w_codes : ∀ c ∈ words1.filter isCode, c.before args0 about1 = true := by
  rw [codes_eq]
  intro c hc
  simp only [codes1, List.mem_cons, List.not_mem_nil, or_false] at hc
  rcases hc with rfl | rfl | rfl | rfl | rfl | rfl | rfl
  · exact w_c0
  · exact w_c1
  · exact w_c2
  · exact w_c3
  · exact w_c4
  · exact w_c5
  · exact w_c6
set_option maxRecDepth 65536 in
theorem w_t1 : (words1.take 24).all (fun c => isCode c || c.before args0 about1) = true := by decide +kernel
set_option maxRecDepth 65536 in
theorem w_t2 : (words1.drop 24).all (fun c => isCode c || c.before args0 about1) = true := by decide +kernel
theorem w_tables : (allAtoms (Jvm.Cond.code x code maxLocals ret :: tables_1)).before args0 about1 = true := by
  rw [allAtoms_all]
  show words1.all (fun c => c.before args0 about1) = true
  refine all_split ?_ w_codes
  rw [← List.take_append_drop 24 words1, List.all_append, w_t1, w_t2]
  rfl
set_option maxRecDepth 65536 in
theorem w_case : (Jvm.Cond.and given_1 narrow_1).before args0 about1 = true := by decide +kernel
theorem w_applies : (headSpec (Jvm.Cond.code x code maxLocals ret :: tables_1) room_1).applies x e0.platform about1 = true :=
  (Spec.applies_iff w_frames).mpr ⟨w_running, w_runnable, w_alone, w_named, w_hears, w_ripe, w_room, w_tables⟩
theorem atStart : AtStart classFile x code maxLocals ret World_1 tables_1 room_1 Calls_1 rest_1 Pre_1 launch0 p0 e0 about1 theMethod args0 below0 :=
  ⟨lists_1, trivial, launch0.admits_env _ _ _, launch0.least_env, fairChoices_fair.cas, fairChoices_fair.clock, w_frames, w_args, w_heap, w_applies, trivial, trivial, w_case⟩
end start1
theorem witness_1 : WitnessClaimed_1 := ⟨start1.p0, start1.e0, start1.about1, start1.theMethod, start1.args0, start1.below0, start1.atStart⟩
end Jvm.Pilot.@@N@@
