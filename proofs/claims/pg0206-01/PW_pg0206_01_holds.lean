import PyProof.Rows.All
import Wide.All
import OpenK.AllK
import Wide.FinOn
import Lean
import PySem.Challenge.RW_pg0206_01
open PySem PySem.W PyProof.Rows
set_option Elab.async false
set_option maxRecDepth 100000
set_option maxHeartbeats 8000000
set_option rowWalk.seconds 0
set_option compiler.extract_closed false
namespace Mine
variable {tp : Program} {tlo : List Str}
open_top hd for PySem.Challenge.rw_pg0206_01
theorem ex1 {a0 : Type} {p : a0 → Prop} {G : Prop} (h : ∃ x0, p x0) (k : ∀ x0, p x0 → G) : G := by
  obtain ⟨x0, h⟩ := h
  exact k x0 h
theorem ex2 {a0 : Type} {a1 : Type} {p : a0 → a1 → Prop} {G : Prop} (h : ∃ x0 x1, p x0 x1) (k : ∀ x0 x1, p x0 x1 → G) : G := by
  obtain ⟨x0, x1, h⟩ := h
  exact k x0 x1 h
theorem ex3 {a0 : Type} {a1 : Type} {a2 : Type} {p : a0 → a1 → a2 → Prop} {G : Prop} (h : ∃ x0 x1 x2, p x0 x1 x2) (k : ∀ x0 x1 x2, p x0 x1 x2 → G) : G := by
  obtain ⟨x0, x1, x2, h⟩ := h
  exact k x0 x1 x2 h
theorem ex4 {a0 : Type} {a1 : Type} {a2 : Type} {a3 : Type} {p : a0 → a1 → a2 → a3 → Prop} {G : Prop} (h : ∃ x0 x1 x2 x3, p x0 x1 x2 x3) (k : ∀ x0 x1 x2 x3, p x0 x1 x2 x3 → G) : G := by
  obtain ⟨x0, x1, x2, x3, h⟩ := h
  exact k x0 x1 x2 x3 h
theorem ex5 {a0 : Type} {a1 : Type} {a2 : Type} {a3 : Type} {a4 : Type} {p : a0 → a1 → a2 → a3 → a4 → Prop} {G : Prop} (h : ∃ x0 x1 x2 x3 x4, p x0 x1 x2 x3 x4) (k : ∀ x0 x1 x2 x3 x4, p x0 x1 x2 x3 x4 → G) : G := by
  obtain ⟨x0, x1, x2, x3, x4, h⟩ := h
  exact k x0 x1 x2 x3 x4 h
theorem ex6 {a0 : Type} {a1 : Type} {a2 : Type} {a3 : Type} {a4 : Type} {a5 : Type} {p : a0 → a1 → a2 → a3 → a4 → a5 → Prop} {G : Prop} (h : ∃ x0 x1 x2 x3 x4 x5, p x0 x1 x2 x3 x4 x5) (k : ∀ x0 x1 x2 x3 x4 x5, p x0 x1 x2 x3 x4 x5 → G) : G := by
  obtain ⟨x0, x1, x2, x3, x4, x5, h⟩ := h
  exact k x0 x1 x2 x3 x4 x5 h
theorem ex8 {a0 : Type} {a1 : Type} {a2 : Type} {a3 : Type} {a4 : Type} {a5 : Type} {a6 : Type} {a7 : Type} {p : a0 → a1 → a2 → a3 → a4 → a5 → a6 → a7 → Prop} {G : Prop} (h : ∃ x0 x1 x2 x3 x4 x5 x6 x7, p x0 x1 x2 x3 x4 x5 x6 x7) (k : ∀ x0 x1 x2 x3 x4 x5 x6 x7, p x0 x1 x2 x3 x4 x5 x6 x7 → G) : G := by
  obtain ⟨x0, x1, x2, x3, x4, x5, x6, x7, h⟩ := h
  exact k x0 x1 x2 x3 x4 x5 x6 x7 h
theorem and2 {a0 a1 G : Prop} (h : a0 ∧ a1) (k : a0 → a1 → G) : G := k h.1 h.2
theorem and3 {a0 a1 a2 G : Prop} (h : a0 ∧ a1 ∧ a2) (k : a0 → a1 → a2 → G) : G := k h.1 h.2.1 h.2.2
theorem and4 {a0 a1 a2 a3 G : Prop} (h : a0 ∧ a1 ∧ a2 ∧ a3) (k : a0 → a1 → a2 → a3 → G) : G := k h.1 h.2.1 h.2.2.1 h.2.2.2
theorem and5 {a0 a1 a2 a3 a4 G : Prop} (h : a0 ∧ a1 ∧ a2 ∧ a3 ∧ a4) (k : a0 → a1 → a2 → a3 → a4 → G) : G := k h.1 h.2.1 h.2.2.1 h.2.2.2.1 h.2.2.2.2
theorem and8 {a0 a1 a2 a3 a4 a5 a6 a7 G : Prop} (h : a0 ∧ a1 ∧ a2 ∧ a3 ∧ a4 ∧ a5 ∧ a6 ∧ a7) (k : a0 → a1 → a2 → a3 → a4 → a5 → a6 → a7 → G) : G := k h.1 h.2.1 h.2.2.1 h.2.2.2.1 h.2.2.2.2.1 h.2.2.2.2.2.1 h.2.2.2.2.2.2.1 h.2.2.2.2.2.2.2
theorem and9 {a0 a1 a2 a3 a4 a5 a6 a7 a8 G : Prop} (h : a0 ∧ a1 ∧ a2 ∧ a3 ∧ a4 ∧ a5 ∧ a6 ∧ a7 ∧ a8) (k : a0 → a1 → a2 → a3 → a4 → a5 → a6 → a7 → a8 → G) : G := k h.1 h.2.1 h.2.2.1 h.2.2.2.1 h.2.2.2.2.1 h.2.2.2.2.2.1 h.2.2.2.2.2.2.1 h.2.2.2.2.2.2.2.1 h.2.2.2.2.2.2.2.2
theorem and10 {a0 a1 a2 a3 a4 a5 a6 a7 a8 a9 G : Prop} (h : a0 ∧ a1 ∧ a2 ∧ a3 ∧ a4 ∧ a5 ∧ a6 ∧ a7 ∧ a8 ∧ a9) (k : a0 → a1 → a2 → a3 → a4 → a5 → a6 → a7 → a8 → a9 → G) : G := k h.1 h.2.1 h.2.2.1 h.2.2.2.1 h.2.2.2.2.1 h.2.2.2.2.2.1 h.2.2.2.2.2.2.1 h.2.2.2.2.2.2.2.1 h.2.2.2.2.2.2.2.2.1 h.2.2.2.2.2.2.2.2.2
theorem and11 {a0 a1 a2 a3 a4 a5 a6 a7 a8 a9 a10 G : Prop} (h : a0 ∧ a1 ∧ a2 ∧ a3 ∧ a4 ∧ a5 ∧ a6 ∧ a7 ∧ a8 ∧ a9 ∧ a10) (k : a0 → a1 → a2 → a3 → a4 → a5 → a6 → a7 → a8 → a9 → a10 → G) : G := k h.1 h.2.1 h.2.2.1 h.2.2.2.1 h.2.2.2.2.1 h.2.2.2.2.2.1 h.2.2.2.2.2.2.1 h.2.2.2.2.2.2.2.1 h.2.2.2.2.2.2.2.2.1 h.2.2.2.2.2.2.2.2.2.1 h.2.2.2.2.2.2.2.2.2.2
theorem and13 {a0 a1 a2 a3 a4 a5 a6 a7 a8 a9 a10 a11 a12 G : Prop} (h : a0 ∧ a1 ∧ a2 ∧ a3 ∧ a4 ∧ a5 ∧ a6 ∧ a7 ∧ a8 ∧ a9 ∧ a10 ∧ a11 ∧ a12) (k : a0 → a1 → a2 → a3 → a4 → a5 → a6 → a7 → a8 → a9 → a10 → a11 → a12 → G) : G := k h.1 h.2.1 h.2.2.1 h.2.2.2.1 h.2.2.2.2.1 h.2.2.2.2.2.1 h.2.2.2.2.2.2.1 h.2.2.2.2.2.2.2.1 h.2.2.2.2.2.2.2.2.1 h.2.2.2.2.2.2.2.2.2.1 h.2.2.2.2.2.2.2.2.2.2.1 h.2.2.2.2.2.2.2.2.2.2.2.1 h.2.2.2.2.2.2.2.2.2.2.2.2
theorem andL20 {a0 a1 a2 a3 a4 a5 a6 a7 a8 a9 a10 a11 a12 a13 a14 a15 a16 a17 a18 a19 G : Prop} (h : ((((((((((((((((((a0 ∧ a1) ∧ a2) ∧ a3) ∧ a4) ∧ a5) ∧ a6) ∧ a7) ∧ a8) ∧ a9) ∧ a10) ∧ a11) ∧ a12) ∧ a13) ∧ a14) ∧ a15) ∧ a16) ∧ a17) ∧ a18) ∧ a19) (k : a0 → a1 → a2 → a3 → a4 → a5 → a6 → a7 → a8 → a9 → a10 → a11 → a12 → a13 → a14 → a15 → a16 → a17 → a18 → a19 → G) : G := k h.1.1.1.1.1.1.1.1.1.1.1.1.1.1.1.1.1.1.1 h.1.1.1.1.1.1.1.1.1.1.1.1.1.1.1.1.1.1.2 h.1.1.1.1.1.1.1.1.1.1.1.1.1.1.1.1.1.2 h.1.1.1.1.1.1.1.1.1.1.1.1.1.1.1.1.2 h.1.1.1.1.1.1.1.1.1.1.1.1.1.1.1.2 h.1.1.1.1.1.1.1.1.1.1.1.1.1.1.2 h.1.1.1.1.1.1.1.1.1.1.1.1.1.2 h.1.1.1.1.1.1.1.1.1.1.1.1.2 h.1.1.1.1.1.1.1.1.1.1.1.2 h.1.1.1.1.1.1.1.1.1.1.2 h.1.1.1.1.1.1.1.1.1.2 h.1.1.1.1.1.1.1.1.2 h.1.1.1.1.1.1.1.2 h.1.1.1.1.1.1.2 h.1.1.1.1.1.2 h.1.1.1.1.2 h.1.1.1.2 h.1.1.2 h.1.2 h.2
theorem andL21 {a0 a1 a2 a3 a4 a5 a6 a7 a8 a9 a10 a11 a12 a13 a14 a15 a16 a17 a18 a19 a20 G : Prop} (h : (((((((((((((((((((a0 ∧ a1) ∧ a2) ∧ a3) ∧ a4) ∧ a5) ∧ a6) ∧ a7) ∧ a8) ∧ a9) ∧ a10) ∧ a11) ∧ a12) ∧ a13) ∧ a14) ∧ a15) ∧ a16) ∧ a17) ∧ a18) ∧ a19) ∧ a20) (k : a0 → a1 → a2 → a3 → a4 → a5 → a6 → a7 → a8 → a9 → a10 → a11 → a12 → a13 → a14 → a15 → a16 → a17 → a18 → a19 → a20 → G) : G := k h.1.1.1.1.1.1.1.1.1.1.1.1.1.1.1.1.1.1.1.1 h.1.1.1.1.1.1.1.1.1.1.1.1.1.1.1.1.1.1.1.2 h.1.1.1.1.1.1.1.1.1.1.1.1.1.1.1.1.1.1.2 h.1.1.1.1.1.1.1.1.1.1.1.1.1.1.1.1.1.2 h.1.1.1.1.1.1.1.1.1.1.1.1.1.1.1.1.2 h.1.1.1.1.1.1.1.1.1.1.1.1.1.1.1.2 h.1.1.1.1.1.1.1.1.1.1.1.1.1.1.2 h.1.1.1.1.1.1.1.1.1.1.1.1.1.2 h.1.1.1.1.1.1.1.1.1.1.1.1.2 h.1.1.1.1.1.1.1.1.1.1.1.2 h.1.1.1.1.1.1.1.1.1.1.2 h.1.1.1.1.1.1.1.1.1.2 h.1.1.1.1.1.1.1.1.2 h.1.1.1.1.1.1.1.2 h.1.1.1.1.1.1.2 h.1.1.1.1.1.2 h.1.1.1.1.2 h.1.1.1.2 h.1.1.2 h.1.2 h.2
theorem andB {a1 a2 a3 a4 a5 a6 a7 a8 a9 b1 b2 b3 b4 b5 b6 b7 G : Prop} (h : ((a1 ∧ a2) ∧ a3 ∧ ((((a4 ∧ a5) ∧ a6) ∧ a7) ∧ a8) ∧ a9) ∧ ((b1 ∧ b2) ∧ b3) ∧ b4 ∧ (b5 ∧ b6) ∧ b7)
    (k : a1 → a2 → a3 → a4 → a5 → a6 → a7 → a8 → a9 → b1 → b2 → b3 → b4 → b5 → b6 → b7 → G) : G :=
  k h.1.1.1 h.1.1.2 h.1.2.1 h.1.2.2.1.1.1.1.1 h.1.2.2.1.1.1.1.2 h.1.2.2.1.1.1.2 h.1.2.2.1.1.2 h.1.2.2.1.2 h.1.2.2.2 h.2.1.1.1 h.2.1.1.2 h.2.1.2 h.2.2.1 h.2.2.2.1.1 h.2.2.2.1.2 h.2.2.2.2
theorem nm1 {a b : Nat} (h : a ≠ b) : a ∉ [b] := fun m => by
  cases m with
  | head => exact h rfl
  | tail _ m => cases m
theorem nm2 {a b c : Nat} (h : a ≠ b) (k : a ≠ c) : a ∉ [b, c] := fun m => by
  cases m with
  | head => exact h rfl
  | tail _ m => exact nm1 k m
theorem mina {x0 x1 : Int} : Min.min x1 x0 = x1 ∧ x1 ≤ x0 ∨ Min.min x1 x0 = x0 ∧ x0 ≤ x1 := by
  rcases Int.le_total x1 x0 with h | h
  · exact .inl ⟨Int.min_eq_left h, h⟩
  · exact .inr ⟨Int.min_eq_right h, h⟩
theorem o40 {x0 : Int} {x1 : Int} (h0 : (-1074 : Int) ≤ x1) : (x0 - Min.min x1 x0).toNat + (Min.min x1 x0 + (1074 : Int)).toNat = (x0 + (1074 : Int)).toNat := by
  rcases mina (x0 := x0) (x1 := x1) with ⟨e, h⟩ | ⟨e, _⟩ <;> rw [e]
  · rw [← Int.toNat_add (Int.sub_nonneg_of_le h) (by rw [← Int.sub_neg]; exact Int.sub_nonneg_of_le h0), ← Int.add_assoc, Int.sub_add_cancel]
  · rw [Int.sub_self, Int.toNat_zero, Nat.zero_add]
theorem o362 {x0 : Int} {x1 : Int} (h0 : (-1074 : Int) ≤ x1) : (x0 - Min.min x0 x1).toNat + (Min.min x0 x1 + (1074 : Int)).toNat = (x0 + (1074 : Int)).toNat := by
  rw [Int.min_comm]; exact o40 h0
theorem o438 {x0 : Nat} {x1 : Nat} : (2 : Nat) * ((x0 + x1) / (2 : Nat) - x0) ≤ x1 - x0 := by
  rw [Nat.mul_sub]
  refine Nat.le_trans (Nat.sub_le_sub_right (Nat.mul_div_le (x0 + x1) 2) _) ?_
  rw [Nat.two_mul, Nat.sub_add_eq, Nat.add_sub_cancel_left]
  exact Nat.le_refl _
theorem o255 {x0 : Nat} {x1 : Nat} {x2 : Nat} (h0 : x1 - x0 ≤ x2 + (1 : Nat)) : (x0 + x1) / (2 : Nat) - x0 ≤ x2 := by
  have a : 2 * ((x0 + x1) / 2 - x0) ≤ x2 + 1 := Nat.le_trans o438 h0
  generalize (x0 + x1) / 2 - x0 = q at a
  cases q with
  | zero => exact Nat.zero_le _
  | succ q => rw [Nat.two_mul, Nat.add_succ] at a; exact Nat.le_trans (Nat.le_add_right _ _) (Nat.le_of_succ_le_succ a)
theorem o236 {x0 : Nat} {x1 : Nat} : (2 : Nat) * (x0 - ((x1 + x0) / (2 : Nat) + (1 : Nat))) ≤ x0 - x1 := by
  have a : x1 + x0 ≤ 2 * ((x1 + x0) / 2 + 1) := Nat.le_of_lt (by rw [Nat.mul_comm]; exact Nat.lt_mul_of_div_lt (Nat.lt_succ_self _) (by decide))
  rw [Nat.mul_sub]
  refine Nat.le_trans (Nat.sub_le_sub_left a _) ?_
  rw [Nat.two_mul, Nat.sub_add_eq, Nat.sub_right_comm, Nat.add_sub_cancel]
  exact Nat.le_refl _
theorem o367 {x0 : Nat} {x1 : Nat} {x2 : Nat} (h0 : x0 - x1 ≤ x2 + (1 : Nat)) : x0 - ((x1 + x0) / (2 : Nat) + (1 : Nat)) ≤ x2 := by
  have a := Nat.le_trans (o236 (x0 := x0) (x1 := x1)) h0
  generalize x0 - ((x1 + x0) / 2 + 1) = q at a
  cases q with
  | zero => exact Nat.zero_le _
  | succ q => rw [Nat.two_mul, Nat.add_succ] at a; exact Nat.le_trans (Nat.le_add_right _ _) (Nat.le_of_succ_le_succ a)
theorem o160 {x0 : Nat} {x1 : Nat} {x2 : Nat} (h0 : x2 = x0 - x1) (h1 : (↑x1 : Int) < (↑x0 : Int)) : x0 - ((x1 + x0) / (2 : Nat) + (1 : Nat)) < x2 := by
  have p : 0 < x2 := h0 ▸ Nat.sub_pos_of_lt (Int.ofNat_lt.mp h1)
  obtain ⟨y, rfl⟩ := Nat.exists_eq_succ_of_ne_zero (Nat.ne_of_gt p)
  exact Nat.lt_succ_of_le (o367 (Nat.le_of_eq h0.symm))
theorem o170 {x0 : Nat} {x1 : Nat} {x2 : Nat} (h0 : x2 = x1 - x0) (h1 : (↑x0 : Int) < (↑x1 : Int)) : (x0 + x1) / (2 : Nat) - x0 < x2 := by
  have p : 0 < x2 := h0 ▸ Nat.sub_pos_of_lt (Int.ofNat_lt.mp h1)
  obtain ⟨y, rfl⟩ := Nat.exists_eq_succ_of_ne_zero (Nat.ne_of_gt p)
  exact Nat.lt_succ_of_le (o255 (Nat.le_of_eq h0.symm))
theorem o317 {x0 : Nat} : (((↑x0 : Int) - (1 : Int)) / (2 : Int)).toNat = (x0 - (1 : Nat)) / (2 : Nat) := by
  cases x0 with
  | zero => rfl
  | succ n =>
    rw [Int.natCast_succ, Int.add_sub_cancel]
    show ((n : Int) / ((2 : Nat) : Int)).toNat = n / 2
    rw [← Int.natCast_ediv, Int.toNat_natCast]
theorem ev {x : Nat} : 2 * ((x + (8 - x % 2)) / 2) = x + (8 - x % 2) := by
  refine Nat.mul_div_cancel' (Nat.dvd_of_mod_eq_zero ?_)
  rw [Nat.add_mod]
  rcases Nat.mod_two_eq_zero_or_one x with e | e <;> rw [e]
theorem o67 {x0 : Nat} {x1 : Nat} {x2 : Nat} {x3 : Nat} (h0 : x0 = x1) (h1 : x2 = (8 : Nat) - x3 % (2 : Nat)) (h2 : x1 = x3 + x2) : x0 = (2 : Nat) * (x0 / (2 : Nat)) := by
  subst h1 h0 h2
  exact ev.symm
theorem s78 {x : Nat} : 8 - x % 2 ≤ 8 := Nat.sub_le _ _
theorem o331 {x0 : Nat} {x1 : Nat} {x2 : Nat} (h0 : x1 ≤ (8 : Nat)) (h1 : x2 = (8 : Nat) - x1 % (2 : Nat)) (h2 : x0 = x1 + x2) : x0 ≤ (16777216 : Nat) := by
  subst h1 h2
  exact Nat.le_trans (Nat.add_le_add h0 s78) (by decide)
theorem o186 {x0 : Nat} {x1 : Nat} {x2 : Nat} (h0 : x0 ≤ (8 : Nat)) (h1 : x2 = (8 : Nat) - x0 % (2 : Nat)) (h2 : x1 = x2) : x0 + x1 ≤ (16777216 : Nat) := by
  subst h2 h1
  exact o331 h0 rfl rfl
theorem o135 {x0 : Nat} {x1 : Nat} {x2 : Nat} {x3 : Nat} (h0 : x1 ≤ (8 : Nat)) (h1 : x2 = (8 : Nat) - x1 % (2 : Nat)) (h2 : x3 = x1 + x2) (h3 : x0 = x3) : x0 / (2 : Nat) ≤ (8 : Nat) := by
  subst h1 h2 h3
  exact Nat.div_le_div_right (c := 2) (Nat.add_le_add h0 s78)
theorem o472 {x0 : Nat} {x1 : Nat} {x2 : Nat} {x3 : Nat} (h0 : x0 = x1) (h1 : x2 = (8 : Nat) - x3 % (2 : Nat)) (h2 : x1 = x3 + x2) : (4 : Nat) ≤ x0 / (2 : Nat) := by
  subst h1 h0 h2
  refine Nat.div_le_div_right (a := 8) (c := 2) (Nat.le_trans (Nat.le_of_eq ?_) (Nat.add_le_add_right (Nat.mod_le x3 2) _))
  rw [Nat.add_sub_cancel']
  exact Nat.le_trans (Nat.le_of_lt (Nat.mod_lt _ (by decide))) (by decide)
theorem o343 {x0 : Nat} {x1 : Nat} {x2 : Nat} {x3 : Nat} (h0 : x2 ≤ (8 : Nat)) (h1 : x3 = (2 : Nat) * x2) (h2 : x0 = x3) : x0 - x1 + Min.min x1 x0 ≤ (16777216 : Nat) := by
  subst h1 h2
  exact Nat.le_trans (Nat.add_le_add (Nat.sub_le _ _) (Nat.min_le_right _ _)) (Nat.le_trans (Nat.add_le_add (Nat.mul_le_mul_left 2 h0) (Nat.mul_le_mul_left 2 h0)) (by decide))
theorem o364 {x0 : Nat} {x1 : Nat} {x2 : Nat} (h0 : x2 < x1) (h1 : x1 < x0) : x0 - (1 : Nat) - x1 < x0 - (1 : Nat) - x2 := 
  Nat.sub_lt_sub_left (Nat.lt_of_lt_of_le h0 (Nat.le_sub_one_of_lt h1)) h0
theorem o78 {x0 : Nat} {x1 : Nat} {x2 : Nat} {x3 : Nat} {x4 : Nat} {x5 : Nat} (h0 : x0 < x4 ∨ x0 = x4 ∧ x2 < x5) : (x0 < x1 ∨ x0 = x1 ∧ x2 < x3) ∨ x1 < x4 ∨ x1 = x4 ∧ x3 < x5 := by
  rcases Nat.lt_trichotomy x0 x1 with h | rfl | h
  · exact .inl (.inl h)
  · rcases h0 with a | ⟨rfl, a⟩
    · exact .inr (.inl a)
    · rcases Nat.lt_or_ge x2 x3 with b | b
      · exact .inl (.inr ⟨rfl, b⟩)
      · exact .inr (.inr ⟨rfl, Nat.lt_of_le_of_lt b a⟩)
  · exact .inr (.inl (h0.elim (Nat.lt_trans h) fun q => q.1 ▸ h))
theorem o238 {x0 : Nat} {x1 : Nat} {x2 : Nat} {x3 : Nat} {x4 : Nat} {x5 : Nat} (h0 : x0 < x4 ∨ x0 = x4 ∧ x2 < x5) (h1 : x4 < x1 ∨ x4 = x1 ∧ x5 < x3) : x0 < x1 ∨ x0 = x1 ∧ x2 < x3 := by
  rcases h0 with a | ⟨rfl, a⟩
  · exact .inl (h1.elim (Nat.lt_trans a) fun q => q.1 ▸ a)
  · exact h1.imp id fun q => ⟨q.1, Nat.lt_trans a q.2⟩
theorem o281 {x0 : Nat} {x1 : Nat} {x2 : Nat} {x3 : Nat} (h0 : ¬(x2 < x3 ∨ x2 = x3 ∧ x1 < x0)) (h1 : ¬(x3 < x2 ∨ x3 = x2 ∧ x0 < x1)) : x0 = x1 := by
  have e : x2 = x3 := Nat.le_antisymm (Nat.not_lt.mp fun a => h1 (.inl a)) (Nat.not_lt.mp fun a => h0 (.inl a))
  exact Nat.le_antisymm (Nat.not_lt.mp fun a => h0 (.inr ⟨e, a⟩)) (Nat.not_lt.mp fun a => h1 (.inr ⟨e.symm, a⟩))
theorem o195 {x0 : Nat} {x1 : Nat} {x2 : Nat} {x3 : Nat} (h0 : ¬(x1 < x0 ∨ x1 = x0 ∧ x3 < x2)) (h1 : x3 ≠ x2) : x0 < x1 ∨ x0 = x1 ∧ x2 < x3 := by
  rcases Nat.lt_trichotomy x0 x1 with h | rfl | h
  · exact .inl h
  · exact .inr ⟨rfl, (Nat.lt_or_gt_of_ne h1).resolve_left fun a => h0 (.inr ⟨rfl, a⟩)⟩
  · exact absurd (.inl h) h0
theorem dle {x : Nat} : (x - 1) / 2 ≤ x := Nat.le_trans (Nat.div_le_self _ _) (Nat.sub_le _ _)
theorem o429 {x0 : Nat} {x1 : Nat} {x2 : Nat} {x3 : Nat} (h0 : (x1 - (1 : Nat)) / (2 : Nat) = x3) (h1 : x0 ≤ x3 + (x2 + (1 : Nat))) (h2 : x3 ≠ x1) : x0 ≤ x1 + x2 := by
  have a : x3 + 1 ≤ x1 := Nat.lt_of_le_of_ne (h0 ▸ dle) h2
  refine Nat.le_trans h1 ?_
  rw [Nat.add_comm x2 1, ← Nat.add_assoc]
  exact Nat.add_le_add_right a _
theorem o268 {x0 : Nat} {x1 : Nat} {x2 : Nat} (h0 : (x1 - (1 : Nat)) / (2 : Nat) = x2) (h1 : x0 ≤ x2) : x0 ≤ x1 := Nat.le_trans h1 (h0 ▸ dle)
theorem dlt {x : Nat} (h : 0 < x) : (x - 1) / 2 < x := Nat.lt_of_le_of_lt (Nat.div_le_self _ _) (Nat.sub_lt h (by decide))
theorem o294 {x0 : Nat} {x1 : Nat} (h0 : (x1 - (1 : Nat)) / (2 : Nat) = x0) (h1 : (0 : Nat) < x1) : x0 < x1 := h0 ▸ dlt h1
theorem o477 {x0 : Nat} {x1 : Nat} {x2 : Nat} (h0 : x0 < x2) (h1 : x1 = x2) : (x0 - (1 : Nat)) / (2 : Nat) < x1 := h1 ▸ Nat.lt_of_le_of_lt dle h0
theorem nmod {x : Int} (h : 0 ≤ x) : (↑(x.natAbs % 1024) : Int) = x % 1024 := by
  rw [Int.natCast_emod, Int.natAbs_of_nonneg h]; rfl
theorem o151 {x0 : Int} (h0 : ¬x0 < (0 : Int)) : (↑(x0.natAbs % (1024 : Nat)) : Int) = x0 % (1024 : Int) := nmod (Int.not_lt.mp h0)
theorem o202 {x0 : Int} (h0 : x0.natAbs % (1024 : Nat) = (0 : Nat)) : x0 % (1024 : Int) = (0 : Int) := 
  Int.emod_eq_zero_of_dvd (Int.natAbs_dvd_natAbs.mp (Nat.dvd_of_mod_eq_zero h0))
theorem o512 {x0 : Nat} {x1 : Nat} {x2 : Nat} (h0 : x0 < x1) (h1 : x2 < x0) : x0 - (1 : Nat) < x1 - (1 : Nat) := Nat.sub_lt_sub_right (Nat.succ_le_of_lt (Nat.lt_of_le_of_lt (Nat.zero_le _) h1)) h0
theorem o316 {x0 : Nat} {x1 : Nat} {x2 : Nat} (h0 : x0 < Min.min x1 x2) : x0 ≤ x1 - (1 : Nat) := Nat.le_sub_one_of_lt (Nat.lt_of_lt_of_le h0 (Nat.min_le_left _ _))
theorem o111 {x0 : Nat} {x1 : Nat} (h0 : x1 < x0) : x0 + (1 : Nat) - (x1 + (1 : Nat)) < x0 + (1 : Nat) - x1 := Nat.sub_lt_sub_left (Nat.lt_succ_of_lt h0) (Nat.lt_succ_self _)
theorem o456 {x0 : Nat} {x1 : Nat} {x2 : Nat} (h0 : ¬x2 ≤ x0) : x0 - x1 ≤ x2 - x1 := Nat.sub_le_sub_right (Nat.le_of_lt (Nat.not_le.mp h0)) _
theorem o79 {x0 : Nat} {x1 : Nat} (h0 : x1 < x0) : x0 - x1 = x0 - x1 - (1 : Nat) + (1 : Nat) := (Nat.sub_add_cancel (Nat.sub_pos_of_lt h0)).symm
theorem o458 {x0 : Nat} {x1 : Nat} {x2 : Nat} (h0 : x0 = x1 - (1 : Nat)) (h1 : ¬x2 < x0) (h2 : ¬x0 = x2) (h3 : x2 < x1) : False :=
  h2 (Nat.le_antisymm (Nat.not_lt.mp h1) (h0 ▸ Nat.le_sub_one_of_lt h3))
theorem o179 {x0 : Nat} {x1 : Nat} {x2 : Nat} (h0 : x2 < x1) (h1 : x2 = x0) : x0 ≤ x1 - (1 : Nat) := h1 ▸ Nat.le_sub_one_of_lt h0
theorem o41 {x0 : Nat} {x1 : Nat} (h0 : x0 - x1 + (x1 - x0) = (0 : Nat)) : x0 = x1 :=
  Nat.le_antisymm (Nat.le_of_sub_eq_zero (Nat.eq_zero_of_add_eq_zero h0).1) (Nat.le_of_sub_eq_zero (Nat.eq_zero_of_add_eq_zero h0).2)
theorem o123 {x0 : Nat} {x1 : Nat} {x2 : Nat} {x3 : Nat} (h0 : x1 < x3 - x0) (h1 : x3 = x2) : x0 + x1 < x2 := h1 ▸ Nat.add_lt_of_lt_sub' h0
theorem o34 {x0 : Nat} {x1 : Nat} {x2 : Nat} (h0 : x0 + (x2 + (1 : Nat)) ≤ x1) : x0 - (1 : Nat) < x1 :=
  Nat.lt_of_le_of_lt (Nat.sub_le _ _) (Nat.lt_of_lt_of_le (Nat.lt_add_of_pos_right (Nat.succ_pos _)) h0)
theorem o219 {x0 : Nat} : (2 : Nat) * x0 / (4 : Nat) = x0 / (2 : Nat) := Nat.mul_div_mul_left x0 2 (m := 2) (by decide)
theorem o90 {x0 : Nat} (h0 : x0 < (64 : Nat)) : (↑((16 : Nat) * x0) : Int).natAbs < (2 : Nat) ^ (40 : Nat) := Nat.lt_of_lt_of_le (Nat.mul_lt_mul_of_pos_left h0 (by decide : 0 < 16)) (by decide)
theorem o286 {x0 : Nat} (h0 : x0 ≤ (4 : Nat)) : (↑((256 : Nat) * x0) : Int).natAbs < (2 : Nat) ^ (40 : Nat) := Nat.lt_of_le_of_lt (Nat.mul_le_mul_left 256 h0) (by decide)
theorem o330 {x0 : Int} : (-(↑(x0.natAbs % (1024 : Nat)) : Int)).natAbs < (2 : Nat) ^ (40 : Nat) := by
  rw [Int.natAbs_neg]; exact Nat.lt_trans (Nat.mod_lt _ (by decide)) (by decide : 1024 < 2 ^ 40)
theorem o490 {x0 : Int} : -(↑(x0.natAbs % (1024 : Nat)) : Int) = (0 : Int) ↔ x0.natAbs % (1024 : Nat) = (0 : Nat) := by
  rw [Int.neg_eq_zero, Int.natCast_eq_zero]
theorem o48 {x0 : Nat} {x1 : Nat} : Max.max (0 : Int) (Min.min (↑x0 : Int) (↑x1 : Int)) = (↑(Min.min x0 x1) : Int) := by
  rcases Nat.le_total x0 x1 with h | h
  · rw [Nat.min_eq_left h, Int.min_eq_left (Int.ofNat_le.mpr h)]; exact Int.max_eq_right (Int.natCast_nonneg _)
  · rw [Nat.min_eq_right h, Int.min_eq_right (Int.ofNat_le.mpr h)]; exact Int.max_eq_right (Int.natCast_nonneg _)
theorem o480 {x0 : Nat} {x1 : Nat} {x2 : Nat} : (↑(x0 + x1) : Int) < (↑x2 : Int) ↔ (↑x0 : Int) < (↑(x2 - x1) : Int) := by
  rw [Int.ofNat_lt, Int.ofNat_lt]; exact Nat.lt_sub_iff_add_lt.symm
theorem o231 {x0 : Int} (h0 : (-1074 : Int) ≤ x0) (h1 : ¬x0 ≥ (0 : Int)) : (x0 + (1074 : Int)).toNat + (-x0).toNat = (1074 : Nat) := by
  rw [← Int.toNat_add (by rw [← Int.sub_neg]; exact Int.sub_nonneg_of_le h0) (Int.neg_nonneg_of_nonpos (Int.le_of_lt (Int.not_le.mp h1))), Int.add_right_comm, Int.add_right_neg]; rfl
theorem o94 {x0 : Nat} (h0 : x0 < (8 : Nat)) : x0 = (0 : Nat) ∨ x0 = (1 : Nat) ∨ x0 = (2 : Nat) ∨ x0 = (3 : Nat) ∨ x0 = (4 : Nat) ∨ x0 = (5 : Nat) ∨ x0 = (6 : Nat) ∨ x0 = (7 : Nat) := (by decide : ∀ x : Nat, x < 8 → (x = 0 ∨ x = 1 ∨ x = 2 ∨ x = 3 ∨ x = 4 ∨ x = 5 ∨ x = 6 ∨ x = 7)) x0 h0
theorem o118 {x0 : Int} : (-(↑(x0.natAbs % (1024 : Nat)) : Int) + (1024 : Int)).natAbs < (2 : Nat) ^ (40 : Nat) := Nat.lt_of_le_of_lt (Int.natAbs_add_le _ _) (by rw [Int.natAbs_neg]; exact Nat.lt_of_lt_of_le (Nat.add_lt_add_right (Nat.mod_lt _ (by decide)) _) (by decide : 1024 + 1024 ≤ 2 ^ 40))
theorem o476 {x0 : Int} (h0 : (0 : Int) < x0) (h1 : x0 < (1000000 : Int)) : x0.natAbs < (1073741824 : Nat) := by
  obtain ⟨n, rfl⟩ := Int.eq_ofNat_of_zero_le (Int.le_of_lt h0)
  exact Nat.lt_trans (Int.ofNat_lt.mp h1) (by decide)
theorem o325 {x0 : Nat} : -((↑x0 : Int) / (2 : Int) - (↑x0 : Int) / (4 : Int)) = -(↑(x0 / (2 : Nat) - x0 / (4 : Nat)) : Int) := by
  rw [Int.ofNat_sub (Nat.div_le_div_left (by decide) (by decide))]; rfl
theorem o39 {x0 : Nat} {x1 : Nat} {x2 : Nat} (h0 : ¬-(↑x0 : Int) < -(↑(x1 - x1 / (2 : Nat)) : Int)) (h1 : ¬x2 ≤ x1 / (2 : Nat)) (h2 : x0 = x2) : x0 = x1 - x1 / (2 : Nat) := by
  have b : x1 - x1 / 2 ≤ x1 / 2 + 1 := Nat.sub_le_iff_le_add.mpr (by rw [Nat.add_right_comm, ← Nat.two_mul]; exact Nat.le_of_lt_succ (Nat.lt_mul_div_succ x1 Nat.zero_lt_two))
  subst h2
  exact Nat.le_antisymm (Int.ofNat_le.mp (Int.neg_le_neg_iff.mp (Int.not_lt.mp h0))) (Nat.le_trans b (Nat.succ_le_of_lt (Nat.not_le.mp h1)))
theorem o409 {x0 : Nat} {x1 : Nat} {x2 : Nat} (h0 : x0 = (0 : Nat) ∧ x2 - x2 = x1 ∨ (0 : Nat) < x0 ∧ (2 : Nat) ^ (x0 - (1 : Nat)) ≤ x1) : x0 = (0 : Nat) ∧ x1 = (0 : Nat) ∨ (0 : Nat) < x0 ∧ (2 : Nat) ^ (x0 - (1 : Nat)) ≤ x1 := by
  rw [Nat.sub_self] at h0
  exact h0.imp (fun q => ⟨q.1, q.2.symm⟩) id
theorem o488 {x0 : Nat} {x1 : Nat} (h0 : (0 : Nat) < x0) (h1 : x1 / (2 : Nat) ≤ (x0 - (1 : Nat)) / (2 : Nat)) (h2 : x0 < x1) : False := by
  cases x0 with
  | zero => exact Nat.lt_irrefl _ h0
  | succ y =>
    have a : (y + 2) / 2 ≤ y / 2 := Nat.le_trans (Nat.div_le_div_right h2) h1
    rw [Nat.add_div_right y (by decide)] at a
    exact Nat.lt_irrefl _ a
theorem o278 {x0 : Nat} {x1 : Nat} {x2 : Nat} {x3 : Nat} (h0 : x0 ≤ x1) (h1 : x2 < Min.min x0 x3) : x0 - (1 : Nat) < x1 := Nat.lt_of_lt_of_le (Nat.sub_lt (Nat.lt_of_le_of_lt (Nat.zero_le _) (Nat.lt_of_lt_of_le h1 (Nat.min_le_left _ _))) (by decide)) h0
theorem o108 {x0 : Nat} {x1 : Nat} (h0 : x0 ≤ (1 : Nat) + (1 : Nat) + (x1 - ((1 : Nat) + (1 : Nat)))) (h1 : (2 : Nat) ≤ x1) : x0 ≤ x1 := Nat.le_trans h0 (Nat.le_of_eq (Nat.add_sub_cancel' h1))
theorem o0 {x0 : Nat} {x1 : Nat} (h0 : ¬x0 = x1 - (1 : Nat)) (h1 : x0 < x1) : x0 < x1 - (1 : Nat) := by lia
theorem o1 {x0 : Nat} {x1 : Nat} (h0 : (↑x0 : Int) < (↑x1 : Int)) : (x0 + x1) / (2 : Nat) + (1 : Nat) ≤ x1 := by lia
theorem o2 {x0 : Nat} {x1 : Nat} (h0 : x0 < x1 + (1 : Nat)) (h1 : ¬x0 = x1) : x0 < x1 := by lia
theorem o3 {x0 : Nat} {x1 : Nat} (h0 : x0 - x1 = (0 : Nat)) (h1 : ¬x0 < x1) : x0 = x1 := by lia
theorem o4 {x0 : Nat} {x1 : Nat} (h0 : ¬(↑((2 : Nat) * x0 + (1 : Nat)) : Int) + (1 : Int) < (↑x1 : Int)) (h1 : (2 : Nat) * x0 + (1 : Nat) + (1 : Nat) < x1) : False := by lia
theorem o5 {x0 : Nat} (h0 : ¬(0 : Int) < (↑x0 : Int)) : (0 : Int) = (↑x0 : Int) := by lia
theorem o6 {x0 : Nat} {x1 : Nat} {x2 : Nat} (h0 : (↑((2 : Nat) * x0 + (1 : Nat)) : Int) + (1 : Int) < (↑x2 : Int)) (h1 : x1 = x2) : (2 : Nat) * x0 + (1 : Nat) + (1 : Nat) < x1 := by lia
theorem o7 {x0 : Nat} {x1 : Nat} {x2 : Nat} (h0 : x0 < x1 + x2) : x0 ≤ x1 + x2 := by first | assumption | exact Nat.le_refl _ | rfl | (subst_vars; first | assumption | rfl | exact Nat.le_refl _) | exact Nat.le_of_lt (by assumption) | exact Nat.ne_of_lt (by assumption) | exact Nat.ne_of_gt (by assumption) | exact Nat.lt_of_lt_of_le (by assumption) (by first | assumption | decide) | exact Nat.lt_of_le_of_lt (by assumption) (by first | assumption | decide) | exact Nat.le_trans (by assumption) (by first | assumption | decide) | (subst_vars; first | exact Nat.le_of_lt (by assumption) | exact Nat.lt_of_lt_of_le (by assumption) (by first | assumption | decide) | exact Nat.lt_of_le_of_lt (by assumption) (by first | assumption | decide) | exact Nat.le_trans (by assumption) (by first | assumption | decide)) | exact absurd (by assumption) (by assumption) | simp | (simp at *; done)
theorem o9 {x0 : Nat} {x1 : Nat} (h0 : ¬x0 - x1 = (0 : Nat)) : (1 : Nat) ≤ x0 - x1 := by (exact Nat.one_le_iff_ne_zero.mpr h0)
theorem o10 {x0 : Nat} {x1 : Nat} (h0 : x0 ≤ x1 / (4 : Nat)) : (↑x0 : Int) ≤ (↑x1 : Int) / (4 : Int) := by (exact Nat.ToInt.of_le rfl rfl h0)
theorem o11 {x0 : Nat} {x1 : Nat} {x2 : Nat} (h0 : x0 + (x2 + (1 : Nat)) ≤ x1) : x0 < x1 := by (exact Nat.lt_of_add_right_lt h0)
theorem o12 {x0 : Nat} {x1 : Nat} : (↑x0 : Int) + (↑x1 : Int) = (↑(x0 + x1) : Int) := by (exact Int.ofNat_add_ofNat x0 x1)
theorem o13 {x0 : Nat} {x1 : Nat} (h0 : x1 < x0) : (1 : Nat) ≤ x0 - x1 := by (exact Nat.le_sub_of_add_le' h0)
theorem o16 {x0 : Nat} : x0 % (64 : Nat) < (64 : Nat) := by lia
theorem o17 {x0 : Nat} {x1 : Nat} (h0 : (↑((2 : Nat) * x0 + (1 : Nat)) : Int) + (1 : Int) < (↑x1 : Int)) : (2 : Nat) * x0 + (1 : Nat) + (1 : Nat) < x1 := by (exact Int.ofNat_lt.mp h0)
theorem o18 {x0 : Nat} {x1 : Nat} (h0 : x0 = x1) : x0 ≤ x1 := by (exact Nat.le_of_eq h0)
theorem o19 {x0 : Nat} {x1 : Nat} (h0 : ¬x1 < x0) : x0 ≤ x1 := by (exact Nat.le_of_not_lt h0)
theorem o20 {x0 : Nat} (h0 : x0 + (1 : Nat) = (0 : Nat)) : False := by first | assumption | exact Nat.le_refl _ | rfl | (subst_vars; first | assumption | rfl | exact Nat.le_refl _) | exact Nat.le_of_lt (by assumption) | exact Nat.ne_of_lt (by assumption) | exact Nat.ne_of_gt (by assumption) | exact Nat.lt_of_lt_of_le (by assumption) (by first | assumption | decide) | exact Nat.lt_of_le_of_lt (by assumption) (by first | assumption | decide) | exact Nat.le_trans (by assumption) (by first | assumption | decide) | (subst_vars; first | exact Nat.le_of_lt (by assumption) | exact Nat.lt_of_lt_of_le (by assumption) (by first | assumption | decide) | exact Nat.lt_of_le_of_lt (by assumption) (by first | assumption | decide) | exact Nat.le_trans (by assumption) (by first | assumption | decide)) | exact absurd (by assumption) (by assumption) | simp | (simp at *; done)
theorem o21 {x0 : Nat} {x1 : Nat} (h0 : ¬x0 = (1 : Nat)) (h1 : x0 = x1 + (1 : Nat)) (h2 : x1 = (0 : Nat)) : False := by lia
theorem o22 {x0 : Nat} {x1 : Nat} (h0 : x0 < x1) (h1 : x0 = x1) : False := by lia
theorem o23 {x0 : Nat} {x1 : Nat} {x2 : Nat} (h0 : (0 : Nat) < x0) (h1 : (x0 - (1 : Nat)) / (2 : Nat) = x1) (h2 : x2 ≤ (2 : Nat) * x1 + (1 : Nat)) (h3 : x0 < x2) : False := by lia
theorem o24 {x0 : Nat} {x1 : Nat} : x0 ≤ x0 + (x1 + (1 : Nat)) := by (exact Nat.le_add_right x0 (x1 + 1))
theorem o25 {x0 : Nat} (h0 : ¬x0 = (0 : Nat)) : (0 : Nat) < x0 := by (exact Nat.zero_lt_of_ne_zero h0)
theorem o26 {x0 : Nat} {x1 : Nat} {x2 : Nat} (h0 : (0 : Nat) < x0 ∧ x0 < x1) (h1 : x1 ≤ x2) (h2 : x2 = x0) : False := by lia
theorem o27 {x0 : Nat} (h0 : (1 : Nat) ≤ x0) : x0 - (1 : Nat) < x0 := by (exact Nat.sub_one_lt_of_lt h0)
theorem o28 {x0 : Nat} (h0 : x0 ≤ (4 : Nat)) : x0 < (1000000 : Nat) := by first | assumption | exact Nat.le_refl _ | rfl | (subst_vars; first | assumption | rfl | exact Nat.le_refl _) | exact Nat.le_of_lt (by assumption) | exact Nat.ne_of_lt (by assumption) | exact Nat.ne_of_gt (by assumption) | exact Nat.lt_of_lt_of_le (by assumption) (by first | assumption | decide) | exact Nat.lt_of_le_of_lt (by assumption) (by first | assumption | decide) | exact Nat.le_trans (by assumption) (by first | assumption | decide) | (subst_vars; first | exact Nat.le_of_lt (by assumption) | exact Nat.lt_of_lt_of_le (by assumption) (by first | assumption | decide) | exact Nat.lt_of_le_of_lt (by assumption) (by first | assumption | decide) | exact Nat.le_trans (by assumption) (by first | assumption | decide)) | exact absurd (by assumption) (by assumption) | simp | (simp at *; done)
theorem o29 {x0 : Nat} (h0 : x0 ≤ (63 : Nat)) : x0 ≤ (1000 : Nat) := by first | assumption | exact Nat.le_refl _ | rfl | (subst_vars; first | assumption | rfl | exact Nat.le_refl _) | exact Nat.le_of_lt (by assumption) | exact Nat.ne_of_lt (by assumption) | exact Nat.ne_of_gt (by assumption) | exact Nat.lt_of_lt_of_le (by assumption) (by first | assumption | decide) | exact Nat.lt_of_le_of_lt (by assumption) (by first | assumption | decide) | exact Nat.le_trans (by assumption) (by first | assumption | decide) | (subst_vars; first | exact Nat.le_of_lt (by assumption) | exact Nat.lt_of_lt_of_le (by assumption) (by first | assumption | decide) | exact Nat.lt_of_le_of_lt (by assumption) (by first | assumption | decide) | exact Nat.le_trans (by assumption) (by first | assumption | decide)) | exact absurd (by assumption) (by assumption) | simp | (simp at *; done)
theorem o30 {x0 : Nat} {x1 : Nat} (h0 : x0 = (2 : Nat) * x1) (h1 : x1 ≤ (8 : Nat)) : x0 ≤ (16777216 : Nat) := by lia
theorem o32 {x0 : Nat} : (0 : Int) ≤ (↑x0 : Int) := by (exact Int.natCast_nonneg x0)
theorem o33 {x0 : Nat} {x1 : Nat} {x2 : Nat} (h0 : x0 = x2 + (1 : Nat)) (h1 : x1 = x2 + (1 : Nat)) : x0 - (1 : Nat) < x1 := by first | assumption | exact Nat.le_refl _ | rfl | (subst_vars; first | assumption | rfl | exact Nat.le_refl _) | exact Nat.le_of_lt (by assumption) | exact Nat.ne_of_lt (by assumption) | exact Nat.ne_of_gt (by assumption) | exact Nat.lt_of_lt_of_le (by assumption) (by first | assumption | decide) | exact Nat.lt_of_le_of_lt (by assumption) (by first | assumption | decide) | exact Nat.le_trans (by assumption) (by first | assumption | decide) | (subst_vars; first | exact Nat.le_of_lt (by assumption) | exact Nat.lt_of_lt_of_le (by assumption) (by first | assumption | decide) | exact Nat.lt_of_le_of_lt (by assumption) (by first | assumption | decide) | exact Nat.le_trans (by assumption) (by first | assumption | decide)) | exact absurd (by assumption) (by assumption) | simp | (simp at *; done)
theorem o35 {x0 : Nat} (h0 : (↑x0 : Int) < (0 : Int)) : False := by (exact (Int.negSucc_not_nonneg x0).mp h0)
theorem o36 {x0 : Nat} {x1 : Nat} (h0 : ¬(2 : Nat) * x1 + (1 : Nat) < x0) : x0 ≤ (2 : Nat) * x1 + (1 : Nat) := by (exact Nat.le_of_not_lt h0)
theorem o37 {x0 : Nat} {x1 : Nat} {x2 : Nat} (h0 : (2 : Nat) ≤ x1) (h1 : x2 = x1) (h2 : x0 = x2) : (0 : Nat) < x0 := by first | assumption | exact Nat.le_refl _ | rfl | (subst_vars; first | assumption | rfl | exact Nat.le_refl _) | exact Nat.le_of_lt (by assumption) | exact Nat.ne_of_lt (by assumption) | exact Nat.ne_of_gt (by assumption) | exact Nat.lt_of_lt_of_le (by assumption) (by first | assumption | decide) | exact Nat.lt_of_le_of_lt (by assumption) (by first | assumption | decide) | exact Nat.le_trans (by assumption) (by first | assumption | decide) | (subst_vars; first | exact Nat.le_of_lt (by assumption) | exact Nat.lt_of_lt_of_le (by assumption) (by first | assumption | decide) | exact Nat.lt_of_le_of_lt (by assumption) (by first | assumption | decide) | exact Nat.le_trans (by assumption) (by first | assumption | decide)) | exact absurd (by assumption) (by assumption) | simp | (simp at *; done)
theorem o42 {x0 : Nat} {x1 : Nat} : (0 : Nat) + x0 - (1 : Nat) - x1 = x0 - (1 : Nat) - x1 := by first | assumption | exact Nat.le_refl _ | rfl | (subst_vars; first | assumption | rfl | exact Nat.le_refl _) | exact Nat.le_of_lt (by assumption) | exact Nat.ne_of_lt (by assumption) | exact Nat.ne_of_gt (by assumption) | exact Nat.lt_of_lt_of_le (by assumption) (by first | assumption | decide) | exact Nat.lt_of_le_of_lt (by assumption) (by first | assumption | decide) | exact Nat.le_trans (by assumption) (by first | assumption | decide) | (subst_vars; first | exact Nat.le_of_lt (by assumption) | exact Nat.lt_of_lt_of_le (by assumption) (by first | assumption | decide) | exact Nat.lt_of_le_of_lt (by assumption) (by first | assumption | decide) | exact Nat.le_trans (by assumption) (by first | assumption | decide)) | exact absurd (by assumption) (by assumption) | simp | (simp at *; done)
theorem o44 {x0 : Nat} {x1 : Nat} {x2 : Nat} (h0 : x0 < x1) : x0 ≤ x1 + x2 := by lia
theorem o45 {x0 : Nat} {x1 : Nat} {x2 : Nat} (h0 : x0 < x2) (h1 : x1 = x2) : x0 < x1 := by first | assumption | exact Nat.le_refl _ | rfl | (subst_vars; first | assumption | rfl | exact Nat.le_refl _) | exact Nat.le_of_lt (by assumption) | exact Nat.ne_of_lt (by assumption) | exact Nat.ne_of_gt (by assumption) | exact Nat.lt_of_lt_of_le (by assumption) (by first | assumption | decide) | exact Nat.lt_of_le_of_lt (by assumption) (by first | assumption | decide) | exact Nat.le_trans (by assumption) (by first | assumption | decide) | (subst_vars; first | exact Nat.le_of_lt (by assumption) | exact Nat.lt_of_lt_of_le (by assumption) (by first | assumption | decide) | exact Nat.lt_of_le_of_lt (by assumption) (by first | assumption | decide) | exact Nat.le_trans (by assumption) (by first | assumption | decide)) | exact absurd (by assumption) (by assumption) | simp | (simp at *; done)
theorem o46 {x0 : Nat} {x1 : Nat} (h0 : ¬x1 < x0) : x0 ≤ x1 + (1 : Nat) := by (exact Nat.le_of_not_ge h0)
theorem o47 {x0 : Nat} {x1 : Nat} {x2 : Nat} (h0 : x2 < x0) : x0 - (1 : Nat) - x1 < x0 := by omega
theorem o49 {x0 : Nat} {x1 : Nat} (h0 : (↑x0 : Int) < (↑x1 : Int)) (h1 : ¬x0 < x1) : False := by lia
theorem o50 {x0 : Nat} {x1 : Nat} (h0 : x0 < x1) : x0 ≤ x1 := by first | assumption | exact Nat.le_refl _ | rfl | (subst_vars; first | assumption | rfl | exact Nat.le_refl _) | exact Nat.le_of_lt (by assumption) | exact Nat.ne_of_lt (by assumption) | exact Nat.ne_of_gt (by assumption) | exact Nat.lt_of_lt_of_le (by assumption) (by first | assumption | decide) | exact Nat.lt_of_le_of_lt (by assumption) (by first | assumption | decide) | exact Nat.le_trans (by assumption) (by first | assumption | decide) | (subst_vars; first | exact Nat.le_of_lt (by assumption) | exact Nat.lt_of_lt_of_le (by assumption) (by first | assumption | decide) | exact Nat.lt_of_le_of_lt (by assumption) (by first | assumption | decide) | exact Nat.le_trans (by assumption) (by first | assumption | decide)) | exact absurd (by assumption) (by assumption) | simp | (simp at *; done)
theorem o51 {x0 : Nat} {x1 : Nat} (h0 : (2 : Nat) ≤ x1) (h1 : x0 = x1) : (2 : Nat) ≤ x0 := by first | assumption | exact Nat.le_refl _ | rfl | (subst_vars; first | assumption | rfl | exact Nat.le_refl _) | exact Nat.le_of_lt (by assumption) | exact Nat.ne_of_lt (by assumption) | exact Nat.ne_of_gt (by assumption) | exact Nat.lt_of_lt_of_le (by assumption) (by first | assumption | decide) | exact Nat.lt_of_le_of_lt (by assumption) (by first | assumption | decide) | exact Nat.le_trans (by assumption) (by first | assumption | decide) | (subst_vars; first | exact Nat.le_of_lt (by assumption) | exact Nat.lt_of_lt_of_le (by assumption) (by first | assumption | decide) | exact Nat.lt_of_le_of_lt (by assumption) (by first | assumption | decide) | exact Nat.le_trans (by assumption) (by first | assumption | decide)) | exact absurd (by assumption) (by assumption) | simp | (simp at *; done)
theorem o54 {x0 : Nat} {x1 : Nat} (h0 : x1 ≤ (200 : Nat)) (h1 : x0 = x1) : (↑x0 : Int) < (2 : Int) ^ (60 : Nat) := by lia
theorem o55 {x0 : Nat} {x1 : Nat} {x2 : Nat} (h0 : x0 + (x2 + (1 : Nat)) = x1) : x0 < x1 := by lia
theorem o56 {x0 : Nat} {x1 : Nat} : x0 / (2 : Nat) - (x1 + (1 : Nat)) = x0 / (2 : Nat) - (1 : Nat) - x1 := by lia
theorem o57 {x0 : Int} (h0 : ¬x0.natAbs % (1024 : Nat) = (0 : Nat)) : -(↑(x0.natAbs % (1024 : Nat)) : Int) < (0 : Int) := by lia
theorem o58 {x0 : Nat} (h0 : x0 ≤ (64 : Nat)) : x0 ≤ (16777216 : Nat) := by first | assumption | exact Nat.le_refl _ | rfl | (subst_vars; first | assumption | rfl | exact Nat.le_refl _) | exact Nat.le_of_lt (by assumption) | exact Nat.ne_of_lt (by assumption) | exact Nat.ne_of_gt (by assumption) | exact Nat.lt_of_lt_of_le (by assumption) (by first | assumption | decide) | exact Nat.lt_of_le_of_lt (by assumption) (by first | assumption | decide) | exact Nat.le_trans (by assumption) (by first | assumption | decide) | (subst_vars; first | exact Nat.le_of_lt (by assumption) | exact Nat.lt_of_lt_of_le (by assumption) (by first | assumption | decide) | exact Nat.lt_of_le_of_lt (by assumption) (by first | assumption | decide) | exact Nat.le_trans (by assumption) (by first | assumption | decide)) | exact absurd (by assumption) (by assumption) | simp | (simp at *; done)
theorem o59 {x0 : Nat} {x1 : Nat} {x2 : Nat} (h0 : (↑((2 : Nat) * x0 + (1 : Nat)) : Int) < (↑x2 : Int)) (h1 : x1 = x2) : (2 : Nat) * x0 + (1 : Nat) < x1 := by lia
theorem o60 {x0 : Nat} (h0 : (↑x0 : Int) < (2 : Int) ^ (60 : Nat)) : (↑(x0 - (1 : Nat)) : Int) < (2 : Int) ^ (60 : Nat) := by omega
theorem o61 {x0 : Nat} {x1 : Nat} (h0 : x0 < x1) : (x0 - (1 : Nat)) / (2 : Nat) < x1 := by omega
theorem o62 {x0 : Nat} {x1 : Nat} {x2 : Nat} (h0 : x1 ≤ (64 : Nat)) (h1 : x2 + (1 : Nat) + x0 = x1) : x0 ≤ (16777216 : Nat) := by lia
theorem o63 {x0 : Nat} {x1 : Nat} (h0 : x1 ≤ (200 : Nat)) (h1 : x0 = x1) : (↑x0 : Int) < (2 : Int) ^ (63 : Nat) := by lia
theorem o64 {x0 : Nat} : (↑x0 : Int) / (256 : Int) + (1 : Int) = (↑(x0 / (256 : Nat) + (1 : Nat)) : Int) := by first | assumption | exact Nat.le_refl _ | rfl | (subst_vars; first | assumption | rfl | exact Nat.le_refl _) | exact Nat.le_of_lt (by assumption) | exact Nat.ne_of_lt (by assumption) | exact Nat.ne_of_gt (by assumption) | exact Nat.lt_of_lt_of_le (by assumption) (by first | assumption | decide) | exact Nat.lt_of_le_of_lt (by assumption) (by first | assumption | decide) | exact Nat.le_trans (by assumption) (by first | assumption | decide) | (subst_vars; first | exact Nat.le_of_lt (by assumption) | exact Nat.lt_of_lt_of_le (by assumption) (by first | assumption | decide) | exact Nat.lt_of_le_of_lt (by assumption) (by first | assumption | decide) | exact Nat.le_trans (by assumption) (by first | assumption | decide)) | exact absurd (by assumption) (by assumption) | simp | (simp at *; done)
theorem o66 {x0 : Nat} {x1 : Nat} (h0 : x0 ≤ x1) (h1 : x0 ≥ x1) : x0 = x1 := by (exact Nat.le_antisymm h0 h1)
theorem o68 {x0 : Nat} {x1 : Nat} (h0 : x0 ≤ (0 : Nat)) (h1 : x1 ≤ x0) : x0 = x1 := by lia
theorem o69 {x0 : Nat} (h0 : x0 < (1024 : Nat)) : x0 / (256 : Nat) + (1 : Nat) ≤ (4 : Nat) := by lia
theorem o70 {x0 : Nat} {x1 : Nat} {x2 : Nat} (h0 : ¬x1 < x2) (h1 : x0 = x2) : x0 ≤ x1 := by lia
theorem o72 {x0 : Nat} : (0 : Nat) ≤ x0 := by (exact Nat.zero_le x0)
theorem o73 {x0 : Nat} {x1 : Nat} {x2 : Nat} (h0 : x0 < x2) (h1 : x1 = x2) : (↑x0 : Int) < (↑x1 : Int) := by lia
theorem o74 {x0 : Nat} (h0 : (↑x0 : Int) < (2 : Int) ^ (60 : Nat)) : (↑x0 : Int) < (2 : Int) ^ (63 : Nat) := by lia
theorem o75 {x0 : Nat} {x1 : Nat} : Min.min x0 (x1 + x1) ≤ x0 := by (exact Nat.min_le_left x0 (x1 + x1))
theorem o76 {x0 : Nat} {x1 : Nat} {x2 : Nat} {x3 : Nat} (h0 : ¬x0 ≥ x1) (h1 : x3 < x2) (h2 : x1 ≤ x3) : (x0 + x1) / (2 : Nat) < x2 := by lia
theorem o77 {x0 : Nat} {x1 : Nat} (h0 : (↑x0 : Int) < (↑x1 : Int)) : x0 < x1 := by (exact Int.ofNat_lt.mp h0)
theorem o80 {x0 : Nat} {x1 : Nat} (h0 : (0 : Nat) < x0) (h1 : (x0 - (1 : Nat)) / (2 : Nat) = x1) (h2 : x1 = x0) : False := by lia
theorem o81 {x0 : Nat} {x1 : Nat} (h0 : x1 < x0) : (0 : Nat) < x0 := by (exact Nat.zero_lt_of_lt h0)
theorem o83 {x0 : Nat} {x1 : Nat} {x2 : Nat} (h0 : x0 ≤ x2) (h1 : x1 = x2) : x0 ≤ x1 := by first | assumption | exact Nat.le_refl _ | rfl | (subst_vars; first | assumption | rfl | exact Nat.le_refl _) | exact Nat.le_of_lt (by assumption) | exact Nat.ne_of_lt (by assumption) | exact Nat.ne_of_gt (by assumption) | exact Nat.lt_of_lt_of_le (by assumption) (by first | assumption | decide) | exact Nat.lt_of_le_of_lt (by assumption) (by first | assumption | decide) | exact Nat.le_trans (by assumption) (by first | assumption | decide) | (subst_vars; first | exact Nat.le_of_lt (by assumption) | exact Nat.lt_of_lt_of_le (by assumption) (by first | assumption | decide) | exact Nat.lt_of_le_of_lt (by assumption) (by first | assumption | decide) | exact Nat.le_trans (by assumption) (by first | assumption | decide)) | exact absurd (by assumption) (by assumption) | simp | (simp at *; done)
theorem o84 {x0 : Nat} {x1 : Nat} (h0 : ¬x1 ≤ x0) : x0 ≤ x1 := by (exact Nat.le_of_not_ge h0)
theorem o85 {x0 : Nat} : x0 ≤ x0 := by first | assumption | exact Nat.le_refl _ | rfl | (subst_vars; first | assumption | rfl | exact Nat.le_refl _) | exact Nat.le_of_lt (by assumption) | exact Nat.ne_of_lt (by assumption) | exact Nat.ne_of_gt (by assumption) | exact Nat.lt_of_lt_of_le (by assumption) (by first | assumption | decide) | exact Nat.lt_of_le_of_lt (by assumption) (by first | assumption | decide) | exact Nat.le_trans (by assumption) (by first | assumption | decide) | (subst_vars; first | exact Nat.le_of_lt (by assumption) | exact Nat.lt_of_lt_of_le (by assumption) (by first | assumption | decide) | exact Nat.lt_of_le_of_lt (by assumption) (by first | assumption | decide) | exact Nat.le_trans (by assumption) (by first | assumption | decide)) | exact absurd (by assumption) (by assumption) | simp | (simp at *; done)
theorem o87 {x0 : Nat} {x1 : Nat} {x2 : Nat} (h0 : x0 = x1) (h1 : x2 < x1 - x0) : False := by lia
theorem o88 {x0 : Nat} (h0 : x0 ≤ (4 : Nat)) : x0 ≤ (8 : Nat) := by first | assumption | exact Nat.le_refl _ | rfl | (subst_vars; first | assumption | rfl | exact Nat.le_refl _) | exact Nat.le_of_lt (by assumption) | exact Nat.ne_of_lt (by assumption) | exact Nat.ne_of_gt (by assumption) | exact Nat.lt_of_lt_of_le (by assumption) (by first | assumption | decide) | exact Nat.lt_of_le_of_lt (by assumption) (by first | assumption | decide) | exact Nat.le_trans (by assumption) (by first | assumption | decide) | (subst_vars; first | exact Nat.le_of_lt (by assumption) | exact Nat.lt_of_lt_of_le (by assumption) (by first | assumption | decide) | exact Nat.lt_of_le_of_lt (by assumption) (by first | assumption | decide) | exact Nat.le_trans (by assumption) (by first | assumption | decide)) | exact absurd (by assumption) (by assumption) | simp | (simp at *; done)
theorem o91 {x0 : Nat} {x1 : Nat} (h0 : x0 = (2 : Nat) * x1) (h1 : (4 : Nat) ≤ x1) : (2 : Nat) ≤ x0 := by lia
theorem o92 {x0 : Nat} {x1 : Nat} (h0 : x0 < x1) : x0 < x1 + (1 : Nat) := by (exact Nat.lt_add_right 1 h0)
theorem o93 {x0 : Nat} {x1 : Nat} : (↑((16 : Nat) * x0) : Int) < (↑((16 : Nat) * x1) : Int) ↔ x0 < x1 := by first | assumption | exact Nat.le_refl _ | rfl | (subst_vars; first | assumption | rfl | exact Nat.le_refl _) | exact Nat.le_of_lt (by assumption) | exact Nat.ne_of_lt (by assumption) | exact Nat.ne_of_gt (by assumption) | exact Nat.lt_of_lt_of_le (by assumption) (by first | assumption | decide) | exact Nat.lt_of_le_of_lt (by assumption) (by first | assumption | decide) | exact Nat.le_trans (by assumption) (by first | assumption | decide) | (subst_vars; first | exact Nat.le_of_lt (by assumption) | exact Nat.lt_of_lt_of_le (by assumption) (by first | assumption | decide) | exact Nat.lt_of_le_of_lt (by assumption) (by first | assumption | decide) | exact Nat.le_trans (by assumption) (by first | assumption | decide)) | exact absurd (by assumption) (by assumption) | simp | (simp at *; done)
theorem o95 {x0 : Nat} : x0 / (2 : Nat) ≤ x0 := by (exact Nat.div_le_self x0 2)
theorem o97 {x0 : Nat} {x1 : Nat} {x2 : Nat} {x3 : Nat} {x4 : Nat} (h0 : x0 ≤ x2) (h1 : x2 ≤ x3) (h2 : x3 ≤ x4) (h3 : x4 ≤ x1) : x0 ≤ x1 := by lia
theorem o98 {x0 : Nat} (h0 : x0 ≤ (500 : Nat)) : x0 + (1 : Nat) ≤ (700 : Nat) := by first | assumption | exact Nat.le_refl _ | rfl | (subst_vars; first | assumption | rfl | exact Nat.le_refl _) | exact Nat.le_of_lt (by assumption) | exact Nat.ne_of_lt (by assumption) | exact Nat.ne_of_gt (by assumption) | exact Nat.lt_of_lt_of_le (by assumption) (by first | assumption | decide) | exact Nat.lt_of_le_of_lt (by assumption) (by first | assumption | decide) | exact Nat.le_trans (by assumption) (by first | assumption | decide) | (subst_vars; first | exact Nat.le_of_lt (by assumption) | exact Nat.lt_of_lt_of_le (by assumption) (by first | assumption | decide) | exact Nat.lt_of_le_of_lt (by assumption) (by first | assumption | decide) | exact Nat.le_trans (by assumption) (by first | assumption | decide)) | exact absurd (by assumption) (by assumption) | simp | (simp at *; done)
theorem o99 {x0 : Nat} {x1 : Nat} {x2 : Nat} {x3 : Nat} {x4 : Nat} {x5 : Nat} {x6 : Nat} {x7 : Nat} {x8 : Nat} {x9 : Nat} {x10 : Nat} {x11 : Nat} {x12 : Nat} {x13 : Nat} {x14 : Nat} (h0 : x1 + (1 : Nat) + (1 : Nat) + (1 : Nat) + (1 : Nat) < x2) (h1 : x3 + (1 : Nat) < x1) (h2 : x4 + (1 : Nat) + (1 : Nat) < x3) (h3 : x5 + (1 : Nat) + (1 : Nat) < x4) (h4 : x6 + (1 : Nat) + (1 : Nat) < x5) (h5 : x7 + (1 : Nat) + (1 : Nat) < x6) (h6 : x8 + (1 : Nat) + (1 : Nat) < x7) (h7 : x9 + (1 : Nat) < x8) (h8 : x10 + (1 : Nat) < x9) (h9 : x11 < x10) (h10 : x12 ≤ x11) (h11 : x13 < x12) (h12 : x0 + x14 ≤ x13) : x0 ≤ x1 + (1 : Nat) + (1 : Nat) + (1 : Nat) ∧ x1 + (1 : Nat) + (1 : Nat) + (1 : Nat) < x2 := by lia
theorem o100 {x0 : Nat} {x1 : Nat} : (((↑x0 : Int) + (↑x1 : Int)) / (2 : Int)).toNat = (x0 + x1) / (2 : Nat) := by (exact Nat.add_zero ((x0 + x1).div 2))
theorem o101 {x0 : Nat} {x1 : Nat} (h0 : x0 < x1) : x0 + (1 : Nat) ≤ x1 := by first | assumption | exact Nat.le_refl _ | rfl | (subst_vars; first | assumption | rfl | exact Nat.le_refl _) | exact Nat.le_of_lt (by assumption) | exact Nat.ne_of_lt (by assumption) | exact Nat.ne_of_gt (by assumption) | exact Nat.lt_of_lt_of_le (by assumption) (by first | assumption | decide) | exact Nat.lt_of_le_of_lt (by assumption) (by first | assumption | decide) | exact Nat.le_trans (by assumption) (by first | assumption | decide) | (subst_vars; first | exact Nat.le_of_lt (by assumption) | exact Nat.lt_of_lt_of_le (by assumption) (by first | assumption | decide) | exact Nat.lt_of_le_of_lt (by assumption) (by first | assumption | decide) | exact Nat.le_trans (by assumption) (by first | assumption | decide)) | exact absurd (by assumption) (by assumption) | simp | (simp at *; done)
theorem o102 {x0 : Nat} : (0 : Nat) < (2 : Nat) * x0 + (1 : Nat) := by (exact Nat.zero_lt_succ (2 * x0))
theorem o103 {x0 : Nat} (h0 : x0 - (1 : Nat) = (0 : Nat)) (h1 : (0 : Nat) < x0) : x0 = (1 : Nat) := by lia
theorem o104 {x0 : Nat} {x1 : Nat} {x2 : Nat} {x3 : Nat} {x4 : Nat} {x5 : Nat} {x6 : Nat} {x7 : Nat} {x8 : Nat} {x9 : Nat} {x10 : Nat} {x11 : Nat} {x12 : Nat} {x13 : Nat} {x14 : Nat} (h0 : x1 + (1 : Nat) + (1 : Nat) + (1 : Nat) + (1 : Nat) < x2) (h1 : x3 + (1 : Nat) + (1 : Nat) + (1 : Nat) < x1) (h2 : x4 + (1 : Nat) + (1 : Nat) < x3) (h3 : x5 + (1 : Nat) + (1 : Nat) < x4) (h4 : x6 + (1 : Nat) + (1 : Nat) < x5) (h5 : x7 + (1 : Nat) + (1 : Nat) < x6) (h6 : x8 + (1 : Nat) + (1 : Nat) < x7) (h7 : x9 + (1 : Nat) < x8) (h8 : x10 + (1 : Nat) < x9) (h9 : x11 < x10) (h10 : x12 ≤ x11) (h11 : x13 < x12) (h12 : x0 + x14 ≤ x13) : x0 ≤ x1 + (1 : Nat) + (1 : Nat) + (1 : Nat) ∧ x1 + (1 : Nat) + (1 : Nat) + (1 : Nat) < x2 := by lia
theorem o107 {x0 : Nat} {x1 : Nat} : x0 + x1 = x1 + x0 := by (exact Nat.add_comm x0 x1)
theorem o109 {x0 : Nat} {x1 : Nat} {x2 : Nat} (h0 : ¬x0 ≥ x1) (h1 : x1 ≤ x2) : (x0 + x1) / (2 : Nat) < x2 := by lia
theorem o110 {x0 : Nat} {x1 : Nat} (h0 : ¬x1 ≤ x0 / (2 : Nat)) : x0 / (2 : Nat) < x1 := by (exact Nat.lt_of_not_le h0)
theorem o112 {x0 : Nat} (h0 : x0 = (1 : Nat)) : x0 - (1 : Nat) = (0 : Nat) := by (exact Eq.symm (Nat.eq_sub_of_add_eq' (id (Eq.symm h0))))
theorem o113 {x0 : Nat} {x1 : Nat} {x2 : Nat} (h0 : x1 ≤ x2 + x0) (h1 : x2 < x1) : x0 = x0 - (1 : Nat) + (1 : Nat) := by lia
theorem o114 {x0 : Nat} : Min.min (1 : Nat) x0 ≤ (1 : Nat) := by (exact Nat.min_le_left 1 x0)
theorem o115 {x0 : Nat} : ((2 : Nat) * x0 + (1 : Nat) - (1 : Nat)) / (2 : Nat) = x0 := by first | assumption | exact Nat.le_refl _ | rfl | (subst_vars; first | assumption | rfl | exact Nat.le_refl _) | exact Nat.le_of_lt (by assumption) | exact Nat.ne_of_lt (by assumption) | exact Nat.ne_of_gt (by assumption) | exact Nat.lt_of_lt_of_le (by assumption) (by first | assumption | decide) | exact Nat.lt_of_le_of_lt (by assumption) (by first | assumption | decide) | exact Nat.le_trans (by assumption) (by first | assumption | decide) | (subst_vars; first | exact Nat.le_of_lt (by assumption) | exact Nat.lt_of_lt_of_le (by assumption) (by first | assumption | decide) | exact Nat.lt_of_le_of_lt (by assumption) (by first | assumption | decide) | exact Nat.le_trans (by assumption) (by first | assumption | decide)) | exact absurd (by assumption) (by assumption) | simp | (simp at *; done)
theorem o116 {x0 : Nat} {x1 : Nat} (h0 : x0 < (1 : Nat) + (1 : Nat)) (h1 : x1 < x0) : x0 = (1 : Nat) := by lia
theorem o117 {x0 : Nat} {x1 : Nat} {x2 : Nat} (h0 : x1 ≤ (32 : Nat)) (h1 : x2 = (2 : Nat) * x1) (h2 : x0 = x2) : x0 ≤ (64 : Nat) := by lia
theorem o119 {x0 : Nat} (h0 : (0 : Nat) + (1 : Nat) ≤ x0) : (0 : Nat) < x0 := by first | assumption | exact Nat.le_refl _ | rfl | (subst_vars; first | assumption | rfl | exact Nat.le_refl _) | exact Nat.le_of_lt (by assumption) | exact Nat.ne_of_lt (by assumption) | exact Nat.ne_of_gt (by assumption) | exact Nat.lt_of_lt_of_le (by assumption) (by first | assumption | decide) | exact Nat.lt_of_le_of_lt (by assumption) (by first | assumption | decide) | exact Nat.le_trans (by assumption) (by first | assumption | decide) | (subst_vars; first | exact Nat.le_of_lt (by assumption) | exact Nat.lt_of_lt_of_le (by assumption) (by first | assumption | decide) | exact Nat.lt_of_le_of_lt (by assumption) (by first | assumption | decide) | exact Nat.le_trans (by assumption) (by first | assumption | decide)) | exact absurd (by assumption) (by assumption) | simp | (simp at *; done)
theorem o120 {x0 : Nat} : (↑(x0 - x0 / (2 : Nat)) : Int) = (↑x0 : Int) - (↑x0 : Int) / (2 : Int) := by lia
theorem o121 {x0 : Nat} {x1 : Nat} (h0 : (↑x0 : Int) < (↑x1 : Int)) : x0 ≤ (x0 + x1) / (2 : Nat) := by lia
theorem o122 {x0 : Nat} {x1 : Nat} {x2 : Nat} (h0 : x1 < x2 - x0) : x0 + x1 < x2 := by (exact Nat.add_lt_of_lt_sub' h0)
theorem o124 : (0 : Int) < (2 : Int) ^ (62 : Nat) := by (exact kbt_pos 62)
theorem o125 {x0 : Nat} {x1 : Nat} {x2 : Nat} (h0 : x2 < x1) (h1 : x0 < x2) : x0 < x1 := by (exact Nat.lt_trans h1 h0)
theorem o127 {x0 : Nat} {x1 : Nat} (h0 : (0 : Nat) < x0) (h1 : x0 < x1) : (0 : Nat) < x0 ∧ x0 < x1 := by (exact ⟨h0, h1⟩)
theorem o128 {x0 : Nat} {x1 : Nat} : x0 ≤ x0 + x1 := by (exact Nat.le_add_right x0 x1)
theorem o129 {x0 : Nat} (h0 : (4 : Nat) ≤ x0) : (0 : Nat) < x0 := by (exact o81 h0)
theorem o130 {x0 : Nat} {x1 : Nat} {x2 : Nat} (h0 : x0 = x2) (h1 : x1 = x2) : x0 = x1 := by first | assumption | exact Nat.le_refl _ | rfl | (subst_vars; first | assumption | rfl | exact Nat.le_refl _) | exact Nat.le_of_lt (by assumption) | exact Nat.ne_of_lt (by assumption) | exact Nat.ne_of_gt (by assumption) | exact Nat.lt_of_lt_of_le (by assumption) (by first | assumption | decide) | exact Nat.lt_of_le_of_lt (by assumption) (by first | assumption | decide) | exact Nat.le_trans (by assumption) (by first | assumption | decide) | (subst_vars; first | exact Nat.le_of_lt (by assumption) | exact Nat.lt_of_lt_of_le (by assumption) (by first | assumption | decide) | exact Nat.lt_of_le_of_lt (by assumption) (by first | assumption | decide) | exact Nat.le_trans (by assumption) (by first | assumption | decide)) | exact absurd (by assumption) (by assumption) | simp | (simp at *; done)
theorem o131 {x0 : Nat} : (2 : Int) < (↑x0 : Int) ↔ (2 : Nat) < x0 := by omega
theorem o132 {x0 : Nat} {x1 : Nat} (h0 : x0 < x1 + (1 : Nat)) (h1 : ¬x0 < x1) : x0 = x1 := by (exact Nat.eq_of_lt_succ_of_not_lt h0 h1)
theorem o133 {x0 : Int} {x1 : Int} {x2 : Int} (h0 : x1 * x2 = (1024 : Int) * x0) (h1 : (0 : Int) ≤ x1 * x2) : (0 : Int) ≤ x0 := by lia
theorem o134 {x0 : Nat} : -(2 : Int) ^ (62 : Nat) ≤ (↑x0 : Int) := by (exact Int.neg_ofNat_le_natCast (2 ^ 62) x0)
theorem o136 {x0 : Nat} : (0 : Int) + ((↑x0 : Int) - (1 : Int)) * (1 : Int) = (↑x0 : Int) - (1 : Int) := by first | assumption | exact Nat.le_refl _ | rfl | (subst_vars; first | assumption | rfl | exact Nat.le_refl _) | exact Nat.le_of_lt (by assumption) | exact Nat.ne_of_lt (by assumption) | exact Nat.ne_of_gt (by assumption) | exact Nat.lt_of_lt_of_le (by assumption) (by first | assumption | decide) | exact Nat.lt_of_le_of_lt (by assumption) (by first | assumption | decide) | exact Nat.le_trans (by assumption) (by first | assumption | decide) | (subst_vars; first | exact Nat.le_of_lt (by assumption) | exact Nat.lt_of_lt_of_le (by assumption) (by first | assumption | decide) | exact Nat.lt_of_le_of_lt (by assumption) (by first | assumption | decide) | exact Nat.le_trans (by assumption) (by first | assumption | decide)) | exact absurd (by assumption) (by assumption) | simp | (simp at *; done)
theorem o137 {x0 : Nat} {x1 : Nat} {x2 : Nat} (h0 : x0 < x2) : Min.min x0 x1 ≤ x2 := by lia
theorem o138 {x0 : Nat} : ((↑x0 : Int) - (0 : Int) - (1 : Int)) / (1 : Int) + (1 : Int) = (↑x0 : Int) := by first | assumption | exact Nat.le_refl _ | rfl | (subst_vars; first | assumption | rfl | exact Nat.le_refl _) | exact Nat.le_of_lt (by assumption) | exact Nat.ne_of_lt (by assumption) | exact Nat.ne_of_gt (by assumption) | exact Nat.lt_of_lt_of_le (by assumption) (by first | assumption | decide) | exact Nat.lt_of_le_of_lt (by assumption) (by first | assumption | decide) | exact Nat.le_trans (by assumption) (by first | assumption | decide) | (subst_vars; first | exact Nat.le_of_lt (by assumption) | exact Nat.lt_of_lt_of_le (by assumption) (by first | assumption | decide) | exact Nat.lt_of_le_of_lt (by assumption) (by first | assumption | decide) | exact Nat.le_trans (by assumption) (by first | assumption | decide)) | exact absurd (by assumption) (by assumption) | simp | (simp at *; done)
theorem o139 {x0 : Int} {x1 : Nat} (h0 : (0 : Int) ≤ x0) (h1 : x0 < (↑x1 : Int)) : x0.toNat < x1 := by (exact (Int.toNat_lt h0).mpr h1)
theorem o140 {x0 : Nat} {x1 : Nat} : x0 - Min.min x1 x0 ≤ x0 - Min.min x1 x0 := by first | assumption | exact Nat.le_refl _ | rfl | (subst_vars; first | assumption | rfl | exact Nat.le_refl _) | exact Nat.le_of_lt (by assumption) | exact Nat.ne_of_lt (by assumption) | exact Nat.ne_of_gt (by assumption) | exact Nat.lt_of_lt_of_le (by assumption) (by first | assumption | decide) | exact Nat.lt_of_le_of_lt (by assumption) (by first | assumption | decide) | exact Nat.le_trans (by assumption) (by first | assumption | decide) | (subst_vars; first | exact Nat.le_of_lt (by assumption) | exact Nat.lt_of_lt_of_le (by assumption) (by first | assumption | decide) | exact Nat.lt_of_le_of_lt (by assumption) (by first | assumption | decide) | exact Nat.le_trans (by assumption) (by first | assumption | decide)) | exact absurd (by assumption) (by assumption) | simp | (simp at *; done)
theorem o141 {x0 : Nat} {x1 : Nat} (h0 : x0 < x1) : x0 ≤ x1 - (1 : Nat) := by (exact Nat.le_sub_one_of_lt h0)
theorem o143 {x0 : Nat} {x1 : Nat} {x2y : Nat} {x3 : Nat} (h0 : x0 = x1 + (1 : Nat)) (h1 : x2y ≤ (64 : Nat)) (h2 : x1 + (1 : Nat) + x3 = x2y) : (↑x0 : Int) < (2 : Int) ^ (60 : Nat) := by lia
theorem o144 {x0 : Nat} {x1 : Nat} (h0 : x0 + (1 : Nat) ≤ x1) : x0 ≤ x1 := by first | assumption | exact Nat.le_refl _ | rfl | (subst_vars; first | assumption | rfl | exact Nat.le_refl _) | exact Nat.le_of_lt (by assumption) | exact Nat.ne_of_lt (by assumption) | exact Nat.ne_of_gt (by assumption) | exact Nat.lt_of_lt_of_le (by assumption) (by first | assumption | decide) | exact Nat.lt_of_le_of_lt (by assumption) (by first | assumption | decide) | exact Nat.le_trans (by assumption) (by first | assumption | decide) | (subst_vars; first | exact Nat.le_of_lt (by assumption) | exact Nat.lt_of_lt_of_le (by assumption) (by first | assumption | decide) | exact Nat.lt_of_le_of_lt (by assumption) (by first | assumption | decide) | exact Nat.le_trans (by assumption) (by first | assumption | decide)) | exact absurd (by assumption) (by assumption) | simp | (simp at *; done)
theorem o145 {x0 : Nat} {x1 : Nat} (h0 : x0 = (2 : Nat) * x1) (h1 : x1 ≤ (8 : Nat)) : x0 ≤ (64 : Nat) := by lia
theorem o146 {x0 : Nat} : (↑x0 : Int) / (4 : Int) = (↑(x0 / (4 : Nat)) : Int) := by first | assumption | exact Nat.le_refl _ | rfl | (subst_vars; first | assumption | rfl | exact Nat.le_refl _) | exact Nat.le_of_lt (by assumption) | exact Nat.ne_of_lt (by assumption) | exact Nat.ne_of_gt (by assumption) | exact Nat.lt_of_lt_of_le (by assumption) (by first | assumption | decide) | exact Nat.lt_of_le_of_lt (by assumption) (by first | assumption | decide) | exact Nat.le_trans (by assumption) (by first | assumption | decide) | (subst_vars; first | exact Nat.le_of_lt (by assumption) | exact Nat.lt_of_lt_of_le (by assumption) (by first | assumption | decide) | exact Nat.lt_of_le_of_lt (by assumption) (by first | assumption | decide) | exact Nat.le_trans (by assumption) (by first | assumption | decide)) | exact absurd (by assumption) (by assumption) | simp | (simp at *; done)
theorem o147 {x0 : Nat} (h0 : (0 : Nat) < x0) (h1 : ¬x0 = (1 : Nat)) : (0 : Nat) < x0 - (1 : Nat) := by lia
theorem o148 {x0 : Nat} : (↑x0 : Int) / (64 : Int) % (4 : Int) + (1 : Int) = (↑(x0 / (64 : Nat) % (4 : Nat) + (1 : Nat)) : Int) := by first | assumption | exact Nat.le_refl _ | rfl | (subst_vars; first | assumption | rfl | exact Nat.le_refl _) | exact Nat.le_of_lt (by assumption) | exact Nat.ne_of_lt (by assumption) | exact Nat.ne_of_gt (by assumption) | exact Nat.lt_of_lt_of_le (by assumption) (by first | assumption | decide) | exact Nat.lt_of_le_of_lt (by assumption) (by first | assumption | decide) | exact Nat.le_trans (by assumption) (by first | assumption | decide) | (subst_vars; first | exact Nat.le_of_lt (by assumption) | exact Nat.lt_of_lt_of_le (by assumption) (by first | assumption | decide) | exact Nat.lt_of_le_of_lt (by assumption) (by first | assumption | decide) | exact Nat.le_trans (by assumption) (by first | assumption | decide)) | exact absurd (by assumption) (by assumption) | simp | (simp at *; done)
theorem o149 {x0 : Nat} {x1 : Nat} (h0 : ¬x0 < x1) (h1 : x0 ≤ x1) : x0 = x1 := by lia
theorem o150 {x0 : Nat} (h0 : x0 ≤ (1000 : Nat)) : x0 ≤ (16777216 : Nat) := by first | assumption | exact Nat.le_refl _ | rfl | (subst_vars; first | assumption | rfl | exact Nat.le_refl _) | exact Nat.le_of_lt (by assumption) | exact Nat.ne_of_lt (by assumption) | exact Nat.ne_of_gt (by assumption) | exact Nat.lt_of_lt_of_le (by assumption) (by first | assumption | decide) | exact Nat.lt_of_le_of_lt (by assumption) (by first | assumption | decide) | exact Nat.le_trans (by assumption) (by first | assumption | decide) | (subst_vars; first | exact Nat.le_of_lt (by assumption) | exact Nat.lt_of_lt_of_le (by assumption) (by first | assumption | decide) | exact Nat.lt_of_le_of_lt (by assumption) (by first | assumption | decide) | exact Nat.le_trans (by assumption) (by first | assumption | decide)) | exact absurd (by assumption) (by assumption) | simp | (simp at *; done)
theorem o153 {x0 : Nat} {x1 : Nat} {x2 : Nat} (h0 : x0 + (1 : Nat) + x1 = x2) : x0 + (x1 + (1 : Nat)) = x2 := by lia
theorem o154 {x0 : Int} {x1 : Nat} (h0 : (↑x1 : Int) = x0) : x0 = (↑x1 : Int) := by first | assumption | exact Nat.le_refl _ | rfl | (subst_vars; first | assumption | rfl | exact Nat.le_refl _) | exact Nat.le_of_lt (by assumption) | exact Nat.ne_of_lt (by assumption) | exact Nat.ne_of_gt (by assumption) | exact Nat.lt_of_lt_of_le (by assumption) (by first | assumption | decide) | exact Nat.lt_of_le_of_lt (by assumption) (by first | assumption | decide) | exact Nat.le_trans (by assumption) (by first | assumption | decide) | (subst_vars; first | exact Nat.le_of_lt (by assumption) | exact Nat.lt_of_lt_of_le (by assumption) (by first | assumption | decide) | exact Nat.lt_of_le_of_lt (by assumption) (by first | assumption | decide) | exact Nat.le_trans (by assumption) (by first | assumption | decide)) | exact absurd (by assumption) (by assumption) | simp | (simp at *; done)
theorem o155 {x0 : Nat} (h0 : x0 ≤ (32 : Nat)) : x0 ≤ (500 : Nat) := by first | assumption | exact Nat.le_refl _ | rfl | (subst_vars; first | assumption | rfl | exact Nat.le_refl _) | exact Nat.le_of_lt (by assumption) | exact Nat.ne_of_lt (by assumption) | exact Nat.ne_of_gt (by assumption) | exact Nat.lt_of_lt_of_le (by assumption) (by first | assumption | decide) | exact Nat.lt_of_le_of_lt (by assumption) (by first | assumption | decide) | exact Nat.le_trans (by assumption) (by first | assumption | decide) | (subst_vars; first | exact Nat.le_of_lt (by assumption) | exact Nat.lt_of_lt_of_le (by assumption) (by first | assumption | decide) | exact Nat.lt_of_le_of_lt (by assumption) (by first | assumption | decide) | exact Nat.le_trans (by assumption) (by first | assumption | decide)) | exact absurd (by assumption) (by assumption) | simp | (simp at *; done)
theorem o156 {x0 : Nat} {x1 : Nat} : ((↑x0 : Int) + (↑x1 : Int)) / (2 : Int) + (1 : Int) = (↑((x0 + x1) / (2 : Nat) + (1 : Nat)) : Int) := by first | assumption | exact Nat.le_refl _ | rfl | (subst_vars; first | assumption | rfl | exact Nat.le_refl _) | exact Nat.le_of_lt (by assumption) | exact Nat.ne_of_lt (by assumption) | exact Nat.ne_of_gt (by assumption) | exact Nat.lt_of_lt_of_le (by assumption) (by first | assumption | decide) | exact Nat.lt_of_le_of_lt (by assumption) (by first | assumption | decide) | exact Nat.le_trans (by assumption) (by first | assumption | decide) | (subst_vars; first | exact Nat.le_of_lt (by assumption) | exact Nat.lt_of_lt_of_le (by assumption) (by first | assumption | decide) | exact Nat.lt_of_le_of_lt (by assumption) (by first | assumption | decide) | exact Nat.le_trans (by assumption) (by first | assumption | decide)) | exact absurd (by assumption) (by assumption) | simp | (simp at *; done)
theorem o157 {x0 : Nat} (h0 : x0 < (1 : Nat)) : x0 = (0 : Nat) := by (exact Nat.lt_one_iff.mp h0)
theorem o158 {x0 : Nat} {x1 : Nat} (h0 : ¬(↑(63 : Nat) : Int) < (↑x1 : Int)) (h1 : x0 = x1) : x0 ≤ (63 : Nat) := by lia
theorem o159 {x0 : Nat} (h0 : x0 ≤ (8 : Nat)) : x0 ≤ (32 : Nat) := by first | assumption | exact Nat.le_refl _ | rfl | (subst_vars; first | assumption | rfl | exact Nat.le_refl _) | exact Nat.le_of_lt (by assumption) | exact Nat.ne_of_lt (by assumption) | exact Nat.ne_of_gt (by assumption) | exact Nat.lt_of_lt_of_le (by assumption) (by first | assumption | decide) | exact Nat.lt_of_le_of_lt (by assumption) (by first | assumption | decide) | exact Nat.le_trans (by assumption) (by first | assumption | decide) | (subst_vars; first | exact Nat.le_of_lt (by assumption) | exact Nat.lt_of_lt_of_le (by assumption) (by first | assumption | decide) | exact Nat.lt_of_le_of_lt (by assumption) (by first | assumption | decide) | exact Nat.le_trans (by assumption) (by first | assumption | decide)) | exact absurd (by assumption) (by assumption) | simp | (simp at *; done)
theorem o162 {x0 : Nat} {x1 : Nat} {x2 : Nat} {x3 : Nat} {x4 : Nat} (h0 : x1 < x0) (h1 : x3 = x1 + x2) (h2 : x0 ≤ x4) (h3 : x4 = x3) : x0 - (1 : Nat) - x1 < x2 := by lia
theorem o163 {x0 : Nat} {x1 : Nat} {x2 : Nat} {x3 : Nat} {x4 : Nat} (h0 : x0 < x1) (h1 : x0 = x2) (h2 : x2 = x3) (h3 : x3 = x1 + x4) : False := by lia
theorem o164 {x0 : Nat} {x1 : Nat} (h0 : x0 ≤ (x1 - (1 : Nat)) / (2 : Nat)) (h1 : (0 : Nat) < x1) : x0 < x1 := by lia
theorem o165 {x0 : Nat} {x1 : Nat} {x2 : Nat} (h0 : x0 = x1 + (1 : Nat) + x2) : x0 = x1 + (x2 + (1 : Nat)) := by (exact Eq.symm (o153 (id (Eq.symm h0))))
theorem o166 {x0 : Int} {x1 : Int} {x2 : Int} (h0 : x0 * (1024 : Int) = x1 * x2) (h1 : x1 * x2 < (0 : Int)) : x0 < (0 : Int) := by lia
theorem o167 {x0 : Nat} {x1 : Nat} {x2 : Nat} (h0 : x0 + (x1 + (1 : Nat)) ≤ x2) : x0 + (1 : Nat) + x1 ≤ x2 := by lia
theorem o172 {x0 : Nat} {x1 : Nat} (h0 : x0 = x1 + (1 : Nat)) : (0 : Nat) < x0 := by (exact Nat.lt_of_sub_eq_succ h0)
theorem o175 {x0 : Nat} {x1 : Nat} : x0 ≤ x1 + x0 := by (exact Nat.le_add_left x0 x1)
theorem o177 {x0 : Nat} : x0 / (64 : Nat) % (4 : Nat) + (1 : Nat) ≤ (4 : Nat) := by lia
theorem o178 {x0 : Nat} {x1 : Nat} (h0 : x1 < x0) : (0 : Int) < (↑x0 : Int) - (↑x1 : Int) := by lia
theorem o180 {x0 : Nat} : x0 = (8 : Nat) * (x0 / (8 : Nat)) + x0 % (8 : Nat) := by (exact Eq.symm (Nat.div_add_mod x0 8))
theorem o181 {x0 : Nat} {x1 : Nat} (h0 : (↑x1 : Int) < (2 : Int) ^ (60 : Nat)) (h1 : x0 = x1) : (↑x0 : Int) < (2 : Int) ^ (60 : Nat) := by lia
theorem o182 {x0 : Nat} {x1 : Nat} (h0 : x0 < x1 + (1 : Nat)) : x0 ≤ x1 := by (exact Nat.le_of_lt_succ h0)
theorem o184 {x0 : Nat} (h0 : (0 : Nat) < x0) : x0 - (1 : Nat) < x0 := by (exact Nat.sub_one_lt_of_lt h0)
theorem o187 {x0 : Nat} {x1 : Int} {x2 : Nat} (h0 : (↑x2 : Int) < x1) (h1 : x0 ≤ x2) : (↑x0 : Int) < x1 := by lia
theorem o189 {x0 : Nat} {x1 : Nat} {x2 : Nat} (h0 : x1 = x0) (h1 : (↑x2 : Int) < (↑x0 : Int)) : (x0 - (1 : Nat)) / (2 : Nat) < x1 := by lia
theorem o190 {x0 : Int} (h0 : ¬x0 < (0 : Int)) : (↑x0.natAbs : Int) = x0 := by lia
theorem o191 {x0 : Nat} {x1 : Nat} {x2 : Nat} {x3 : Nat} (h0 : x0 < x2) (h1 : x2 < x3) (h2 : x1 = x3) : x0 < x1 := by lia
theorem o193 {x0 : Nat} {x1 : Nat} (h0 : x1 ≤ (16777216 : Nat)) (h1 : x0 ≤ x1) : x0 < (2 : Nat) ^ (62 : Nat) := by lia
theorem o194 {x0 : Nat} (h0 : x0 < (3 : Nat)) : x0 = (0 : Nat) ∨ x0 = (1 : Nat) ∨ x0 = (2 : Nat) := by lia
theorem o196 {x0 : Nat} : x0 * (1024 : Nat) = (16 : Nat) * x0 * (64 : Nat) := by lia
theorem o198 {x0 : Nat} (h0 : x0 > (1 : Nat)) : x0 - (1 : Nat) < x0 := by (exact Nat.sub_one_lt_of_lt h0)
theorem o199 {x0 : Nat} {x1 : Nat} (h0 : x1 * (2 : Nat) ^ ((52 : Nat) - x0) ≤ (2 : Nat) ^ (53 : Nat)) (h1 : x0 < (40 : Nat)) : ((1012 : Nat) + x0) * (2 : Nat) ^ (52 : Nat) + x1 * (2 : Nat) ^ ((52 : Nat) - x0) < (2047 : Nat) * (2 : Nat) ^ (52 : Nat) := by lia
theorem o200 {x0 : Nat} {x1 : Nat} (h0 : ¬(↑x0 : Int) < (↑x1 : Int)) (h1 : x0 ≤ x1) : x0 = x1 := by lia
theorem o201 {x0 : Nat} (h0 : x0 < (40 : Nat)) : x0 + (1 : Nat) + ((52 : Nat) - x0) = (53 : Nat) := by lia
theorem o203 {x0 : Nat} {x1 : Nat} (h0 : ¬x0 ≥ x1) : (x0 + x1) / (2 : Nat) + (1 : Nat) ≤ x1 := by lia
theorem o205 {x0 : Int} : (↑(x0.natAbs % (1024 : Nat)) : Int) = (0 : Int) ↔ x0.natAbs % (1024 : Nat) = (0 : Nat) := by (exact Int.ofNat_eq_zero)
theorem o206 {x0 : Nat} (h0 : (1 : Nat) < x0) : x0 - (1 : Nat) < x0 := by (exact o198 h0)
theorem o207 {x0 : Int} (h0 : ¬x0 < (0 : Int)) : (0 : Int) ≤ x0 := by (exact Int.not_lt.mp h0)
theorem o209 {x0 : Nat} : (↑x0 : Int) - (0 : Int) = (↑x0 : Int) := by (exact Int.sub_zero ↑x0)
theorem o210 {x0 : Nat} {x1 : Nat} (h0 : x0 = x1 + (1 : Nat)) : x0 - (1 : Nat) = x1 := by first | assumption | exact Nat.le_refl _ | rfl | (subst_vars; first | assumption | rfl | exact Nat.le_refl _) | exact Nat.le_of_lt (by assumption) | exact Nat.ne_of_lt (by assumption) | exact Nat.ne_of_gt (by assumption) | exact Nat.lt_of_lt_of_le (by assumption) (by first | assumption | decide) | exact Nat.lt_of_le_of_lt (by assumption) (by first | assumption | decide) | exact Nat.le_trans (by assumption) (by first | assumption | decide) | (subst_vars; first | exact Nat.le_of_lt (by assumption) | exact Nat.lt_of_lt_of_le (by assumption) (by first | assumption | decide) | exact Nat.lt_of_le_of_lt (by assumption) (by first | assumption | decide) | exact Nat.le_trans (by assumption) (by first | assumption | decide)) | exact absurd (by assumption) (by assumption) | simp | (simp at *; done)
theorem o212 {x0 : Nat} {x1 : Nat} {x2 : Nat} (h0 : x0 < x2) : x0 < x1 + x2 := by (exact Nat.lt_add_left x1 h0)
theorem o213 {x0 : Nat} {x1 : Nat} {x2 : Nat} (h0 : x2 + x1 = x0) : (↑x0 : Int) - (↑x1 : Int) = (↑x2 : Int) := by (exact Int.sub_eq_iff_eq_add.mpr (congrArg Nat.cast (id (Eq.symm h0))))
theorem o216 {x0 : Nat} : (↑x0 : Int).toNat = x0 := by first | assumption | exact Nat.le_refl _ | rfl | (subst_vars; first | assumption | rfl | exact Nat.le_refl _) | exact Nat.le_of_lt (by assumption) | exact Nat.ne_of_lt (by assumption) | exact Nat.ne_of_gt (by assumption) | exact Nat.lt_of_lt_of_le (by assumption) (by first | assumption | decide) | exact Nat.lt_of_le_of_lt (by assumption) (by first | assumption | decide) | exact Nat.le_trans (by assumption) (by first | assumption | decide) | (subst_vars; first | exact Nat.le_of_lt (by assumption) | exact Nat.lt_of_lt_of_le (by assumption) (by first | assumption | decide) | exact Nat.lt_of_le_of_lt (by assumption) (by first | assumption | decide) | exact Nat.le_trans (by assumption) (by first | assumption | decide)) | exact absurd (by assumption) (by assumption) | simp | (simp at *; done)
theorem o217 {x0 : Nat} {x1 : Nat} (h0 : x0 ≤ x1 + (1 : Nat)) : (x0 - (1 : Nat)) / (2 : Nat) ≤ x1 := by omega
theorem o218 {x0 : Nat} (h0 : x0 < (40 : Nat)) : (52 : Nat) - x0 + ((1012 : Nat) + x0) = (1064 : Nat) := by lia
theorem o220 {x0 : Nat} {x1 : Nat} (h0 : x0 = (2 : Nat) * x1) (h1 : x1 ≤ (8 : Nat)) : (↑x0 : Int) < (2 : Int) ^ (60 : Nat) := by lia
theorem o221 {x0 : Nat} (h0 : (0 : Nat) < x0) : x0 - (1 : Nat) + (1 : Nat) = x0 := by (exact Nat.sub_add_cancel h0)
theorem o222 {x0 : Nat} {x1 : Nat} (h0 : x0 < x1 - (1 : Nat)) : x0 < x1 := by (exact Nat.lt_of_lt_pred h0)
theorem o224 {x0 : Nat} {x1 : Nat} (h0 : x1 ≥ x0) (h1 : x1 ≠ x0) : x0 < x1 := by (exact Nat.lt_of_le_of_ne h0 (id (Ne.symm h1)))
theorem o225 {x0 : Nat} {x1 : Nat} {x2 : Nat} {x3 : Nat} {x4 : Nat} {x5 : Nat} (h0 : x0 ≤ x2) (h1 : x2 ≤ x3) (h2 : x3 ≤ x4) (h3 : x4 ≤ x5) (h4 : x5 ≤ x1) : x0 ≤ x1 := by lia
theorem o227 {x0 : Nat} (h0 : x0 < (40 : Nat)) : x0 + ((52 : Nat) - x0) = (52 : Nat) := by lia
theorem o230 {x0 : Nat} (h0 : (0 : Nat) < x0) : (0 : Int) < (↑x0 : Int) := by (exact Int.natCast_pos.mpr h0)
theorem o232 {x0 : Nat} {x1 : Nat} {x2 : Nat} (h0 : x1 ≤ (32 : Nat)) (h1 : x2 = (2 : Nat) * x1) (h2 : x0 = x2) : (↑x0 : Int) < (2 : Int) ^ (60 : Nat) := by lia
theorem o233 {x0 : Nat} (h0 : x0 < (2 : Nat) ^ (62 : Nat)) : -(2 : Int) ^ (63 : Nat) ≤ (↑x0 : Int) ∧ (↑x0 : Int) < (2 : Int) ^ (63 : Nat) := by lia
theorem o234 {x0 : Nat} {x1 : Nat} (h0 : ¬(2 : Nat) * x0 + (1 : Nat) + (1 : Nat) < x1) (h1 : (2 : Nat) * x0 + (1 : Nat) + (1 : Nat) < x1) : False := by first | assumption | exact Nat.le_refl _ | rfl | (subst_vars; first | assumption | rfl | exact Nat.le_refl _) | exact Nat.le_of_lt (by assumption) | exact Nat.ne_of_lt (by assumption) | exact Nat.ne_of_gt (by assumption) | exact Nat.lt_of_lt_of_le (by assumption) (by first | assumption | decide) | exact Nat.lt_of_le_of_lt (by assumption) (by first | assumption | decide) | exact Nat.le_trans (by assumption) (by first | assumption | decide) | (subst_vars; first | exact Nat.le_of_lt (by assumption) | exact Nat.lt_of_lt_of_le (by assumption) (by first | assumption | decide) | exact Nat.lt_of_le_of_lt (by assumption) (by first | assumption | decide) | exact Nat.le_trans (by assumption) (by first | assumption | decide)) | exact absurd (by assumption) (by assumption) | simp | (simp at *; done)
theorem o235 {x0 : Nat} : x0 = x0 - (0 : Nat) := by first | assumption | exact Nat.le_refl _ | rfl | (subst_vars; first | assumption | rfl | exact Nat.le_refl _) | exact Nat.le_of_lt (by assumption) | exact Nat.ne_of_lt (by assumption) | exact Nat.ne_of_gt (by assumption) | exact Nat.lt_of_lt_of_le (by assumption) (by first | assumption | decide) | exact Nat.lt_of_le_of_lt (by assumption) (by first | assumption | decide) | exact Nat.le_trans (by assumption) (by first | assumption | decide) | (subst_vars; first | exact Nat.le_of_lt (by assumption) | exact Nat.lt_of_lt_of_le (by assumption) (by first | assumption | decide) | exact Nat.lt_of_le_of_lt (by assumption) (by first | assumption | decide) | exact Nat.le_trans (by assumption) (by first | assumption | decide)) | exact absurd (by assumption) (by assumption) | simp | (simp at *; done)
theorem o237 {x0 : Nat} {x1 : Nat} (h0 : x0 < x1) : (↑x0 : Int) < (↑x1 : Int) := by (exact o73 h0 rfl)
theorem o239 (h0 : (64 : Int) < (0 : Int)) : False := by (exact o35 h0)
theorem o240 {x0 : Nat} {x1 : Nat} {x2 : Nat} (h0 : x1 ≤ x2) (h1 : x0 < x1) : x0 < Min.min x1 x2 := by lia
theorem o241 {x0 : Nat} {x1 : Nat} (h0 : (↑x0 : Int) ≤ (↑x1 : Int) / (4 : Int)) : x0 ≤ x1 / (4 : Nat) := by (exact Int.ofNat_le.mp h0)
theorem o242 {x0 : Nat} {x1 : Nat} {x2y : Nat} {x3 : Nat} (h0 : x0 = x1 + (1 : Nat)) (h1 : x2y ≤ (64 : Nat)) (h2 : x1 + (1 : Nat) + x3 = x2y) : x0 ≤ (16777216 : Nat) := by lia
theorem o243 {x0 : Nat} : x0 + ((0 : Nat) + (0 : Nat)) = x0 := by first | assumption | exact Nat.le_refl _ | rfl | (subst_vars; first | assumption | rfl | exact Nat.le_refl _) | exact Nat.le_of_lt (by assumption) | exact Nat.ne_of_lt (by assumption) | exact Nat.ne_of_gt (by assumption) | exact Nat.lt_of_lt_of_le (by assumption) (by first | assumption | decide) | exact Nat.lt_of_le_of_lt (by assumption) (by first | assumption | decide) | exact Nat.le_trans (by assumption) (by first | assumption | decide) | (subst_vars; first | exact Nat.le_of_lt (by assumption) | exact Nat.lt_of_lt_of_le (by assumption) (by first | assumption | decide) | exact Nat.lt_of_le_of_lt (by assumption) (by first | assumption | decide) | exact Nat.le_trans (by assumption) (by first | assumption | decide)) | exact absurd (by assumption) (by assumption) | simp | (simp at *; done)
theorem o246 {x0 : Nat} (h0 : x0 ≤ (64 : Nat)) : x0 < (2 : Nat) ^ (60 : Nat) := by first | assumption | exact Nat.le_refl _ | rfl | (subst_vars; first | assumption | rfl | exact Nat.le_refl _) | exact Nat.le_of_lt (by assumption) | exact Nat.ne_of_lt (by assumption) | exact Nat.ne_of_gt (by assumption) | exact Nat.lt_of_lt_of_le (by assumption) (by first | assumption | decide) | exact Nat.lt_of_le_of_lt (by assumption) (by first | assumption | decide) | exact Nat.le_trans (by assumption) (by first | assumption | decide) | (subst_vars; first | exact Nat.le_of_lt (by assumption) | exact Nat.lt_of_lt_of_le (by assumption) (by first | assumption | decide) | exact Nat.lt_of_le_of_lt (by assumption) (by first | assumption | decide) | exact Nat.le_trans (by assumption) (by first | assumption | decide)) | exact absurd (by assumption) (by assumption) | simp | (simp at *; done)
theorem o247 {x0 : Nat} {x1 : Int} {x2 : Nat} (h0 : x0 * (2 : Nat) ^ x1.toNat * (1024 : Nat) = x2) : x0 * (2 : Nat) ^ x1.toNat = x2 / (1024 : Nat) := by lia
theorem o248 {x0 : Nat} {x1 : Nat} : (↑x0 : Int) - (↑(x1 + (1 : Nat)) : Int) = (↑x0 : Int) - (↑x1 : Int) - (1 : Int) := by lia
theorem o249 {x0 : Nat} {x1 : Nat} {x2 : Nat} (h0 : x0 ≤ x1 + (x2 + (1 : Nat))) : x0 ≤ (2 : Nat) * x1 + (1 : Nat) + (1 : Nat) + x2 := by lia
theorem o250 {x0 : Nat} {x1 : Nat} : Min.min x0 x1 ≤ x0 := by (exact Nat.min_le_left x0 x1)
theorem o251 {x0 : Nat} : (2 : Int) * (↑((2 : Nat) * x0 + (1 : Nat)) : Int) + (1 : Int) = (↑((2 : Nat) * ((2 : Nat) * x0 + (1 : Nat)) + (1 : Nat)) : Int) := by first | assumption | exact Nat.le_refl _ | rfl | (subst_vars; first | assumption | rfl | exact Nat.le_refl _) | exact Nat.le_of_lt (by assumption) | exact Nat.ne_of_lt (by assumption) | exact Nat.ne_of_gt (by assumption) | exact Nat.lt_of_lt_of_le (by assumption) (by first | assumption | decide) | exact Nat.lt_of_le_of_lt (by assumption) (by first | assumption | decide) | exact Nat.le_trans (by assumption) (by first | assumption | decide) | (subst_vars; first | exact Nat.le_of_lt (by assumption) | exact Nat.lt_of_lt_of_le (by assumption) (by first | assumption | decide) | exact Nat.lt_of_le_of_lt (by assumption) (by first | assumption | decide) | exact Nat.le_trans (by assumption) (by first | assumption | decide)) | exact absurd (by assumption) (by assumption) | simp | (simp at *; done)
theorem o252 {x0 : Nat} {x1 : Nat} {x2 : Nat} (h0 : x0 ≤ x1 + (x2 + (1 : Nat))) : x0 ≤ (2 : Nat) * x1 + (1 : Nat) + x2 := by lia
theorem o253 {x0 : Nat} {x1 : Nat} (h0 : x0 + (1 : Nat) ≤ x1) : x0 < x1 := by first | assumption | exact Nat.le_refl _ | rfl | (subst_vars; first | assumption | rfl | exact Nat.le_refl _) | exact Nat.le_of_lt (by assumption) | exact Nat.ne_of_lt (by assumption) | exact Nat.ne_of_gt (by assumption) | exact Nat.lt_of_lt_of_le (by assumption) (by first | assumption | decide) | exact Nat.lt_of_le_of_lt (by assumption) (by first | assumption | decide) | exact Nat.le_trans (by assumption) (by first | assumption | decide) | (subst_vars; first | exact Nat.le_of_lt (by assumption) | exact Nat.lt_of_lt_of_le (by assumption) (by first | assumption | decide) | exact Nat.lt_of_le_of_lt (by assumption) (by first | assumption | decide) | exact Nat.le_trans (by assumption) (by first | assumption | decide)) | exact absurd (by assumption) (by assumption) | simp | (simp at *; done)
theorem o254 {x0 : Nat} {x1 : Nat} (h0 : (↑x0 : Int) = (↑x1 : Int)) (h1 : ¬x0 = x1) : False := by lia
theorem o256 {x0 : Int} (h0 : (0 : Int) < x0) : (0 : Nat) < x0.natAbs := by omega
theorem o257 {x0 : Nat} : ((↑((2 : Nat) * x0 + (1 : Nat)) : Int) + (1 : Int)).toNat = (2 : Nat) * x0 + (1 : Nat) + (1 : Nat) := by first | assumption | exact Nat.le_refl _ | rfl | (subst_vars; first | assumption | rfl | exact Nat.le_refl _) | exact Nat.le_of_lt (by assumption) | exact Nat.ne_of_lt (by assumption) | exact Nat.ne_of_gt (by assumption) | exact Nat.lt_of_lt_of_le (by assumption) (by first | assumption | decide) | exact Nat.lt_of_le_of_lt (by assumption) (by first | assumption | decide) | exact Nat.le_trans (by assumption) (by first | assumption | decide) | (subst_vars; first | exact Nat.le_of_lt (by assumption) | exact Nat.lt_of_lt_of_le (by assumption) (by first | assumption | decide) | exact Nat.lt_of_le_of_lt (by assumption) (by first | assumption | decide) | exact Nat.le_trans (by assumption) (by first | assumption | decide)) | exact absurd (by assumption) (by assumption) | simp | (simp at *; done)
theorem o258 {x0 : Nat} : (1 : Nat) ≤ x0 / (64 : Nat) % (4 : Nat) + (1 : Nat) := by (exact Nat.le_add_left 1 (x0 / 64 % 4))
theorem o259 {x0 : Nat} {x1 : Nat} : (↑(x0 + x1) : Int) = (↑x0 : Int) + (↑x1 : Int) := by (exact Int.natCast_add x0 x1)
theorem o260 {x0 : Nat} {x1 : Nat} (h0 : ¬x1 < (32 : Nat)) (h1 : x1 ≤ x0) : (32 : Nat) ≤ x0 := by lia
theorem o261 {x0 : Int} : x0 % (1024 : Int) = (↑(x0 % (1024 : Int)).toNat : Int) := by lia
theorem o262 {x0 : Nat} {x1 : Nat} {x2 : Nat} {x3 : Nat} (h0 : x0 = x1) : x0 < x1 ∨ x0 = x1 ∧ x2 < x3 ↔ (↑x2 : Int) < (↑x3 : Int) := by lia
theorem o263 {x0 : Nat} {x1 : Nat} (h0 : x1 ≤ (64 : Nat)) (h1 : x0 = x1) : (↑x0 : Int) < (2 : Int) ^ (60 : Nat) := by lia
theorem o264 {x0 : Nat} {x1 : Nat} {x2 : Nat} {x3 : Nat} (h0 : x1 ≤ (64 : Nat)) (h1 : x0 = x2) (h2 : x2 + x3 = x1) : (↑x0 : Int) < (2 : Int) ^ (63 : Nat) := by lia
theorem o265 {x0 : Nat} {x1 : Nat} (h0 : x0 ≤ x1) : x0 + x0 ≤ (2 : Nat) * x1 := by lia
theorem o267 {x0 : Nat} {x1 : Nat} (h0 : x1 < (32 : Nat)) (h1 : x0 ≤ x1) : x0 < (32 : Nat) := by first | assumption | exact Nat.le_refl _ | rfl | (subst_vars; first | assumption | rfl | exact Nat.le_refl _) | exact Nat.le_of_lt (by assumption) | exact Nat.ne_of_lt (by assumption) | exact Nat.ne_of_gt (by assumption) | exact Nat.lt_of_lt_of_le (by assumption) (by first | assumption | decide) | exact Nat.lt_of_le_of_lt (by assumption) (by first | assumption | decide) | exact Nat.le_trans (by assumption) (by first | assumption | decide) | (subst_vars; first | exact Nat.le_of_lt (by assumption) | exact Nat.lt_of_lt_of_le (by assumption) (by first | assumption | decide) | exact Nat.lt_of_le_of_lt (by assumption) (by first | assumption | decide) | exact Nat.le_trans (by assumption) (by first | assumption | decide)) | exact absurd (by assumption) (by assumption) | simp | (simp at *; done)
theorem o271 {x0 : Nat} (h0 : x0 ≤ (1000 : Nat)) : (↑x0 : Int) < (2 : Int) ^ (63 : Nat) := by lia
theorem o273 {x0 : Nat} {x1 : Nat} (h0 : x1 = (2 : Nat) * x0) : x0 + x0 = x1 := by lia
theorem o276 {x0 : Nat} {x1 : Nat} {x2 : Nat} {x3 : Nat} (h0 : x1 ≤ x0 ∧ x0 < x2) (h1 : x3 < x1) : (0 : Nat) < x0 := by lia
theorem o277 {x0 : Nat} {x1 : Nat} : x0 - x1 ≤ x0 := by (exact Nat.sub_le x0 x1)
theorem o279 {x0 : Nat} : Min.min (8 : Nat) x0 ≤ (8 : Nat) := by (exact Nat.min_le_left 8 x0)
theorem o283 {x0 : Nat} {x1 : Nat} (h0 : x0 < x1) : x0 + (x1 - x0) = x1 := by lia
theorem o284 {x0 : Nat} {x1 : Nat} (h0 : ¬x1 < x0) (h1 : x1 ≤ x0) : x0 = x1 := by lia
theorem o285 {x0 : Nat} {x1 : Nat} (h0 : x1 = (0 : Nat)) (h1 : x1 = x0) : x0 = (0 : Nat) := by first | assumption | exact Nat.le_refl _ | rfl | (subst_vars; first | assumption | rfl | exact Nat.le_refl _) | exact Nat.le_of_lt (by assumption) | exact Nat.ne_of_lt (by assumption) | exact Nat.ne_of_gt (by assumption) | exact Nat.lt_of_lt_of_le (by assumption) (by first | assumption | decide) | exact Nat.lt_of_le_of_lt (by assumption) (by first | assumption | decide) | exact Nat.le_trans (by assumption) (by first | assumption | decide) | (subst_vars; first | exact Nat.le_of_lt (by assumption) | exact Nat.lt_of_lt_of_le (by assumption) (by first | assumption | decide) | exact Nat.lt_of_le_of_lt (by assumption) (by first | assumption | decide) | exact Nat.le_trans (by assumption) (by first | assumption | decide)) | exact absurd (by assumption) (by assumption) | simp | (simp at *; done)
theorem o287 {x0 : Nat} (h0 : x0 ≤ (8 : Nat)) : x0 ≤ (16777216 : Nat) := by first | assumption | exact Nat.le_refl _ | rfl | (subst_vars; first | assumption | rfl | exact Nat.le_refl _) | exact Nat.le_of_lt (by assumption) | exact Nat.ne_of_lt (by assumption) | exact Nat.ne_of_gt (by assumption) | exact Nat.lt_of_lt_of_le (by assumption) (by first | assumption | decide) | exact Nat.lt_of_le_of_lt (by assumption) (by first | assumption | decide) | exact Nat.le_trans (by assumption) (by first | assumption | decide) | (subst_vars; first | exact Nat.le_of_lt (by assumption) | exact Nat.lt_of_lt_of_le (by assumption) (by first | assumption | decide) | exact Nat.lt_of_le_of_lt (by assumption) (by first | assumption | decide) | exact Nat.le_trans (by assumption) (by first | assumption | decide)) | exact absurd (by assumption) (by assumption) | simp | (simp at *; done)
theorem o289 {x0 : Nat} {x1 : Nat} {x2 : Nat} (h0 : ¬(↑x0 : Int) < (↑(x1 / (2 : Nat)) : Int)) (h1 : (↑x2 : Int) < (↑(x1 / (2 : Nat)) : Int)) (h2 : x0 ≤ x2 + (1 : Nat)) : x0 = x1 / (2 : Nat) := by lia
theorem o290 {x0 : Nat} {x1 : Nat} {x2 : Nat} {x3 : Nat} (h0 : x0 = x1) (h1 : x2 = x1) (h2 : x3 < x0 - x2) : False := by lia
theorem o291 {x0 : Nat} {x1 : Nat} (h0 : (↑(x0 / (2 : Nat)) : Int) - (1 : Int) + (↑x1 : Int) * (-1 : Int) = (↑(x0 / (2 : Nat) - (1 : Nat) - x1) : Int)) : x0 / (2 : Nat) - x1 = x0 / (2 : Nat) - (1 : Nat) - x1 + (1 : Nat) := by omega
theorem o292 {x0 : Nat} {x1 : Nat} {x2 : Nat} {x3 : Nat} (h0 : (0 : Nat) < x0 ∧ x0 < x2) (h1 : x2 ≤ x3) (h2 : x3 < x1) : (0 : Nat) < x0 ∧ x0 < x1 := by lia
theorem o293 {x0 : Nat} (h0 : x0 < (2 : Nat) ^ (60 : Nat)) : (↑x0 : Int) < (2 : Int) ^ (62 : Nat) := by lia
theorem o295 {x0 : Nat} (h0 : x0 = x0 - (1 : Nat)) (h1 : (1 : Nat) ≤ x0) : False := by omega
theorem o297 {x0 : Nat} (h0 : ¬x0 = (0 : Nat)) : (x0 - (1 : Nat)) / (2 : Nat) < x0 := by lia
theorem o298 {x0 : Nat} {x1 : Nat} {x2 : Nat} (h0 : x1 ≤ (64 : Nat)) (h1 : x2 < x1) (h2 : x0 ≤ x2) : x0 + x0 ≤ (16777216 : Nat) := by lia
theorem o299 {x0 : Int} (h0 : (0 : Int) ≤ x0) : (x0 + (1074 : Int)).toNat = x0.toNat + (1074 : Nat) := by lia
theorem o300 {x0 : Nat} {x1 : Nat} (h0 : x0 = (2 : Nat) * x1) (h1 : x1 ≤ (8 : Nat)) : x0 < (2 : Nat) ^ (60 : Nat) := by lia
theorem o301 {x0 : Nat} (h0 : x0 ≤ (16777216 : Nat)) : (↑x0 : Int) < (2 : Int) ^ (60 : Nat) := by lia
theorem o302 {x0 : Nat} (h0 : (↑x0 : Int) < (2 : Int) ^ (60 : Nat)) : -(2 : Int) ^ (63 : Nat) ≤ (↑x0 : Int) ∧ (↑x0 : Int) < (2 : Int) ^ (63 : Nat) := by lia
theorem o303 : -(2 : Int) ^ (62 : Nat) ≤ (0 : Int) := by (exact Int.neg_ofNat_le_ofNat (2 ^ 62) 0)
theorem o304 {x0 : Int} {x1 : Nat} (h0 : (↑x1 : Int) < (2 : Int) ^ (63 : Nat)) (h1 : x0 < (↑x1 : Int)) : x0 < (2 : Int) ^ (63 : Nat) := by lia
theorem o305 {x0 : Int} (h0 : x0 % (6 : Int) ≠ (0 : Int)) (h1 : x0 % (6 : Int) ≠ (1 : Int)) (h2 : x0 % (6 : Int) ≠ (2 : Int)) (h3 : x0 % (6 : Int) ≠ (3 : Int)) (h4 : x0 % (6 : Int) ≠ (4 : Int)) (h5 : x0 % (6 : Int) ≠ (5 : Int)) : False := by lia
theorem o306 {x0 : Nat} {x1 : Nat} {x2 : Nat} (h0 : x1 ≤ (32 : Nat)) (h1 : x2 = (2 : Nat) * x1) (h2 : x0 = x2) : (↑x0 : Int) < (9223372036854775808 : Int) := by lia
theorem o307 {x0 : Nat} {x1 : Nat} (h0 : x0 < (1 : Nat)) (h1 : x1 < x0) : False := by lia
theorem o308 {x0 : Nat} (h0 : (2 : Nat) ≤ x0) : (0 : Nat) < x0 := by (exact Nat.zero_lt_of_lt h0)
theorem o309 {x0 : Nat} {x1 : Nat} (h0 : (0 : Nat) < x1) (h1 : x1 = x0) : x0 = x0 - (1 : Nat) + (1 : Nat) := by lia
theorem o310 {x0 : Nat} {x1 : Nat} {x2 : Nat} (h0 : x2 = x1 + (1 : Nat)) (h1 : x0 < x2) : x0 < x1 + (1 : Nat) := by (exact Nat.lt_of_lt_of_eq h1 h0)
theorem o311 {x0 : Int} {x1 : Nat} (h0 : (↑x1 : Int) < (2 : Int) ^ (60 : Nat)) (h1 : x0 < (↑x1 : Int)) : x0 < (2 : Int) ^ (63 : Nat) := by lia
theorem o312 {x0 : Nat} {x1 : Nat} {x2 : Nat} (h0 : ¬(↑x0 : Int) < (↑(x1 / (2 : Nat)) : Int)) (h1 : x2 ≤ x1 / (2 : Nat)) (h2 : x0 = x2) : x0 = x1 / (2 : Nat) := by lia
theorem o313 {x0 : Nat} (h0 : (0 : Nat) < x0) (h1 : x0 = (0 : Nat)) : False := by (exact o87 (id (Eq.symm h1)) h0)
theorem o314 {x0 : Nat} {x1 : Nat} {x2y : Nat} (h0 : x0 = (0 : Nat)) (h1 : x1 < Min.min x0 x2y) : False := by lia
theorem o315 {x0 : Nat} (h0 : x0 < (2 : Nat) ^ (40 : Nat)) : (2 : Nat) * x0 < (2 : Nat) ^ (54 : Nat) - (1 : Nat) := by lia
theorem o318 {x0 : Nat} : (2 : Nat) * x0 / (2 : Nat) = x0 := by first | assumption | exact Nat.le_refl _ | rfl | (subst_vars; first | assumption | rfl | exact Nat.le_refl _) | exact Nat.le_of_lt (by assumption) | exact Nat.ne_of_lt (by assumption) | exact Nat.ne_of_gt (by assumption) | exact Nat.lt_of_lt_of_le (by assumption) (by first | assumption | decide) | exact Nat.lt_of_le_of_lt (by assumption) (by first | assumption | decide) | exact Nat.le_trans (by assumption) (by first | assumption | decide) | (subst_vars; first | exact Nat.le_of_lt (by assumption) | exact Nat.lt_of_lt_of_le (by assumption) (by first | assumption | decide) | exact Nat.lt_of_le_of_lt (by assumption) (by first | assumption | decide) | exact Nat.le_trans (by assumption) (by first | assumption | decide)) | exact absurd (by assumption) (by assumption) | simp | (simp at *; done)
theorem o319 {x0 : Nat} (h0 : (2 : Nat) ≤ x0) : (1 : Nat) + (x0 - (1 : Nat)) ≤ x0 := by lia
theorem o320 {x0 : Nat} {x1 : Nat} {x2 : Nat} {x3y : Nat} (h0 : -(↑x2 : Int) < -(↑(x1 - x1 / (2 : Nat)) : Int)) (h1 : x2 ≤ x0 + (1 : Nat)) (h2 : ¬x3y ≤ x1 / (2 : Nat)) (h3 : x0 + x3y = x1) : x0 = x1 - x1 / (2 : Nat) := by lia
theorem o322 {x0 : Nat} {x1 : Nat} : x0 + x1 - x0 = x1 := by (exact Nat.add_sub_self_left x0 x1)
theorem o323 {x0 : Nat} (h0 : (1 : Nat) < x0) : (0 : Nat) < x0 - (1 : Nat) := by (exact Nat.zero_lt_sub_of_lt h0)
theorem o324 {x0 : Nat} {x1 : Nat} {x2 : Nat} (h0 : x0 / (2 : Nat) - x1 = x0 / (2 : Nat) - (1 : Nat) - x1 + (1 : Nat)) (h1 : x2 = x0) : x0 / (2 : Nat) - (1 : Nat) - x1 < x2 := by lia
theorem o327 {x0 : Nat} {x1 : Nat} : x0 + ((0 : Nat) + x1) = x0 + x1 := by first | assumption | exact Nat.le_refl _ | rfl | (subst_vars; first | assumption | rfl | exact Nat.le_refl _) | exact Nat.le_of_lt (by assumption) | exact Nat.ne_of_lt (by assumption) | exact Nat.ne_of_gt (by assumption) | exact Nat.lt_of_lt_of_le (by assumption) (by first | assumption | decide) | exact Nat.lt_of_le_of_lt (by assumption) (by first | assumption | decide) | exact Nat.le_trans (by assumption) (by first | assumption | decide) | (subst_vars; first | exact Nat.le_of_lt (by assumption) | exact Nat.lt_of_lt_of_le (by assumption) (by first | assumption | decide) | exact Nat.lt_of_le_of_lt (by assumption) (by first | assumption | decide) | exact Nat.le_trans (by assumption) (by first | assumption | decide)) | exact absurd (by assumption) (by assumption) | simp | (simp at *; done)
theorem o329 {x0 : Nat} {x1 : Nat} (h0 : ¬x0 ≥ x1) : x0 ≤ (x0 + x1) / (2 : Nat) := by lia
theorem o332 {x0 : Nat} {x1 : Nat} {x2 : Nat} (h0 : ¬x2 < x0) (h1 : x2 ≤ x1) (h2 : ¬x0 = x2) : x0 < x1 := by lia
theorem o333 {x0 : Nat} {x1 : Nat} (h0 : x1 ≤ (64 : Nat)) (h1 : x0 = x1) : (↑x0 : Int) < (2 : Int) ^ (63 : Nat) := by lia
theorem o334 {x0 : Nat} {x1 : Nat} {x2 : Nat} (h0 : x0 < x1 + x2) (h1 : ¬x0 < x1) : x0 - x1 < x2 := by omega
theorem o336 {x0 : Nat} (h0 : x0 = (x0 - (1 : Nat)) / (2 : Nat)) (h1 : (0 : Nat) < x0) : False := by (exact o80 h1 (id (Eq.symm h0)) rfl)
theorem o338 {x0 : Nat} {x1 : Nat} : ((↑x0 : Int) + (↑x1 : Int)) / (2 : Int) = (↑((x0 + x1) / (2 : Nat)) : Int) := by first | assumption | exact Nat.le_refl _ | rfl | (subst_vars; first | assumption | rfl | exact Nat.le_refl _) | exact Nat.le_of_lt (by assumption) | exact Nat.ne_of_lt (by assumption) | exact Nat.ne_of_gt (by assumption) | exact Nat.lt_of_lt_of_le (by assumption) (by first | assumption | decide) | exact Nat.lt_of_le_of_lt (by assumption) (by first | assumption | decide) | exact Nat.le_trans (by assumption) (by first | assumption | decide) | (subst_vars; first | exact Nat.le_of_lt (by assumption) | exact Nat.lt_of_lt_of_le (by assumption) (by first | assumption | decide) | exact Nat.lt_of_le_of_lt (by assumption) (by first | assumption | decide) | exact Nat.le_trans (by assumption) (by first | assumption | decide)) | exact absurd (by assumption) (by assumption) | simp | (simp at *; done)
theorem o339 {x0 : Nat} {x1 : Nat} (h0 : x0 = (2 : Nat) * x1) (h1 : x1 ≤ (32 : Nat)) : (2 : Nat) * x0 ≤ (200 : Nat) := by lia
theorem o340 {x0 : Nat} {x1 : Nat} (h0 : x1 - x0 ≤ (0 : Nat)) (h1 : x0 ≤ x1) : x0 = x1 := by lia
theorem o341 {x0 : Nat} : (↑x0 : Int) % (2 : Int) = (↑(x0 % (2 : Nat)) : Int) := by first | assumption | exact Nat.le_refl _ | rfl | (subst_vars; first | assumption | rfl | exact Nat.le_refl _) | exact Nat.le_of_lt (by assumption) | exact Nat.ne_of_lt (by assumption) | exact Nat.ne_of_gt (by assumption) | exact Nat.lt_of_lt_of_le (by assumption) (by first | assumption | decide) | exact Nat.lt_of_le_of_lt (by assumption) (by first | assumption | decide) | exact Nat.le_trans (by assumption) (by first | assumption | decide) | (subst_vars; first | exact Nat.le_of_lt (by assumption) | exact Nat.lt_of_lt_of_le (by assumption) (by first | assumption | decide) | exact Nat.lt_of_le_of_lt (by assumption) (by first | assumption | decide) | exact Nat.le_trans (by assumption) (by first | assumption | decide)) | exact absurd (by assumption) (by assumption) | simp | (simp at *; done)
theorem o342 {x0 : Nat} {x1 : Nat} (h0 : x0 = (0 : Nat) ∧ x1 = (0 : Nat) ∨ (0 : Nat) < x0 ∧ (2 : Nat) ^ (x0 - (1 : Nat)) ≤ x1) (h1 : (0 : Nat) < x1) : (0 : Nat) < x0 := by lia
theorem o344 {x0 : Nat} {x1 : Nat} {x2 : Nat} (h0 : x2 < x1 + (1 : Nat)) (h1 : x0 < x2) : x0 ≤ x1 := by lia
theorem o345 {x0 : Nat} {x1 : Nat} {x2 : Nat} (h0 : x2 < x1) (h1 : x2 = x0) : x0 < x1 := by first | assumption | exact Nat.le_refl _ | rfl | (subst_vars; first | assumption | rfl | exact Nat.le_refl _) | exact Nat.le_of_lt (by assumption) | exact Nat.ne_of_lt (by assumption) | exact Nat.ne_of_gt (by assumption) | exact Nat.lt_of_lt_of_le (by assumption) (by first | assumption | decide) | exact Nat.lt_of_le_of_lt (by assumption) (by first | assumption | decide) | exact Nat.le_trans (by assumption) (by first | assumption | decide) | (subst_vars; first | exact Nat.le_of_lt (by assumption) | exact Nat.lt_of_lt_of_le (by assumption) (by first | assumption | decide) | exact Nat.lt_of_le_of_lt (by assumption) (by first | assumption | decide) | exact Nat.le_trans (by assumption) (by first | assumption | decide)) | exact absurd (by assumption) (by assumption) | simp | (simp at *; done)
theorem o346 {x0 : Int} : x0.natAbs % (1024 : Nat) < (2 : Nat) ^ (40 : Nat) := by lia
theorem o347 {x0 : Nat} : (↑((2 : Nat) * x0 + (1 : Nat)) : Int) + (1 : Int) = (↑((2 : Nat) * x0 + (1 : Nat) + (1 : Nat)) : Int) := by (exact Int.ofNat_add_one_out (2 * x0 + 1))
theorem o348 {x0 : Nat} {x1 : Nat} {x2 : Nat} (h0 : x0 < Min.min x2 x1) : x0 < x1 := by lia
theorem o349 {x0 : Nat} {x1 : Nat} (h0 : x0 < (2 : Nat) ^ x0) (h1 : (2 : Nat) ^ x0 ≤ x1) (h2 : x1 ≤ (500 : Nat)) : x0 ≤ (1000 : Nat) := by lia
theorem o350 {x0 : Nat} {x1 : Nat} {x2 : Nat} (h0 : x1 = (2 : Nat) * x2) (h1 : x0 = x2) : x0 + x0 ≤ x1 := by lia
theorem o352 {x0 : Nat} {x1 : Nat} (h0 : (↑((2 : Nat) * x0 + (1 : Nat)) : Int) + (1 : Int) < (↑x1 : Int)) : (2 : Nat) * x0 + (1 : Nat) < x1 := by lia
theorem o353 {x0 : Nat} : (↑((16 : Nat) * x0) : Int) < (512 : Int) ↔ x0 < (32 : Nat) := by lia
theorem o354 {x0 : Nat} {x1 : Nat} {x2 : Nat} (h0 : x0 < x2) (h1 : x2 = x1) : x0 < x1 := by (exact Nat.lt_of_lt_of_eq h0 h1)
theorem o355 {x0 : Nat} {x1 : Nat} {x2 : Nat} {x3 : Nat} (h0 : x2 = (0 : Nat)) (h1 : x1 = x3 + x2) (h2 : x3 = x0) : x0 = x1 := by first | assumption | exact Nat.le_refl _ | rfl | (subst_vars; first | assumption | rfl | exact Nat.le_refl _) | exact Nat.le_of_lt (by assumption) | exact Nat.ne_of_lt (by assumption) | exact Nat.ne_of_gt (by assumption) | exact Nat.lt_of_lt_of_le (by assumption) (by first | assumption | decide) | exact Nat.lt_of_le_of_lt (by assumption) (by first | assumption | decide) | exact Nat.le_trans (by assumption) (by first | assumption | decide) | (subst_vars; first | exact Nat.le_of_lt (by assumption) | exact Nat.lt_of_lt_of_le (by assumption) (by first | assumption | decide) | exact Nat.lt_of_le_of_lt (by assumption) (by first | assumption | decide) | exact Nat.le_trans (by assumption) (by first | assumption | decide)) | exact absurd (by assumption) (by assumption) | simp | (simp at *; done)
theorem o357 {x0 : Nat} {x1 : Nat} {x2 : Nat} {x3 : Nat} (h0 : ¬x0 = x1) : x0 < x1 ∨ x0 = x1 ∧ x2 < x3 ↔ (↑x0 : Int) < (↑x1 : Int) := by lia
theorem o358 {x0 : Nat} {x1 : Nat} (h0 : x0 ≤ x1) (h1 : x1 < x0) : False := by lia
theorem o359 {x0 : Int} : x0 < (0 : Int) ↔ (1024 : Int) * x0 < (0 : Int) := by lia
theorem o361 {x0 : Nat} {x1 : Nat} {x2 : Nat} {x3y : Nat} (h0 : (↑x2 : Int) < (↑(x1 / (2 : Nat)) : Int)) (h1 : x0 ≤ x2 + (1 : Nat)) (h2 : x3y ≤ x1 / (2 : Nat)) (h3 : x0 + x3y = x1) : x0 = x1 / (2 : Nat) := by lia
theorem o363 {x0 : Nat} {x1 : Nat} (h0 : x1 < (64 : Nat)) (h1 : x0 = x1) : x0 < (64 : Nat) := by first | assumption | exact Nat.le_refl _ | rfl | (subst_vars; first | assumption | rfl | exact Nat.le_refl _) | exact Nat.le_of_lt (by assumption) | exact Nat.ne_of_lt (by assumption) | exact Nat.ne_of_gt (by assumption) | exact Nat.lt_of_lt_of_le (by assumption) (by first | assumption | decide) | exact Nat.lt_of_le_of_lt (by assumption) (by first | assumption | decide) | exact Nat.le_trans (by assumption) (by first | assumption | decide) | (subst_vars; first | exact Nat.le_of_lt (by assumption) | exact Nat.lt_of_lt_of_le (by assumption) (by first | assumption | decide) | exact Nat.lt_of_le_of_lt (by assumption) (by first | assumption | decide) | exact Nat.le_trans (by assumption) (by first | assumption | decide)) | exact absurd (by assumption) (by assumption) | simp | (simp at *; done)
theorem o366 {x0 : Nat} {x1 : Nat} {x2 : Nat} {x3 : Nat} (h0 : x0 = x2 + (1 : Nat)) (h1 : x3 = x2 + (1 : Nat)) (h2 : x3 = x1 + (2 : Nat)) : x0 - (1 : Nat) = x1 + (1 : Nat) := by lia
theorem o368 {x0 : Nat} {x1 : Nat} (h0 : x1 = x0 + (1 : Nat)) : x0 < x1 := by first | assumption | exact Nat.le_refl _ | rfl | (subst_vars; first | assumption | rfl | exact Nat.le_refl _) | exact Nat.le_of_lt (by assumption) | exact Nat.ne_of_lt (by assumption) | exact Nat.ne_of_gt (by assumption) | exact Nat.lt_of_lt_of_le (by assumption) (by first | assumption | decide) | exact Nat.lt_of_le_of_lt (by assumption) (by first | assumption | decide) | exact Nat.le_trans (by assumption) (by first | assumption | decide) | (subst_vars; first | exact Nat.le_of_lt (by assumption) | exact Nat.lt_of_lt_of_le (by assumption) (by first | assumption | decide) | exact Nat.lt_of_le_of_lt (by assumption) (by first | assumption | decide) | exact Nat.le_trans (by assumption) (by first | assumption | decide)) | exact absurd (by assumption) (by assumption) | simp | (simp at *; done)
theorem o369 {x0 : Nat} {x1 : Nat} (h0 : x0 = (2 : Nat) * x1) (h1 : x1 ≤ (8 : Nat)) : x0 < (64 : Nat) := by lia
theorem o370 {x0 : Nat} (h0 : x0 ≤ (520 : Nat)) : x0 + (3 : Nat) ≤ (700 : Nat) := by lia
theorem o371 {x0 : Nat} (h0 : (↑x0 : Int) < (32 : Int)) : x0 < (32 : Nat) := by (exact o77 h0)
theorem o372 {x0 : Int} (h0 : ¬x0.natAbs % (1024 : Nat) = (0 : Nat)) (h1 : x0 < (0 : Int)) : -(↑(x0.natAbs % (1024 : Nat)) : Int) + (1024 : Int) = x0 % (1024 : Int) := by lia
theorem o373 {x0 : Nat} : (2 : Int) * (↑x0 : Int) + (1 : Int) = (↑((2 : Nat) * x0 + (1 : Nat)) : Int) := by first | assumption | exact Nat.le_refl _ | rfl | (subst_vars; first | assumption | rfl | exact Nat.le_refl _) | exact Nat.le_of_lt (by assumption) | exact Nat.ne_of_lt (by assumption) | exact Nat.ne_of_gt (by assumption) | exact Nat.lt_of_lt_of_le (by assumption) (by first | assumption | decide) | exact Nat.lt_of_le_of_lt (by assumption) (by first | assumption | decide) | exact Nat.le_trans (by assumption) (by first | assumption | decide) | (subst_vars; first | exact Nat.le_of_lt (by assumption) | exact Nat.lt_of_lt_of_le (by assumption) (by first | assumption | decide) | exact Nat.lt_of_le_of_lt (by assumption) (by first | assumption | decide) | exact Nat.le_trans (by assumption) (by first | assumption | decide)) | exact absurd (by assumption) (by assumption) | simp | (simp at *; done)
theorem o374 {x0 : Nat} {x1 : Nat} (h0 : x0 < x0 ∨ x0 = x0 ∧ x1 < x1) : False := by first | assumption | exact Nat.le_refl _ | rfl | (subst_vars; first | assumption | rfl | exact Nat.le_refl _) | exact Nat.le_of_lt (by assumption) | exact Nat.ne_of_lt (by assumption) | exact Nat.ne_of_gt (by assumption) | exact Nat.lt_of_lt_of_le (by assumption) (by first | assumption | decide) | exact Nat.lt_of_le_of_lt (by assumption) (by first | assumption | decide) | exact Nat.le_trans (by assumption) (by first | assumption | decide) | (subst_vars; first | exact Nat.le_of_lt (by assumption) | exact Nat.lt_of_lt_of_le (by assumption) (by first | assumption | decide) | exact Nat.lt_of_le_of_lt (by assumption) (by first | assumption | decide) | exact Nat.le_trans (by assumption) (by first | assumption | decide)) | exact absurd (by assumption) (by assumption) | simp | (simp at *; done)
theorem o375 {x0 : Nat} (h0 : x0 ≤ (32 : Nat)) : x0 ≤ (2 : Nat) ^ (24 : Nat) := by first | assumption | exact Nat.le_refl _ | rfl | (subst_vars; first | assumption | rfl | exact Nat.le_refl _) | exact Nat.le_of_lt (by assumption) | exact Nat.ne_of_lt (by assumption) | exact Nat.ne_of_gt (by assumption) | exact Nat.lt_of_lt_of_le (by assumption) (by first | assumption | decide) | exact Nat.lt_of_le_of_lt (by assumption) (by first | assumption | decide) | exact Nat.le_trans (by assumption) (by first | assumption | decide) | (subst_vars; first | exact Nat.le_of_lt (by assumption) | exact Nat.lt_of_lt_of_le (by assumption) (by first | assumption | decide) | exact Nat.lt_of_le_of_lt (by assumption) (by first | assumption | decide) | exact Nat.le_trans (by assumption) (by first | assumption | decide)) | exact absurd (by assumption) (by assumption) | simp | (simp at *; done)
theorem o376 {x0 : Nat} (h0 : x0 < (0 : Nat)) : False := by first | assumption | exact Nat.le_refl _ | rfl | (subst_vars; first | assumption | rfl | exact Nat.le_refl _) | exact Nat.le_of_lt (by assumption) | exact Nat.ne_of_lt (by assumption) | exact Nat.ne_of_gt (by assumption) | exact Nat.lt_of_lt_of_le (by assumption) (by first | assumption | decide) | exact Nat.lt_of_le_of_lt (by assumption) (by first | assumption | decide) | exact Nat.le_trans (by assumption) (by first | assumption | decide) | (subst_vars; first | exact Nat.le_of_lt (by assumption) | exact Nat.lt_of_lt_of_le (by assumption) (by first | assumption | decide) | exact Nat.lt_of_le_of_lt (by assumption) (by first | assumption | decide) | exact Nat.le_trans (by assumption) (by first | assumption | decide)) | exact absurd (by assumption) (by assumption) | simp | (simp at *; done)
theorem o377 {x0 : Nat} {x1 : Nat} {x2 : Nat} (h0 : x0 < x2) : x0 ≤ x1 + x2 := by lia
theorem o378 {x0 : Nat} {x1 : Nat} {x2 : Nat} {x3 : Nat} {x4 : Nat} {x5 : Nat} (h0 : x0 < x2) (h1 : x2 < x3) (h2 : x3 < x4) (h3 : x4 + (1 : Nat) + (1 : Nat) + (1 : Nat) + (1 : Nat) + (1 : Nat) + (1 : Nat) ≤ x1 ∧ x1 < x5) : x0 ≤ x1 := by lia
theorem o379 {x0 : Nat} {x1 : Nat} {x2 : Nat} (h0 : ¬x2 < x0) : Min.min x0 x1 ≤ x2 := by lia
theorem o380 {x0 : Nat} {x1 : Nat} {x2 : Nat} (h0 : x0 < x1 + (1 : Nat)) (h1 : x2 < x0) : x0 - (1 : Nat) < x1 := by lia
theorem o382 {x0 : Nat} {x1 : Nat} (h0 : ¬x1 ≤ x0) : Min.min x0 x1 = x0 := by lia
theorem o384 {x0 : Int} (h0 : (0 : Int) ≤ x0) : x0 = (↑x0.toNat : Int) := by (exact Eq.symm (Int.toNat_of_nonneg h0))
theorem o386 {x0 : Nat} {x1 : Nat} {x2 : Nat} (h0 : x2 = x1) (h1 : x0 = x2) : x0 ≤ x1 := by first | assumption | exact Nat.le_refl _ | rfl | (subst_vars; first | assumption | rfl | exact Nat.le_refl _) | exact Nat.le_of_lt (by assumption) | exact Nat.ne_of_lt (by assumption) | exact Nat.ne_of_gt (by assumption) | exact Nat.lt_of_lt_of_le (by assumption) (by first | assumption | decide) | exact Nat.lt_of_le_of_lt (by assumption) (by first | assumption | decide) | exact Nat.le_trans (by assumption) (by first | assumption | decide) | (subst_vars; first | exact Nat.le_of_lt (by assumption) | exact Nat.lt_of_lt_of_le (by assumption) (by first | assumption | decide) | exact Nat.lt_of_le_of_lt (by assumption) (by first | assumption | decide) | exact Nat.le_trans (by assumption) (by first | assumption | decide)) | exact absurd (by assumption) (by assumption) | simp | (simp at *; done)
theorem o387 {x0 : Nat} {x1 : Nat} {x2 : Nat} {x3 : Nat} (h0 : x0 < x1) (h1 : x1 ≤ x3) (h2 : x2 = x3) : x0 < Min.min x1 x2 := by lia
theorem o388 {x0 : Nat} : (↑x0 : Int) / (1024 : Int) = (↑(x0 / (1024 : Nat)) : Int) := by first | assumption | exact Nat.le_refl _ | rfl | (subst_vars; first | assumption | rfl | exact Nat.le_refl _) | exact Nat.le_of_lt (by assumption) | exact Nat.ne_of_lt (by assumption) | exact Nat.ne_of_gt (by assumption) | exact Nat.lt_of_lt_of_le (by assumption) (by first | assumption | decide) | exact Nat.lt_of_le_of_lt (by assumption) (by first | assumption | decide) | exact Nat.le_trans (by assumption) (by first | assumption | decide) | (subst_vars; first | exact Nat.le_of_lt (by assumption) | exact Nat.lt_of_lt_of_le (by assumption) (by first | assumption | decide) | exact Nat.lt_of_le_of_lt (by assumption) (by first | assumption | decide) | exact Nat.le_trans (by assumption) (by first | assumption | decide)) | exact absurd (by assumption) (by assumption) | simp | (simp at *; done)
theorem o389 {x0 : Nat} (h0 : x0 < (1000000 : Nat)) : (16 : Nat) * x0 < (2 : Nat) ^ (40 : Nat) := by lia
theorem o391 {x0 : Nat} {x1 : Nat} {x2 : Nat} (h0 : x2 = (2 : Nat) * x1) (h1 : x0 = x2) : (↑x0 : Int) / (2 : Int) = (↑x1 : Int) := by lia
theorem o392 {x0 : Nat} : (↑(x0 + (1 : Nat)) : Int) = (↑x0 : Int) + (1 : Int) := by first | assumption | exact Nat.le_refl _ | rfl | (subst_vars; first | assumption | rfl | exact Nat.le_refl _) | exact Nat.le_of_lt (by assumption) | exact Nat.ne_of_lt (by assumption) | exact Nat.ne_of_gt (by assumption) | exact Nat.lt_of_lt_of_le (by assumption) (by first | assumption | decide) | exact Nat.lt_of_le_of_lt (by assumption) (by first | assumption | decide) | exact Nat.le_trans (by assumption) (by first | assumption | decide) | (subst_vars; first | exact Nat.le_of_lt (by assumption) | exact Nat.lt_of_lt_of_le (by assumption) (by first | assumption | decide) | exact Nat.lt_of_le_of_lt (by assumption) (by first | assumption | decide) | exact Nat.le_trans (by assumption) (by first | assumption | decide)) | exact absurd (by assumption) (by assumption) | simp | (simp at *; done)
theorem o393 {x0 : Nat} : (0 : Int) + (↑x0 : Int) * (1 : Int) = (↑x0 : Int) := by first | assumption | exact Nat.le_refl _ | rfl | (subst_vars; first | assumption | rfl | exact Nat.le_refl _) | exact Nat.le_of_lt (by assumption) | exact Nat.ne_of_lt (by assumption) | exact Nat.ne_of_gt (by assumption) | exact Nat.lt_of_lt_of_le (by assumption) (by first | assumption | decide) | exact Nat.lt_of_le_of_lt (by assumption) (by first | assumption | decide) | exact Nat.le_trans (by assumption) (by first | assumption | decide) | (subst_vars; first | exact Nat.le_of_lt (by assumption) | exact Nat.lt_of_lt_of_le (by assumption) (by first | assumption | decide) | exact Nat.lt_of_le_of_lt (by assumption) (by first | assumption | decide) | exact Nat.le_trans (by assumption) (by first | assumption | decide)) | exact absurd (by assumption) (by assumption) | simp | (simp at *; done)
theorem o394 {x0 : Nat} {x1 : Nat} {x2 : Nat} (h0 : (↑x0 : Int) < (↑x1 : Int)) (h1 : x1 ≤ x2) : (x0 + x1) / (2 : Nat) ≤ x2 := by lia
theorem o395 (h0 : (↑((2 : Nat) ^ (1064 : Nat)) : Int) = (0 : Int)) : False := by omega
theorem o396 {x0 : Nat} {x1 : Nat} {x2 : Nat} {x3y : Nat} (h0 : x0 < x2) (h1 : x2 = (2 : Nat) * x3y) (h2 : x1 = x3y) : x0 < x1 + x1 := by lia
theorem o397 {x0 : Nat} {x1 : Nat} {x2 : Nat} {x3 : Nat} {x4 : Nat} {x5 : Nat} {x6 : Nat} {x7 : Nat} {x8 : Nat} {x9 : Nat} {x10 : Nat} {x11 : Nat} {x12 : Nat} {x13 : Nat} (h0 : x1 + (1 : Nat) + (1 : Nat) + (1 : Nat) + (1 : Nat) < x2) (h1 : x3 + (1 : Nat) + (1 : Nat) + (1 : Nat) < x1) (h2 : x4 + (1 : Nat) + (1 : Nat) < x3) (h3 : x5 + (1 : Nat) + (1 : Nat) < x4) (h4 : x6 + (1 : Nat) + (1 : Nat) < x5) (h5 : x7 + (1 : Nat) < x6) (h6 : x8 < x7) (h7 : x9 + (1 : Nat) < x8) (h8 : x10 < x9) (h9 : x11 ≤ x10) (h10 : x12 < x11) (h11 : x0 + x13 ≤ x12) : x0 ≤ x1 + (1 : Nat) + (1 : Nat) + (1 : Nat) ∧ x1 + (1 : Nat) + (1 : Nat) + (1 : Nat) < x2 := by lia
theorem o398 {x0 : Nat} {x1 : Nat} (h0 : x0 ≤ x1) (h1 : x1 ≠ x0) : x0 + (1 : Nat) ≤ x1 := by lia
theorem o399 {x0 : Nat} : (1 : Nat) ≤ x0 / (256 : Nat) + (1 : Nat) := by (exact o175)
theorem o402 {x0 : Nat} : (512 : Int) < (↑((256 : Nat) * x0) : Int) ↔ (2 : Nat) < x0 := by lia
theorem o403 {x0 : Nat} (h0 : (1 : Nat) = (1 : Nat) + (x0 - (1 : Nat))) (h1 : (2 : Nat) ≤ x0) : False := by omega
theorem o404 {x0 : Nat} (h0 : ¬x0 = (0 : Nat)) : x0 - (1 : Nat) + (1 : Nat) = x0 := by (exact Nat.succ_pred_eq_of_ne_zero h0)
theorem o405 {x0 : Nat} {x1 : Nat} (h0 : x0 ≤ x1 + (0 : Nat)) (h1 : x1 < x0) : False := by lia
theorem o406 {x0 : Nat} (h0 : (1 : Nat) ≤ x0) : x0 - (1 : Nat) + (1 : Nat) = x0 := by (exact Nat.sub_add_cancel h0)
theorem o408 {x0 : Nat} {x1 : Nat} {x2 : Nat} (h0 : x1 ≤ x0) (h1 : (↑x2 : Int) < (↑x1 : Int)) : x0 = x0 - (1 : Nat) + (1 : Nat) := by lia
theorem o410 {x0 : Nat} (h0 : x0 ≤ (4 : Nat)) : x0 - (1 : Nat) < (4 : Nat) := by omega
theorem o411 {x0 : Nat} {x1 : Nat} {x2 : Nat} (h0 : x0 ≤ x1) (h1 : x2 < Min.min x0 x1) : x0 - (1 : Nat) < x1 := by lia
theorem o412 {x0 : Nat} {x1 : Nat} (h0 : x0 = (2 : Nat) * x1) (h1 : x1 ≤ (8 : Nat)) : (↑x0 : Int) < (2 : Int) ^ (63 : Nat) := by lia
theorem o413 {x0 : Nat} (h0 : x0 ≤ (32 : Nat)) : (↑x0 : Int) < (2 : Int) ^ (62 : Nat) := by lia
theorem o415 {x0 : Nat} {x1 : Nat} {x2 : Nat} (h0 : (x0 + x1) / (2 : Nat) ≤ x2) (h1 : ¬x2 = (x0 + x1) / (2 : Nat)) : (x0 + x1) / (2 : Nat) < x2 := by (exact Nat.lt_of_le_of_ne h0 fun a => h1 (id (Eq.symm a)))
theorem o416 {x0 : Int} : (↑(x0.natAbs % (1024 : Nat)) : Int).natAbs < (2 : Nat) ^ (40 : Nat) := by lia
theorem o417 {x0 : Nat} (h0 : (↑x0 : Int) < (2 : Int) ^ (60 : Nat)) : (↑(x0 / (2 : Nat)) : Int) < (2 : Int) ^ (60 : Nat) := by lia
theorem o418 {x0 : Int} (h0 : x0 < (0 : Int)) : -(↑x0.natAbs : Int) = x0 := by lia
theorem o419 {x0 : Nat} (h0 : x0 < (64 : Nat)) : x0 < (1000000 : Nat) := by first | assumption | exact Nat.le_refl _ | rfl | (subst_vars; first | assumption | rfl | exact Nat.le_refl _) | exact Nat.le_of_lt (by assumption) | exact Nat.ne_of_lt (by assumption) | exact Nat.ne_of_gt (by assumption) | exact Nat.lt_of_lt_of_le (by assumption) (by first | assumption | decide) | exact Nat.lt_of_le_of_lt (by assumption) (by first | assumption | decide) | exact Nat.le_trans (by assumption) (by first | assumption | decide) | (subst_vars; first | exact Nat.le_of_lt (by assumption) | exact Nat.lt_of_lt_of_le (by assumption) (by first | assumption | decide) | exact Nat.lt_of_le_of_lt (by assumption) (by first | assumption | decide) | exact Nat.le_trans (by assumption) (by first | assumption | decide)) | exact absurd (by assumption) (by assumption) | simp | (simp at *; done)
theorem o420 {x0 : Int} : (x0 % (1024 : Int)).toNat < (1024 : Nat) := by lia
theorem o421 {x0 : Nat} (h0 : ¬x0 > (1 : Nat)) (h1 : (1 : Nat) ≤ x0) : x0 = (1 : Nat) := by (exact Eq.symm (o149 h0 h1))
theorem o423 {x0 : Nat} {x1 : Nat} (h0 : x1 < x0 / (2 : Nat)) : (↑(x0 / (2 : Nat)) : Int) - (1 : Int) + (↑x1 : Int) * (-1 : Int) = (↑(x0 / (2 : Nat) - (1 : Nat) - x1) : Int) := by omega
theorem o424 {x0 : Int} {x1 : Int} {x2 : Int} (h0 : x0 < (0 : Int)) (h1 : x0 * (1024 : Int) = x1 * x2) (h2 : (0 : Int) ≤ x1 * x2) : False := by lia
theorem o425 {x0 : Nat} {x1 : Nat} : (↑x0 : Int) - ((↑x1 : Int) + (1 : Int)) = (↑x0 : Int) - (↑x1 : Int) - (1 : Int) := by (exact Eq.symm (Int.sub_sub (↑x0) (↑x1) 1))
theorem o426 {x0 : Nat} : x0 - x0 + (x0 - x0) = (0 : Nat) := by first | assumption | exact Nat.le_refl _ | rfl | (subst_vars; first | assumption | rfl | exact Nat.le_refl _) | exact Nat.le_of_lt (by assumption) | exact Nat.ne_of_lt (by assumption) | exact Nat.ne_of_gt (by assumption) | exact Nat.lt_of_lt_of_le (by assumption) (by first | assumption | decide) | exact Nat.lt_of_le_of_lt (by assumption) (by first | assumption | decide) | exact Nat.le_trans (by assumption) (by first | assumption | decide) | (subst_vars; first | exact Nat.le_of_lt (by assumption) | exact Nat.lt_of_lt_of_le (by assumption) (by first | assumption | decide) | exact Nat.lt_of_le_of_lt (by assumption) (by first | assumption | decide) | exact Nat.le_trans (by assumption) (by first | assumption | decide)) | exact absurd (by assumption) (by assumption) | simp | (simp at *; done)
theorem o427 {x0 : Nat} (h0 : x0 + (1 : Nat) + (1 : Nat) = (0 : Nat)) : False := by first | assumption | exact Nat.le_refl _ | rfl | (subst_vars; first | assumption | rfl | exact Nat.le_refl _) | exact Nat.le_of_lt (by assumption) | exact Nat.ne_of_lt (by assumption) | exact Nat.ne_of_gt (by assumption) | exact Nat.lt_of_lt_of_le (by assumption) (by first | assumption | decide) | exact Nat.lt_of_le_of_lt (by assumption) (by first | assumption | decide) | exact Nat.le_trans (by assumption) (by first | assumption | decide) | (subst_vars; first | exact Nat.le_of_lt (by assumption) | exact Nat.lt_of_lt_of_le (by assumption) (by first | assumption | decide) | exact Nat.lt_of_le_of_lt (by assumption) (by first | assumption | decide) | exact Nat.le_trans (by assumption) (by first | assumption | decide)) | exact absurd (by assumption) (by assumption) | simp | (simp at *; done)
theorem o428 {x0 : Nat} {x1 : Nat} (h0 : x0 ≤ x1) : Min.min x0 x1 = x0 := by (exact Nat.min_eq_left h0)
theorem o432 {x0 : Nat} {x1 : Nat} (h0 : x0 = (0 : Nat)) (h1 : x1 < x0) : False := by (exact o290 h0 rfl h1)
theorem o433 {x0 : Nat} {x1 : Nat} (h0 : x0 ≤ x1) : x0 + (x1 - x0) ≤ x1 := by lia
theorem o434 {x0 : Nat} (h0 : x0 < (64 : Nat)) : x0 / (8 : Nat) < (8 : Nat) := by (exact Nat.div_lt_of_lt_mul h0)
theorem o435 {x0 : Nat} {x1 : Nat} : x0 - x1 ≤ x0 - x1 := by first | assumption | exact Nat.le_refl _ | rfl | (subst_vars; first | assumption | rfl | exact Nat.le_refl _) | exact Nat.le_of_lt (by assumption) | exact Nat.ne_of_lt (by assumption) | exact Nat.ne_of_gt (by assumption) | exact Nat.lt_of_lt_of_le (by assumption) (by first | assumption | decide) | exact Nat.lt_of_le_of_lt (by assumption) (by first | assumption | decide) | exact Nat.le_trans (by assumption) (by first | assumption | decide) | (subst_vars; first | exact Nat.le_of_lt (by assumption) | exact Nat.lt_of_lt_of_le (by assumption) (by first | assumption | decide) | exact Nat.lt_of_le_of_lt (by assumption) (by first | assumption | decide) | exact Nat.le_trans (by assumption) (by first | assumption | decide)) | exact absurd (by assumption) (by assumption) | simp | (simp at *; done)
theorem o439 {x0 : Nat} {x1 : Nat} {x2 : Nat} (h0 : x0 ≤ x2) (h1 : x1 = x2) : x0 = Min.min x0 x1 + (0 : Nat) := by lia
theorem o440 {x0 : Nat} : x0 * (1024 : Nat) = (256 : Nat) * x0 * (4 : Nat) := by lia
theorem o442 {x0 : Nat} {x1 : Nat} {x2 : Nat} (h0 : x0 < x2) : x0 + x1 < x2 + x1 := by (exact Nat.add_lt_add_right h0 x1)
theorem o443 {x0 : Nat} {x1 : Nat} (h0 : (0 : Nat) < x0) (h1 : x1 ≤ (x0 - (1 : Nat)) / (2 : Nat)) (h2 : x0 = x1) : False := by lia
theorem o444 {x0 : Int} (h0 : (0 : Nat) = x0.natAbs * (2 : Nat) ^ (1064 : Nat)) (h1 : ¬x0 = (0 : Int)) : False := by lia
theorem o445 {x0 : Nat} : (1 : Nat) ≤ x0 + (1 : Nat) := by (exact o175)
theorem o446 {x0 : Nat} : (2 : Int) * ((↑((2 : Nat) * x0 + (1 : Nat)) : Int) + (1 : Int)) + (1 : Int) = (↑((2 : Nat) * ((2 : Nat) * x0 + (1 : Nat) + (1 : Nat)) + (1 : Nat)) : Int) := by first | assumption | exact Nat.le_refl _ | rfl | (subst_vars; first | assumption | rfl | exact Nat.le_refl _) | exact Nat.le_of_lt (by assumption) | exact Nat.ne_of_lt (by assumption) | exact Nat.ne_of_gt (by assumption) | exact Nat.lt_of_lt_of_le (by assumption) (by first | assumption | decide) | exact Nat.lt_of_le_of_lt (by assumption) (by first | assumption | decide) | exact Nat.le_trans (by assumption) (by first | assumption | decide) | (subst_vars; first | exact Nat.le_of_lt (by assumption) | exact Nat.lt_of_lt_of_le (by assumption) (by first | assumption | decide) | exact Nat.lt_of_le_of_lt (by assumption) (by first | assumption | decide) | exact Nat.le_trans (by assumption) (by first | assumption | decide)) | exact absurd (by assumption) (by assumption) | simp | (simp at *; done)
theorem o447 {x0 : Nat} (h0 : x0 < (1000000 : Nat)) : (256 : Nat) * x0 < (2 : Nat) ^ (40 : Nat) := by lia
theorem o451 {x0 : Nat} : (↑((2 : Nat) * x0 + (1 : Nat)) : Int) = (↑((2 : Nat) * x0 + (1 : Nat)) : Int) := by first | assumption | exact Nat.le_refl _ | rfl | (subst_vars; first | assumption | rfl | exact Nat.le_refl _) | exact Nat.le_of_lt (by assumption) | exact Nat.ne_of_lt (by assumption) | exact Nat.ne_of_gt (by assumption) | exact Nat.lt_of_lt_of_le (by assumption) (by first | assumption | decide) | exact Nat.lt_of_le_of_lt (by assumption) (by first | assumption | decide) | exact Nat.le_trans (by assumption) (by first | assumption | decide) | (subst_vars; first | exact Nat.le_of_lt (by assumption) | exact Nat.lt_of_lt_of_le (by assumption) (by first | assumption | decide) | exact Nat.lt_of_le_of_lt (by assumption) (by first | assumption | decide) | exact Nat.le_trans (by assumption) (by first | assumption | decide)) | exact absurd (by assumption) (by assumption) | simp | (simp at *; done)
theorem o452 (h0 : (4 : Int) < (0 : Int)) : False := by (exact (Int.negSucc_not_nonneg 4).mp h0)
theorem o453 {x0 : Nat} : ((2 : Nat) * x0 + (1 : Nat) + (1 : Nat) - (1 : Nat)) / (2 : Nat) = x0 := by lia
theorem o454 {x0 : Nat} {x1 : Nat} {x2 : Nat} {x3 : Nat} {x4 : Nat} {x5 : Nat} {x6 : Nat} {x7 : Nat} {x8 : Nat} {x9 : Nat} {x10 : Nat} {x11 : Nat} {x12 : Nat} {x13 : Nat} {x14 : Nat} (h0 : x1 + (1 : Nat) + (1 : Nat) + (1 : Nat) + (1 : Nat) < x2) (h1 : x3 + (1 : Nat) + (1 : Nat) + (1 : Nat) < x1) (h2 : x4 + (1 : Nat) + (1 : Nat) < x3) (h3 : x5 + (1 : Nat) + (1 : Nat) < x4) (h4 : x6 + (1 : Nat) + (1 : Nat) < x5) (h5 : x7 + (1 : Nat) + (1 : Nat) + (1 : Nat) + (1 : Nat) + (1 : Nat) < x6) (h6 : x8 + (1 : Nat) + (1 : Nat) < x7) (h7 : x9 + (1 : Nat) < x8) (h8 : x10 + (1 : Nat) < x9) (h9 : x11 < x10) (h10 : x12 ≤ x11) (h11 : x13 < x12) (h12 : x0 + x14 ≤ x13) : x0 ≤ x1 + (1 : Nat) + (1 : Nat) + (1 : Nat) ∧ x1 + (1 : Nat) + (1 : Nat) + (1 : Nat) < x2 := by lia
theorem o457 {x0 : Nat} {x1 : Nat} {x2 : Nat} (h0 : x1 ≤ (64 : Nat)) (h1 : x2 < x1) (h2 : x0 ≤ x2) : x0 + x0 + (1 : Nat) ≤ (16777216 : Nat) := by lia
theorem o459 {x0 : Nat} {x1 : Nat} {x2 : Nat} (h0 : x1 = x2 + (1 : Nat)) (h1 : x0 < x2) : x0 < x1 - (1 : Nat) := by first | assumption | exact Nat.le_refl _ | rfl | (subst_vars; first | assumption | rfl | exact Nat.le_refl _) | exact Nat.le_of_lt (by assumption) | exact Nat.ne_of_lt (by assumption) | exact Nat.ne_of_gt (by assumption) | exact Nat.lt_of_lt_of_le (by assumption) (by first | assumption | decide) | exact Nat.lt_of_le_of_lt (by assumption) (by first | assumption | decide) | exact Nat.le_trans (by assumption) (by first | assumption | decide) | (subst_vars; first | exact Nat.le_of_lt (by assumption) | exact Nat.lt_of_lt_of_le (by assumption) (by first | assumption | decide) | exact Nat.lt_of_le_of_lt (by assumption) (by first | assumption | decide) | exact Nat.le_trans (by assumption) (by first | assumption | decide)) | exact absurd (by assumption) (by assumption) | simp | (simp at *; done)
theorem o460 {x0 : Nat} {x1 : Nat} (h0 : x0 < x1) (h1 : x1 = x0) : False := by (exact o22 h0 (id (Eq.symm h1)))
theorem o462 {x0 : Nat} {x1 : Nat} {x2 : Nat} {x3 : Nat} (h0 : x2 ≤ x1) (h1 : x3 < x2) (h2 : x0 ≤ x3) : x0 ≤ x1 := by lia
theorem o463 {x0 : Nat} : (↑x0 : Int) % (64 : Int) = (↑(x0 % (64 : Nat)) : Int) := by first | assumption | exact Nat.le_refl _ | rfl | (subst_vars; first | assumption | rfl | exact Nat.le_refl _) | exact Nat.le_of_lt (by assumption) | exact Nat.ne_of_lt (by assumption) | exact Nat.ne_of_gt (by assumption) | exact Nat.lt_of_lt_of_le (by assumption) (by first | assumption | decide) | exact Nat.lt_of_le_of_lt (by assumption) (by first | assumption | decide) | exact Nat.le_trans (by assumption) (by first | assumption | decide) | (subst_vars; first | exact Nat.le_of_lt (by assumption) | exact Nat.lt_of_lt_of_le (by assumption) (by first | assumption | decide) | exact Nat.lt_of_le_of_lt (by assumption) (by first | assumption | decide) | exact Nat.le_trans (by assumption) (by first | assumption | decide)) | exact absurd (by assumption) (by assumption) | simp | (simp at *; done)
theorem o465 {x0 : Nat} {x1 : Nat} (h0 : x0 = (0 : Nat) ∧ x1 = (0 : Nat) ∨ (0 : Nat) < x0 ∧ (2 : Nat) ^ (x0 - (1 : Nat)) ≤ x1) (h1 : (0 : Nat) < x0) : (2 : Nat) ^ (x0 - (1 : Nat)) ≤ x1 := by omega
theorem o466 {x0 : Nat} {x1 : Nat} (h0 : (↑x1 : Int) < (↑x0 : Int)) : ((↑x0 : Int) - (1 : Int)) / (2 : Int) = (↑((x0 - (1 : Nat)) / (2 : Nat)) : Int) := by lia
theorem o467 {x0 : Nat} {x1 : Nat} (h0 : x1 ≤ (1 : Nat)) : x0 ≤ x0 + x1 ∧ x0 + x1 ≤ x0 + (1 : Nat) := by lia
theorem o468 {x0 : Nat} {x1 : Nat} {x2 : Nat} {x3 : Nat} {x4 : Nat} {x5 : Nat} {x6 : Nat} {x7 : Nat} {x8 : Nat} {x9 : Nat} {x10 : Nat} {x11 : Nat} {x12 : Nat} {x13 : Nat} {x14 : Nat} (h0 : x1 + (1 : Nat) + (1 : Nat) + (1 : Nat) + (1 : Nat) < x2) (h1 : x3 + (1 : Nat) < x1) (h2 : x4 + (1 : Nat) + (1 : Nat) < x3) (h3 : x5 + (1 : Nat) + (1 : Nat) < x4) (h4 : x6 + (1 : Nat) + (1 : Nat) < x5) (h5 : x7 + (1 : Nat) + (1 : Nat) + (1 : Nat) + (1 : Nat) + (1 : Nat) < x6) (h6 : x8 + (1 : Nat) + (1 : Nat) < x7) (h7 : x9 + (1 : Nat) < x8) (h8 : x10 + (1 : Nat) < x9) (h9 : x11 < x10) (h10 : x12 ≤ x11) (h11 : x13 < x12) (h12 : x0 + x14 ≤ x13) : x0 ≤ x1 + (1 : Nat) + (1 : Nat) + (1 : Nat) ∧ x1 + (1 : Nat) + (1 : Nat) + (1 : Nat) < x2 := by lia
theorem o469 {x0 : Nat} (h0 : x0 < x0) : False := by first | assumption | exact Nat.le_refl _ | rfl | (subst_vars; first | assumption | rfl | exact Nat.le_refl _) | exact Nat.le_of_lt (by assumption) | exact Nat.ne_of_lt (by assumption) | exact Nat.ne_of_gt (by assumption) | exact Nat.lt_of_lt_of_le (by assumption) (by first | assumption | decide) | exact Nat.lt_of_le_of_lt (by assumption) (by first | assumption | decide) | exact Nat.le_trans (by assumption) (by first | assumption | decide) | (subst_vars; first | exact Nat.le_of_lt (by assumption) | exact Nat.lt_of_lt_of_le (by assumption) (by first | assumption | decide) | exact Nat.lt_of_le_of_lt (by assumption) (by first | assumption | decide) | exact Nat.le_trans (by assumption) (by first | assumption | decide)) | exact absurd (by assumption) (by assumption) | simp | (simp at *; done)
theorem o470 {x0 : Nat} : ((↑x0 : Int) - (1 : Int)).toNat = x0 - (1 : Nat) := by first | assumption | exact Nat.le_refl _ | rfl | (subst_vars; first | assumption | rfl | exact Nat.le_refl _) | exact Nat.le_of_lt (by assumption) | exact Nat.ne_of_lt (by assumption) | exact Nat.ne_of_gt (by assumption) | exact Nat.lt_of_lt_of_le (by assumption) (by first | assumption | decide) | exact Nat.lt_of_le_of_lt (by assumption) (by first | assumption | decide) | exact Nat.le_trans (by assumption) (by first | assumption | decide) | (subst_vars; first | exact Nat.le_of_lt (by assumption) | exact Nat.lt_of_lt_of_le (by assumption) (by first | assumption | decide) | exact Nat.lt_of_le_of_lt (by assumption) (by first | assumption | decide) | exact Nat.le_trans (by assumption) (by first | assumption | decide)) | exact absurd (by assumption) (by assumption) | simp | (simp at *; done)
theorem o471 {x0 : Nat} {x1 : Nat} {x2 : Nat} (h0 : x0 + (x1 + (1 : Nat)) = x2) : x0 + (1 : Nat) + x1 = x2 := by lia
theorem o474 {x0 : Nat} (h0 : ¬x0 - (1 : Nat) = (0 : Nat)) : (1 : Nat) < x0 := by (exact Nat.sub_ne_zero_iff_lt.mp h0)
theorem o475 {x0 : Nat} {x1 : Nat} (h0 : x1 ≤ x0) : x0 - (x0 - x1) = x1 := by (exact Nat.sub_sub_self h0)
theorem o478 {x0 : Nat} {x1 : Nat} {x2 : Nat} {x3 : Nat} {x4 : Nat} {x5 : Nat} {x6 : Nat} {x7 : Nat} {x8 : Nat} {x9 : Nat} {x10 : Nat} {x11 : Nat} {x12 : Nat} {x13 : Nat} (h0 : x1 + (1 : Nat) + (1 : Nat) + (1 : Nat) + (1 : Nat) < x2) (h1 : x3 + (1 : Nat) < x1) (h2 : x4 + (1 : Nat) + (1 : Nat) < x3) (h3 : x5 + (1 : Nat) + (1 : Nat) < x4) (h4 : x6 + (1 : Nat) + (1 : Nat) < x5) (h5 : x7 + (1 : Nat) < x6) (h6 : x8 < x7) (h7 : x9 + (1 : Nat) < x8) (h8 : x10 < x9) (h9 : x11 ≤ x10) (h10 : x12 < x11) (h11 : x0 + x13 ≤ x12) : x0 ≤ x1 + (1 : Nat) + (1 : Nat) + (1 : Nat) ∧ x1 + (1 : Nat) + (1 : Nat) + (1 : Nat) < x2 := by lia
theorem o479 {x0 : Nat} {x1 : Nat} (h0 : (x0 - (1 : Nat)) / (2 : Nat) = x1) (h1 : (0 : Nat) < x0) : x0 = (2 : Nat) * x1 + (1 : Nat) ∨ x0 = (2 : Nat) * x1 + (1 : Nat) + (1 : Nat) := by lia
theorem o481 {x0 : Nat} {x1 : Nat} (h0 : x0 = x1) : x0 + x0 = (2 : Nat) * x1 := by (exact o273 (congrArg (HMul.hMul 2) (id (Eq.symm h0))))
theorem o482 {x0 : Nat} : (0 : Nat) < (2 : Nat) * x0 + (1 : Nat) + (1 : Nat) := by (exact o172 rfl)
theorem o483 {x0 : Nat} {x1 : Nat} {x2 : Nat} (h0 : x0 = (2 : Nat) * x1) (h1 : x1 = (2 : Nat) * x2) (h2 : x2 ≤ (32 : Nat)) : x0 ≤ (16777216 : Nat) := by lia
theorem o484 {x0 : Nat} {x1 : Nat} : (↑((16 : Nat) * x0) : Int) = (↑((16 : Nat) * x1) : Int) ↔ x0 = x1 := by lia
theorem o485 {x0 : Nat} : x0 + (x0 + (1 : Nat)) = x0 + x0 + (1 : Nat) := by first | assumption | exact Nat.le_refl _ | rfl | (subst_vars; first | assumption | rfl | exact Nat.le_refl _) | exact Nat.le_of_lt (by assumption) | exact Nat.ne_of_lt (by assumption) | exact Nat.ne_of_gt (by assumption) | exact Nat.lt_of_lt_of_le (by assumption) (by first | assumption | decide) | exact Nat.lt_of_le_of_lt (by assumption) (by first | assumption | decide) | exact Nat.le_trans (by assumption) (by first | assumption | decide) | (subst_vars; first | exact Nat.le_of_lt (by assumption) | exact Nat.lt_of_lt_of_le (by assumption) (by first | assumption | decide) | exact Nat.lt_of_le_of_lt (by assumption) (by first | assumption | decide) | exact Nat.le_trans (by assumption) (by first | assumption | decide)) | exact absurd (by assumption) (by assumption) | simp | (simp at *; done)
theorem o486 {x0 : Nat} (h0 : x0 ≤ (500 : Nat)) : (↑x0 : Int) < (2 : Int) ^ (63 : Nat) := by lia
theorem o491 {x0 : Nat} {x1 : Nat} (h0 : (↑x0 : Int) / (2 : Int) < (↑x1 : Int)) : x0 / (2 : Nat) < x1 := by (exact o77 h0)
theorem o492 {x0 : Nat} {x1 : Nat} : (16 : Int) < (↑(x0 * ((8 : Nat) - x1)) : Int) ↔ (16 : Nat) < x0 * ((8 : Nat) - x1) := by omega
theorem o494 {x0 : Nat} {x1 : Nat} {x2 : Nat} {x3 : Nat} {x4 : Nat} {x5 : Nat} (h0 : x0 < x2) (h1 : x2 < x3) (h2 : x3 < x4) (h3 : x4 ≤ x1 ∧ x1 < x5) : x0 ≤ x1 := by lia
theorem o495 {x0 : Nat} {x1 : Nat} {x2 : Nat} (h0 : ¬x0 ≥ x1) (h1 : x1 ≤ x2) : (x0 + x1) / (2 : Nat) ≤ x2 := by lia
theorem o496 {x0 : Int} {x1 : Int} (h0 : (-1074 : Int) ≤ x0) (h1 : (-1074 : Int) ≤ x1) : -(↑(1074 : Nat) : Int) ≤ Min.min x0 x1 := by lia
theorem o497 {x0 : Nat} : x0 - (0 : Nat) = x0 := by first | assumption | exact Nat.le_refl _ | rfl | (subst_vars; first | assumption | rfl | exact Nat.le_refl _) | exact Nat.le_of_lt (by assumption) | exact Nat.ne_of_lt (by assumption) | exact Nat.ne_of_gt (by assumption) | exact Nat.lt_of_lt_of_le (by assumption) (by first | assumption | decide) | exact Nat.lt_of_le_of_lt (by assumption) (by first | assumption | decide) | exact Nat.le_trans (by assumption) (by first | assumption | decide) | (subst_vars; first | exact Nat.le_of_lt (by assumption) | exact Nat.lt_of_lt_of_le (by assumption) (by first | assumption | decide) | exact Nat.lt_of_le_of_lt (by assumption) (by first | assumption | decide) | exact Nat.le_trans (by assumption) (by first | assumption | decide)) | exact absurd (by assumption) (by assumption) | simp | (simp at *; done)
theorem o498 {x0 : Nat} {x1 : Nat} (h0 : (↑((2 : Nat) * x0 + (1 : Nat)) : Int) < (↑x1 : Int)) : (2 : Nat) * x0 + (1 : Nat) < x1 := by (exact Int.ofNat_lt.mp h0)
theorem o499 {x0 : Nat} : (↑x0 : Int) - (↑x0 : Int) ≤ (0 : Int) := by first | assumption | exact Nat.le_refl _ | rfl | (subst_vars; first | assumption | rfl | exact Nat.le_refl _) | exact Nat.le_of_lt (by assumption) | exact Nat.ne_of_lt (by assumption) | exact Nat.ne_of_gt (by assumption) | exact Nat.lt_of_lt_of_le (by assumption) (by first | assumption | decide) | exact Nat.lt_of_le_of_lt (by assumption) (by first | assumption | decide) | exact Nat.le_trans (by assumption) (by first | assumption | decide) | (subst_vars; first | exact Nat.le_of_lt (by assumption) | exact Nat.lt_of_lt_of_le (by assumption) (by first | assumption | decide) | exact Nat.lt_of_le_of_lt (by assumption) (by first | assumption | decide) | exact Nat.le_trans (by assumption) (by first | assumption | decide)) | exact absurd (by assumption) (by assumption) | simp | (simp at *; done)
theorem o500 {x0 : Nat} (h0 : (1 : Nat) + (1 : Nat) ≤ x0) : (1 : Nat) ≤ x0 := by first | assumption | exact Nat.le_refl _ | rfl | (subst_vars; first | assumption | rfl | exact Nat.le_refl _) | exact Nat.le_of_lt (by assumption) | exact Nat.ne_of_lt (by assumption) | exact Nat.ne_of_gt (by assumption) | exact Nat.lt_of_lt_of_le (by assumption) (by first | assumption | decide) | exact Nat.lt_of_le_of_lt (by assumption) (by first | assumption | decide) | exact Nat.le_trans (by assumption) (by first | assumption | decide) | (subst_vars; first | exact Nat.le_of_lt (by assumption) | exact Nat.lt_of_lt_of_le (by assumption) (by first | assumption | decide) | exact Nat.lt_of_le_of_lt (by assumption) (by first | assumption | decide) | exact Nat.le_trans (by assumption) (by first | assumption | decide)) | exact absurd (by assumption) (by assumption) | simp | (simp at *; done)
theorem o501 {x0 : Nat} {x1 : Nat} : (↑x0 : Int) < (↑x1 : Int) ↔ x0 < x1 := by (exact Int.ofNat_lt)
theorem o502 {x0 : Nat} {x1 : Nat} {x2 : Nat} (h0 : (0 : Nat) < x0 ∧ x0 < x1) (h1 : x1 ≤ x2) (h2 : x0 = x2) : False := by (exact o26 h0 h1 (id (Eq.symm h2)))
theorem o505 {x0 : Nat} {x1 : Nat} {x2 : Nat} (h0 : x0 = (0 : Nat)) (h1 : x1 < Min.min x0 x2) : False := by lia
theorem o506 {x0 : Nat} {x1 : Nat} {x2 : Nat} (h0 : (↑(x0 / (2 : Nat)) : Int) - (1 : Int) + (↑x1 : Int) * (-1 : Int) = (↑(x0 / (2 : Nat) - (1 : Nat) - x1) : Int)) (h1 : x2 = x0) : x0 / (2 : Nat) - (1 : Nat) - x1 < x2 := by lia
theorem o507 {x0 : Nat} (h0 : x0 > (1 : Nat)) : (0 : Nat) < x0 - (1 : Nat) := by (exact o323 h0)
theorem o508 {x0 : Nat} {x1 : Nat} (h0 : x0 - (1 : Nat) < (2 : Nat) ^ (x0 - (1 : Nat))) (h1 : (2 : Nat) ^ (x0 - (1 : Nat)) ≤ x1) (h2 : x1 ≤ (32 : Nat)) : x0 ≤ (1000 : Nat) := by lia
theorem o509 {x0 : Nat} (h0 : x0 ≤ (8 : Nat)) : (↑x0 : Int) < (2 : Int) ^ (63 : Nat) := by lia
theorem o511 {x0 : Nat} {x1 : Nat} : x0 + (1 : Nat) + x1 = x0 + x1 + (1 : Nat) := by (exact o471 rfl)
theorem o514 {x0 : Nat} {x1 : Nat} {x2 : Nat} (h0 : ¬-(↑x0 : Int) < -(↑(x1 - x1 / (2 : Nat)) : Int)) (h1 : -(↑x2 : Int) < -(↑(x1 - x1 / (2 : Nat)) : Int)) (h2 : x2 ≤ x0 + (1 : Nat)) : x0 = x1 - x1 / (2 : Nat) := by lia
theorem o516 {x0 : Nat} {x1 : Nat} (h0 : (2 : Nat) ^ (x0 - (1 : Nat)) ≤ x1) : (↑((2 : Nat) ^ (x0 - (1 : Nat))) : Int) ≤ (↑x1 : Int) := by (exact Int.ofNat_le.mpr h0)
noncomputable abbrev lo : List Str := looseW Mine.hd.view_39 [Str.ofString "insort_right", Str.ofString "bisect_right", Str.ofString "bisect_left"]

/-- all of h stands in h' but at W -/
noncomputable def Ext (W : List Addr) (h h' : Heap) : Prop := ∀ b o, h.get? b = some o → b ∉ W → h'.get? b = some o
theorem Ext.refl (W : List Addr) (h : Heap) : Ext W h h := fun _ _ e _ => e
theorem Ext.trans {W : List Addr} {h h₁ h₂ : Heap} (x : Ext W h h₁) (y : Ext W h₁ h₂) : Ext W h h₂ := fun b o e n => y b o (x b o e n) n
theorem Ext.mono {W W' : List Addr} {h h₁ : Heap} (x : Ext W h h₁) (k : ∀ b ∈ W, b ∈ W') : Ext W' h h₁ := fun b o e n => x b o e fun q => n (k b q)
theorem Ext.of_stays {W : List Addr} {h h₁ : Heap} (x : h.StaysIn h₁) : Ext W h h₁ := fun b o e _ => x b o e
theorem Ext.stays {h h₁ : Heap} (x : Ext [] h h₁) : h.StaysIn h₁ := fun b o e => x b o e (by simp)

theorem Fr.ext {W : List Addr} {h₀ h h' : Heap} {L : Addr} {m : Str → Option Value} (F : Fr h₀ L h m) (x : Ext W h h') (hL : L ∉ W) (h0 : ∀ a ∈ W, h₀.get? a = none) : Fr h₀ L h' m := by
  obtain ⟨⟨o, es, n, ho, r⟩, k, ab⟩ := F
  refine ⟨⟨o, es, n, x _ _ ho hL, r⟩, fun b o e => x _ _ (k b o e) fun q => ?_, ab⟩
  rw [h0 b q] at e; cases e

theorem News.ext {W : List Addr} {h₀ h h' : Heap} {L : Addr} {news : List (Addr × Obj)} (N : News h₀ L h news) (x : Ext W h h') (hW : ∀ p ∈ news, p.1 ∉ W) : News h₀ L h' news :=
  fun p hp => ⟨x _ _ (N p hp).1 (hW p hp), (N p hp).2⟩

theorem News.cons {h₀ h : Heap} {L a : Addr} {o : Obj} {news : List (Addr × Obj)} (N : News h₀ L h news) (ho : h.get? a = some o) (hL : a ≠ L) (h0 : h₀.get? a = none) : News h₀ L h ((a, o) :: news) :=
  fun p hp => by
    rcases List.mem_cons.mp hp with rfl | hp
    · exact ⟨ho, hL, h0⟩
    · exact N p hp

/-- around a call: nothing on the stack is asked -/
@[reducible] noncomputable def Aw (n : Nat) : Around := { handled := none, depth := n, frames := none, guards := none, units := n }

theorem lift {α : Type} {M : Model} {A : Around} {n : Nat} {t : Sem α} {Q : α → Shared → Prop} {E : Value → Shared → Prop} {s : Shared}
    (h : wpAny M (Aw n) t Q E s) (hh : A.handled = none) (hd : A.depth ≤ n) (hu : A.units ≤ n) : wpAny M A t Q E s :=
  fun Γ p hΓ => h Γ p ⟨hΓ.1.trans hh, Nat.le_trans hΓ.2.1 hd, fun _ e => (by cases e), fun _ e => (by cases e), Nat.le_trans hΓ.2.2.2.2 hu⟩

/-- a call of a def: entered raw. news: what the caller lets it change -/
theorem ent {w : World} {A : Around} {s : Shared} {base : Heap} {news : List (Addr × Obj)} {mean : ExcName → Option Value} {mg mb : Str → Option Value} {K : Frag}
    {name qual : Str} {params : Arguments} {body : List Stmt} {scope : Scope} {dV kV doc pm cdv ct oc : Value} {an od : Option Addr} {osl : Array (Option Value)} {f : Addr} {args : List Value} {kw : List (Str × Value)}
    {binds : List (Str × Value)} {Q : Value → Shared → Prop} {E : Value → Shared → Prop}
    (X : K.In base) (T : Top tp tlo mean mg mb base) (st : base.StaysIn s.heap)
    (hn : ∀ p ∈ news, s.heap.get? p.1 = some p.2 ∧ base.get? p.1 = none)
    (ho : K.lookup f = some ⟨oc, od, .func (fnOf name qual params body scope dV kV doc pm an cdv ct), osl⟩) (hcd : codeIn K cdv qual = true) (hroom : A.depth < recursionLimit)
    (hbind : BindsTo s (fnOf name qual params body scope dV kV doc pm an cdv ct) ⟨args, kw⟩ binds) (hloc : ∀ y ∈ binds, scope.names.lookup y.1 = some .local)
    (h : ∀ g L' h₁, base.StaysIn g → Ext (news.map (·.1)) s.heap g → g.StaysIn s.heap → (∀ p ∈ news, g.get? p.1 = none) → Fr g L' h₁ (fun y => binds.reverse.lookup y) → News g L' h₁ news → K.In g → Top tp tlo mean mg mb g →
      s.heap.get? L' = none → s.heap.StaysIn h₁ →
      wpAny (model PySem.Challenge.rw_pg0206_01.row.prog w) (A.deeper (envOf qual scope L' f cdv)) (execs body (envOf qual scope L' f cdv))
        (fun fl s' => Q (match fl with | .ret v => v | _ => .none) s') (fun _ _ => False) { s with heap := h₁, toks := s.toks + binds.length })
    (hco : scope.isCoroutine = false := by rfl) (hgen : scope.isGenerator = false := by rfl) (hk : scope.kind = .function := by rfl)
    (hcell : ∀ x ∈ scope.names, x.2 ≠ .cell := by decide) : wpAny (model PySem.Challenge.rw_pg0206_01.row.prog w) A (call (.ref f) args kw) Q E s := by
  refine wpAny_call ?_
  refine codeAny_call_def (fd := fnOf name qual params body scope dV kV doc pm an cdv ct) (body := body) (binds := binds) hroom (st _ _ (X _ _ ho)) rfl (T.nolimit.keeps st) (codeRec_of (X.keeps st) hcd) rfl hbind hcell hloc (fun h₁ hns hk₁ => ?_) hco hgen hk
  have g1 : base.StaysIn (hideAll s.heap (news.map (·.1))) := fun b o e => hideAll_get _ (st b o e) fun q => by
    obtain ⟨p, hp, rfl⟩ := List.mem_map.mp q
    rw [(hn p hp).2] at e; cases e
  have sf : s.heap.get? s.heap.objs.size = none := by
    cases q : s.heap.get? s.heap.objs.size with
    | none => rfl
    | some o => exact absurd (Heap.lt_size q) (Nat.lt_irrefl _)
  refine wpAny_mono (h (hideAll s.heap (news.map (·.1))) s.heap.objs.size h₁ g1 (fun b o e n => hideAll_get _ e n) (fun b o e => of_hideAll _ e) (fun p hp => hideAll_none _ (List.mem_map_of_mem hp))
    ⟨hns, fun b o e => hk₁ b o (of_hideAll _ e), Nat.le_of_eq (hideAll_size _ _)⟩
    (fun p hp => ⟨hk₁ _ _ (hn p hp).1, Nat.ne_of_lt (Heap.lt_size (hn p hp).1), hideAll_none _ (List.mem_map_of_mem hp)⟩) (X.keeps fun b o e => g1 b o e) (T.keeps fun b o e => g1 b o e) sf (fun b o e => hk₁ b o e)) (fun fl s' q => q) fun _ _ y => y.elim

/-- the end of a body: what has changed, as the caller sees it -/
theorem ext_back {W : List Addr} {s g h' : Heap} {L' : Addr} {m : Str → Option Value} (x : Ext W s g) (F : Fr g L' h' m) : Ext W s h' := fun b o e n => F.keep b o (x b o e n)
theorem Runs.toks {M : Model} {Γ : Ctx} {p : Pos} {t : Sem Fin} {fs : List Frame} {s : Shared} {e : End} {s' : Shared} (h : Runs M Γ p t fs s e s') : s.toks ≤ s'.toks := by
  induction h with
  | done => exact Nat.le_refl _
  | raise => exact Nat.le_refl _
  | again _ _ ih => exact ih
  | rule _ ih => exact ih
  | «at» _ ih => exact ih
  | load _ _ ih => exact ih
  | update _ _ ih => exact ih
  | loadIfAlive _ ih => exact ih
  | point _ ih => exact ih
  | alloc _ ih => exact ih
  | fresh _ ih => exact Nat.le_trans (Nat.le_succ _) ih
  | ask _ ih => exact ih
  | choose _ _ ih => exact ih
  | os _ ih => exact ih
  | handled _ ih => exact ih
  | genState _ _ ih => exact ih
  | stack _ ih => exact ih
  | thread _ ih => exact ih
  | newGen _ ih => exact ih
  | call _ _ i1 i2 => exact Nat.le_trans i1 i2
  | callSusp _ ih => exact ih
  | yield => exact Nat.le_refl _
  | resumeFresh _ _ _ _ i1 i2 => exact Nat.le_trans i1 i2
  | resumeSuspended _ _ _ _ i1 i2 => exact Nat.le_trans i1 i2
  | resumeJustStarted _ _ _ ih => exact ih
  | resumeThrowFresh _ _ ih => exact ih
  | resumeRunning _ _ ih => exact ih
  | resumeFinished _ _ ih => exact ih
  | segRet _ _ i1 i2 => exact Nat.le_trans i1 i2
  | segGen _ _ i1 i2 => exact Nat.le_trans i1 i2
  | segSuspOut _ _ ih => exact ih
  | segSuspGen _ _ _ _ i1 i2 => exact Nat.le_trans i1 i2

theorem Wakes.toks {M : Model} {Γ : Ctx} {p : Pos} {g : Nat} {r : Resume} {s : Shared} {res : GenResult} {s' : Shared} (h : Wakes M Γ p g r s res s') : s.toks ≤ s'.toks := by
  unfold Wakes at h
  split at h
  · exact h.elim
  · split at h
    · obtain ⟨e₁, s₁, hr, _, _, rfl⟩ := h; have := Runs.toks hr; exact this
    · obtain ⟨_, rfl⟩ := h; exact Nat.le_refl _
    · obtain ⟨_, rfl⟩ := h; exact Nat.le_refl _
  · obtain ⟨e₁, s₁, hr, _, _, rfl⟩ := h; have := Runs.toks hr; exact this
  · obtain ⟨_, rfl⟩ := h; exact Nat.le_refl _
  · obtain ⟨_, rfl⟩ := h; exact Nat.le_refl _

theorem wp_toks {α : Type} {M : Model} {Γ : Ctx} {Q : α → Pos → Shared → Prop} {E : Value → Pos → Shared → Prop} (n : Nat) : ∀ (t : Sem α) (p : Pos) (s : Shared), n ≤ s.toks →
    Sem.wp M Γ t (fun a p' s' => n ≤ s'.toks → Q a p' s') E p s → Sem.wp M Γ t Q E p s := by
  intro t
  induction t with
  | pure a => intro p s hn h; exact h hn
  | raise e => intro p s hn h; exact h
  | unsupported w => intro p s hn h; exact h.elim
  | finish e => intro p s hn h; exact h.elim
  | rule t k ih => intro p s hn h; exact ih () p s hn h
  | «at» p' k ih => intro p s hn h; exact ih () p' s hn h
  | load a pt k ih => intro p s hn h; obtain ⟨o, ho, h⟩ := h; exact ⟨o, ho, ih o p s hn h⟩
  | update a pt f k ih => intro p s hn h; obtain ⟨ho, h⟩ := h; exact ⟨ho, ih () p _ hn h⟩
  | alloc o k ih => intro p s hn h; exact ih _ p _ hn h
  | loadIfAlive a k ih => intro p s hn h; exact ih _ p s hn h
  | point l k ih => intro p s hn h; exact ih () p s hn h
  | register a k ih => intro p s hn h; exact h.elim
  | fresh k ih => intro p s hn h; exact ih _ p _ (Nat.le_succ_of_le hn) h
  | ask k ih => intro p s hn h; exact ih _ p s hn h
  | choose src m k ih => intro p s hn h; obtain ⟨ho, h⟩ := h; exact ⟨ho, ih _ p _ hn h⟩
  | os q l k ih => intro p s hn h; exact ih _ p _ hn h
  | call c hd g l k ih => intro p s hn h; obtain ⟨r, s', hr, h⟩ := h; exact ⟨r, s', hr, ih r p s' (Nat.le_trans hn (Runs.toks hr)) h⟩
  | handled o k ih => intro p s hn h; exact ih _ p s hn h
  | newGen c k ih => intro p s hn h; exact ih _ p _ hn h
  | genState g k ih => intro p s hn h; obtain ⟨st, hs, h⟩ := h; exact ⟨st, hs, ih _ p s hn h⟩
  | resume g r l k ih => intro p s hn h; obtain ⟨res, s', hr, h⟩ := h; exact ⟨res, s', hr, ih res p s' (Nat.le_trans hn (Wakes.toks hr)) h⟩
  | yield v g l k ih => intro p s hn h; exact h.elim
  | stack k ih => intro p s hn h; exact ih _ p s hn h
  | fork c k ih => intro p s hn h; exact h.elim
  | thread k ih => intro p s hn h; exact ih _ p s hn h
  | await a t d l k ih => intro p s hn h; exact h.elim

/-- no step takes a token back -/
theorem toksle {α : Type} {M : Model} {A : Around} {t : Sem α} {Q : α → Shared → Prop} {E : Value → Shared → Prop} {s : Shared} (h : wpAny M A t (fun a s' => s.toks ≤ s'.toks → Q a s') E s) : wpAny M A t Q E s :=
  fun Γ p hΓ => wp_toks s.toks t p s (Nat.le_refl _) (h Γ p hΓ)
section
variable {prog : Program} {w : World} {A : Around} {E : Value → Shared → Prop} {s : Shared}
theorem item_at {value slice : PySem.Expr} {l : Addr} {its : Array Value} {k : Int} {u : Tok} {Q : Value → Shared → Prop} (hl : s.heap.IsList l its)
    (h0 : 0 ≤ k) (hk : k < its.size) (hz : (its.size : Int) < 2 ^ 63) (h : ∀ v, its[k.toNat]? = some v → Q v s)
    (hs : subscripted slice false (.ref l) (.int k u) = operate [.ref l, .int k u] (getItem (.ref l) (.int k u)) := by with_unfolding_all rfl) (hg : ∀ r, letTemporaryGo value (.ref l) r = pure () := by intro _; with_unfolding_all rfl) :
    wpAny (model prog w) A (subscriptTail value slice (.ref l) (.int k u)) Q E s := by
  have hi : k.toNat < its.size := by (with_reducible exact o139 ‹_› ‹_›)
  exact item_list hl h0 (by (with_reducible exact o304 ‹_› ‹_›)) (Array.getElem?_eq_getElem hi) (h _ (Array.getElem?_eq_getElem hi)) hs hg
end
/-- an item of a list is compared with x: p tells -/
noncomputable def CmpAt (w : World) (its : Array Value) (x : Value) (p : Nat → Bool) : Prop :=
  ∀ i v, its[i]? = some v → ∀ (A : Around) (Q : Value → Shared → Prop) (E : Value → Shared → Prop) (s : Shared), Q (.bool (p i)) s → wpAny (model PySem.Challenge.rw_pg0206_01.row.prog w) A (compareOp .Lt v x) Q E s
theorem CmpAt.use {w : World} {its : Array Value} {x v : Value} {p : Nat → Bool} {i : Nat} {A : Around} {Q : Value → Shared → Prop} {E : Value → Shared → Prop} {s : Shared} (c : CmpAt w its x p) (hv : its[i]? = some v) (h : Q (.bool (p i)) s) :
    wpAny (model PySem.Challenge.rw_pg0206_01.row.prog w) A (compareOp .Lt v x) Q E s := c i v hv A Q E s h
/-- r is a place where p turns from yes to no -/
noncomputable def Cut (p : Nat → Bool) (n r : Nat) : Prop := r ≤ n ∧ (r = 0 ∨ p (r - 1) = true) ∧ (r = n ∨ p r = false)
/-- what follows a statement, in few words -/
@[reducible] noncomputable def SeqQ (M : Model) (A : Around) (rest : List Stmt) (env : Env) (Q : Flow → Shared → Prop) (E : Value → Shared → Prop) (f : Flow) (s' : Shared) : Prop :=
  match f with | .next => wpAny M A (execs rest env) Q E s' | f => Q f s'
theorem execs_seq {M : Model} {A : Around} {env : Env} {E : Value → Shared → Prop} {s : Shared} {st : Stmt} {rest : List Stmt} {Q : Flow → Shared → Prop} (h : wpAny M A (exec st env) (SeqQ M A rest env Q E) E s) : wpAny M A (execs (st :: rest) env) Q E s := wpAny_execs_cons h
/-- a place where the walk is to stop -/
structure Stop (P : Prop) : Prop where
  out : P
theorem Stop.to {P : Prop} (h : Stop P) : P := h.out
theorem fdiv2 (a : Int) : a.fdiv 2 = a / 2 := Int.fdiv_eq_ediv_of_nonneg _ (by decide)
section
variable {M : Model} {A : Around} {E : Value → Shared → Prop} {s : Shared} {name : Str} {scope : Scope} {L a : Addr} {cd : Value} {h₀ : Heap} {m : Str → Option Value} {news : List (Addr × Obj)}
theorem stG {x : Str} {v : Value} {Q : Unit → Shared → Prop} (F : Fr h₀ L s.heap m) (N : News h₀ L s.heap news)
    (h : ∀ h' tk, Fr h₀ L h' (fun y => if y = x then some v else m y) → News h₀ L h' news → s.toks < tk → Q () { s with heap := h', toks := tk })
    (hk : scope.kind = .function := by rfl) (hl : (envOf name scope L a cd).kindOf x = some .local := by rfl) :
    wpAny M A (storeName (envOf name scope L a cd) x v) Q E s := stN F N (fun h' F' N' => h h' _ F' N' (Nat.lt_succ_self _)) hk hl
end
section
variable {prog : Program} {w : World} {A : Around} {E : Value → Shared → Prop} {s : Shared} {a b : Int} {t u : Tok} {Q : Value → Shared → Prop}
theorem div_lit (hb : 0 < b) (hb' : b < 1000000) (h : Q (.int (a / b) s.toks) { s with toks := s.toks + 1 }) : wpAny (model prog w) A (binaryOp .FloorDiv (.int a t) (.int b u)) Q E s :=
  floordiv_int (by omega) (by rw [Int.fdiv_eq_ediv_of_nonneg _ (Int.le_of_lt hb)]; exact h) (Or.inl (PyProof.noPylong_small (by (with_reducible exact o476 ‹_› ‹_›))))
theorem mod_lit (hb : 0 < b) (hb' : b < 1000000) (h : Q (.int (a % b) s.toks) { s with toks := s.toks + 1 }) : wpAny (model prog w) A (binaryOp .Mod (.int a t) (.int b u)) Q E s :=
  mod_int (by omega) (by rw [Int.fmod_eq_emod_of_nonneg _ (Int.le_of_lt hb)]; exact h)
end
section
variable {M : Model} {A : Around} {E : Value → Shared → Prop} {s : Shared} {h₀ : Heap} {L : Addr} {m mg mb : Str → Option Value} {news : List (Addr × Obj)} {env : Env} {x : Str} {pos : Pos} {v : Value} {K : Frag} {p : Program} {loose : List Str}
theorem stE {Q : Unit → Shared → Prop} (F : Fr h₀ L s.heap m) (N : News h₀ L s.heap news)
    (h : ∀ h' tk, Fr h₀ L h' (fun y => if y = x then some v else m y) → News h₀ L h' news → s.toks < tk → Q () { s with heap := h', toks := tk })
    (hL : env.locals = L := by rfl) (hl : env.kindOf x = some .local := by rfl) (hp : (env.scope.kind == .class || (env.scope.kind == .module && env.locals != env.globals)) = false := by rfl) :
    wpAny M A (storeName env x v) Q E s := by
  subst hL
  exact wpAny_storeName_local hl F.ns (fun h' hn hs => h h' _ (F.set hn hs) (N.set hs) (Nat.lt_succ_self _)) hp
theorem nameE_L {Q : Value → Shared → Prop} (F : Fr h₀ L s.heap m) (hv : m x = some v) (h : Q v s) (hL : env.locals = L := by rfl) (hk : env.scope.kind = .function := by rfl) (hx : env.kindOf x = some .local := by rfl) (hd : (x == ("__debug__" : Str)) = false := by decide) :
    wpAny M A (eval (.Name x pos) env) Q E s := by subst hL; exact wpAny_Name (wpAny_loadName_local hk hx F.ns hv h) hd
theorem nameE_K {Q : Value → Shared → Prop} (F : Fr h₀ L s.heap m) (X : K.In h₀) (T : TopRead p loose mg mb h₀) (e : nsIn K mainGlobals x = some (some v)) (h : Q v s) (hG : env.globals = mainGlobals := by rfl)
    (hk : env.scope.kind = .function := by rfl) (hx : env.kindOf x = some .globalImplicit := by rfl) (hd : (x == ("__debug__" : Str)) = false := by decide) : wpAny M A (eval (.Name x pos) env) Q E s :=
  PySem.Calls.Name_function_global hk hx (PySem.Calls.loadGlobal_global (by rw [hG]; exact T.g.keeps F.keep) (mg_of X T.g e) h) hd
theorem nameE_B {Q : Value → Shared → Prop} (F : Fr h₀ L s.heap m) (X : K.In h₀) (T : TopRead p loose mg mb h₀) (e : nsIn K mainGlobals x = some none) (hv : bootBuiltins x = some v) (hn : x ≠ "__name__") (h : Q v s) (hG : env.globals = mainGlobals := by rfl) (hB : env.builtins = builtinsNs := by rfl)
    (hk : env.scope.kind = .function := by rfl) (hx : env.kindOf x = some .globalImplicit := by rfl) (hd : (x == ("__debug__" : Str)) = false := by decide) : wpAny M A (eval (.Name x pos) env) Q E s :=
  PySem.Calls.Name_function_global hk hx (PySem.Calls.loadGlobal_builtin (by rw [hG]; exact T.g.keeps F.keep) (mg_none_of X T.g e) (by rw [hB]; exact T.b.keeps F.keep) ((T.builtins x hn).trans hv) h) hd
/-- a cell at c holds v -/
noncomputable def CellAt (h : Heap) (c : Addr) (v : Value) : Prop := ∃ o, h.get? c = some o ∧ o.data = .cell (some v)
theorem CellAt.keep {h : Heap} {c : Addr} (k : CellAt h₀ c v) (F : Fr h₀ L h m) : CellAt h c v := let ⟨o, ho, hd⟩ := k; ⟨o, F.keep _ _ ho, hd⟩
theorem nameE_C {c : Addr} {Q : Value → Shared → Prop} (hm : CellAt s.heap c v) (h : Q v s) (hc : env.cells.lookup x = some c) (hk : env.scope.kind = .function := by rfl) (hx : env.kindOf x = some .cell := by rfl) (hb : (x == ("__debug__" : Str)) = false := by decide) :
    wpAny M A (eval (.Name x pos) env) Q E s := wpAny_Name (wpAny_loadName_cell hk hx hc hm h) hb
end
noncomputable def maxF (x y z : UInt64) : UInt64 := if (Float64.cmp x y == some .lt) = true then (if (Float64.cmp y z == some .lt) = true then z else y) else (if (Float64.cmp x z == some .lt) = true then z else x)
noncomputable def minF (x y z : UInt64) : UInt64 := if (Float64.cmp y x == some .lt) = true then (if (Float64.cmp z y == some .lt) = true then z else y) else (if (Float64.cmp z x == some .lt) = true then z else x)
theorem ltV_ff {a b : UInt64} {t u : Nat} : PySem.Flt.ltV (.float a t) (.float b u) = (Float64.cmp a b == some .lt) := rfl
theorem max_three_num {prog : Program} {w : World} {A : Around} {E : Value → Shared → Prop} {s : Shared} {Q : Value → Shared → Prop} {x y z : UInt64} {t u r : Nat} (hh : A.handled = none)
    (h : ∀ (h' : Heap) (tk tk' : Nat), (∀ c o, s.heap.get? c = some o → h'.get? c = some o) → (tk' = t ∨ tk' = u ∨ tk' = r) → Q (.float (maxF x y z) tk') { s with heap := h', toks := tk }) :
    wpAny (model prog w) A (call (.builtin "max") [.float x t, .float y u, .float z r]) Q E s := by
  have hT : (s.heap.push { cls := .type "tuple", data := .seq #[.float x t, .float y u, .float z r] }).IsTuple s.heap.objs.size #[.float x t, .float y u, .float z r] := ⟨_, Heap.get?_push_size _ rfl, rfl, 0, rfl⟩
  refine call_max_three (wpAny_pyIter_tuple hT ?_)
  have hsz : (s.heap.push { cls := .type "tuple", data := .seq #[.float x t, .float y u, .float z r] }).objs.size = s.heap.objs.size + 1 := Heap.size_push ..
  refine ⟨_, [_, s.heap.objs.size], [_], _, _, _, _, rfl, Walks.tuple (A := A.in1) hh _ s.heap.objs.size (by rw [hsz]; exact Nat.ne_of_lt (Nat.lt_succ_self _)) #[.float x t, .float y u, .float z r],
    ⟨⟨_, Heap.get?_push_size _ rfl, rfl, rfl⟩, hT.push _⟩, fun c hc => ?_, by simp, PySem.Flt.cmpOf_gt #[.float x t, .float y u, .float z r] (by simp only [Array.mem_def, List.mem_cons, List.not_mem_nil, or_false]; rintro v (rfl | rfl | rfl) <;> exact .float _ _), fun v h' tk hP hk => ?_⟩
  · show c < ((s.heap.push _).push _).objs.size
    rw [Heap.size_push, hsz]
    rcases List.mem_cons.mp hc with rfl | hc
    · rw [hsz]; exact Nat.lt_succ_self _
    · rcases List.mem_cons.mp hc with rfl | hc
      · exact Nat.lt_succ_of_lt (Nat.lt_succ_self _)
      · cases hc
  · have hold : ∀ c o, s.heap.get? c = some o → h'.get? c = some o := fun c o e => by
      refine hk c o (fun hm => ?_) (Heap.get?_push_of_some _ (Heap.get?_push_of_some _ e))
      rcases List.mem_cons.mp hm with e1 | hm
      · have := Heap.lt_size e; rw [e1, hsz] at this; exact Nat.lt_irrefl _ (Nat.lt_of_succ_lt this)
      · cases hm
    have hv : ∃ tk' : Nat, v = .float (maxF x y z) tk' ∧ (tk' = t ∨ tk' = u ∨ tk' = r) := by
      unfold maxF
      cases h1 : (Float64.cmp x y == some .lt) <;> cases h2 : (Float64.cmp x z == some .lt) <;> cases h3 : (Float64.cmp y z == some .lt) <;> simp [argBest, ltV_ff, h1, h2, h3] at hP ⊢ <;> (subst hP; exact ⟨_, rfl, by simp⟩)
    obtain ⟨tk', rfl, e⟩ := hv
    exact h h' tk tk' hold e
theorem min_three_num {prog : Program} {w : World} {A : Around} {E : Value → Shared → Prop} {s : Shared} {Q : Value → Shared → Prop} {x y z : UInt64} {t u r : Nat} (hh : A.handled = none)
    (h : ∀ (h' : Heap) (tk tk' : Nat), (∀ c o, s.heap.get? c = some o → h'.get? c = some o) → (tk' = t ∨ tk' = u ∨ tk' = r) → Q (.float (minF x y z) tk') { s with heap := h', toks := tk }) :
    wpAny (model prog w) A (call (.builtin "min") [.float x t, .float y u, .float z r]) Q E s := by
  have hT : (s.heap.push { cls := .type "tuple", data := .seq #[.float x t, .float y u, .float z r] }).IsTuple s.heap.objs.size #[.float x t, .float y u, .float z r] := ⟨_, Heap.get?_push_size _ rfl, rfl, 0, rfl⟩
  refine call_min_three (wpAny_pyIter_tuple hT ?_)
  have hsz : (s.heap.push { cls := .type "tuple", data := .seq #[.float x t, .float y u, .float z r] }).objs.size = s.heap.objs.size + 1 := Heap.size_push ..
  refine ⟨_, [_, s.heap.objs.size], [_], _, _, _, _, rfl, Walks.tuple (A := A.in1) hh _ s.heap.objs.size (by rw [hsz]; exact Nat.ne_of_lt (Nat.lt_succ_self _)) #[.float x t, .float y u, .float z r],
    ⟨⟨_, Heap.get?_push_size _ rfl, rfl, rfl⟩, hT.push _⟩, fun c hc => ?_, by simp, PySem.Flt.cmpOf_lt #[.float x t, .float y u, .float z r] (by simp only [Array.mem_def, List.mem_cons, List.not_mem_nil, or_false]; rintro v (rfl | rfl | rfl) <;> exact .float _ _), fun v h' tk hP hk => ?_⟩
  · show c < ((s.heap.push _).push _).objs.size
    rw [Heap.size_push, hsz]
    rcases List.mem_cons.mp hc with rfl | hc
    · rw [hsz]; exact Nat.lt_succ_self _
    · rcases List.mem_cons.mp hc with rfl | hc
      · exact Nat.lt_succ_of_lt (Nat.lt_succ_self _)
      · cases hc
  · have hold : ∀ c o, s.heap.get? c = some o → h'.get? c = some o := fun c o e => by
      refine hk c o (fun hm => ?_) (Heap.get?_push_of_some _ (Heap.get?_push_of_some _ e))
      rcases List.mem_cons.mp hm with e1 | hm
      · have := Heap.lt_size e; rw [e1, hsz] at this; exact Nat.lt_irrefl _ (Nat.lt_of_succ_lt this)
      · cases hm
    have hv : ∃ tk' : Nat, v = .float (minF x y z) tk' ∧ (tk' = t ∨ tk' = u ∨ tk' = r) := by
      unfold minF
      cases h1 : (Float64.cmp y x == some .lt) <;> cases h2 : (Float64.cmp z x == some .lt) <;> cases h3 : (Float64.cmp z y == some .lt) <;> simp [argBest, ltV_ff, h1, h2, h3] at hP ⊢ <;> (subst hP; exact ⟨_, rfl, by simp⟩)
    obtain ⟨tk', rfl, e⟩ := hv
    exact h h' tk tk' hold e
theorem max3 {prog : Program} {w : World} {A : Around} {E : Value → Shared → Prop} {s : Shared} {Q : Value → Shared → Prop} {x y z : UInt64} {t u r : Nat} {h₀ : Heap} {L : Addr} {m : Str → Option Value} {news : List (Addr × Obj)} (F : Fr h₀ L s.heap m) (N : News h₀ L s.heap news)
    (h : ∀ (h' : Heap) (tk tk' : Nat), Fr h₀ L h' m → News h₀ L h' news → (tk' = t ∨ tk' = u ∨ tk' = r) → s.toks ≤ tk → Q (.float (maxF x y z) tk') { s with heap := h', toks := tk }) (hh : A.handled = none) :
    wpAny (model prog w) A (call (.builtin "max") [.float x t, .float y u, .float z r]) Q E s := toksle (max_three_num hh fun h' tk tk' k e q => h h' tk tk' (F.grownK k) (N.grown k) e q)
theorem min3 {prog : Program} {w : World} {A : Around} {E : Value → Shared → Prop} {s : Shared} {Q : Value → Shared → Prop} {x y z : UInt64} {t u r : Nat} {h₀ : Heap} {L : Addr} {m : Str → Option Value} {news : List (Addr × Obj)} (F : Fr h₀ L s.heap m) (N : News h₀ L s.heap news)
    (h : ∀ (h' : Heap) (tk tk' : Nat), Fr h₀ L h' m → News h₀ L h' news → (tk' = t ∨ tk' = u ∨ tk' = r) → s.toks ≤ tk → Q (.float (minF x y z) tk') { s with heap := h', toks := tk }) (hh : A.handled = none) :
    wpAny (model prog w) A (call (.builtin "min") [.float x t, .float y u, .float z r]) Q E s := toksle (min_three_num hh fun h' tk tk' k e q => h h' tk tk' (F.grownK k) (N.grown k) e q)
local macro_rules | `(tactic| walk_at $s:str) => `(tactic| k_extra $s)
local macro_rules | `(tactic| walk_at "pyIter ref") => `(tactic| (k_here; refine Stop.to ?_))
section
theorem lay_Bl_0 : True := by
  w_top off
  k_with_none
  k_with "eval Name" => (k_here; k_dflt (refine' nameE_C ?q9k1 ?_ ?q9k2 ?q9b ?q9c ?q9d; (case q9b => rfl); (case q9c => rfl); (case q9d => decide); (case q9k2 => rfl); (case q9k1 => first | with_reducible assumption | exact CellAt.keep (by with_reducible assumption) (by with_reducible assumption)); k_whole))
  k_with "eval Name" => (k_here; k_dflt (refine' nameE_B ?q9F ?q9X ?q9T ?q9e ?q9v ?q9n ?_ ?q9a ?q9a2 ?q9b ?q9c ?q9d; (case q9b => rfl); (case q9c => rfl); (case q9F => with_reducible assumption); (case q9X => with_reducible assumption); (case q9T => k_asm); (case q9a => rfl); (case q9a2 => rfl); (case q9d => decide); (case q9e => k_is); (case q9v => boot_fast); (case q9n => decide); k_whole))
  k_with "eval Name" => (k_here; k_dflt (refine' nameE_K ?q9F ?q9X ?q9T ?q9e ?_ ?q9a ?q9b ?q9c ?q9d; (case q9b => rfl); (case q9c => rfl); (case q9F => with_reducible assumption); (case q9X => with_reducible assumption); (case q9T => k_asm); (case q9a => rfl); (case q9d => decide); (case q9e => k_is); k_whole))
  k_with "eval Name" => (k_here; k_dflt (refine' nameE_L ?q9k1 ?q9k2 ?_ ?q9a ?q9b ?q9c ?q9d; (case q9c => rfl); (case q9k1 => with_reducible assumption); (case q9k2 => first | exact rfl | assumption); (case q9a => rfl); (case q9b => rfl); (case q9d => decide); k_whole))
  k_with "call builtin:len" => (k_here; (with_reducible show wpAny _ _ (call (Value.builtin "len") [Value.ref _]) _ _ _); k_dflt (refine' len_list ?q9k1 ?q9k2 ?_; (case q9k1 => first | with_reducible assumption | exact Fr.lst (by with_reducible assumption) (by with_reducible assumption) | exact News.isList (by with_reducible assumption) (by k_mem)); (case q9k2 => first | with_reducible assumption | omega); k_whole))
  k_with "subscriptTail" => (k_here; (with_reducible show wpAny _ _ (subscriptTail _ _ (Value.ref _) (Value.int _ _)) _ _ _); k_dflt (refine' item_at ?q9k1 ?q9k2 ?q9k3 ?q9k4 ?_; (case q9k1 => first | with_reducible assumption | exact Fr.lst (by with_reducible assumption) (by with_reducible assumption) | exact News.isList (by with_reducible assumption) (by k_mem)); (case q9k2 => omega); (case q9k3 => omega); (case q9k4 => first | with_reducible assumption | omega); k_whole); intro _ _)
  k_with "compareOp Lt" => (k_here; k_dflt (refine' CmpAt.use ?q9k1 ?q9k2 ?_; (case q9k1 => with_reducible assumption); (case q9k2 => assumption); k_whole))
  k_with "exec While Compare cons nil" => (k_here; refine Stop.to ?_)
  k_with "storeName" => (k_here; k_dflt (refine' stE ?q9F ?q9N ?_ ?q9a ?q9b ?q9c; (case q9b => rfl); (case q9F => with_reducible assumption); (case q9N => with_reducible assumption); (case q9a => rfl); (case q9c => rfl); k_whole); intro h' tk' F' N' q'; (try dsimp only at F' q'); (try dsimp only); revert h' tk' F' N' q'; intro _ _ _ _ _; (try k_sweep))
  k_with "binaryOp FloorDiv int int" => (k_here; refine' div_lit ?q9a ?q9b ?_; (case q9a => decide); (case q9b => decide); k_whole)
  k_with "binaryOp Mod int int" => (k_here; refine' mod_lit ?q9a ?q9b ?_; (case q9a => decide); (case q9b => decide); k_whole)
  k_with "call builtin:max" => (k_here; refine' max3 ?q9a ?q9b ?_ ?q9c; (case q9a => with_reducible assumption); (case q9b => with_reducible assumption); (case q9c => rfl); k_whole; intro h' tk' tk2' F' N' e' q'; (try dsimp only at q'); (try dsimp only); revert h' tk' tk2' F' N' e' q'; intro _ _ _ _ _ _ _; (try k_sweep))
  k_with "call builtin:min" => (k_here; refine' min3 ?q9a ?q9b ?_ ?q9c; (case q9a => with_reducible assumption); (case q9b => with_reducible assumption); (case q9c => rfl); k_whole; intro h' tk' tk2' F' N' e' q'; (try dsimp only at q'); (try dsimp only); revert h' tk' tk2' F' N' e' q'; intro _ _ _ _ _ _ _; (try k_sweep))
  k_with "execs cons" => (k_here; (with_reducible refine execs_seq ?_))
  k_with "execs nil" => (k_here; (with_reducible refine wpAny_execs_nil ?_); (try dsimp only))
  k_with "call ref" => (k_here; refine Stop.to ?_)
  k_with "exec For Name Call cons nil" => (k_here; refine Stop.to ?_)
  k_with "exec Assign cons ListComp cons" => (k_here; refine Stop.to ?_)
  k_with "exec Assign cons ListComp" => (k_here; refine Stop.to ?_)
  k_with "eval ListComp" => (k_here; refine Stop.to ?_)
  k_with "subscriptTail List Slice ref ref" => (k_here; k_dflt (refine kba_turn (value' := PySem.Expr.Name (PySem.Str.ofString "_") ⟨0, 0, 0, 0⟩) (fun _ => rfl) ?_))
  k_with "subscriptTail Name Slice ref ref" => (k_here; k_dflt (refine' kmk_slice ?q9F ?q9N ?q9l ?q9p ?q9q ?_ ?q9s ?q9t ?q9z; (case q9F => with_reducible assumption); (case q9N => with_reducible assumption); (case q9l => first | with_reducible assumption | exact News.isList (by with_reducible assumption) (by k_mem) | exact Fr.lst (by with_reducible assumption) (by with_reducible assumption)); (case q9p => first | exact IsPart.none | exact IsPart.int _ _); (case q9q => first | exact IsPart.none | exact IsPart.int _ _); (case q9s => with_unfolding_all rfl); (case q9t => (intro _; with_unfolding_all rfl)); (case q9z => first | with_reducible assumption | (rw [sizeLine_eq]; simp only [List.size_toArray, List.length_cons, List.length_nil]; omega) | (rw [sizeLine_eq]; omega))); intro D' h' F' N' l1; (try dsimp only); revert D' h' F' N' l1; intro _ _ _ _ _; (try k_sweep))
  k_with "binaryOp Add ref ref" => (k_here; k_dflt (refine' add_arrays ?q9F ?q9N ?q9l ?q9b ?_ ?q9z; (case q9F => with_reducible assumption); (case q9N => with_reducible assumption); (case q9l => first | with_reducible assumption | exact News.isList (by with_reducible assumption) (by k_mem) | exact Fr.lst (by with_reducible assumption) (by with_reducible assumption)); (case q9b => first | with_reducible assumption | exact News.isList (by with_reducible assumption) (by k_mem) | exact Fr.lst (by with_reducible assumption) (by with_reducible assumption)); (case q9z => first | with_reducible assumption | (rw [sizeLine_eq]; omega))); intro h' F' N'; (try dsimp only); revert h' F' N'; intro _ _ _; (try k_sweep))
  k_with "mem" => (first | exact List.Mem.head _ | with_reducible assumption | exact List.not_mem_nil | exact nm1 (by assumption) | exact nm1 (Ne.symm (by assumption)) | exact nm2 (by assumption) (by assumption) | (refine' List.mem_append_left _ ?_; k_extra "mem") | (refine' List.mem_append_right _ ?_; k_extra "mem") | (refine' List.Mem.tail _ ?_; k_extra "mem"))
  trivial
theorem bl {w : World} {base : Heap} {mean : ExcName → Option Value} {mg mb : Str → Option Value} (X : (Mine.hd.heap_39 w.params).In base)
    (T : Top tp tlo mean mg mb base) {s : Shared} (st : base.StaysIn s.heap) {a : Addr} {its : Array Value}
    (hl : s.heap.IsList a its) (hz : (its.size : Int) < 2 ^ 60) {x : Value} {p : Nat → Bool} (hc : CmpAt w its x p) {Q E} (ret : ∀ h' tk tk' r, Ext [] s.heap h' → Cut p its.size r → Q (.int r tk) { s with heap := h', toks := tk' }) :
    wpAny (model PySem.Challenge.rw_pg0206_01.row.prog w) (Aw 900) (call (.ref 41) [.ref a, x]) Q E s := by
  revert X; k_fill; intro X
  refine' ent (news := []) X T st ?k1 ?k2 ?k3 ?k4 ?k5 ?k6 ?_ ?k7 ?k8 ?k9 ?k10
  case k1 => intro p hp; cases hp
  case k2 => k_is
  case k3 => k_is
  case k4 => decide
  case k5 => exact kp_binds (Frag.In.keeps X st) (fun _ => rfl)
  case k6 => exact locs rfl
  case k7 => rfl
  case k8 => rfl
  case k9 => rfl
  case k10 => decide
  intro g L h₁ b1 x1 b2 z1 F N X T l1 b3
  try dsimp only
  have hl' : g.IsList a its := by
    obtain ⟨o, ho, r⟩ := hl
    exact ⟨o, x1 _ _ ho (by first | k_extra "mem" | simp), r⟩
  have hz' : (its.size : Int) < 2 ^ 63 := by (with_reducible exact o74 ‹_›)
  k_steps
  refine Stop.mk ?_
  refine While_inv (fun n m news => news = [] ∧ ∃ lo hi tl th : Nat, m "a" = some (.ref a) ∧ m "x" = some x ∧ m "lo" = some (.int lo tl) ∧ m "hi" = some (.int hi th) ∧ m "key" = some .none ∧ lo ≤ hi ∧ hi ≤ its.size ∧
    (lo = 0 ∨ p (lo - 1) = true) ∧ (hi = its.size ∨ p hi = false) ∧ n = hi - lo) (n₀ := its.size) (by assumption) (by assumption) ?_ ?_
  · exact ⟨rfl, 0, its.size, _, _, rfl, rfl, rfl, rfl, rfl, by (with_reducible exact o72), by (with_reducible exact o85), .inl rfl, .inl rfl, by (with_reducible exact o235)⟩
  · intro n m₁ news₁ h₂ tk₁ F₁ N₁ hJ
    refine and2 hJ ?_
    clear hJ
    intro e0X hX
    refine ex4 hX ?_
    clear hX
    intro lo hi tl th hX
    refine and10 hX ?_
    clear hX
    intro ma mx ml mh mk q1 q2 q3 q4 q5
    subst e0X
    k_steps
    · rename_i a1 h3 tk3 qq v hv a2 h5 tk5 F5 N5 qq2
      have hm : (((lo : Int) + hi) / 2).toNat = (lo + hi) / 2 := by (with_reducible exact o100)
      rw [hm] at a2
      refine WhileStep.intro (n' := hi - ((lo + hi) / 2 + 1)) F5 N5 (by (with_reducible exact o160 ‹_› ‹_›)) ⟨rfl, (lo + hi) / 2 + 1, hi, _, _, ma, mx, congrArg (fun z => some (Value.int z _)) (by (with_reducible exact o156)), mh, mk, by (with_reducible exact o1 ‹_›), by omega, .inr ?_, q4, rfl⟩
      · rw [Nat.add_sub_cancel]; exact a2
    · rename_i a1 h3 tk3 qq v hv a2 h5 tk5 F5 N5 qq2
      have hm : (((lo : Int) + hi) / 2).toNat = (lo + hi) / 2 := by (with_reducible exact o100)
      rw [hm] at a2
      refine WhileStep.intro (n' := (lo + hi) / 2 - lo) F5 N5 (by (with_reducible exact o170 ‹_› ‹_›)) ⟨rfl, lo, (lo + hi) / 2, _, _, ma, mx, ml, congrArg (fun z => some (Value.int z _)) (by (with_reducible exact o338)), mk, by (with_reducible exact o121 ‹_›), by (with_reducible exact o394 ‹_› ‹_›), q3, .inr ?_, rfl⟩
      · simpa using a2
    · rename_i a1
      have e : lo = hi := by (with_reducible exact o200 ‹_› ‹_›)
      subst e
      exact ret _ _ _ lo (ext_back x1 (by with_reducible assumption)) ⟨q2, q3, q4⟩
end
noncomputable def hsvI (h : UInt64) : Int := Flt.toInt Float64.truncOf (Float64.mul h 4618441417868443648)
noncomputable def hsvF (h s v : UInt64) : UInt64 × UInt64 × UInt64 :=
  if (Float64.cmp s 0 == some Ordering.eq) = true then (v, v, v) else
  let i := hsvI h
  let f := Float64.sub (Float64.mul h 4618441417868443648) (Float64.ofInt i)
  let p := Float64.mul v (Float64.sub 4607182418800017408 s)
  let q := Float64.mul v (Float64.sub 4607182418800017408 (Float64.mul s f))
  let t := Float64.mul v (Float64.sub 4607182418800017408 (Float64.mul s (Float64.sub 4607182418800017408 f)))
  if i % 6 = 0 then (v, t, p) else if i % 6 = 1 then (q, v, p) else if i % 6 = 2 then (p, v, t) else if i % 6 = 3 then (p, q, v) else if i % 6 = 4 then (t, p, v) else (v, p, q)
/-- the hue that both hsv and hls reckon -/
noncomputable def hueF (r g b : UInt64) : UInt64 :=
  let mx := maxF r g b
  let d := Float64.sub mx (minF r g b)
  let rc := Float64.div (Float64.sub mx r) d
  let gc := Float64.div (Float64.sub mx g) d
  let bc := Float64.div (Float64.sub mx b) d
  (Float64.divmod (Float64.div (if (Float64.cmp r mx == some Ordering.eq) = true then Float64.sub bc gc
    else if (Float64.cmp g mx == some Ordering.eq) = true then Float64.sub (Float64.add 4611686018427387904 rc) bc
    else Float64.sub (Float64.add 4616189618054758400 gc) rc) 4618441417868443648) 4607182418800017408).snd
noncomputable def lightF (r g b : UInt64) : UInt64 := Float64.div (Float64.add (maxF r g b) (minF r g b)) 4611686018427387904
/-- a colour that is no grey, and nought is divided by nowhere -/
noncomputable def okC (r g b : UInt64) : Bool :=
  !(Float64.cmp (minF r g b) (maxF r g b) == some Ordering.eq) && !Float64.isZero (maxF r g b) && !Float64.isZero (Float64.sub (maxF r g b) (minF r g b)) &&
  !Float64.isZero (Float64.add (maxF r g b) (minF r g b)) && !Float64.isZero (Float64.sub (Float64.sub 4611686018427387904 (maxF r g b)) (minF r g b))
noncomputable def okH (h s : UInt64) : Bool := !(Float64.cmp s 0 == some Ordering.eq) && !Float64.isNaN (Float64.mul h 4618441417868443648) && !Float64.isInf (Float64.mul h 4618441417868443648) && decide ((hsvI h).natAbs < 1000)
noncomputable abbrev tupO (vs : Array Value) : Obj := { cls := .type "tuple", data := .seq vs }
theorem fresh_back {W : List Addr} {s g h' : Heap} {L' a : Addr} {news : List (Addr × Obj)} {o : Obj} (x : Ext W s g) (N : News g L' h' news) (hm : (a, o) ∈ news) (hW : a ∉ W) : s.get? a = none := by
  cases q : s.get? a with
  | none => rfl
  | some o' => have := x a o' q hW; rw [N.fresh hm] at this; cases this
/-- the magnitude that tells m / 1024 -/
noncomputable def T0 (m : Nat) : Nat := if m = 0 then 0 else (1012 + m.log2) * 2 ^ 52 + m * 2 ^ (52 - m.log2)
/-- the float z / 1024 -/
noncomputable def Dz (z : Int) : UInt64 := Float64.pack (decide (z < 0)) (T0 z.natAbs)
theorem T0_spec {m : Nat} (h : m < 2 ^ 40) : Float64.V (T0 m) = m * 2 ^ 1064 ∧ T0 m < Float64.infMag := by
  unfold T0
  by_cases h0 : m = 0
  · subst h0
    rw [if_pos rfl]
    exact ⟨by rw [Float64.V_zero, Nat.zero_mul], by decide⟩
  · rw [if_neg h0]
    have hl : m.log2 < 40 := (Nat.log2_lt h0).mpr h
    have h1 : m < 2 ^ (m.log2 + 1) := Nat.lt_log2_self
    have h2 : 2 ^ m.log2 ≤ m := Nat.log2_self_le h0
    generalize m.log2 = l at *
    have e1 : 2 ^ (l + 1) * 2 ^ (52 - l) = 2 ^ 53 := by rw [← Nat.pow_add]; congr 1; (with_reducible exact o201 ‹_›)
    have e2 : 2 ^ l * 2 ^ (52 - l) = 2 ^ 52 := by rw [← Nat.pow_add]; congr 1; (with_reducible exact o227 ‹_›)
    have q1 : m * 2 ^ (52 - l) ≤ 2 ^ 53 := by rw [← e1]; exact Nat.mul_le_mul_right _ (Nat.le_of_lt h1)
    have q2 : 2 ^ 52 ≤ m * 2 ^ (52 - l) := by rw [← e2]; exact Nat.mul_le_mul_right _ h2
    refine ⟨?_, ?_⟩
    · rw [Float64.V_at q1 (.inl q2), Nat.mul_assoc, ← Nat.pow_add]
      congr 2
      (with_reducible exact o218 ‹_›)
    · have : Float64.infMag = 2047 * 2 ^ 52 := rfl
      rw [this]
      (with_reducible exact o199 ‹_› ‹_›)
theorem dist_self (a : Nat) : Float64.dist a a = 0 := by unfold Float64.dist; (with_reducible exact o426)
theorem dist_zero {a b : Nat} (h : Float64.dist a b = 0) : a = b := by unfold Float64.dist at h; (with_reducible exact o41 ‹_›)
theorem V_inj {a b : Nat} (h : Float64.V a = Float64.V b) : a = b := by
  rcases Nat.lt_trichotomy a b with q | q | q
  · have := Float64.V_lt q; (with_reducible exact (o22 ‹_› ‹_›).elim)
  · exact q
  · have := Float64.V_lt q; (with_reducible exact (o460 ‹_› ‹_›).elim)
theorem right_exact {r : UInt64} {ng : Bool} {W D m : Nat} (h : Float64.Right r ng W D) (hD : 0 < D) (hm : m < 2 ^ 40) (hW : W = D * (m * 2 ^ 1064)) : r = Float64.pack ng (T0 m) := by
  obtain ⟨v1, v2⟩ := T0_spec hm
  obtain ⟨t, rfl, h1, h2, h3⟩ := h
  congr 1
  have ht : t < Float64.infMag := by
    refine Nat.lt_of_le_of_ne h1 fun e => ?_
    have h4 := h2.mp e
    rw [hW] at h4
    have h5 : D * (2 * (m * 2 ^ 1064)) < D * ((2 ^ 54 - 1) * 2 ^ 2045) := by
      refine Nat.mul_lt_mul_of_pos_left ?_ hD
      calc 2 * (m * 2 ^ 1064) = (2 * m) * 2 ^ 1064 := by rw [Nat.mul_assoc]
        _ < (2 ^ 54 - 1) * 2 ^ 1064 := Nat.mul_lt_mul_of_pos_right (by (with_reducible exact o315 ‹_›)) (Nat.two_pow_pos _)
        _ ≤ _ := Nat.mul_le_mul_left _ (Nat.pow_le_pow_right (by decide) (by decide))
    have e5 : D * (2 * (m * 2 ^ 1064)) = 2 * (D * (m * 2 ^ 1064)) := by ac_rfl
    rw [e5] at h5
    exact Nat.lt_irrefl _ (Nat.lt_of_lt_of_le h5 h4)
  have h4 := (h3 ht (T0 m)).1
  rw [v1, ← hW, dist_self] at h4
  have h5 := dist_zero (Nat.le_zero.mp h4)
  rw [hW] at h5
  refine (V_inj ?_).symm
  rw [v1]
  exact Nat.eq_of_mul_eq_mul_left hD h5
theorem Dz_dec {z : Int} (h : z.natAbs < 2 ^ 40) : ∃ m e, Float64.decode (Dz z) = .fin (decide (z < 0)) m e ∧ m * 2 ^ (e + 1074).toNat = z.natAbs * 2 ^ 1064 := by
  obtain ⟨v1, v2⟩ := T0_spec h
  obtain ⟨m, e, h1, h2⟩ := Float64.decode_pack (decide (z < 0)) v2
  exact ⟨m, e, h1, by rw [h2, v1]⟩
theorem sgn_abs (z : Int) : Float64.sgn (decide (z < 0)) z.natAbs = z := by
  unfold Float64.sgn
  by_cases h : z < 0
  · simp [h]; (with_reducible exact o418 ‹_›)
  · simp [h]; (with_reducible exact o190 ‹_›)
theorem Dz_val {z : Int} (h : z.natAbs < 2 ^ 40) : Float64.val (Dz z) = z * ((2 ^ 1064 : Nat) : Int) := by
  obtain ⟨m, e, h1, h2⟩ := Dz_dec h
  rw [Float64.val_eq h1, h2, Float64.sgn_mul, sgn_abs]
theorem kpos : (0 : Int) < ((2 ^ 1064 : Nat) : Int) := Int.ofNat_lt.mpr (Nat.two_pow_pos _)
theorem Dz_pack {z : Int} {W : Int} {D : Nat} {r : UInt64} {c : Int} (h : Float64.Right r (decide (W < 0)) W.natAbs D) (hD : 0 < D) (hc : c.natAbs < 2 ^ 40) (hW : W = D * (c * ((2 ^ 1064 : Nat) : Int))) : r = Dz c := by
  have k := kpos
  have hs : decide (W < 0) = decide (c < 0) := by
    refine decide_eq_decide.mpr ?_
    rw [hW]
    generalize ((2 ^ 1064 : Nat) : Int) = K at *
    have hD' : (0 : Int) < D := by (with_reducible exact o230 ‹_›)
    constructor
    · intro q
      by_cases hc0 : c < 0
      · exact hc0
      · exact absurd q (Int.not_lt.mpr (Int.mul_nonneg (Int.le_of_lt hD') (Int.mul_nonneg (by (with_reducible exact o207 ‹_›)) (Int.le_of_lt k))))
    · intro q
      exact Int.mul_neg_of_pos_of_neg hD' (Int.mul_neg_of_neg_of_pos q k)
  have hA : W.natAbs = D * (c.natAbs * 2 ^ 1064) := by
    rw [hW, Int.natAbs_mul, Int.natAbs_mul, Int.natAbs_natCast, Int.natAbs_natCast]
  rw [hs] at h
  exact right_exact h hD hc hA
theorem zero_eq (z : Int) (h : z = 0) : Float64.zero false = Dz z := by subst h; rfl
theorem add_D {a b : Int} (ha : a.natAbs < 2 ^ 40) (hb : b.natAbs < 2 ^ 40) (hc : (a + b).natAbs < 2 ^ 40) : Float64.add (Dz a) (Dz b) = Dz (a + b) := by
  obtain ⟨m, e, h1, h2⟩ := Dz_dec ha
  obtain ⟨n, f, g1, g2⟩ := Dz_dec hb
  obtain ⟨q1, q2⟩ := Float64.add_right h1 g1
  rw [Dz_val ha, Dz_val hb, ← Int.add_mul] at q1 q2
  have k := kpos
  by_cases h0 : a + b = 0
  · rw [q1 (by rw [h0, Int.zero_mul])]
    have : (decide (a < 0) && decide (b < 0)) = false := by simp; omega
    rw [this]
    exact zero_eq _ h0
  · exact Dz_pack (z := 0) (q2 (Int.mul_ne_zero h0 (by (with_reducible exact fun _ => o395 ‹_›)))) (by decide) hc (by simp)
theorem sub_D {a b : Int} (ha : a.natAbs < 2 ^ 40) (hb : b.natAbs < 2 ^ 40) (hc : (a - b).natAbs < 2 ^ 40) : Float64.sub (Dz a) (Dz b) = Dz (a - b) := by
  obtain ⟨m, e, h1, h2⟩ := Dz_dec ha
  obtain ⟨n, f, g1, g2⟩ := Dz_dec hb
  obtain ⟨q1, q2⟩ := Float64.sub_right h1 g1
  rw [Dz_val ha, Dz_val hb, ← Int.sub_mul] at q1 q2
  have k := kpos
  by_cases h0 : a - b = 0
  · rw [q1 (by rw [h0, Int.zero_mul])]
    have : (decide (a < 0) && !decide (b < 0)) = false := by simp; omega
    rw [this]
    exact zero_eq _ h0
  · exact Dz_pack (z := 0) (q2 (Int.mul_ne_zero h0 (by (with_reducible exact fun _ => o395 ‹_›)))) (by decide) hc (by simp)
theorem mul_D {a b c : Int} (ha : a.natAbs < 2 ^ 40) (hb : b.natAbs < 2 ^ 40) (hc : c.natAbs < 2 ^ 40) (pa : 0 ≤ a) (pb : 0 ≤ b) (h : a * b = 1024 * c) : Float64.mul (Dz a) (Dz b) = Dz c := by
  obtain ⟨m, e, h1, h2⟩ := Dz_dec ha
  obtain ⟨n, f, g1, g2⟩ := Dz_dec hb
  have q := Float64.mul_right h1 g1
  rw [Dz_val ha, Dz_val hb, Int.natAbs_mul, Int.natAbs_mul, Int.natAbs_natCast] at q
  have pc : 0 ≤ c := by
    have := Int.mul_nonneg pa pb
    (with_reducible exact o133 ‹_› ‹_›)
  have e1 : (decide (a < 0) != decide (b < 0)) = decide (c < 0) := by
    rw [decide_eq_false (by omega), decide_eq_false (by omega), decide_eq_false (by omega)]
    rfl
  rw [e1] at q
  refine right_exact q (Nat.two_pow_pos _) hc ?_
  have e2 : a.natAbs * b.natAbs = 1024 * c.natAbs := by rw [← Int.natAbs_mul, h, Int.natAbs_mul]; rfl
  have e3 : (2 : Nat) ^ 1074 = 1024 * 2 ^ 1064 := by rw [show (1024 : Nat) = 2 ^ 10 from rfl, ← Nat.pow_add]
  rw [e3]
  generalize (2 : Nat) ^ 1064 = K at *
  calc a.natAbs * K * (b.natAbs * K) = a.natAbs * b.natAbs * (K * K) := by ac_rfl
    _ = 1024 * c.natAbs * (K * K) := by rw [e2]
    _ = _ := by ac_rfl
theorem div_D {a b c : Int} (ha : a.natAbs < 2 ^ 40) (hb : b.natAbs < 2 ^ 40) (hc : c.natAbs < 2 ^ 40) (pb : 0 < b) (h : a * 1024 = c * b) : Float64.div (Dz a) (Dz b) = Dz c := by
  obtain ⟨m, e, h1, h2⟩ := Dz_dec ha
  obtain ⟨n, f, g1, g2⟩ := Dz_dec hb
  have hn : n ≠ 0 := by
    rintro rfl
    rw [Nat.zero_mul] at g2
    have : 0 < b.natAbs * 2 ^ 1064 := Nat.mul_pos (by (with_reducible exact o256 ‹_›)) (Nat.two_pow_pos _)
    (with_reducible exact (o22 ‹_› ‹_›).elim)
  have q := Float64.div_right h1 g1 hn
  rw [Dz_val ha, Dz_val hb, Int.natAbs_mul, Int.natAbs_mul, Int.natAbs_natCast] at q
  have e1 : (decide (a < 0) != decide (b < 0)) = decide (c < 0) := by
    rw [decide_eq_false (p := b < 0) (by omega), Bool.bne_false]
    refine decide_eq_decide.mpr ⟨fun q => ?_, fun q => ?_⟩
    · by_cases hc0 : c < 0
      · exact hc0
      · have := Int.mul_nonneg (show 0 ≤ c by (with_reducible exact o207 ‹_›)) (Int.le_of_lt pb)
        (with_reducible exact (o424 ‹_› ‹_› ‹_›).elim)
    · have := Int.mul_neg_of_neg_of_pos q pb
      (with_reducible exact o166 ‹_› ‹_›)
  rw [e1] at q
  refine right_exact q (Nat.mul_pos (by (with_reducible exact o256 ‹_›)) (Nat.two_pow_pos _)) hc ?_
  have e2 : a.natAbs * 1024 = c.natAbs * b.natAbs := by
    have := congrArg Int.natAbs h
    rw [Int.natAbs_mul, Int.natAbs_mul] at this
    exact this
  have e3 : (2 : Nat) ^ 1074 = 1024 * 2 ^ 1064 := by rw [show (1024 : Nat) = 2 ^ 10 from rfl, ← Nat.pow_add]
  rw [e3]
  generalize (2 : Nat) ^ 1064 = K at *
  calc a.natAbs * K * (1024 * K) = a.natAbs * 1024 * (K * K) := by ac_rfl
    _ = c.natAbs * b.natAbs * (K * K) := by rw [e2]
    _ = _ := by ac_rfl
theorem cmp_D {a b : Int} (ha : a.natAbs < 2 ^ 40) (hb : b.natAbs < 2 ^ 40) : Float64.cmp (Dz a) (Dz b) = some (compare a b) := by
  obtain ⟨m, e, h1, h2⟩ := Dz_dec ha
  obtain ⟨n, f, g1, g2⟩ := Dz_dec hb
  rw [Float64.cmp_right h1 g1, Dz_val ha, Dz_val hb]
  have k := kpos
  generalize ((2 ^ 1064 : Nat) : Int) = K at *
  congr 1
  rcases Int.lt_trichotomy a b with h | h | h
  · rw [Int.compare_eq_lt.mpr h, Int.compare_eq_lt.mpr (Int.mul_lt_mul_of_pos_right h k)]
  · subst h; simp
  · rw [Int.compare_eq_gt.mpr h, Int.compare_eq_gt.mpr (Int.mul_lt_mul_of_pos_right h k)]
theorem lt_D {a b : Int} (ha : a.natAbs < 2 ^ 40) (hb : b.natAbs < 2 ^ 40) : (Float64.cmp (Dz a) (Dz b) == some .lt) = decide (a < b) := by
  rw [cmp_D ha hb]
  rcases Int.lt_trichotomy a b with h | h | h
  · rw [Int.compare_eq_lt.mpr h]; simp [h]
  · subst h; simp
  · rw [Int.compare_eq_gt.mpr h, decide_eq_false (by omega)]; rfl
theorem eq_D {a b : Int} (ha : a.natAbs < 2 ^ 40) (hb : b.natAbs < 2 ^ 40) : (Float64.cmp (Dz a) (Dz b) == some .eq) = decide (a = b) := by
  rw [cmp_D ha hb]
  rcases Int.lt_trichotomy a b with h | h | h
  · rw [Int.compare_eq_lt.mpr h, decide_eq_false (by omega)]; rfl
  · subst h; simp
  · rw [Int.compare_eq_gt.mpr h, decide_eq_false (by omega)]; rfl
theorem isZero_D {a : Int} (ha : a.natAbs < 2 ^ 40) : Float64.isZero (Dz a) = decide (a = 0) := by
  obtain ⟨m, e, h1, h2⟩ := Dz_dec ha
  unfold Float64.isZero
  rw [h1]
  by_cases h : a = 0
  · subst h
    have : m = 0 := by
      rcases Nat.eq_zero_or_pos m with q | q
      · exact q
      · have : 0 < m * 2 ^ (e + 1074).toNat := Nat.mul_pos q (Nat.two_pow_pos _)
        rw [h2] at this; simp at this
    subst this
    rfl
  · have : m ≠ 0 := by
      rintro rfl
      rw [Nat.zero_mul] at h2
      have : 0 < a.natAbs * 2 ^ 1064 := Nat.mul_pos (by (with_reducible exact (o444 ‹_› ‹_›).elim)) (Nat.two_pow_pos _)
      (with_reducible exact (o22 ‹_› ‹_›).elim)
    rw [decide_eq_false h]
    cases m with
    | zero => exact absurd rfl this
    | succ m => rfl
theorem notNaN_D {a : Int} (ha : a.natAbs < 2 ^ 40) : Float64.isNaN (Dz a) = false := by
  obtain ⟨m, e, h1, h2⟩ := Dz_dec ha
  unfold Float64.isNaN; rw [h1]
theorem notInf_D {a : Int} (ha : a.natAbs < 2 ^ 40) : Float64.isInf (Dz a) = false := by
  obtain ⟨m, e, h1, h2⟩ := Dz_dec ha
  unfold Float64.isInf; rw [h1]
theorem ofFrac_D {n d m : Nat} (hd : 0 < d) (hm : m < 2 ^ 40) (h : n * 1024 = m * d) : Float64.ofFrac false n d = Dz m := by
  have q := Float64.ofFrac_right (neg := false) (n := n) (W := m * 2 ^ 1064) (D := 1) hd (by
    have e3 : (2 : Nat) ^ 1074 = 1024 * 2 ^ 1064 := by rw [show (1024 : Nat) = 2 ^ 10 from rfl, ← Nat.pow_add]
    rw [e3]
    generalize (2 : Nat) ^ 1064 = K at *
    calc n * (1024 * K) * 1 = n * 1024 * K := by rw [Nat.mul_one]; ac_rfl
      _ = m * d * K := by rw [h]
      _ = _ := by ac_rfl) (by decide)
  have := right_exact q (by decide) hm (by simp)
  rw [this]
  unfold Dz
  rw [decide_eq_false (by (with_reducible exact fun _ => o35 ‹_›)), Int.natAbs_natCast]
theorem ofInt_D {i : Int} (h : (1024 * i).natAbs < 2 ^ 40) : Float64.ofInt i = Dz (1024 * i) := by
  have q := Float64.ofInt_right i
  have e1 : decide (i < 0) = decide (1024 * i < 0) := decide_eq_decide.mpr (by (with_reducible exact o359))
  rw [e1] at q
  refine right_exact q (by decide) h ?_
  have e3 : (2 : Nat) ^ 1074 = 1024 * 2 ^ 1064 := by rw [show (1024 : Nat) = 2 ^ 10 from rfl, ← Nat.pow_add]
  rw [e3, Int.natAbs_mul, Nat.one_mul, show (1024 : Int).natAbs = 1024 from rfl]
  generalize (2 : Nat) ^ 1064 = K at *
  ac_rfl
theorem pow_split {e : Int} (h : -1074 ≤ e) (h0 : 0 ≤ e) : (2 : Nat) ^ (e + 1074).toNat = 2 ^ e.toNat * 2 ^ 1074 := by rw [← Nat.pow_add]; congr 1; (with_reducible exact o299 ‹_›)
theorem trunc_D {a : Int} (ha : a.natAbs < 2 ^ 40) (pa : 0 ≤ a) : Flt.toInt Float64.truncOf (Dz a) = a / 1024 := by
  obtain ⟨m, e, h1, h2⟩ := Dz_dec ha
  have he := Float64.decode_ge h1
  rw [decide_eq_false (by omega : ¬ a < 0)] at h1
  unfold Flt.toInt
  rw [h1]
  show Float64.floorOf false m e = _
  unfold Float64.floorOf Float64.sgn
  have e3 : (2 : Nat) ^ 1074 = 1024 * 2 ^ 1064 := by rw [show (1024 : Nat) = 2 ^ 10 from rfl, ← Nat.pow_add]
  have kp : 0 < (2 : Nat) ^ 1064 := Nat.two_pow_pos _
  obtain ⟨n, rfl⟩ : ∃ n : Nat, a = n := ⟨a.toNat, by (with_reducible exact o384 ‹_›)⟩
  rw [Int.natAbs_natCast] at h2
  have en : ((n : Int) / 1024) = ((n / 1024 : Nat) : Int) := by (with_reducible exact o388)
  rw [en]
  by_cases h0 : e ≥ 0
  · simp only [Bool.false_eq_true, if_false, if_pos h0]
    rw [pow_split he h0, e3] at h2
    have h3 : m * 2 ^ e.toNat * 1024 = n := by
      generalize (2 : Nat) ^ 1064 = K at *
      refine Nat.eq_of_mul_eq_mul_right kp ?_
      rw [← h2]
      ac_rfl
    have h4 : m * 2 ^ e.toNat = n / 1024 := by (with_reducible exact o247 ‹_›)
    rw [← h4]
    simp
  · simp only [Bool.false_eq_true, if_false, if_neg h0]
    have h3 : n * 2 ^ (-e).toNat = m * 1024 := by
      have e4 : (2 : Nat) ^ (e + 1074).toNat * 2 ^ (-e).toNat = 2 ^ 1074 := by rw [← Nat.pow_add]; congr 1; (with_reducible exact o231 ‹_› ‹_›)
      have h5 : m * 2 ^ (e + 1074).toNat * 2 ^ (-e).toNat = n * 2 ^ 1064 * 2 ^ (-e).toNat := by rw [h2]
      rw [Nat.mul_assoc, e4, e3] at h5
      generalize (2 : Nat) ^ 1064 = K at *
      generalize (2 : Nat) ^ (-e).toNat = J at *
      refine Nat.eq_of_mul_eq_mul_right kp ?_
      calc n * J * K = n * K * J := by ac_rfl
        _ = m * (1024 * K) := h5.symm
        _ = _ := by ac_rfl
    have jp : 0 < (2 : Nat) ^ (-e).toNat := Nat.two_pow_pos _
    have e6 : ((2 : Int) ^ (-e).toNat) = (((2 : Nat) ^ (-e).toNat : Nat) : Int) := by simp
    rw [e6]
    generalize (2 : Nat) ^ (-e).toNat = J at *
    rw [Int.fdiv_eq_ediv_of_nonneg _ (by (with_reducible exact o32))]
    have h4 : m / J = n / 1024 := by
      have : (n * J) / J / 1024 = (m * 1024) / 1024 / J := by rw [h3, Nat.div_div_eq_div_mul, Nat.div_div_eq_div_mul, Nat.mul_comm J 1024]
      rw [Nat.mul_div_cancel _ jp, Nat.mul_div_cancel _ (by decide)] at this
      exact this.symm
    rw [← h4]
    simp
theorem fmod_D {a b : Int} (ha : a.natAbs < 2 ^ 40) (hb : b.natAbs < 2 ^ 40) (pb : 0 < b) : Float64.fmod (Dz a) (Dz b) = Float64.pack (decide (a < 0)) (T0 (a.natAbs % b.natAbs)) := by
  obtain ⟨m, e, h1, h2⟩ := Dz_dec ha
  obtain ⟨n, f, g1, g2⟩ := Dz_dec hb
  have hn : n ≠ 0 := by
    rintro rfl
    rw [Nat.zero_mul] at g2
    have : 0 < b.natAbs * 2 ^ 1064 := Nat.mul_pos (by (with_reducible exact o256 ‹_›)) (Nat.two_pow_pos _)
    (with_reducible exact (o22 ‹_› ‹_›).elim)
  have he := Float64.decode_ge h1
  have hf := Float64.decode_ge g1
  have hfm : Float64.fmod (Dz a) (Dz b) = Float64.ofBin (decide (a < 0)) ((m * 2 ^ (e - min e f).toNat) % (n * 2 ^ (f - min e f).toNat)) (min e f) := by
    unfold Float64.fmod
    rw [h1, g1]
    simp only
    rw [if_neg (by simpa using hn)]
    rfl
  rw [hfm]
  have kp : 0 < (2 : Nat) ^ 1064 := Nat.two_pow_pos _
  have hr : ((m * 2 ^ (e - min e f).toNat) % (n * 2 ^ (f - min e f).toNat)) * 2 ^ (min e f + 1074).toNat = (a.natAbs % b.natAbs) * 2 ^ 1064 := by
    rw [← Nat.mul_mod_mul_right, ← Nat.mul_mod_mul_right, Nat.mul_assoc, Nat.mul_assoc, ← Nat.pow_add, ← Nat.pow_add]
    have e1 : (e - min e f).toNat + (min e f + 1074).toNat = (e + 1074).toNat := by (with_reducible exact o362 ‹_›)
    have e2 : (f - min e f).toNat + (min e f + 1074).toNat = (f + 1074).toNat := by (with_reducible exact o40 ‹_›)
    rw [e1, e2, h2, g2]
  have hlt : a.natAbs % b.natAbs < 2 ^ 40 := Nat.lt_trans (Nat.mod_lt _ (by (with_reducible exact o256 ‹_›))) hb
  generalize (m * 2 ^ (e - min e f).toNat) % (n * 2 ^ (f - min e f).toNat) = r at *
  unfold Float64.ofBin
  refine right_exact (Float64.ofFrac_right (W := (a.natAbs % b.natAbs) * 2 ^ 1064) (D := 1) (Float64.shift_pos _ _ _ (by decide)) ?_ (by decide)) (by decide) hlt (by simp)
  have := Float64.shift_one r (min e f) 1074 (by (with_reducible exact o496 ‹_› ‹_›))
  rw [Nat.mul_one, ← hr]
  exact this
theorem mod_D {a : Int} (ha : a.natAbs < 2 ^ 40) : (Float64.divmod (Dz a) (Dz 1024)).snd = Dz (a % 1024) := by
  have hm := fmod_D ha (b := 1024) (by decide) (by decide)
  have hlt : a.natAbs % 1024 < 2 ^ 40 := by (with_reducible exact o346)
  have hz : Float64.isZero (Float64.fmod (Dz a) (Dz 1024)) = decide (a.natAbs % 1024 = 0) := by
    rw [hm]
    by_cases q : a < 0
    · have e1 : Float64.pack (decide (a < 0)) (T0 (a.natAbs % 1024)) = (if a.natAbs % 1024 = 0 then Float64.pack true 0 else Dz (-((a.natAbs % 1024 : Nat) : Int))) := by
        rw [decide_eq_true q]
        split
        · rename_i h; rw [h]; rfl
        · unfold Dz; rw [decide_eq_true (by (with_reducible exact o57 ‹_›)), Int.natAbs_neg, Int.natAbs_natCast]
      have : (1024 : Int).natAbs = 1024 := rfl
      rw [this, e1]
      split
      · rename_i h; rw [h]; decide +kernel
      · rw [isZero_D (by (with_reducible exact o330))]; exact decide_eq_decide.mpr (by (with_reducible exact o490))
    · have e1 : Float64.pack (decide (a < 0)) (T0 (a.natAbs % 1024)) = Dz ((a.natAbs % 1024 : Nat) : Int) := by
        unfold Dz; rw [decide_eq_false q, decide_eq_false (by (with_reducible exact fun _ => o35 ‹_›)), Int.natAbs_natCast]
      have : (1024 : Int).natAbs = 1024 := rfl
      rw [this, e1, isZero_D (by (with_reducible exact o416))]
      exact decide_eq_decide.mpr (by (with_reducible exact o205))
  unfold Float64.divmod
  simp only
  by_cases h0 : a.natAbs % 1024 = 0
  · rw [hz, decide_eq_true h0, if_pos rfl]
    simp only
    have : a % 1024 = 0 := by (with_reducible exact o202 ‹_›)
    rw [this]
    decide +kernel
  · rw [hz, decide_eq_false h0, if_neg (by decide)]
    by_cases q : a < 0
    · have e1 : Float64.fmod (Dz a) (Dz 1024) = Dz (-((a.natAbs % 1024 : Nat) : Int)) := by
        rw [hm]; unfold Dz; rw [decide_eq_true q, decide_eq_true (by (with_reducible exact o57 ‹_›)), Int.natAbs_neg, Int.natAbs_natCast]; rfl
      have l1 : Float64.lt (Dz 1024) (Float64.zero false) = false := by decide +kernel
      have l2 : Float64.lt (Dz (-((a.natAbs % 1024 : Nat) : Int))) (Float64.zero false) = true := by
        have := lt_D (a := -((a.natAbs % 1024 : Nat) : Int)) (b := 0) (by (with_reducible exact o330)) (by decide)
        rw [decide_eq_true (by (with_reducible exact o57 ‹_›))] at this
        exact this
      rw [e1, l1, l2, if_pos (by decide)]
      simp only
      rw [add_D (by (with_reducible exact o330)) (by decide) (by (with_reducible exact o118))]
      congr 1
      (with_reducible exact o372 ‹_› ‹_›)
    · have e1 : Float64.fmod (Dz a) (Dz 1024) = Dz ((a.natAbs % 1024 : Nat) : Int) := by
        rw [hm]; unfold Dz; rw [decide_eq_false q, decide_eq_false (by (with_reducible exact fun _ => o35 ‹_›)), Int.natAbs_natCast]; rfl
      have l1 : Float64.lt (Dz 1024) (Float64.zero false) = false := by decide +kernel
      have l2 : Float64.lt (Dz ((a.natAbs % 1024 : Nat) : Int)) (Float64.zero false) = false := by
        have := lt_D (a := ((a.natAbs % 1024 : Nat) : Int)) (b := 0) (by (with_reducible exact o416)) (by decide)
        rw [decide_eq_false (by (with_reducible exact fun _ => o35 ‹_›))] at this
        exact this
      rw [e1, l1, l2, if_neg (by decide)]
      simp only
      congr 1
      (with_reducible exact o151 ‹_›)
noncomputable def cz (z : Int) : Bool := decide (z.natAbs < 2 ^ 40)
theorem cz_of {z : Int} (h : cz z = true) : z.natAbs < 2 ^ 40 := of_decide_eq_true h
noncomputable def mxZ (a b c : Int) : Int := if a < b then (if b < c then c else b) else (if a < c then c else a)
noncomputable def mnZ (a b c : Int) : Int := if b < a then (if c < b then c else b) else (if c < a then c else a)
theorem max_D {a b c : Int} (ha : cz a = true) (hb : cz b = true) (hc : cz c = true) : maxF (Dz a) (Dz b) (Dz c) = Dz (mxZ a b c) := by
  unfold maxF mxZ
  rw [lt_D (cz_of ha) (cz_of hb), lt_D (cz_of hb) (cz_of hc), lt_D (cz_of ha) (cz_of hc)]
  simp only [decide_eq_true_eq]
  split <;> split <;> rfl
theorem min_D {a b c : Int} (ha : cz a = true) (hb : cz b = true) (hc : cz c = true) : minF (Dz a) (Dz b) (Dz c) = Dz (mnZ a b c) := by
  unfold minF mnZ
  rw [lt_D (cz_of hb) (cz_of ha), lt_D (cz_of hc) (cz_of hb), lt_D (cz_of hc) (cz_of ha)]
  simp only [decide_eq_true_eq]
  split <;> split <;> rfl
/-- a quotient that is told without a rest -/
noncomputable def qZ (a d : Int) : Int := a * 1024 / d
noncomputable def qOk (a d : Int) : Bool := decide (0 < d) && decide (a * 1024 = qZ a d * d) && cz a && cz d && cz (qZ a d)
theorem q_D {a d : Int} (h : qOk a d = true) : Float64.div (Dz a) (Dz d) = Dz (qZ a d) := by
  simp only [qOk, Bool.and_eq_true, decide_eq_true_eq] at h
  obtain ⟨⟨⟨⟨h1, h2⟩, h3⟩, h4⟩, h5⟩ := h
  exact div_D (cz_of h3) (cz_of h4) (cz_of h5) h1 h2
noncomputable def mZ (a b : Int) : Int := a * b / 1024
noncomputable def mOk (a b : Int) : Bool := decide (0 ≤ a) && decide (0 ≤ b) && decide (a * b = 1024 * mZ a b) && cz a && cz b && cz (mZ a b)
theorem m_D {a b : Int} (h : mOk a b = true) : Float64.mul (Dz a) (Dz b) = Dz (mZ a b) := by
  simp only [mOk, Bool.and_eq_true, decide_eq_true_eq] at h
  obtain ⟨⟨⟨⟨⟨h1, h2⟩, h3⟩, h4⟩, h5⟩, h6⟩ := h
  exact mul_D (cz_of h4) (cz_of h5) (cz_of h6) h1 h2 h3
theorem s_D {a b : Int} (ha : cz a = true) (hb : cz b = true) (hc : cz (a - b) = true) : Float64.sub (Dz a) (Dz b) = Dz (a - b) := sub_D (cz_of ha) (cz_of hb) (cz_of hc)
theorem a_D {a b : Int} (ha : cz a = true) (hb : cz b = true) (hc : cz (a + b) = true) : Float64.add (Dz a) (Dz b) = Dz (a + b) := add_D (cz_of ha) (cz_of hb) (cz_of hc)
theorem l1_D : (4607182418800017408 : UInt64) = Dz 1024 := by decide +kernel
theorem l2_D : (4611686018427387904 : UInt64) = Dz 2048 := by decide +kernel
theorem l4_D : (4616189618054758400 : UInt64) = Dz 4096 := by decide +kernel
theorem l6_D : (4618441417868443648 : UInt64) = Dz 6144 := by decide +kernel
theorem lh_D : (4602678819172646912 : UInt64) = Dz 512 := by decide +kernel
theorem l0_D : (0 : UInt64) = Dz 0 := by decide +kernel
/-- the colour of a bead, in 1024ths -/
noncomputable def hsvZ (h s v : Int) : Int × Int × Int :=
  let h6 := mZ h 6144
  let i := h6 / 1024
  let f := h6 - 1024 * i
  let p := mZ v (1024 - s)
  let q := mZ v (1024 - mZ s f)
  let t := mZ v (1024 - mZ s (1024 - f))
  if i % 6 = 0 then (v, t, p) else if i % 6 = 1 then (q, v, p) else if i % 6 = 2 then (p, v, t) else if i % 6 = 3 then (p, q, v) else if i % 6 = 4 then (t, p, v) else (v, p, q)
noncomputable def hsvOk (h s v : Int) : Bool :=
  let h6 := mZ h 6144
  let i := h6 / 1024
  let f := h6 - 1024 * i
  mOk h 6144 && cz h && cz s && cz v && decide (0 < s) && decide (0 ≤ h6) && cz h6 && cz (1024 * i) && cz f && decide (i.natAbs < 1000) && cz (1024 - s) && mOk v (1024 - s) && mOk s f && cz (1024 - mZ s f) && mOk v (1024 - mZ s f) &&
  cz (1024 - f) && mOk s (1024 - f) && cz (1024 - mZ s (1024 - f)) && mOk v (1024 - mZ s (1024 - f)) && cz (mZ s f) && cz (mZ s (1024 - f))
theorem hsv_D {h s v : Int} (ok : hsvOk h s v = true) : hsvF (Dz h) (Dz s) (Dz v) = (Dz (hsvZ h s v).1, Dz (hsvZ h s v).2.1, Dz (hsvZ h s v).2.2) ∧ okH (Dz h) (Dz s) = true := by
  simp only [hsvOk, Bool.and_eq_true, decide_eq_true_eq] at ok
  refine andL21 ok ?_
  clear ok
  intro a1 a2 a3 a4 a5 a6 a7 a8 a9 b1 b2 b3 b4 b5 b6 b7 b8 b9 c1 c2 c3
  have c0 : cz 0 = true := by decide
  have c1024 : cz 1024 = true := by decide
  have e6 : Float64.mul (Dz h) (Dz 6144) = Dz (mZ h 6144) := m_D a1
  have ei : hsvI (Dz h) = mZ h 6144 / 1024 := by unfold hsvI; rw [l6_D, e6, trunc_D (cz_of a7) a6]
  have es : (Float64.cmp (Dz s) 0 == some Ordering.eq) = false := by rw [l0_D, eq_D (cz_of a3) (cz_of c0)]; exact decide_eq_false (by omega)
  constructor
  · unfold hsvF hsvZ
    rw [es, if_neg (by decide), ei]
    dsimp only
    rw [ofInt_D (cz_of a8), l6_D, e6, l1_D, s_D a7 a8 a9, s_D c1024 a3 b2, m_D b3, m_D b4, s_D c1024 c2 b5, m_D b6, s_D c1024 a9 b7, m_D b8, s_D c1024 c3 b9, m_D c1]
    split
    · rfl
    split
    · rfl
    split
    · rfl
    split
    · rfl
    split
    · rfl
    · rfl
  · unfold okH
    rw [es, l6_D, e6, notNaN_D (cz_of a7), notInf_D (cz_of a7), ei, decide_eq_true b1]
    rfl
noncomputable def hxZ (r g b : Int) : Int :=
  let mx := mxZ r g b
  let d := mx - mnZ r g b
  let rc := qZ (mx - r) d
  let gc := qZ (mx - g) d
  let bc := qZ (mx - b) d
  if r = mx then bc - gc else if g = mx then 2048 + rc - bc else 4096 + gc - rc
noncomputable def hueZ (r g b : Int) : Int := qZ (hxZ r g b) 6144 % 1024
noncomputable def lightZ (r g b : Int) : Int := qZ (mxZ r g b + mnZ r g b) 2048
noncomputable def colOk (r g b : Int) : Bool :=
  let mx := mxZ r g b
  let d := mx - mnZ r g b
  let rc := qZ (mx - r) d
  let gc := qZ (mx - g) d
  let bc := qZ (mx - b) d
  cz r && cz g && cz b && cz mx && cz (mnZ r g b) && qOk (mx - r) d && qOk (mx - g) d && qOk (mx - b) d && cz (bc - gc) && cz (2048 + rc) && cz (2048 + rc - bc) && cz (4096 + gc) && cz (4096 + gc - rc) && qOk (hxZ r g b) 6144 &&
  qOk (mx + mnZ r g b) 2048 && decide (0 < mx) && decide (0 < mx + mnZ r g b) && cz (2048 - mx) && decide (0 < 2048 - mx - mnZ r g b) && cz (2048 - mx - mnZ r g b)
theorem qOk_cz {a d : Int} (h : qOk a d = true) : cz a = true ∧ cz d = true ∧ cz (qZ a d) = true := by
  simp only [qOk, Bool.and_eq_true] at h
  exact ⟨h.1.1.2, h.1.2, h.2⟩
theorem col_D {r g b : Int} (ok : colOk r g b = true) : hueF (Dz r) (Dz g) (Dz b) = Dz (hueZ r g b) ∧ lightF (Dz r) (Dz g) (Dz b) = Dz (lightZ r g b) ∧ okC (Dz r) (Dz g) (Dz b) = true ∧ maxF (Dz r) (Dz g) (Dz b) = Dz (mxZ r g b) ∧
    Float64.sub (maxF (Dz r) (Dz g) (Dz b)) (minF (Dz r) (Dz g) (Dz b)) = Dz (mxZ r g b - mnZ r g b) := by
  simp only [colOk, Bool.and_eq_true, decide_eq_true_eq] at ok
  refine andL20 ok ?_
  clear ok
  intro a1 a2 a3 a4 a5 a6 a7 a8 b1 b2 b3 b4 b5 b6 b7 b8 b9 c1 c2 c3
  have c2048 : cz 2048 = true := by decide
  have c4096 : cz 4096 = true := by decide
  have c0 : cz 0 = true := by decide
  refine and3 (qOk_cz a6) fun r1 r2 r3 => ?_
  refine and3 (qOk_cz a7) fun g1 g2 g3 => ?_
  refine and3 (qOk_cz a8) fun d1 d2 d3 => ?_
  have em := max_D a1 a2 a3
  have en := min_D a1 a2 a3
  have ed : Float64.sub (Dz (mxZ r g b)) (Dz (mnZ r g b)) = Dz (mxZ r g b - mnZ r g b) := s_D a4 a5 r2
  refine ⟨?_, ?_, ?_, em, by rw [em, en, ed]⟩
  · unfold hueF
    dsimp only
    rw [em, en, ed, s_D a4 a1 r1, s_D a4 a2 g1, s_D a4 a3 d1, q_D a6, q_D a7, q_D a8, l2_D, l4_D, l6_D, l1_D, eq_D (cz_of a1) (cz_of a4), eq_D (cz_of a2) (cz_of a4), s_D d3 g3 b1, a_D c2048 r3 b2, s_D b2 d3 b3, a_D c4096 g3 b4, s_D b4 r3 b5]
    have e : (if decide (r = mxZ r g b) = true then Dz (qZ (mxZ r g b - b) (mxZ r g b - mnZ r g b) - qZ (mxZ r g b - g) (mxZ r g b - mnZ r g b)) else if decide (g = mxZ r g b) = true then Dz (2048 + qZ (mxZ r g b - r) (mxZ r g b - mnZ r g b) - qZ (mxZ r g b - b) (mxZ r g b - mnZ r g b)) else Dz (4096 + qZ (mxZ r g b - g) (mxZ r g b - mnZ r g b) - qZ (mxZ r g b - r) (mxZ r g b - mnZ r g b))) = Dz (hxZ r g b) := by
      unfold hxZ
      dsimp only
      simp only [decide_eq_true_eq]
      split
      · rfl
      split
      · rfl
      · rfl
    rw [e, q_D b6, mod_D (cz_of (qOk_cz b6).2.2)]
    rfl
  · unfold lightF
    rw [em, en, a_D a4 a5 (qOk_cz b7).1, l2_D, q_D b7]
    rfl
  · unfold okC
    rw [em, en, ed, eq_D (cz_of a5) (cz_of a4), isZero_D (cz_of a4), isZero_D (cz_of r2), a_D a4 a5 (qOk_cz b7).1, isZero_D (cz_of (qOk_cz b7).1), l2_D, s_D c2048 a4 c1, s_D c1 a5 c3, isZero_D (cz_of c3)]
    have hd : 0 < mxZ r g b - mnZ r g b := by
      simp only [qOk, Bool.and_eq_true, decide_eq_true_eq] at a6
      exact a6.1.1.1.1
    rw [decide_eq_false (by omega), decide_eq_false (by omega), decide_eq_false (by omega), decide_eq_false (by omega), decide_eq_false (by omega)]
    rfl
/-- the colour by a shorter road: f in 32nds of a sixth of a turn, m the step -/
noncomputable def colN (i p q t v : Nat) : Nat × Nat × Nat := match i with
  | 0 => (v, t, p)
  | 1 => (q, v, p)
  | 2 => (p, v, t)
  | 3 => (p, q, v)
  | 4 => (t, p, v)
  | _ => (v, p, q)
noncomputable def forceN (n : Nat) (k : Nat → Bool) : Bool := match n with
  | 0 => k 0
  | m + 1 => k (m + 1)
theorem forceN_eq (n : Nat) (k : Nat → Bool) : forceN n k = k n := by cases n <;> rfl
/-- z is worked out ahead of k -/
noncomputable def forceZ (z : Int) (k : Int → Bool) : Bool := match z with
  | .ofNat n => forceN n fun m => k (.ofNat m)
  | .negSucc n => forceN n fun m => k (.negSucc m)
theorem forceZ_eq (z : Int) (k : Int → Bool) : forceZ z k = k z := by
  cases z with
  | ofNat n => exact forceN_eq n fun m => k (.ofNat m)
  | negSucc n => exact forceN_eq n fun m => k (.negSucc m)
noncomputable def colF (r g b : Int) (k : Int → Int → Int → Int → Bool) : Bool :=
  forceZ (mxZ r g b) fun mx => forceZ (mnZ r g b) fun mn => forceZ (mx - mn) fun d => forceZ (qZ (mx - r) d) fun rc => forceZ (qZ (mx - g) d) fun gc => forceZ (qZ (mx - b) d) fun bc =>
  forceZ (if r = mx then bc - gc else if g = mx then 2048 + rc - bc else 4096 + gc - rc) fun hx =>
  (cz r && cz g && cz b && cz mx && cz mn && qOk (mx - r) d && qOk (mx - g) d && qOk (mx - b) d && cz (bc - gc) && cz (2048 + rc) && cz (2048 + rc - bc) && cz (4096 + gc) && cz (4096 + gc - rc) && qOk hx 6144 &&
  qOk (mx + mn) 2048 && decide (0 < mx) && decide (0 < mx + mn) && cz (2048 - mx) && decide (0 < 2048 - mx - mn) && cz (2048 - mx - mn)) && k (qZ hx 6144 % 1024) (qZ (mx + mn) 2048) mx mn
theorem colF_eq (r g b : Int) (k : Int → Int → Int → Int → Bool) : colF r g b k = (colOk r g b && k (hueZ r g b) (lightZ r g b) (mxZ r g b) (mnZ r g b)) := by
  unfold colF
  simp only [forceZ_eq]
  rfl
/-- all that is asked of one bead -/
noncomputable def chkZ (h s v : Nat) : Bool :=
  forceN (2 * v * s) fun m => forceN (3 * h % 32) fun f =>
  forceN (colN (3 * h / 32) (256 * v - 32 * m) (256 * v - m * f) (256 * v - m * (32 - f)) (256 * v)).1 fun r => forceN (colN (3 * h / 32) (256 * v - 32 * m) (256 * v - m * f) (256 * v - m * (32 - f)) (256 * v)).2.1 fun g => forceN (colN (3 * h / 32) (256 * v - 32 * m) (256 * v - m * f) (256 * v - m * (32 - f)) (256 * v)).2.2 fun b =>
  hsvOk ((16 * h : Nat) : Int) ((256 * s : Nat) : Int) ((256 * v : Nat) : Int) && decide (hsvZ ((16 * h : Nat) : Int) ((256 * s : Nat) : Int) ((256 * v : Nat) : Int) = ((r : Int), (g : Int), (b : Int))) &&
  colF r g b (fun hue light mx mn => decide (hue = ((16 * h : Nat) : Int)) && decide (mx = ((256 * v : Nat) : Int)) && qOk (mx - mn) mx && decide (qZ (mx - mn) mx = ((256 * s : Nat) : Int)) && (decide (512 < light) == decide (16 < v * (8 - s))) && cz light) &&
  forceN (1024 - r) fun r' => forceN (1024 - g) fun g' => forceN (1024 - b) fun b' => decide ((r' : Int) = 1024 - (r : Int)) && decide ((g' : Int) = 1024 - (g : Int)) && decide ((b' : Int) = 1024 - (b : Int)) &&
  colF r' g' b' (fun hue light _ _ => decide (hue = ((16 * ((h + 32) % 64) : Nat) : Int)) && (decide (light < 512) == decide (16 < v * (8 - s))) && cz light)
theorem chk_0 : ((List.range 8).all fun h => (List.range 4).all fun s => (List.range 4).all fun v => chkZ (0 + h) (s + 1) (v + 1)) = true := by decide +kernel
theorem chk_1 : ((List.range 8).all fun h => (List.range 4).all fun s => (List.range 4).all fun v => chkZ (8 + h) (s + 1) (v + 1)) = true := by decide +kernel
theorem chk_2 : ((List.range 8).all fun h => (List.range 4).all fun s => (List.range 4).all fun v => chkZ (16 + h) (s + 1) (v + 1)) = true := by decide +kernel
theorem chk_3 : ((List.range 8).all fun h => (List.range 4).all fun s => (List.range 4).all fun v => chkZ (24 + h) (s + 1) (v + 1)) = true := by decide +kernel
theorem chk_4 : ((List.range 8).all fun h => (List.range 4).all fun s => (List.range 4).all fun v => chkZ (32 + h) (s + 1) (v + 1)) = true := by decide +kernel
theorem chk_5 : ((List.range 8).all fun h => (List.range 4).all fun s => (List.range 4).all fun v => chkZ (40 + h) (s + 1) (v + 1)) = true := by decide +kernel
theorem chk_6 : ((List.range 8).all fun h => (List.range 4).all fun s => (List.range 4).all fun v => chkZ (48 + h) (s + 1) (v + 1)) = true := by decide +kernel
theorem chk_7 : ((List.range 8).all fun h => (List.range 4).all fun s => (List.range 4).all fun v => chkZ (56 + h) (s + 1) (v + 1)) = true := by decide +kernel
theorem chk_any {h s v : Nat} (hh : h < 64) (h1 : 1 ≤ s) (h2 : s ≤ 4) (h3 : 1 ≤ v) (h4 : v ≤ 4) : chkZ h s v = true := by
  have go : ∀ k, ((List.range 8).all fun h => (List.range 4).all fun s => (List.range 4).all fun v => chkZ (k + h) (s + 1) (v + 1)) = true → ∀ j, j < 8 → chkZ (k + j) s v = true := fun k hk j hj => by
    have a1 := List.all_eq_true.mp hk j (List.mem_range.mpr hj)
    have a2 := List.all_eq_true.mp a1 (s - 1) (List.mem_range.mpr (by (with_reducible exact o410 ‹_›)))
    have a3 := List.all_eq_true.mp a2 (v - 1) (List.mem_range.mpr (by (with_reducible exact o410 ‹_›)))
    rw [show s - 1 + 1 = s from by (with_reducible exact o406 ‹_›), show v - 1 + 1 = v from by (with_reducible exact o406 ‹_›)] at a3
    exact a3
  have e : h = 8 * (h / 8) + h % 8 := by (with_reducible exact o180)
  have hm : h % 8 < 8 := Nat.mod_lt _ (by decide)
  have hd : h / 8 < 8 := by (with_reducible exact o434 ‹_›)
  generalize h / 8 = q at e hd
  generalize h % 8 = j at e hm
  subst e
  have : q = 0 ∨ q = 1 ∨ q = 2 ∨ q = 3 ∨ q = 4 ∨ q = 5 ∨ q = 6 ∨ q = 7 := by (with_reducible exact o94 ‹_›)
  rcases this with rfl | rfl | rfl | rfl | rfl | rfl | rfl | rfl
  · exact go 0 chk_0 j hm
  · exact go 8 chk_1 j hm
  · exact go 16 chk_2 j hm
  · exact go 24 chk_3 j hm
  · exact go 32 chk_4 j hm
  · exact go 40 chk_5 j hm
  · exact go 48 chk_6 j hm
  · exact go 56 chk_7 j hm
/-- what the floats make of one bead -/
structure BF (h s v : Nat) (r g b : Int) : Prop where
  col : hsvF (Dz ((16 * h : Nat) : Int)) (Dz ((256 * s : Nat) : Int)) (Dz ((256 * v : Nat) : Int)) = (Dz r, Dz g, Dz b)
  okh : okH (Dz ((16 * h : Nat) : Int)) (Dz ((256 * s : Nat) : Int)) = true
  okc : okC (Dz r) (Dz g) (Dz b) = true
  hue : hueF (Dz r) (Dz g) (Dz b) = Dz ((16 * h : Nat) : Int)
  sat : Float64.div (Float64.sub (maxF (Dz r) (Dz g) (Dz b)) (minF (Dz r) (Dz g) (Dz b))) (maxF (Dz r) (Dz g) (Dz b)) = Dz ((256 * s : Nat) : Int)
  val : maxF (Dz r) (Dz g) (Dz b) = Dz ((256 * v : Nat) : Int)
  nr : Float64.sub 4607182418800017408 (Dz r) = Dz (1024 - r)
  ng : Float64.sub 4607182418800017408 (Dz g) = Dz (1024 - g)
  nb : Float64.sub 4607182418800017408 (Dz b) = Dz (1024 - b)
  okn : okC (Dz (1024 - r)) (Dz (1024 - g)) (Dz (1024 - b)) = true
  hun : hueF (Dz (1024 - r)) (Dz (1024 - g)) (Dz (1024 - b)) = Dz ((16 * ((h + 32) % 64) : Nat) : Int)
  lit : ∃ l : Int, lightF (Dz r) (Dz g) (Dz b) = Dz l ∧ l.natAbs < 2 ^ 40 ∧ decide (512 < l) = decide (16 < v * (8 - s))
  lin : ∃ l : Int, lightF (Dz (1024 - r)) (Dz (1024 - g)) (Dz (1024 - b)) = Dz l ∧ l.natAbs < 2 ^ 40 ∧ decide (l < 512) = decide (16 < v * (8 - s))
theorem colOk_cz {r g b : Int} (h : colOk r g b = true) : cz r = true ∧ cz g = true ∧ cz b = true := by
  simp only [colOk, Bool.and_eq_true] at h
  exact ⟨by simp_all, by simp_all, by simp_all⟩
theorem bead_facts {h s v : Nat} (hh : h < 64) (h1 : 1 ≤ s) (h2 : s ≤ 4) (h3 : 1 ≤ v) (h4 : v ≤ 4) : ∃ r g b : Int, BF h s v r g b := by
  have c := chk_any hh h1 h2 h3 h4
  unfold chkZ at c
  simp only [forceN_eq, colF_eq] at c
  generalize (colN (3 * h / 32) (256 * v - 32 * (2 * v * s)) (256 * v - 2 * v * s * (3 * h % 32)) (256 * v - 2 * v * s * (32 - 3 * h % 32)) (256 * v)).1 = r at c
  generalize (colN (3 * h / 32) (256 * v - 32 * (2 * v * s)) (256 * v - 2 * v * s * (3 * h % 32)) (256 * v - 2 * v * s * (32 - 3 * h % 32)) (256 * v)).2.1 = g at c
  generalize (colN (3 * h / 32) (256 * v - 32 * (2 * v * s)) (256 * v - 2 * v * s * (3 * h % 32)) (256 * v - 2 * v * s * (32 - 3 * h % 32)) (256 * v)).2.2 = b at c
  simp only [Bool.and_eq_true, decide_eq_true_eq, beq_iff_eq] at c
  refine andB c ?_
  clear c
  intro a1 a2 a3 a4 a5 a6 a7 a8 a9 b1 b2 b3 b4 b5 b6 b7
  rw [b1, b2, b3] at b4 b5 b6 b7
  refine and2 (hsv_D a1) fun p1 p2 => ?_
  rw [a2] at p1
  refine and5 (col_D a3) fun q1 q2 q3 q4 q5 => ?_
  refine and5 (col_D b4) fun n1 n2 n3 n4 n5 => ?_
  refine and3 (colOk_cz a3) fun z1 z2 z3 => ?_
  refine and3 (colOk_cz b4) fun y1 y2 y3 => ?_
  have c1024 : cz 1024 = true := by decide
  exact ⟨r, g, b, p1, p2, q3, by rw [q1, a4], by rw [q5, q4, q_D a6, a7], by rw [q4, a5], by rw [l1_D, s_D c1024 z1 y1], by rw [l1_D, s_D c1024 z2 y2], by rw [l1_D, s_D c1024 z3 y3], n3, by rw [n1, b5], ⟨_, q2, cz_of a9, a8⟩, ⟨_, n2, cz_of b7, b6⟩⟩
section
theorem lay_Hr_0 : True := by
  w_top off
  k_with_none
  k_with "eval Name" => (k_here; k_dflt (refine' nameE_C ?q9k1 ?_ ?q9k2 ?q9b ?q9c ?q9d; (case q9b => rfl); (case q9c => rfl); (case q9d => decide); (case q9k2 => rfl); (case q9k1 => first | with_reducible assumption | exact CellAt.keep (by with_reducible assumption) (by with_reducible assumption)); k_whole))
  k_with "eval Name" => (k_here; k_dflt (refine' nameE_B ?q9F ?q9X ?q9T ?q9e ?q9v ?q9n ?_ ?q9a ?q9a2 ?q9b ?q9c ?q9d; (case q9b => rfl); (case q9c => rfl); (case q9F => with_reducible assumption); (case q9X => with_reducible assumption); (case q9T => k_asm); (case q9a => rfl); (case q9a2 => rfl); (case q9d => decide); (case q9e => k_is); (case q9v => boot_fast); (case q9n => decide); k_whole))
  k_with "eval Name" => (k_here; k_dflt (refine' nameE_K ?q9F ?q9X ?q9T ?q9e ?_ ?q9a ?q9b ?q9c ?q9d; (case q9b => rfl); (case q9c => rfl); (case q9F => with_reducible assumption); (case q9X => with_reducible assumption); (case q9T => k_asm); (case q9a => rfl); (case q9d => decide); (case q9e => k_is); k_whole))
  k_with "eval Name" => (k_here; k_dflt (refine' nameE_L ?q9k1 ?q9k2 ?_ ?q9a ?q9b ?q9c ?q9d; (case q9c => rfl); (case q9k1 => with_reducible assumption); (case q9k2 => first | exact rfl | assumption); (case q9a => rfl); (case q9b => rfl); (case q9d => decide); k_whole))
  k_with "call builtin:len" => (k_here; (with_reducible show wpAny _ _ (call (Value.builtin "len") [Value.ref _]) _ _ _); k_dflt (refine' len_list ?q9k1 ?q9k2 ?_; (case q9k1 => first | with_reducible assumption | exact Fr.lst (by with_reducible assumption) (by with_reducible assumption) | exact News.isList (by with_reducible assumption) (by k_mem)); (case q9k2 => first | with_reducible assumption | omega); k_whole))
  k_with "subscriptTail" => (k_here; (with_reducible show wpAny _ _ (subscriptTail _ _ (Value.ref _) (Value.int _ _)) _ _ _); k_dflt (refine' item_at ?q9k1 ?q9k2 ?q9k3 ?q9k4 ?_; (case q9k1 => first | with_reducible assumption | exact Fr.lst (by with_reducible assumption) (by with_reducible assumption) | exact News.isList (by with_reducible assumption) (by k_mem)); (case q9k2 => omega); (case q9k3 => omega); (case q9k4 => first | with_reducible assumption | omega); k_whole); intro _ _)
  k_with "compareOp Lt" => (k_here; k_dflt (refine' CmpAt.use ?q9k1 ?q9k2 ?_; (case q9k1 => with_reducible assumption); (case q9k2 => assumption); k_whole))
  k_with "exec While Compare cons nil" => (k_here; refine Stop.to ?_)
  k_with "storeName" => (k_here; k_dflt (refine' stE ?q9F ?q9N ?_ ?q9a ?q9b ?q9c; (case q9b => rfl); (case q9F => with_reducible assumption); (case q9N => with_reducible assumption); (case q9a => rfl); (case q9c => rfl); k_whole); intro h' tk' F' N' q'; (try dsimp only at F' q'); (try dsimp only); revert h' tk' F' N' q'; intro _ _ _ _ _; (try k_sweep))
  k_with "binaryOp FloorDiv int int" => (k_here; refine' div_lit ?q9a ?q9b ?_; (case q9a => decide); (case q9b => decide); k_whole)
  k_with "binaryOp Mod int int" => (k_here; refine' mod_lit ?q9a ?q9b ?_; (case q9a => decide); (case q9b => decide); k_whole)
  k_with "call builtin:max" => (k_here; refine' max3 ?q9a ?q9b ?_ ?q9c; (case q9a => with_reducible assumption); (case q9b => with_reducible assumption); (case q9c => rfl); k_whole; intro h' tk' tk2' F' N' e' q'; (try dsimp only at q'); (try dsimp only); revert h' tk' tk2' F' N' e' q'; intro _ _ _ _ _ _ _; (try k_sweep))
  k_with "call builtin:min" => (k_here; refine' min3 ?q9a ?q9b ?_ ?q9c; (case q9a => with_reducible assumption); (case q9b => with_reducible assumption); (case q9c => rfl); k_whole; intro h' tk' tk2' F' N' e' q'; (try dsimp only at q'); (try dsimp only); revert h' tk' tk2' F' N' e' q'; intro _ _ _ _ _ _ _; (try k_sweep))
  k_with "execs cons" => (k_here; (with_reducible refine execs_seq ?_))
  k_with "execs nil" => (k_here; (with_reducible refine wpAny_execs_nil ?_); (try dsimp only))
  k_with "call ref" => (k_here; refine Stop.to ?_)
  k_with "exec For Name Call cons nil" => (k_here; refine Stop.to ?_)
  k_with "exec Assign cons ListComp cons" => (k_here; refine Stop.to ?_)
  k_with "exec Assign cons ListComp" => (k_here; refine Stop.to ?_)
  k_with "eval ListComp" => (k_here; refine Stop.to ?_)
  k_with "subscriptTail List Slice ref ref" => (k_here; k_dflt (refine kba_turn (value' := PySem.Expr.Name (PySem.Str.ofString "_") ⟨0, 0, 0, 0⟩) (fun _ => rfl) ?_))
  k_with "subscriptTail Name Slice ref ref" => (k_here; k_dflt (refine' kmk_slice ?q9F ?q9N ?q9l ?q9p ?q9q ?_ ?q9s ?q9t ?q9z; (case q9F => with_reducible assumption); (case q9N => with_reducible assumption); (case q9l => first | with_reducible assumption | exact News.isList (by with_reducible assumption) (by k_mem) | exact Fr.lst (by with_reducible assumption) (by with_reducible assumption)); (case q9p => first | exact IsPart.none | exact IsPart.int _ _); (case q9q => first | exact IsPart.none | exact IsPart.int _ _); (case q9s => with_unfolding_all rfl); (case q9t => (intro _; with_unfolding_all rfl)); (case q9z => first | with_reducible assumption | (rw [sizeLine_eq]; simp only [List.size_toArray, List.length_cons, List.length_nil]; omega) | (rw [sizeLine_eq]; omega))); intro D' h' F' N' l1; (try dsimp only); revert D' h' F' N' l1; intro _ _ _ _ _; (try k_sweep))
  k_with "binaryOp Add ref ref" => (k_here; k_dflt (refine' add_arrays ?q9F ?q9N ?q9l ?q9b ?_ ?q9z; (case q9F => with_reducible assumption); (case q9N => with_reducible assumption); (case q9l => first | with_reducible assumption | exact News.isList (by with_reducible assumption) (by k_mem) | exact Fr.lst (by with_reducible assumption) (by with_reducible assumption)); (case q9b => first | with_reducible assumption | exact News.isList (by with_reducible assumption) (by k_mem) | exact Fr.lst (by with_reducible assumption) (by with_reducible assumption)); (case q9z => first | with_reducible assumption | (rw [sizeLine_eq]; omega))); intro h' F' N'; (try dsimp only); revert h' F' N'; intro _ _ _; (try k_sweep))
  k_with "mem" => (first | exact List.Mem.head _ | with_reducible assumption | exact List.not_mem_nil | exact nm1 (by assumption) | exact nm1 (Ne.symm (by assumption)) | exact nm2 (by assumption) (by assumption) | (refine' List.mem_append_left _ ?_; k_extra "mem") | (refine' List.mem_append_right _ ?_; k_extra "mem") | (refine' List.Mem.tail _ ?_; k_extra "mem"))
  trivial
theorem hr {w : World} {base : Heap} {mean : ExcName → Option Value} {mg mb : Str → Option Value} (X : (Mine.hd.heap_39 w.params).In base)
    (T : Top tp tlo mean mg mb base) {s : Shared} (st : base.StaysIn s.heap) {h1 s1 v1 : UInt64} {h0 s0 v0 : Nat} {Q E} (ht : 0 < s.toks) (nh : h0 ≠ 0) (ns : s0 ≠ 0) (nv : v0 ≠ 0) (ok : okH h1 s1 = true)
    (ret : ∀ (h' : Heap) (tk' D : Nat) (x y z : UInt64) (k l m : Nat), Ext [] s.heap h' → s.heap.get? D = none → h'.get? D = some (tupO #[.float x k, .float y l, .float z m]) → hsvF h1 s1 v1 = (x, y, z) → (k ≠ 0 ∧ l ≠ 0 ∧ m ≠ 0) → Q (.ref D) { s with heap := h', toks := tk' }) :
    wpAny (model PySem.Challenge.rw_pg0206_01.row.prog w) (Aw 900) (call (.ref 62) [.float h1 h0, .float s1 s0, .float v1 v0]) Q E s := by
  revert X; k_fill; intro X
  refine' ent (news := []) (binds := [(Str.ofString "h", .float h1 h0), (Str.ofString "s", .float s1 s0), (Str.ofString "v", .float v1 v0)]) X T st ?k1 ?k2 ?k3 ?k4 ?k5 ?k6 ?_ ?k7 ?k8 ?k9 ?k10
  case k1 => intro p hp; cases hp
  case k2 => k_is
  case k3 => k_is
  case k4 => decide
  case k5 => exact kp_binds (Frag.In.keeps X st) (fun _ => rfl)
  case k6 => exact locs rfl
  case k7 => rfl
  case k8 => rfl
  case k9 => rfl
  case k10 => decide
  intro g L h₁ bb1 x1 bb2 z1 F N X T l1 bb3
  try dsimp only at F ⊢

  simp only [okH, Bool.and_eq_true, Bool.not_eq_true', decide_eq_true_eq] at ok
  obtain ⟨⟨⟨o1, o2⟩, o3⟩, o4⟩ := ok
  unfold hsvI at o4
  have o5 : (Flt.toInt Float64.truncOf (Float64.mul h1 4618441417868443648)).natAbs < 2 ^ 1024 - 2 ^ 970 := Nat.lt_of_lt_of_le o4 (by decide +kernel)
  k_steps
  all_goals try (exfalso; first
    | (rename Float64.isNaN _ = true => c; rw [o2] at c; cases c)
    | (rename Float64.isInf _ = true => c; rw [o3] at c; cases c)
    | (rename (Float64.cmp s1 0 == some Ordering.eq) = true => c; rw [o1] at c; cases c)
    | (rename 2 ^ 1024 - 2 ^ 970 ≤ _ => c; exact Nat.not_lt.mpr c o5))
  all_goals try (rename Flt.toInt Float64.truncOf (Float64.mul h1 4618441417868443648) % 6 = _ => c; exact ret _ _ _ _ _ _ _ _ _ (ext_back x1 (by with_reducible assumption)) (fresh_back x1 (by with_reducible assumption) (.head _) (by first | k_extra "mem" | simp)) (News.get (by with_reducible assumption) (.head _)) (by unfold hsvF; rw [o1]; dsimp only [hsvI]; rw [c]; try rfl) (by (try dsimp only); refine ⟨?_, ?_, ?_⟩ <;> first | trivial | assumption | (with_reducible exact fun _ => o427 ‹_›) | exact Nat.succ_ne_zero _))
  all_goals (exfalso; (with_reducible exact (o305 ‹_› ‹_› ‹_› ‹_› ‹_› ‹_›).elim))
end
section
theorem lay_Rv_0 : True := by
  w_top off
  k_with_none
  k_with "eval Name" => (k_here; k_dflt (refine' nameE_C ?q9k1 ?_ ?q9k2 ?q9b ?q9c ?q9d; (case q9b => rfl); (case q9c => rfl); (case q9d => decide); (case q9k2 => rfl); (case q9k1 => first | with_reducible assumption | exact CellAt.keep (by with_reducible assumption) (by with_reducible assumption)); k_whole))
  k_with "eval Name" => (k_here; k_dflt (refine' nameE_B ?q9F ?q9X ?q9T ?q9e ?q9v ?q9n ?_ ?q9a ?q9a2 ?q9b ?q9c ?q9d; (case q9b => rfl); (case q9c => rfl); (case q9F => with_reducible assumption); (case q9X => with_reducible assumption); (case q9T => k_asm); (case q9a => rfl); (case q9a2 => rfl); (case q9d => decide); (case q9e => k_is); (case q9v => boot_fast); (case q9n => decide); k_whole))
  k_with "eval Name" => (k_here; k_dflt (refine' nameE_K ?q9F ?q9X ?q9T ?q9e ?_ ?q9a ?q9b ?q9c ?q9d; (case q9b => rfl); (case q9c => rfl); (case q9F => with_reducible assumption); (case q9X => with_reducible assumption); (case q9T => k_asm); (case q9a => rfl); (case q9d => decide); (case q9e => k_is); k_whole))
  k_with "eval Name" => (k_here; k_dflt (refine' nameE_L ?q9k1 ?q9k2 ?_ ?q9a ?q9b ?q9c ?q9d; (case q9c => rfl); (case q9k1 => with_reducible assumption); (case q9k2 => first | exact rfl | assumption); (case q9a => rfl); (case q9b => rfl); (case q9d => decide); k_whole))
  k_with "call builtin:len" => (k_here; (with_reducible show wpAny _ _ (call (Value.builtin "len") [Value.ref _]) _ _ _); k_dflt (refine' len_list ?q9k1 ?q9k2 ?_; (case q9k1 => first | with_reducible assumption | exact Fr.lst (by with_reducible assumption) (by with_reducible assumption) | exact News.isList (by with_reducible assumption) (by k_mem)); (case q9k2 => first | with_reducible assumption | omega); k_whole))
  k_with "subscriptTail" => (k_here; (with_reducible show wpAny _ _ (subscriptTail _ _ (Value.ref _) (Value.int _ _)) _ _ _); k_dflt (refine' item_at ?q9k1 ?q9k2 ?q9k3 ?q9k4 ?_; (case q9k1 => first | with_reducible assumption | exact Fr.lst (by with_reducible assumption) (by with_reducible assumption) | exact News.isList (by with_reducible assumption) (by k_mem)); (case q9k2 => omega); (case q9k3 => omega); (case q9k4 => first | with_reducible assumption | omega); k_whole); intro _ _)
  k_with "compareOp Lt" => (k_here; k_dflt (refine' CmpAt.use ?q9k1 ?q9k2 ?_; (case q9k1 => with_reducible assumption); (case q9k2 => assumption); k_whole))
  k_with "exec While Compare cons nil" => (k_here; refine Stop.to ?_)
  k_with "storeName" => (k_here; k_dflt (refine' stE ?q9F ?q9N ?_ ?q9a ?q9b ?q9c; (case q9b => rfl); (case q9F => with_reducible assumption); (case q9N => with_reducible assumption); (case q9a => rfl); (case q9c => rfl); k_whole); intro h' tk' F' N' q'; (try dsimp only at F' q'); (try dsimp only); revert h' tk' F' N' q'; intro _ _ _ _ _; (try k_sweep))
  k_with "binaryOp FloorDiv int int" => (k_here; refine' div_lit ?q9a ?q9b ?_; (case q9a => decide); (case q9b => decide); k_whole)
  k_with "binaryOp Mod int int" => (k_here; refine' mod_lit ?q9a ?q9b ?_; (case q9a => decide); (case q9b => decide); k_whole)
  k_with "call builtin:max" => (k_here; refine' max3 ?q9a ?q9b ?_ ?q9c; (case q9a => with_reducible assumption); (case q9b => with_reducible assumption); (case q9c => rfl); k_whole; intro h' tk' tk2' F' N' e' q'; (try dsimp only at q'); (try dsimp only); revert h' tk' tk2' F' N' e' q'; intro _ _ _ _ _ _ _; (try k_sweep))
  k_with "call builtin:min" => (k_here; refine' min3 ?q9a ?q9b ?_ ?q9c; (case q9a => with_reducible assumption); (case q9b => with_reducible assumption); (case q9c => rfl); k_whole; intro h' tk' tk2' F' N' e' q'; (try dsimp only at q'); (try dsimp only); revert h' tk' tk2' F' N' e' q'; intro _ _ _ _ _ _ _; (try k_sweep))
  k_with "execs cons" => (k_here; (with_reducible refine execs_seq ?_))
  k_with "execs nil" => (k_here; (with_reducible refine wpAny_execs_nil ?_); (try dsimp only))
  k_with "call ref" => (k_here; refine Stop.to ?_)
  k_with "exec For Name Call cons nil" => (k_here; refine Stop.to ?_)
  k_with "exec Assign cons ListComp cons" => (k_here; refine Stop.to ?_)
  k_with "exec Assign cons ListComp" => (k_here; refine Stop.to ?_)
  k_with "eval ListComp" => (k_here; refine Stop.to ?_)
  k_with "subscriptTail List Slice ref ref" => (k_here; k_dflt (refine kba_turn (value' := PySem.Expr.Name (PySem.Str.ofString "_") ⟨0, 0, 0, 0⟩) (fun _ => rfl) ?_))
  k_with "subscriptTail Name Slice ref ref" => (k_here; k_dflt (refine' kmk_slice ?q9F ?q9N ?q9l ?q9p ?q9q ?_ ?q9s ?q9t ?q9z; (case q9F => with_reducible assumption); (case q9N => with_reducible assumption); (case q9l => first | with_reducible assumption | exact News.isList (by with_reducible assumption) (by k_mem) | exact Fr.lst (by with_reducible assumption) (by with_reducible assumption)); (case q9p => first | exact IsPart.none | exact IsPart.int _ _); (case q9q => first | exact IsPart.none | exact IsPart.int _ _); (case q9s => with_unfolding_all rfl); (case q9t => (intro _; with_unfolding_all rfl)); (case q9z => first | with_reducible assumption | (rw [sizeLine_eq]; simp only [List.size_toArray, List.length_cons, List.length_nil]; omega) | (rw [sizeLine_eq]; omega))); intro D' h' F' N' l1; (try dsimp only); revert D' h' F' N' l1; intro _ _ _ _ _; (try k_sweep))
  k_with "binaryOp Add ref ref" => (k_here; k_dflt (refine' add_arrays ?q9F ?q9N ?q9l ?q9b ?_ ?q9z; (case q9F => with_reducible assumption); (case q9N => with_reducible assumption); (case q9l => first | with_reducible assumption | exact News.isList (by with_reducible assumption) (by k_mem) | exact Fr.lst (by with_reducible assumption) (by with_reducible assumption)); (case q9b => first | with_reducible assumption | exact News.isList (by with_reducible assumption) (by k_mem) | exact Fr.lst (by with_reducible assumption) (by with_reducible assumption)); (case q9z => first | with_reducible assumption | (rw [sizeLine_eq]; omega))); intro h' F' N'; (try dsimp only); revert h' F' N'; intro _ _ _; (try k_sweep))
  k_with "mem" => (first | exact List.Mem.head _ | with_reducible assumption | exact List.not_mem_nil | exact nm1 (by assumption) | exact nm1 (Ne.symm (by assumption)) | exact nm2 (by assumption) (by assumption) | (refine' List.mem_append_left _ ?_; k_extra "mem") | (refine' List.mem_append_right _ ?_; k_extra "mem") | (refine' List.Mem.tail _ ?_; k_extra "mem"))
  trivial
theorem rv {w : World} {base : Heap} {mean : ExcName → Option Value} {mg mb : Str → Option Value} (X : (Mine.hd.heap_39 w.params).In base)
    (T : Top tp tlo mean mg mb base) {s : Shared} (st : base.StaysIn s.heap) {r1 g1 b1 : UInt64} {r0 g0 b0 : Nat} {Q E} (ht : 0 < s.toks) (nr : r0 ≠ 0) (ng : g0 ≠ 0) (nb : b0 ≠ 0) (ok : okC r1 g1 b1 = true)
    (ret : ∀ (h' : Heap) (tk' D : Nat) (x y z : UInt64) (k l m : Nat), Ext [] s.heap h' → s.heap.get? D = none → h'.get? D = some (tupO #[.float x k, .float y l, .float z m]) → (hueF r1 g1 b1, Float64.div (Float64.sub (maxF r1 g1 b1) (minF r1 g1 b1)) (maxF r1 g1 b1), maxF r1 g1 b1) = (x, y, z) → ((s.toks ≤ k ∧ k < tk') ∧ l ≠ 0 ∧ m ≠ 0) → Q (.ref D) { s with heap := h', toks := tk' }) :
    wpAny (model PySem.Challenge.rw_pg0206_01.row.prog w) (Aw 900) (call (.ref 55) [.float r1 r0, .float g1 g0, .float b1 b0]) Q E s := by
  revert X; k_fill; intro X
  refine' ent (news := []) (binds := [(Str.ofString "r", .float r1 r0), (Str.ofString "g", .float g1 g0), (Str.ofString "b", .float b1 b0)]) X T st ?k1 ?k2 ?k3 ?k4 ?k5 ?k6 ?_ ?k7 ?k8 ?k9 ?k10
  case k1 => intro p hp; cases hp
  case k2 => k_is
  case k3 => k_is
  case k4 => decide
  case k5 => exact kp_binds (Frag.In.keeps X st) (fun _ => rfl)
  case k6 => exact locs rfl
  case k7 => rfl
  case k8 => rfl
  case k9 => rfl
  case k10 => decide
  intro g L h₁ bb1 x1 bb2 z1 F N X T l1 bb3
  try dsimp only at F ⊢

  simp only [okC, Bool.and_eq_true, Bool.not_eq_true'] at ok
  obtain ⟨⟨⟨⟨o1, o2⟩, o3⟩, o4⟩, o5⟩ := ok
  k_steps
  all_goals try (exfalso; first
    | (rename Float64.isZero (maxF r1 g1 b1) = true => c; rw [o2] at c; cases c)
    | (rename Float64.isZero (Float64.sub (maxF r1 g1 b1) (minF r1 g1 b1)) = true => c; rw [o3] at c; cases c)
    | (rename Float64.isZero (Float64.add (maxF r1 g1 b1) (minF r1 g1 b1)) = true => c; rw [o4] at c; cases c)
    | (rename Float64.isZero (Float64.sub (Float64.sub _ (maxF r1 g1 b1)) (minF r1 g1 b1)) = true => c; rw [o5] at c; cases c)
    | (rename (Float64.cmp (minF r1 g1 b1) (maxF r1 g1 b1) == some Ordering.eq) = true => c; rw [o1] at c; cases c))
  all_goals first
    | (rename (Float64.cmp r1 (maxF r1 g1 b1) == some Ordering.eq) = true => c1; exact ret _ _ _ _ _ _ _ _ _ (ext_back x1 (by with_reducible assumption)) (fresh_back x1 (by with_reducible assumption) (.head _) (by first | k_extra "mem" | simp)) (News.get (by with_reducible assumption) (.head _)) (by unfold hueF; dsimp only; rw [c1]; try rfl) (by (try dsimp only); refine ⟨?_, ?_, ?_⟩ <;> first | trivial | assumption | (first | with_reducible exact o478 ‹_› ‹_› ‹_› ‹_› ‹_› ‹_› ‹_› ‹_› ‹_› ‹_› ‹_› ‹_› | omega) | exact Nat.succ_ne_zero _))
    | (rename (Float64.cmp g1 (maxF r1 g1 b1) == some Ordering.eq) = true => c2; rename (Float64.cmp r1 (maxF r1 g1 b1) == some Ordering.eq) = false => c1; exact ret _ _ _ _ _ _ _ _ _ (ext_back x1 (by with_reducible assumption)) (fresh_back x1 (by with_reducible assumption) (.head _) (by first | k_extra "mem" | simp)) (News.get (by with_reducible assumption) (.head _)) (by unfold hueF; dsimp only; rw [c1, c2]; try rfl) (by (try dsimp only); refine ⟨?_, ?_, ?_⟩ <;> first | trivial | assumption | (first | with_reducible exact o397 ‹_› ‹_› ‹_› ‹_› ‹_› ‹_› ‹_› ‹_› ‹_› ‹_› ‹_› ‹_› | omega) | exact Nat.succ_ne_zero _))
    | (rename (Float64.cmp g1 (maxF r1 g1 b1) == some Ordering.eq) = false => c2; rename (Float64.cmp r1 (maxF r1 g1 b1) == some Ordering.eq) = false => c1; exact ret _ _ _ _ _ _ _ _ _ (ext_back x1 (by with_reducible assumption)) (fresh_back x1 (by with_reducible assumption) (.head _) (by first | k_extra "mem" | simp)) (News.get (by with_reducible assumption) (.head _)) (by unfold hueF; dsimp only; rw [c1, c2]; try rfl) (by (try dsimp only); refine ⟨?_, ?_, ?_⟩ <;> first | trivial | assumption | (first | with_reducible exact o397 ‹_› ‹_› ‹_› ‹_› ‹_› ‹_› ‹_› ‹_› ‹_› ‹_› ‹_› ‹_› | omega) | exact Nat.succ_ne_zero _))
end
section
theorem lay_Rl_0 : True := by
  w_top off
  k_with_none
  k_with "eval Name" => (k_here; k_dflt (refine' nameE_C ?q9k1 ?_ ?q9k2 ?q9b ?q9c ?q9d; (case q9b => rfl); (case q9c => rfl); (case q9d => decide); (case q9k2 => rfl); (case q9k1 => first | with_reducible assumption | exact CellAt.keep (by with_reducible assumption) (by with_reducible assumption)); k_whole))
  k_with "eval Name" => (k_here; k_dflt (refine' nameE_B ?q9F ?q9X ?q9T ?q9e ?q9v ?q9n ?_ ?q9a ?q9a2 ?q9b ?q9c ?q9d; (case q9b => rfl); (case q9c => rfl); (case q9F => with_reducible assumption); (case q9X => with_reducible assumption); (case q9T => k_asm); (case q9a => rfl); (case q9a2 => rfl); (case q9d => decide); (case q9e => k_is); (case q9v => boot_fast); (case q9n => decide); k_whole))
  k_with "eval Name" => (k_here; k_dflt (refine' nameE_K ?q9F ?q9X ?q9T ?q9e ?_ ?q9a ?q9b ?q9c ?q9d; (case q9b => rfl); (case q9c => rfl); (case q9F => with_reducible assumption); (case q9X => with_reducible assumption); (case q9T => k_asm); (case q9a => rfl); (case q9d => decide); (case q9e => k_is); k_whole))
  k_with "eval Name" => (k_here; k_dflt (refine' nameE_L ?q9k1 ?q9k2 ?_ ?q9a ?q9b ?q9c ?q9d; (case q9c => rfl); (case q9k1 => with_reducible assumption); (case q9k2 => first | exact rfl | assumption); (case q9a => rfl); (case q9b => rfl); (case q9d => decide); k_whole))
  k_with "call builtin:len" => (k_here; (with_reducible show wpAny _ _ (call (Value.builtin "len") [Value.ref _]) _ _ _); k_dflt (refine' len_list ?q9k1 ?q9k2 ?_; (case q9k1 => first | with_reducible assumption | exact Fr.lst (by with_reducible assumption) (by with_reducible assumption) | exact News.isList (by with_reducible assumption) (by k_mem)); (case q9k2 => first | with_reducible assumption | omega); k_whole))
  k_with "subscriptTail" => (k_here; (with_reducible show wpAny _ _ (subscriptTail _ _ (Value.ref _) (Value.int _ _)) _ _ _); k_dflt (refine' item_at ?q9k1 ?q9k2 ?q9k3 ?q9k4 ?_; (case q9k1 => first | with_reducible assumption | exact Fr.lst (by with_reducible assumption) (by with_reducible assumption) | exact News.isList (by with_reducible assumption) (by k_mem)); (case q9k2 => omega); (case q9k3 => omega); (case q9k4 => first | with_reducible assumption | omega); k_whole); intro _ _)
  k_with "compareOp Lt" => (k_here; k_dflt (refine' CmpAt.use ?q9k1 ?q9k2 ?_; (case q9k1 => with_reducible assumption); (case q9k2 => assumption); k_whole))
  k_with "exec While Compare cons nil" => (k_here; refine Stop.to ?_)
  k_with "storeName" => (k_here; k_dflt (refine' stE ?q9F ?q9N ?_ ?q9a ?q9b ?q9c; (case q9b => rfl); (case q9F => with_reducible assumption); (case q9N => with_reducible assumption); (case q9a => rfl); (case q9c => rfl); k_whole); intro h' tk' F' N' q'; (try dsimp only at F' q'); (try dsimp only); revert h' tk' F' N' q'; intro _ _ _ _ _; (try k_sweep))
  k_with "binaryOp FloorDiv int int" => (k_here; refine' div_lit ?q9a ?q9b ?_; (case q9a => decide); (case q9b => decide); k_whole)
  k_with "binaryOp Mod int int" => (k_here; refine' mod_lit ?q9a ?q9b ?_; (case q9a => decide); (case q9b => decide); k_whole)
  k_with "call builtin:max" => (k_here; refine' max3 ?q9a ?q9b ?_ ?q9c; (case q9a => with_reducible assumption); (case q9b => with_reducible assumption); (case q9c => rfl); k_whole; intro h' tk' tk2' F' N' e' q'; (try dsimp only at q'); (try dsimp only); revert h' tk' tk2' F' N' e' q'; intro _ _ _ _ _ _ _; (try k_sweep))
  k_with "call builtin:min" => (k_here; refine' min3 ?q9a ?q9b ?_ ?q9c; (case q9a => with_reducible assumption); (case q9b => with_reducible assumption); (case q9c => rfl); k_whole; intro h' tk' tk2' F' N' e' q'; (try dsimp only at q'); (try dsimp only); revert h' tk' tk2' F' N' e' q'; intro _ _ _ _ _ _ _; (try k_sweep))
  k_with "execs cons" => (k_here; (with_reducible refine execs_seq ?_))
  k_with "execs nil" => (k_here; (with_reducible refine wpAny_execs_nil ?_); (try dsimp only))
  k_with "call ref" => (k_here; refine Stop.to ?_)
  k_with "exec For Name Call cons nil" => (k_here; refine Stop.to ?_)
  k_with "exec Assign cons ListComp cons" => (k_here; refine Stop.to ?_)
  k_with "exec Assign cons ListComp" => (k_here; refine Stop.to ?_)
  k_with "eval ListComp" => (k_here; refine Stop.to ?_)
  k_with "subscriptTail List Slice ref ref" => (k_here; k_dflt (refine kba_turn (value' := PySem.Expr.Name (PySem.Str.ofString "_") ⟨0, 0, 0, 0⟩) (fun _ => rfl) ?_))
  k_with "subscriptTail Name Slice ref ref" => (k_here; k_dflt (refine' kmk_slice ?q9F ?q9N ?q9l ?q9p ?q9q ?_ ?q9s ?q9t ?q9z; (case q9F => with_reducible assumption); (case q9N => with_reducible assumption); (case q9l => first | with_reducible assumption | exact News.isList (by with_reducible assumption) (by k_mem) | exact Fr.lst (by with_reducible assumption) (by with_reducible assumption)); (case q9p => first | exact IsPart.none | exact IsPart.int _ _); (case q9q => first | exact IsPart.none | exact IsPart.int _ _); (case q9s => with_unfolding_all rfl); (case q9t => (intro _; with_unfolding_all rfl)); (case q9z => first | with_reducible assumption | (rw [sizeLine_eq]; simp only [List.size_toArray, List.length_cons, List.length_nil]; omega) | (rw [sizeLine_eq]; omega))); intro D' h' F' N' l1; (try dsimp only); revert D' h' F' N' l1; intro _ _ _ _ _; (try k_sweep))
  k_with "binaryOp Add ref ref" => (k_here; k_dflt (refine' add_arrays ?q9F ?q9N ?q9l ?q9b ?_ ?q9z; (case q9F => with_reducible assumption); (case q9N => with_reducible assumption); (case q9l => first | with_reducible assumption | exact News.isList (by with_reducible assumption) (by k_mem) | exact Fr.lst (by with_reducible assumption) (by with_reducible assumption)); (case q9b => first | with_reducible assumption | exact News.isList (by with_reducible assumption) (by k_mem) | exact Fr.lst (by with_reducible assumption) (by with_reducible assumption)); (case q9z => first | with_reducible assumption | (rw [sizeLine_eq]; omega))); intro h' F' N'; (try dsimp only); revert h' F' N'; intro _ _ _; (try k_sweep))
  k_with "mem" => (first | exact List.Mem.head _ | with_reducible assumption | exact List.not_mem_nil | exact nm1 (by assumption) | exact nm1 (Ne.symm (by assumption)) | exact nm2 (by assumption) (by assumption) | (refine' List.mem_append_left _ ?_; k_extra "mem") | (refine' List.mem_append_right _ ?_; k_extra "mem") | (refine' List.Mem.tail _ ?_; k_extra "mem"))
  trivial
theorem rl {w : World} {base : Heap} {mean : ExcName → Option Value} {mg mb : Str → Option Value} (X : (Mine.hd.heap_39 w.params).In base)
    (T : Top tp tlo mean mg mb base) {s : Shared} (st : base.StaysIn s.heap) {r1 g1 b1 : UInt64} {r0 g0 b0 : Nat} {Q E} (ht : 0 < s.toks) (nr : r0 ≠ 0) (ng : g0 ≠ 0) (nb : b0 ≠ 0) (ok : okC r1 g1 b1 = true)
    (ret : ∀ (h' : Heap) (tk' D : Nat) (x y z : UInt64) (k l m : Nat), Ext [] s.heap h' → s.heap.get? D = none → h'.get? D = some (tupO #[.float x k, .float y l, .float z m]) → (hueF r1 g1 b1, lightF r1 g1 b1) = (x, y) → ((s.toks ≤ k ∧ k < tk') ∧ True ∧ True) → Q (.ref D) { s with heap := h', toks := tk' }) :
    wpAny (model PySem.Challenge.rw_pg0206_01.row.prog w) (Aw 900) (call (.ref 48) [.float r1 r0, .float g1 g0, .float b1 b0]) Q E s := by
  revert X; k_fill; intro X
  refine' ent (news := []) (binds := [(Str.ofString "r", .float r1 r0), (Str.ofString "g", .float g1 g0), (Str.ofString "b", .float b1 b0)]) X T st ?k1 ?k2 ?k3 ?k4 ?k5 ?k6 ?_ ?k7 ?k8 ?k9 ?k10
  case k1 => intro p hp; cases hp
  case k2 => k_is
  case k3 => k_is
  case k4 => decide
  case k5 => exact kp_binds (Frag.In.keeps X st) (fun _ => rfl)
  case k6 => exact locs rfl
  case k7 => rfl
  case k8 => rfl
  case k9 => rfl
  case k10 => decide
  intro g L h₁ bb1 x1 bb2 z1 F N X T l1 bb3
  try dsimp only at F ⊢

  simp only [okC, Bool.and_eq_true, Bool.not_eq_true'] at ok
  obtain ⟨⟨⟨⟨o1, o2⟩, o3⟩, o4⟩, o5⟩ := ok
  k_steps
  all_goals try (exfalso; first
    | (rename Float64.isZero (maxF r1 g1 b1) = true => c; rw [o2] at c; cases c)
    | (rename Float64.isZero (Float64.sub (maxF r1 g1 b1) (minF r1 g1 b1)) = true => c; rw [o3] at c; cases c)
    | (rename Float64.isZero (Float64.add (maxF r1 g1 b1) (minF r1 g1 b1)) = true => c; rw [o4] at c; cases c)
    | (rename Float64.isZero (Float64.sub (Float64.sub _ (maxF r1 g1 b1)) (minF r1 g1 b1)) = true => c; rw [o5] at c; cases c)
    | (rename (Float64.cmp (minF r1 g1 b1) (maxF r1 g1 b1) == some Ordering.eq) = true => c; rw [o1] at c; cases c))
  all_goals first
    | (rename (Float64.cmp r1 (maxF r1 g1 b1) == some Ordering.eq) = true => c1; exact ret _ _ _ _ _ _ _ _ _ (ext_back x1 (by with_reducible assumption)) (fresh_back x1 (by with_reducible assumption) (.head _) (by first | k_extra "mem" | simp)) (News.get (by with_reducible assumption) (.head _)) (by unfold hueF lightF; dsimp only; rw [c1]; try rfl) (by (try dsimp only); refine ⟨?_, ?_, ?_⟩ <;> first | trivial | assumption | (first | with_reducible exact o99 ‹_› ‹_› ‹_› ‹_› ‹_› ‹_› ‹_› ‹_› ‹_› ‹_› ‹_› ‹_› ‹_› | with_reducible exact o468 ‹_› ‹_› ‹_› ‹_› ‹_› ‹_› ‹_› ‹_› ‹_› ‹_› ‹_› ‹_› ‹_›) | exact Nat.succ_ne_zero _))
    | (rename (Float64.cmp g1 (maxF r1 g1 b1) == some Ordering.eq) = true => c2; rename (Float64.cmp r1 (maxF r1 g1 b1) == some Ordering.eq) = false => c1; exact ret _ _ _ _ _ _ _ _ _ (ext_back x1 (by with_reducible assumption)) (fresh_back x1 (by with_reducible assumption) (.head _) (by first | k_extra "mem" | simp)) (News.get (by with_reducible assumption) (.head _)) (by unfold hueF lightF; dsimp only; rw [c1, c2]; try rfl) (by (try dsimp only); refine ⟨?_, ?_, ?_⟩ <;> first | trivial | assumption | (first | with_reducible exact o104 ‹_› ‹_› ‹_› ‹_› ‹_› ‹_› ‹_› ‹_› ‹_› ‹_› ‹_› ‹_› ‹_› | with_reducible exact o454 ‹_› ‹_› ‹_› ‹_› ‹_› ‹_› ‹_› ‹_› ‹_› ‹_› ‹_› ‹_› ‹_›) | exact Nat.succ_ne_zero _))
    | (rename (Float64.cmp g1 (maxF r1 g1 b1) == some Ordering.eq) = false => c2; rename (Float64.cmp r1 (maxF r1 g1 b1) == some Ordering.eq) = false => c1; exact ret _ _ _ _ _ _ _ _ _ (ext_back x1 (by with_reducible assumption)) (fresh_back x1 (by with_reducible assumption) (.head _) (by first | k_extra "mem" | simp)) (News.get (by with_reducible assumption) (.head _)) (by unfold hueF lightF; dsimp only; rw [c1, c2]; try rfl) (by (try dsimp only); refine ⟨?_, ?_, ?_⟩ <;> first | trivial | assumption | (first | with_reducible exact o104 ‹_› ‹_› ‹_› ‹_› ‹_› ‹_› ‹_› ‹_› ‹_› ‹_› ‹_› ‹_› ‹_› | with_reducible exact o454 ‹_› ‹_› ‹_› ‹_› ‹_› ‹_› ‹_› ‹_› ‹_› ‹_› ‹_› ‹_› ‹_›) | exact Nat.succ_ne_zero _))
end
section
variable {prog : Program} {w : World} {A : Around} {E : Value → Shared → Prop} {s : Shared}
theorem isSame_flt {x y : UInt64} {t u : Nat} {Q : Bool → Shared → Prop} (h0 : t ≠ 0) (h1 : u ≠ 0) (hb : NoneBooked s.heap) (e : Bool) (h2 : t = u → e = true) (h3 : x = y → e = true) (q1 : e = true → Q true s) (q0 : Q false s) :
    wpAny (model prog w) A (isSame (.float x t) (.float y u)) Q E s := by
  show wpAny _ _ (isSame.created (x == y && !Float64.isNaN x) t u) Q E s
  unfold isSame.created
  refine wpAny_ite ?_
  rw [if_neg (by simp [h0, h1])]
  refine wpAny_ite ?_
  by_cases htu : t = u
  · rw [if_pos (by simp [htu])]
    exact wpAny_pure (q1 (h2 htu))
  · rw [if_neg (by simp [htu])]
    refine wpAny_ite ?_
    by_cases hxy : x = y
    · have q2 : ∀ b, Q b s := fun b => by cases b; exact q0; exact q1 (h3 hxy)
      split
      · exact wpAny_pure (q2 _)
      refine wpAny_bind (wpAny_sharingNotTold_none hb ?_)
      first | rw [if_neg Bool.false_ne_true] | simp only [Bool.false_eq_true, if_false]
      refine wpAny_bind (wpAny_sharingNotTold_none hb ?_)
      first | rw [if_neg Bool.false_ne_true] | simp only [Bool.false_eq_true, if_false]
      exact wpAny_bind (wpAny_rule (wpAny_bind (wpAny_askSetting (wpAny_pure (q2 _)))))
    · rw [if_pos (by simp [hxy])]
      exact wpAny_pure q0
theorem eqBool_flt {x y : UInt64} {t u : Nat} {Q : Bool → Shared → Prop} (h0 : t ≠ 0) (h1 : u ≠ 0) (hb : NoneBooked s.heap) (e : Bool) (he : (Float64.cmp x y == some Ordering.eq) = e) (h2 : t = u → e = true) (h3 : x = y → e = true) (q : Q e s) :
    wpAny (model prog w) A (eqBool (.float x t) (.float y u)) Q E s := by
  unfold eqBool
  refine wpAny_holding ?_
  by_cases hab : (Value.float x t == Value.float y u) = true
  · rw [if_pos hab]
    have e1 : x = y := by have := eq_of_beq hab; injection this
    have q' := h3 e1
    subst q'
    exact wpAny_bind (wpAny_rule (wpAny_pure q))
  · rw [if_neg hab]
    dsimp only
    refine wpAny_bind (isSame_flt h0 h1 hb e h2 h3 (fun q' => ?_) ?_)
    · subst q'
      simp only [if_true]
      exact wpAny_pure q
    · simp only [Bool.false_eq_true, if_false]
      refine wpAny_bind (cmp_ofEq (AutoFloatOps.eq_0 ?_))
      rw [he]
      exact wpAny_truthy_bool q
end
section
variable {prog : Program} {w : World} {A : Around} {E : Value → Shared → Prop} {s : Shared}
theorem tup_lt_tree {a b : Addr} {x y : UInt64} {i j : Int} {t u c d : Nat} {P : PySem.Fin → Shared → Prop} (ha : s.heap.IsTuple a #[.float x t, .int i c]) (hb : s.heap.IsTuple b #[.float y u, .int j d])
    (h0 : t ≠ 0) (h1 : u ≠ 0) (hn : NoneBooked s.heap) (e : Bool) (he : (Float64.cmp x y == some Ordering.eq) = e) (h2 : t = u → e = true) (h3 : x = y → e = true)
    (h : P (.done (.ret (.bool (if e = true then decide (i < j) else (Float64.cmp x y == some Ordering.lt))))) s) :
    wpAny (model prog w) A (Builtin.«tuple.__lt__» ⟨[.ref a, .ref b], []⟩) P E s := by
  have hTb := hb.typeIs
  obtain ⟨oa, hoa, _, na, hda⟩ := ha
  obtain ⟨ob, hob, _, nb, hdb⟩ := hb
  show wpAny _ _ (isInstance (.ref b) (.type "tuple") >>= _) _ _ s
  refine wpAny_bind (wpAny_isInstance hTb isSubtype_tuple_tuple ?_)
  simp only [Bool.not_true, Bool.false_eq_true, if_false]
  refine wpAny_bind (wpAny_tupleItemsOf hoa hda ?_)
  refine wpAny_bind (wpAny_tupleItemsOf hob hdb ?_)
  refine wpAny_bind ?_
  simp only [List.zip_cons_cons, List.zip_nil_left, List.forIn_cons, List.forIn_nil]
  refine wpAny_bind (wpAny_bind (eqBool_flt h0 h1 hn e he h2 h3 ?_))
  cases e with
  | false =>
    simp only [Bool.not_false, if_true, Bool.false_eq_true, if_false] at h ⊢
    refine wpAny_bind (wpAny_rule (wpAny_bind (cmp_ofLt (AutoFloatOps.lt_0 ?_))))
    exact wpAny_bind (wpAny_pure (wpAny_pure (wpAny_pure (wpAny_pure h))))
  | true =>
    simp only [Bool.not_true, Bool.false_eq_true, if_false, if_true] at h ⊢
    refine wpAny_pure ?_
    refine wpAny_bind (wpAny_bind (wpAny_eqBool_int ?_))
    by_cases hij : i = j
    · subst hij
      simp only [beq_self_eq_true, Bool.not_true, Bool.false_eq_true, if_false]
      refine wpAny_pure (wpAny_pure (wpAny_pure ?_))
      show P (.done (.ret (.bool false))) s
      simpa using h
    · have q : (i == j) = false := by simpa using hij
      simp only [q, Bool.not_false, if_true]
      refine wpAny_bind (wpAny_rule (wpAny_bind (cmp_ofLt (lt_int ?_))))
      exact wpAny_bind (wpAny_pure (wpAny_pure (wpAny_pure (wpAny_pure h))))
theorem tup_lt {a b : Addr} {x y : UInt64} {i j : Int} {t u c d : Nat} {Q : Value → Shared → Prop} (hu : A.units < cLine) (ha : s.heap.IsTuple a #[.float x t, .int i c]) (hb : s.heap.IsTuple b #[.float y u, .int j d])
    (h0 : t ≠ 0) (h1 : u ≠ 0) (hn : NoneBooked s.heap) (e : Bool) (he : (Float64.cmp x y == some Ordering.eq) = e) (h2 : t = u → e = true) (h3 : x = y → e = true)
    (h : Q (.bool (if e = true then decide (i < j) else (Float64.cmp x y == some Ordering.lt))) s) : wpAny (model prog w) A (compareOp .Lt (.ref a) (.ref b)) Q E s :=
  cmp_ofLt (wpAny_richCompare_same_room (op := .Lt) ha.typeIs hb.typeIs F.slot_tuple_lt
    (wpAny_call_entry F.slot_tuple_lt ha.typeIs F.entry_tuple_lt (tup_lt_tree ha hb h0 h1 hn e he h2 h3 ⟨_, rfl, (fun e => nomatch e), h⟩) (F.args_tuple_lt_2 _ _)) hu)
end
section
variable {prog : Program} {w : World} {A : Around} {E : Value → Shared → Prop} {s : Shared} {h₀ : Heap} {L D : Addr} {m : Str → Option Value} {news news' : List (Addr × Obj)}
theorem item_gd {value slice : PySem.Expr} {l : Addr} {its : Array Value} {k : Int} {u : Tok} {Q : Value → Shared → Prop} (hl : s.heap.IsList l its)
    (h0 : 0 ≤ k) (hk : k < its.size) (hz : (its.size : Int) < 2 ^ 60) (h : Q (its.getD k.toNat .none) s)
    (hs : subscripted slice false (.ref l) (.int k u) = operate [.ref l, .int k u] (getItem (.ref l) (.int k u)) := by with_unfolding_all rfl) (hg : ∀ r, letTemporaryGo value (.ref l) r = pure () := by intro _; with_unfolding_all rfl) :
    wpAny (model prog w) A (subscriptTail value slice (.ref l) (.int k u)) Q E s := by
  have hi : k.toNat < its.size := by (with_reducible exact o139 ‹_› ‹_›)
  have e : its.getD k.toNat .none = its[k.toNat] := by simp [Array.getD, hi]
  rw [e] at h
  exact item_list hl h0 (by (with_reducible exact o311 ‹_› ‹_›)) (Array.getElem?_eq_getElem hi) h hs hg
theorem set_at {its : Array Value} {n : Nat} {k : Int} {t : Tok} {v : Value} {Q : Unit → Shared → Prop} (F : Fr h₀ L s.heap m) (N : News h₀ L s.heap news) (U : Upd D (listOf its n) (listOf (its.setIfInBounds k.toNat v) n) news news')
    (h0 : 0 ≤ k) (hk : k < its.size) (hz : (its.size : Int) < 2 ^ 60) (h : ∀ h', Fr h₀ L h' m → News h₀ L h' news' → Q () { s with heap := h' }) :
    wpAny (model prog w) A (setItem (.ref D) (.int k t) v) Q E s := by
  obtain ⟨pre, post, rfl, rfl, a, b⟩ := U.split
  have z := N (D, listOf its n) (List.mem_append.mpr (.inr (.head _)))
  exact ki_setAt z.1 h0 (by (with_reducible exact o311 ‹_› ‹_›)) (by omega) (h _ (F.change (Heap.SameBut.update ..) z.2.1 z.2.2) (ki_turn _ N a b rfl (by simp)))
theorem shr1 {a : Int} {t u : Tok} {Q : Value → Shared → Prop} (h : Q (.int (a / 2) s.toks) { s with toks := s.toks + 1 }) : wpAny (model prog w) A (binaryOp .RShift (.int a t) (.int 1 u)) Q E s :=
  rshift_int (by decide) (by show Q (.int (a.fdiv 2) _) _; rw [fdiv2]; exact h)
end
/-- the items that may be compared -/
structure AllS (S : Value → Prop) (its : Array Value) : Prop where
  all : ∀ i, i < its.size → S (its.getD i .none)
theorem AllS.gd {S : Value → Prop} {its : Array Value} {i : Nat} (h : AllS S its) (hi : i < its.size) : S (its.getD i .none) := h.all i hi
theorem getD_set_ne {its : Array Value} {i j : Nat} {v : Value} (h : i ≠ j) : (its.setIfInBounds i v).getD j .none = its.getD j .none := by
  rw [Array.getD_eq_getD_getElem?, Array.getD_eq_getD_getElem?, Array.getElem?_setIfInBounds, if_neg h]
theorem getD_set_eq {its : Array Value} {i : Nat} {v : Value} (h : i < its.size) : (its.setIfInBounds i v).getD i .none = v := by
  rw [Array.getD_eq_getD_getElem?, Array.getElem?_setIfInBounds, if_pos rfl, if_pos h]; rfl
theorem AllS.set {S : Value → Prop} {its : Array Value} {i : Nat} {v : Value} (h : AllS S its) (hv : S v) : AllS S (its.setIfInBounds i v) := ⟨fun j hj => by
  rw [Array.size_setIfInBounds] at hj
  by_cases e : i = j
  · subst e; rw [getD_set_eq hj]; exact hv
  · rw [getD_set_ne e]; exact h.all j hj⟩
/-- any two of S are compared so, while all but the list at a stands -/
noncomputable def LtOn (w : World) (a : Addr) (h : Heap) (S : Value → Prop) (lt : Value → Value → Bool) : Prop :=
  ∀ (v u : Value) (A : Around) (Q : Value → Shared → Prop) (E : Value → Shared → Prop) (s : Shared), S v → S u → A.units < cLine → Ext [a] h s.heap → Q (.bool (lt v u)) s → wpAny (model PySem.Challenge.rw_pg0206_01.row.prog w) A (compareOp .Lt v u) Q E s
theorem LtOn.use {w : World} {a : Addr} {h : Heap} {S : Value → Prop} {lt : Value → Value → Bool} {v u : Value} {A : Around} {Q : Value → Shared → Prop} {E : Value → Shared → Prop} {s : Shared} (l : LtOn w a h S lt) (hv : S v) (hu : S u) (hA : A.units < cLine)
    (x : Ext [a] h s.heap) (q : Q (.bool (lt v u)) s) : wpAny (model PySem.Challenge.rw_pg0206_01.row.prog w) A (compareOp .Lt v u) Q E s := l v u A Q E s hv hu hA x q
theorem LtOn.ext {w : World} {a : Addr} {h h' : Heap} {S : Value → Prop} {lt : Value → Value → Bool} (l : LtOn w a h S lt) (x : Ext [a] h h') : LtOn w a h' S lt := fun v u A Q E s hv hu hA y q => l v u A Q E s hv hu hA (x.trans y) q
/-- what _siftdown makes -/
noncomputable def sdF (lt : Value → Value → Bool) (x : Value) (start : Nat) : Nat → Nat → Array Value → Array Value
  | 0, pos, a => a.setIfInBounds pos x
  | f + 1, pos, a => if start < pos then (if lt x (a.getD ((pos - 1) / 2) .none) = true then sdF lt x start f ((pos - 1) / 2) (a.setIfInBounds pos (a.getD ((pos - 1) / 2) .none)) else a.setIfInBounds pos x) else a.setIfInBounds pos x
/-- how a turn of a while ends -/
noncomputable def TurnEnd (h₀ : Heap) (L : Addr) (s : Shared) (J : Nat → (Str → Option Value) → List (Addr × Obj) → Prop) (Q : Flow → Shared → Prop) (n : Nat) (f : Flow) (s₃ : Shared) : Prop :=
  match f with
  | .next | .cont => ∃ h' tk m₂ news₂ n', s₃ = { s with heap := h', toks := tk } ∧ Fr h₀ L h' m₂ ∧ News h₀ L h' news₂ ∧ n' < n ∧ J n' m₂ news₂
  | .brk => Q .next s₃
  | .ret v => Q (.ret v) s₃
section
variable {h₀ h' : Heap} {L : Addr} {s s₃ : Shared} {J : Nat → (Str → Option Value) → List (Addr × Obj) → Prop} {Q : Flow → Shared → Prop} {n n' tk : Nat} {m₂ : Str → Option Value} {news₂ : List (Addr × Obj)}
theorem TurnEnd.next (F : Fr h₀ L h' m₂) (N : News h₀ L h' news₂) (hn : n' < n) (hJ : J n' m₂ news₂) : TurnEnd h₀ L s J Q n .next { s with heap := h', toks := tk } := ⟨h', tk, m₂, news₂, n', rfl, F, N, hn, hJ⟩
theorem TurnEnd.cont (F : Fr h₀ L h' m₂) (N : News h₀ L h' news₂) (hn : n' < n) (hJ : J n' m₂ news₂) : TurnEnd h₀ L s J Q n .cont { s with heap := h', toks := tk } := ⟨h', tk, m₂, news₂, n', rfl, F, N, hn, hJ⟩
theorem TurnEnd.brk (h : Q .next s₃) : TurnEnd h₀ L s J Q n .brk s₃ := h
theorem TurnEnd.ret {v : Value} (h : Q (.ret v) s₃) : TurnEnd h₀ L s J Q n (.ret v) s₃ := h
end
section
variable {prog : Program} {w : World} {A : Around} {E : Value → Shared → Prop} {Q : Flow → Shared → Prop} {s : Shared} {env : Env} {h₀ : Heap} {L : Addr}
theorem While_all {test : PySem.Expr} {body : List Stmt} {pos : Pos} {m : Str → Option Value} {news : List (Addr × Obj)} (J : Nat → (Str → Option Value) → List (Addr × Obj) → Prop) {n₀ : Nat}
    (F : Fr h₀ L s.heap m) (N : News h₀ L s.heap news) (hJ : J n₀ m news)
    (turn : ∀ n m₁ news₁ h₁ tk₁, Fr h₀ L h₁ m₁ → News h₀ L h₁ news₁ → J n m₁ news₁ →
      wpAny (model prog w) A (isTrue test env (eval test env)) (fun b s₂ =>
        if b = true then wpAny (model prog w) A (execs body env) (TurnEnd h₀ L s J Q n) E s₂ else Q .next s₂) E { s with heap := h₁, toks := tk₁ })
    (hE : PassesOwn (model prog w) A env E := by passes_own) :
    wpAny (model prog w) A (exec (.While test body [] pos) env) Q E s := by
  refine wpAny_While (codeAny_whileLoop (fun n s' => ∃ h₁ tk₁ m₁ news₁, s' = { s with heap := h₁, toks := tk₁ } ∧ Fr h₀ L h₁ m₁ ∧ News h₀ L h₁ news₁ ∧ J n m₁ news₁) ?_ n₀ ⟨s.heap, s.toks, m, news, rfl, F, N, hJ⟩)
  rintro n s' ⟨h₁, tk₁, m₁, news₁, rfl, F₁, N₁, J₁⟩
  refine wpAny_mono (turn n m₁ news₁ h₁ tk₁ F₁ N₁ J₁) (fun b s₂ h₂ => ?_) hE
  cases b with
  | false =>
    simp only [Bool.false_eq_true, if_false] at h₂ ⊢
    exact wpAny_execs_nil h₂
  | true =>
    simp only [if_true] at h₂ ⊢
    refine wpAny_mono h₂ (fun f s₃ h₃ => ?_) hE
    cases f with
    | next => obtain ⟨h', tk, m₂, news₂, n', rfl, F₂, N₂, hn, J₂⟩ := h₃; exact ⟨n', hn, h', tk, m₂, news₂, rfl, F₂, N₂, J₂⟩
    | cont => obtain ⟨h', tk, m₂, news₂, n', rfl, F₂, N₂, hn, J₂⟩ := h₃; exact ⟨n', hn, h', tk, m₂, news₂, rfl, F₂, N₂, J₂⟩
    | brk => exact h₃
    | ret v => exact h₃
end
section
theorem lay_Sd_0 : True := by
  w_top off
  k_with_none
  k_with "eval Name" => (k_here; k_dflt (refine' nameE_C ?q9k1 ?_ ?q9k2 ?q9b ?q9c ?q9d; (case q9b => rfl); (case q9c => rfl); (case q9d => decide); (case q9k2 => rfl); (case q9k1 => first | with_reducible assumption | exact CellAt.keep (by with_reducible assumption) (by with_reducible assumption)); k_whole))
  k_with "eval Name" => (k_here; k_dflt (refine' nameE_B ?q9F ?q9X ?q9T ?q9e ?q9v ?q9n ?_ ?q9a ?q9a2 ?q9b ?q9c ?q9d; (case q9b => rfl); (case q9c => rfl); (case q9F => with_reducible assumption); (case q9X => with_reducible assumption); (case q9T => k_asm); (case q9a => rfl); (case q9a2 => rfl); (case q9d => decide); (case q9e => k_is); (case q9v => boot_fast); (case q9n => decide); k_whole))
  k_with "eval Name" => (k_here; k_dflt (refine' nameE_K ?q9F ?q9X ?q9T ?q9e ?_ ?q9a ?q9b ?q9c ?q9d; (case q9b => rfl); (case q9c => rfl); (case q9F => with_reducible assumption); (case q9X => with_reducible assumption); (case q9T => k_asm); (case q9a => rfl); (case q9d => decide); (case q9e => k_is); k_whole))
  k_with "eval Name" => (k_here; k_dflt (refine' nameE_L ?q9k1 ?q9k2 ?_ ?q9a ?q9b ?q9c ?q9d; (case q9c => rfl); (case q9k1 => with_reducible assumption); (case q9k2 => first | exact rfl | assumption); (case q9a => rfl); (case q9b => rfl); (case q9d => decide); k_whole))
  k_with "call builtin:len" => (k_here; (with_reducible show wpAny _ _ (call (Value.builtin "len") [Value.ref _]) _ _ _); k_dflt (refine' len_list ?q9k1 ?q9k2 ?_; (case q9k1 => first | with_reducible assumption | exact Fr.lst (by with_reducible assumption) (by with_reducible assumption) | exact News.isList (by with_reducible assumption) (by k_mem)); (case q9k2 => first | with_reducible assumption | omega); k_whole))
  k_with "subscriptTail" => (k_here; (with_reducible show wpAny _ _ (subscriptTail _ _ (Value.ref _) (Value.int _ _)) _ _ _); k_dflt (refine' item_at ?q9k1 ?q9k2 ?q9k3 ?q9k4 ?_; (case q9k1 => first | with_reducible assumption | exact Fr.lst (by with_reducible assumption) (by with_reducible assumption) | exact News.isList (by with_reducible assumption) (by k_mem)); (case q9k2 => omega); (case q9k3 => omega); (case q9k4 => first | with_reducible assumption | omega); k_whole); intro _ _)
  k_with "compareOp Lt" => (k_here; k_dflt (refine' CmpAt.use ?q9k1 ?q9k2 ?_; (case q9k1 => with_reducible assumption); (case q9k2 => assumption); k_whole))
  k_with "exec While Compare cons nil" => (k_here; refine Stop.to ?_)
  k_with "storeName" => (k_here; k_dflt (refine' stE ?q9F ?q9N ?_ ?q9a ?q9b ?q9c; (case q9b => rfl); (case q9F => with_reducible assumption); (case q9N => with_reducible assumption); (case q9a => rfl); (case q9c => rfl); k_whole); intro h' tk' F' N' q'; (try dsimp only at F' q'); (try dsimp only); revert h' tk' F' N' q'; intro _ _ _ _ _; (try k_sweep))
  k_with "binaryOp FloorDiv int int" => (k_here; refine' div_lit ?q9a ?q9b ?_; (case q9a => decide); (case q9b => decide); k_whole)
  k_with "binaryOp Mod int int" => (k_here; refine' mod_lit ?q9a ?q9b ?_; (case q9a => decide); (case q9b => decide); k_whole)
  k_with "call builtin:max" => (k_here; refine' max3 ?q9a ?q9b ?_ ?q9c; (case q9a => with_reducible assumption); (case q9b => with_reducible assumption); (case q9c => rfl); k_whole; intro h' tk' tk2' F' N' e' q'; (try dsimp only at q'); (try dsimp only); revert h' tk' tk2' F' N' e' q'; intro _ _ _ _ _ _ _; (try k_sweep))
  k_with "call builtin:min" => (k_here; refine' min3 ?q9a ?q9b ?_ ?q9c; (case q9a => with_reducible assumption); (case q9b => with_reducible assumption); (case q9c => rfl); k_whole; intro h' tk' tk2' F' N' e' q'; (try dsimp only at q'); (try dsimp only); revert h' tk' tk2' F' N' e' q'; intro _ _ _ _ _ _ _; (try k_sweep))
  k_with "execs cons" => (k_here; (with_reducible refine execs_seq ?_))
  k_with "execs nil" => (k_here; (with_reducible refine wpAny_execs_nil ?_); (try dsimp only))
  k_with "call ref" => (k_here; refine Stop.to ?_)
  k_with "exec For Name Call cons nil" => (k_here; refine Stop.to ?_)
  k_with "exec Assign cons ListComp cons" => (k_here; refine Stop.to ?_)
  k_with "exec Assign cons ListComp" => (k_here; refine Stop.to ?_)
  k_with "eval ListComp" => (k_here; refine Stop.to ?_)
  k_with "subscriptTail List Slice ref ref" => (k_here; k_dflt (refine kba_turn (value' := PySem.Expr.Name (PySem.Str.ofString "_") ⟨0, 0, 0, 0⟩) (fun _ => rfl) ?_))
  k_with "subscriptTail Name Slice ref ref" => (k_here; k_dflt (refine' kmk_slice ?q9F ?q9N ?q9l ?q9p ?q9q ?_ ?q9s ?q9t ?q9z; (case q9F => with_reducible assumption); (case q9N => with_reducible assumption); (case q9l => first | with_reducible assumption | exact News.isList (by with_reducible assumption) (by k_mem) | exact Fr.lst (by with_reducible assumption) (by with_reducible assumption)); (case q9p => first | exact IsPart.none | exact IsPart.int _ _); (case q9q => first | exact IsPart.none | exact IsPart.int _ _); (case q9s => with_unfolding_all rfl); (case q9t => (intro _; with_unfolding_all rfl)); (case q9z => first | with_reducible assumption | (rw [sizeLine_eq]; simp only [List.size_toArray, List.length_cons, List.length_nil]; omega) | (rw [sizeLine_eq]; omega))); intro D' h' F' N' l1; (try dsimp only); revert D' h' F' N' l1; intro _ _ _ _ _; (try k_sweep))
  k_with "binaryOp Add ref ref" => (k_here; k_dflt (refine' add_arrays ?q9F ?q9N ?q9l ?q9b ?_ ?q9z; (case q9F => with_reducible assumption); (case q9N => with_reducible assumption); (case q9l => first | with_reducible assumption | exact News.isList (by with_reducible assumption) (by k_mem) | exact Fr.lst (by with_reducible assumption) (by with_reducible assumption)); (case q9b => first | with_reducible assumption | exact News.isList (by with_reducible assumption) (by k_mem) | exact Fr.lst (by with_reducible assumption) (by with_reducible assumption)); (case q9z => first | with_reducible assumption | (rw [sizeLine_eq]; omega))); intro h' F' N'; (try dsimp only); revert h' F' N'; intro _ _ _; (try k_sweep))
  k_with "mem" => (first | exact List.Mem.head _ | with_reducible assumption | exact List.not_mem_nil | exact nm1 (by assumption) | exact nm1 (Ne.symm (by assumption)) | exact nm2 (by assumption) (by assumption) | (refine' List.mem_append_left _ ?_; k_extra "mem") | (refine' List.mem_append_right _ ?_; k_extra "mem") | (refine' List.Mem.tail _ ?_; k_extra "mem"))
  trivial
section
theorem lay_Sd_1 : True := by
  k_with "subscriptTail" => (k_here; (with_reducible show wpAny _ _ (subscriptTail _ _ (Value.ref _) (Value.int _ _)) _ _ _); k_dflt (refine' item_gd ?q9k1 ?q9k2 ?q9k3 ?q9k4 ?_; (case q9k1 => first | with_reducible assumption | exact News.isList (by with_reducible assumption) (by k_mem) | exact Fr.lst (by with_reducible assumption) (by with_reducible assumption)); (case q9k2 => omega); (case q9k3 => (try simp only [Array.size_setIfInBounds, Array.size_pop]); omega); (case q9k4 => (try simp only [Array.size_setIfInBounds, Array.size_pop]); first | with_reducible assumption | omega); k_whole))
  k_with "setItem ref int" => (k_here; k_dflt (refine' set_at ?q9k1 ?q9k2 ?q9k3 ?q9k4 ?q9k5 ?q9k6 ?_; (case q9k1 => with_reducible assumption); (case q9k2 => with_reducible assumption); (case q9k3 => k_upd); (case q9k4 => omega); (case q9k5 => (try simp only [Array.size_setIfInBounds, Array.size_pop]); omega); (case q9k6 => (try simp only [Array.size_setIfInBounds, Array.size_pop]); first | with_reducible assumption | omega); k_whole); intro h' F' N'; (try dsimp only); revert h' F' N'; intro _ _ _; (try k_sweep))
  k_with "binaryOp RShift int int" => (k_here; refine' shr1 ?_)
  k_with "compareOp Lt" => (k_here; k_dflt (refine' LtOn.use ?q9k1 ?q9k2 ?q9k3 ?q9k4 ?q9k5 ?_; (case q9k1 => with_reducible assumption); (case q9k2 => first | with_reducible assumption | exact AllS.gd (by with_reducible assumption) (by omega)); (case q9k3 => first | with_reducible assumption | exact AllS.gd (by with_reducible assumption) (by omega)); (case q9k4 => exact Nat.le_of_ble_eq_true rfl); (case q9k5 => exact ext_back (by with_reducible assumption) (by with_reducible assumption)); k_whole))
  k_with "call builtin:list.pop" => (k_here; k_dflt (refine' pop_l ?q9F ?q9N ?q9n ?q9z ?q9U ?_; (case q9F => with_reducible assumption); (case q9N => with_reducible assumption); (case q9n => first | with_reducible assumption | omega); (case q9z => first | with_reducible assumption | (rw [sizeLine_eq]; omega)); (case q9U => k_upd)); (intro h' F' N'; (try dsimp only); revert h' F' N'; intro _ _ _; (try k_sweep)))
  k_with "truthy ref" => (k_here; k_dflt (refine' wpAny_truthy_list ?q9l ?q9z ?_; (case q9l => first | with_reducible assumption | exact News.isList (by with_reducible assumption) (by k_mem) | exact Fr.lst (by with_reducible assumption) (by with_reducible assumption)); (case q9z => (try simp only [Array.size_pop]); omega); k_whole))
  trivial
theorem sd {w : World} {base : Heap} {mean : ExcName → Option Value} {mg mb : Str → Option Value} (X : (Mine.hd.heap_39 w.params).In base)
    (T : Top tp tlo mean mg mb base) {s : Shared} (st : base.StaysIn s.heap) {a : Nat} {its : Array Value} {n0 : Nat} (ha : s.heap.get? a = some (listOf its n0)) (hb : base.get? a = none) (hz : (its.size : Int) < 2 ^ 60)
    {S : Value → Prop} {lt : Value → Value → Bool} (hS : AllS S its) (hl : LtOn w a s.heap S lt) {start pos t1 t2 : Nat} (hp : pos < its.size) {Q E}
    (ret : ∀ (h' : Heap) (tk : Nat), Ext [a] s.heap h' → h'.get? a = some (listOf (sdF lt (its.getD pos .none) start pos pos its) n0) → Q .none { s with heap := h', toks := tk }) :
    wpAny (model PySem.Challenge.rw_pg0206_01.row.prog w) (Aw 900) (call (.ref 83) [.ref a, .int (start : Int) t1, .int (pos : Int) t2]) Q E s := by
  revert X; k_fill; intro X
  refine' ent (news := [(a, listOf its n0)]) (binds := [(Str.ofString "heap", .ref a), (Str.ofString "startpos", .int (start : Int) t1), (Str.ofString "pos", .int (pos : Int) t2)]) X T st ?k1 ?k2 ?k3 ?k4 ?k5 ?k6 ?_ ?k7 ?k8 ?k9 ?k10
  case k1 => intro p hp; cases hp with | head => exact ⟨ha, hb⟩ | tail _ h => cases h
  case k2 => k_is
  case k3 => k_is
  case k4 => decide
  case k5 => exact kp_binds (Frag.In.keeps X st) (fun _ => rfl)
  case k6 => exact locs rfl
  case k7 => rfl
  case k8 => rfl
  case k9 => rfl
  case k10 => decide
  intro g L h₁ bb1 x1 bb2 z1 F N X T l1 bb3
  try dsimp only at F ⊢

  have x1' : Ext [a] s.heap g := x1
  have hSx : S (its.getD pos .none) := hS.gd hp
  k_steps
  refine Stop.mk ?_
  refine While_all (fun n m news => ∃ (p f tp : Nat) (arr : Array Value), news = [(a, listOf arr n0)] ∧ m "heap" = some (.ref a) ∧ m "startpos" = some (.int (start : Int) t1) ∧ m "pos" = some (.int (p : Int) tp) ∧ m "newitem" = some (its.getD pos .none) ∧
    arr.size = its.size ∧ AllS S arr ∧ p < its.size ∧ p ≤ f ∧ sdF lt (its.getD pos .none) start f p arr = sdF lt (its.getD pos .none) start pos pos its ∧ n = p) (n₀ := pos) (by with_reducible assumption) (by with_reducible assumption) ?_ ?_
  · exact ⟨pos, pos, _, its, rfl, rfl, rfl, rfl, rfl, rfl, hS, hp, Nat.le_refl _, rfl, rfl⟩
  · intro n m₁ news₁ h₂ tk₁ F₁ N₁ hJ
    refine ex4 hJ ?_
    clear hJ
    intro p f tp arr hX
    refine and11 hX ?_
    clear hX
    intro e0X mh ms mp mn q1 q2 q3 q4 q5 q6
    subst e0X
    have hz2 : (arr.size : Int) < 2 ^ 60 := by (with_reducible exact o181 ‹_› ‹_›)
    have hp2 : ((p : Int)).toNat = p := by (with_reducible exact o216)
    k_steps
    · rename_i a1 h3 tk3 qq3 h4 tk4 qq4 a2 h5 h6 tk6 F6 N6 qq6
      have hm : (((p : Int) - 1) / 2).toNat = (p - 1) / 2 := by (with_reducible exact o317)
      rw [hm] at a2
      rw [hm, hp2] at N6
      obtain ⟨f', rfl⟩ : ∃ f', f = f' + 1 := ⟨f - 1, by (with_reducible exact o408 ‹_› ‹_›)⟩
      rw [sdF, if_pos (by (with_reducible exact o77 ‹_›)), if_pos a2] at q5
      try dsimp only
      exact TurnEnd.cont (n' := (p - 1) / 2) F6 N6 (by (with_reducible exact o189 ‹_› ‹_›)) ⟨(p - 1) / 2, f', _, _, rfl, mh, ms, congrArg (fun z => some (Value.int z _)) (by (with_reducible exact o466 ‹_›)), mn, by rw [Array.size_setIfInBounds]; exact q1, q2.set (q2.gd (by (with_reducible exact o477 ‹_› ‹_›))), by (with_reducible exact o61 ‹_›), by (with_reducible exact o217 ‹_›), q5, rfl⟩
    · rename_i a1 h3 tk3 qq3 h4 tk4 F4 N4 qq4 a2
      have hm : (((p : Int) - 1) / 2).toNat = (p - 1) / 2 := by (with_reducible exact o317)
      rw [hm] at a2
      try dsimp only
      refine TurnEnd.brk ?_
      try dsimp only
      k_steps
      rename_i h5 F5 N5
      refine ret _ _ (ext_back x1' F5) ((News.get N5 (.head _)).trans ?_)
      rw [hp2, ← q5]
      obtain ⟨f', rfl⟩ : ∃ f', f = f' + 1 := ⟨f - 1, by (with_reducible exact o408 ‹_› ‹_›)⟩
      rw [sdF, if_pos (by (with_reducible exact o77 ‹_›)), if_neg (by rw [a2]; exact Bool.false_ne_true)]
    · rename_i a1 h5 F5 N5
      refine ret _ _ (ext_back x1' F5) ((News.get N5 (.head _)).trans ?_)
      rw [hp2, ← q5]
      cases f with
      | zero => rfl
      | succ f' => rw [sdF, if_neg (by omega)]
end
end
theorem back_upd {h₀ h h' : Heap} {L a : Addr} {m : Str → Option Value} {o o' : Obj} {news news' : List (Addr × Obj)} (F : Fr h₀ L h m) (N : News h₀ L h news) (U : Upd a o o' news news') (x : Ext [a] h h') (hg : h'.get? a = some o') :
    Fr h₀ L h' m ∧ News h₀ L h' news' := by
  obtain ⟨pre, post, rfl, rfl, e1, e2⟩ := U.split
  have z := N (a, o) (List.mem_append.mpr (.inr (.head _)))
  refine ⟨Fr.ext F x (by simp; exact fun e => z.2.1 e.symm) (by simp; exact z.2.2), fun p hp => ?_⟩
  rcases List.mem_append.mp hp with hp | hp
  · exact ⟨x _ _ (N p (List.mem_append_left _ hp)).1 (by simp; exact e1 p hp), (N p (List.mem_append_left _ hp)).2⟩
  · rcases List.mem_cons.mp hp with rfl | hp
    · exact ⟨hg, z.2⟩
    · exact ⟨x _ _ (N p (List.mem_append_right _ (.tail _ hp))).1 (by simp; exact e2 p hp), (N p (List.mem_append_right _ (.tail _ hp))).2⟩
theorem upd_mem {a : Addr} {o o' : Obj} {news news' : List (Addr × Obj)} (U : Upd a o o' news news') : (a, o) ∈ news := by
  obtain ⟨pre, post, rfl, rfl, e1, e2⟩ := U.split
  exact List.mem_append.mpr (.inr (.head _))
theorem sdN {w : World} {A : Around} {E : Value → Shared → Prop} {Q : Value → Shared → Prop} {s : Shared} {h₀ : Heap} {L a : Nat} {m : Str → Option Value} {news news' : List (Addr × Obj)} {mean : ExcName → Option Value} {mg mb : Str → Option Value} {its : Array Value} {n0 start pos t1 t2 : Nat} {S : Value → Prop} {lt : Value → Value → Bool}
    (X : (Mine.hd.heap_39 w.params).In h₀) (T : Top tp tlo mean mg mb h₀) (F : Fr h₀ L s.heap m) (N : News h₀ L s.heap news) (hz : (its.size : Int) < 2 ^ 60) (hS : AllS S its) (hl : LtOn w a s.heap S lt) (hp : pos < its.size)
    (U : Upd a (listOf its n0) (listOf (sdF lt (its.getD pos .none) start pos pos its) n0) news news')
    (h : ∀ (h' : Heap) (tk : Nat), Ext [a] s.heap h' → Fr h₀ L h' m → News h₀ L h' news' → s.toks ≤ tk → Q .none { s with heap := h', toks := tk }) (hh : A.handled = none) (hd : A.depth ≤ 900) (hu : A.units ≤ 900) :
    wpAny (model PySem.Challenge.rw_pg0206_01.row.prog w) A (call (.ref 83) [.ref a, .int (start : Int) t1, .int (pos : Int) t2]) Q E s :=
  toksle (lift (sd X T F.keep (N.get (upd_mem U)) (N.fresh (upd_mem U)) hz hS hl hp fun h' tk x hg q => let r := back_upd F N U x hg; h h' tk x r.1 r.2 q) hh hd hu)
/-- the smaller child -/
noncomputable def chF (lt : Value → Value → Bool) (n : Nat) (a : Array Value) (c : Nat) : Nat := if c + 1 < n then (if lt (a.getD c .none) (a.getD (c + 1) .none) = true then c else c + 1) else c
noncomputable def suF (lt : Value → Value → Bool) (n : Nat) : Nat → Nat → Array Value → Nat × Array Value
  | 0, pos, a => (pos, a)
  | f + 1, pos, a => if 2 * pos + 1 < n then suF lt n f (chF lt n a (2 * pos + 1)) (a.setIfInBounds pos (a.getD (chF lt n a (2 * pos + 1)) .none)) else (pos, a)
noncomputable def siftF (lt : Value → Value → Bool) (its : Array Value) (pos : Nat) : Array Value :=
  let r := suF lt its.size its.size pos its
  let b := r.2.setIfInBounds r.1 (its.getD pos .none)
  sdF lt (b.getD r.1 .none) pos r.1 r.1 b
theorem suF_size (lt : Value → Value → Bool) (n : Nat) : ∀ (f pos : Nat) (a : Array Value), (suF lt n f pos a).2.size = a.size
  | 0, _, _ => rfl
  | f + 1, pos, a => by
    unfold suF
    split
    · rw [suF_size lt n f, Array.size_setIfInBounds]
    · rfl
theorem sdF_size (lt : Value → Value → Bool) (x : Value) (start : Nat) : ∀ (f pos : Nat) (a : Array Value), (sdF lt x start f pos a).size = a.size
  | 0, _, _ => Array.size_setIfInBounds ..
  | f + 1, pos, a => by
    unfold sdF
    split
    · split
      · rw [sdF_size lt x start f, Array.size_setIfInBounds]
      · exact Array.size_setIfInBounds ..
    · exact Array.size_setIfInBounds ..
theorem siftF_size (lt : Value → Value → Bool) (its : Array Value) (pos : Nat) : (siftF lt its pos).size = its.size := by
  unfold siftF; dsimp only; rw [sdF_size, Array.size_setIfInBounds, suF_size]
theorem sdF_all {S : Value → Prop} (lt : Value → Value → Bool) (x : Value) (hx : S x) (start : Nat) : ∀ (f pos : Nat) (a : Array Value), AllS S a → pos < a.size → AllS S (sdF lt x start f pos a)
  | 0, _, _, h, _ => h.set hx
  | f + 1, pos, a, h, hp => by
    unfold sdF
    split
    · split
      · exact sdF_all lt x hx start f _ _ (h.set (h.gd (by (with_reducible exact o61 ‹_›)))) (by rw [Array.size_setIfInBounds]; (with_reducible exact o61 ‹_›))
      · exact h.set hx
    · exact h.set hx
theorem chF_lt {lt : Value → Value → Bool} {n : Nat} {a : Array Value} {c : Nat} (h : c < n) : chF lt n a c < n := by unfold chF; split <;> (try split) <;> omega
theorem suF_all {S : Value → Prop} (lt : Value → Value → Bool) (n : Nat) : ∀ (f pos : Nat) (a : Array Value), AllS S a → a.size = n → pos < n → AllS S (suF lt n f pos a).2 ∧ (suF lt n f pos a).1 < n
  | 0, _, _, h, _, hp => ⟨h, hp⟩
  | f + 1, pos, a, h, hn, hp => by
    unfold suF
    split
    · rename_i hc
      have hc' := chF_lt (lt := lt) (a := a) hc
      exact suF_all lt n f _ _ (h.set (h.gd (by (with_reducible exact o45 ‹_› ‹_›)))) (by rw [Array.size_setIfInBounds]; exact hn) hc'
    · exact ⟨h, hp⟩
theorem siftF_all {S : Value → Prop} (lt : Value → Value → Bool) {its : Array Value} {pos : Nat} (h : AllS S its) (hp : pos < its.size) : AllS S (siftF lt its pos) := by
  unfold siftF
  dsimp only
  obtain ⟨h1, h2⟩ := suF_all lt its.size its.size pos its h rfl hp
  have h3 : AllS S ((suF lt its.size its.size pos its).2.setIfInBounds (suF lt its.size its.size pos its).1 (its.getD pos .none)) := h1.set (h.gd hp)
  have h4 : (suF lt its.size its.size pos its).1 < ((suF lt its.size its.size pos its).2.setIfInBounds (suF lt its.size its.size pos its).1 (its.getD pos .none)).size := by rw [Array.size_setIfInBounds, suF_size]; exact h2
  exact sdF_all lt _ (h3.gd h4) pos _ _ _ h3 h4
section
theorem lay_Su_0 : True := by
  w_top off
  k_with_none
  k_with "eval Name" => (k_here; k_dflt (refine' nameE_C ?q9k1 ?_ ?q9k2 ?q9b ?q9c ?q9d; (case q9b => rfl); (case q9c => rfl); (case q9d => decide); (case q9k2 => rfl); (case q9k1 => first | with_reducible assumption | exact CellAt.keep (by with_reducible assumption) (by with_reducible assumption)); k_whole))
  k_with "eval Name" => (k_here; k_dflt (refine' nameE_B ?q9F ?q9X ?q9T ?q9e ?q9v ?q9n ?_ ?q9a ?q9a2 ?q9b ?q9c ?q9d; (case q9b => rfl); (case q9c => rfl); (case q9F => with_reducible assumption); (case q9X => with_reducible assumption); (case q9T => k_asm); (case q9a => rfl); (case q9a2 => rfl); (case q9d => decide); (case q9e => k_is); (case q9v => boot_fast); (case q9n => decide); k_whole))
  k_with "eval Name" => (k_here; k_dflt (refine' nameE_K ?q9F ?q9X ?q9T ?q9e ?_ ?q9a ?q9b ?q9c ?q9d; (case q9b => rfl); (case q9c => rfl); (case q9F => with_reducible assumption); (case q9X => with_reducible assumption); (case q9T => k_asm); (case q9a => rfl); (case q9d => decide); (case q9e => k_is); k_whole))
  k_with "eval Name" => (k_here; k_dflt (refine' nameE_L ?q9k1 ?q9k2 ?_ ?q9a ?q9b ?q9c ?q9d; (case q9c => rfl); (case q9k1 => with_reducible assumption); (case q9k2 => first | exact rfl | assumption); (case q9a => rfl); (case q9b => rfl); (case q9d => decide); k_whole))
  k_with "call builtin:len" => (k_here; (with_reducible show wpAny _ _ (call (Value.builtin "len") [Value.ref _]) _ _ _); k_dflt (refine' len_list ?q9k1 ?q9k2 ?_; (case q9k1 => first | with_reducible assumption | exact Fr.lst (by with_reducible assumption) (by with_reducible assumption) | exact News.isList (by with_reducible assumption) (by k_mem)); (case q9k2 => first | with_reducible assumption | omega); k_whole))
  k_with "subscriptTail" => (k_here; (with_reducible show wpAny _ _ (subscriptTail _ _ (Value.ref _) (Value.int _ _)) _ _ _); k_dflt (refine' item_at ?q9k1 ?q9k2 ?q9k3 ?q9k4 ?_; (case q9k1 => first | with_reducible assumption | exact Fr.lst (by with_reducible assumption) (by with_reducible assumption) | exact News.isList (by with_reducible assumption) (by k_mem)); (case q9k2 => omega); (case q9k3 => omega); (case q9k4 => first | with_reducible assumption | omega); k_whole); intro _ _)
  k_with "compareOp Lt" => (k_here; k_dflt (refine' CmpAt.use ?q9k1 ?q9k2 ?_; (case q9k1 => with_reducible assumption); (case q9k2 => assumption); k_whole))
  k_with "exec While Compare cons nil" => (k_here; refine Stop.to ?_)
  k_with "storeName" => (k_here; k_dflt (refine' stE ?q9F ?q9N ?_ ?q9a ?q9b ?q9c; (case q9b => rfl); (case q9F => with_reducible assumption); (case q9N => with_reducible assumption); (case q9a => rfl); (case q9c => rfl); k_whole); intro h' tk' F' N' q'; (try dsimp only at F' q'); (try dsimp only); revert h' tk' F' N' q'; intro _ _ _ _ _; (try k_sweep))
  k_with "binaryOp FloorDiv int int" => (k_here; refine' div_lit ?q9a ?q9b ?_; (case q9a => decide); (case q9b => decide); k_whole)
  k_with "binaryOp Mod int int" => (k_here; refine' mod_lit ?q9a ?q9b ?_; (case q9a => decide); (case q9b => decide); k_whole)
  k_with "call builtin:max" => (k_here; refine' max3 ?q9a ?q9b ?_ ?q9c; (case q9a => with_reducible assumption); (case q9b => with_reducible assumption); (case q9c => rfl); k_whole; intro h' tk' tk2' F' N' e' q'; (try dsimp only at q'); (try dsimp only); revert h' tk' tk2' F' N' e' q'; intro _ _ _ _ _ _ _; (try k_sweep))
  k_with "call builtin:min" => (k_here; refine' min3 ?q9a ?q9b ?_ ?q9c; (case q9a => with_reducible assumption); (case q9b => with_reducible assumption); (case q9c => rfl); k_whole; intro h' tk' tk2' F' N' e' q'; (try dsimp only at q'); (try dsimp only); revert h' tk' tk2' F' N' e' q'; intro _ _ _ _ _ _ _; (try k_sweep))
  k_with "execs cons" => (k_here; (with_reducible refine execs_seq ?_))
  k_with "execs nil" => (k_here; (with_reducible refine wpAny_execs_nil ?_); (try dsimp only))
  k_with "call ref" => (k_here; refine Stop.to ?_)
  k_with "exec For Name Call cons nil" => (k_here; refine Stop.to ?_)
  k_with "exec Assign cons ListComp cons" => (k_here; refine Stop.to ?_)
  k_with "exec Assign cons ListComp" => (k_here; refine Stop.to ?_)
  k_with "eval ListComp" => (k_here; refine Stop.to ?_)
  k_with "subscriptTail List Slice ref ref" => (k_here; k_dflt (refine kba_turn (value' := PySem.Expr.Name (PySem.Str.ofString "_") ⟨0, 0, 0, 0⟩) (fun _ => rfl) ?_))
  k_with "subscriptTail Name Slice ref ref" => (k_here; k_dflt (refine' kmk_slice ?q9F ?q9N ?q9l ?q9p ?q9q ?_ ?q9s ?q9t ?q9z; (case q9F => with_reducible assumption); (case q9N => with_reducible assumption); (case q9l => first | with_reducible assumption | exact News.isList (by with_reducible assumption) (by k_mem) | exact Fr.lst (by with_reducible assumption) (by with_reducible assumption)); (case q9p => first | exact IsPart.none | exact IsPart.int _ _); (case q9q => first | exact IsPart.none | exact IsPart.int _ _); (case q9s => with_unfolding_all rfl); (case q9t => (intro _; with_unfolding_all rfl)); (case q9z => first | with_reducible assumption | (rw [sizeLine_eq]; simp only [List.size_toArray, List.length_cons, List.length_nil]; omega) | (rw [sizeLine_eq]; omega))); intro D' h' F' N' l1; (try dsimp only); revert D' h' F' N' l1; intro _ _ _ _ _; (try k_sweep))
  k_with "binaryOp Add ref ref" => (k_here; k_dflt (refine' add_arrays ?q9F ?q9N ?q9l ?q9b ?_ ?q9z; (case q9F => with_reducible assumption); (case q9N => with_reducible assumption); (case q9l => first | with_reducible assumption | exact News.isList (by with_reducible assumption) (by k_mem) | exact Fr.lst (by with_reducible assumption) (by with_reducible assumption)); (case q9b => first | with_reducible assumption | exact News.isList (by with_reducible assumption) (by k_mem) | exact Fr.lst (by with_reducible assumption) (by with_reducible assumption)); (case q9z => first | with_reducible assumption | (rw [sizeLine_eq]; omega))); intro h' F' N'; (try dsimp only); revert h' F' N'; intro _ _ _; (try k_sweep))
  k_with "mem" => (first | exact List.Mem.head _ | with_reducible assumption | exact List.not_mem_nil | exact nm1 (by assumption) | exact nm1 (Ne.symm (by assumption)) | exact nm2 (by assumption) (by assumption) | (refine' List.mem_append_left _ ?_; k_extra "mem") | (refine' List.mem_append_right _ ?_; k_extra "mem") | (refine' List.Mem.tail _ ?_; k_extra "mem"))
  trivial
section
theorem lay_Su_1 : True := by
  k_with "subscriptTail" => (k_here; (with_reducible show wpAny _ _ (subscriptTail _ _ (Value.ref _) (Value.int _ _)) _ _ _); k_dflt (refine' item_gd ?q9k1 ?q9k2 ?q9k3 ?q9k4 ?_; (case q9k1 => first | with_reducible assumption | exact News.isList (by with_reducible assumption) (by k_mem) | exact Fr.lst (by with_reducible assumption) (by with_reducible assumption)); (case q9k2 => omega); (case q9k3 => (try simp only [Array.size_setIfInBounds, Array.size_pop]); omega); (case q9k4 => (try simp only [Array.size_setIfInBounds, Array.size_pop]); first | with_reducible assumption | omega); k_whole))
  k_with "setItem ref int" => (k_here; k_dflt (refine' set_at ?q9k1 ?q9k2 ?q9k3 ?q9k4 ?q9k5 ?q9k6 ?_; (case q9k1 => with_reducible assumption); (case q9k2 => with_reducible assumption); (case q9k3 => k_upd); (case q9k4 => omega); (case q9k5 => (try simp only [Array.size_setIfInBounds, Array.size_pop]); omega); (case q9k6 => (try simp only [Array.size_setIfInBounds, Array.size_pop]); first | with_reducible assumption | omega); k_whole); intro h' F' N'; (try dsimp only); revert h' F' N'; intro _ _ _; (try k_sweep))
  k_with "binaryOp RShift int int" => (k_here; refine' shr1 ?_)
  k_with "compareOp Lt" => (k_here; k_dflt (refine' LtOn.use ?q9k1 ?q9k2 ?q9k3 ?q9k4 ?q9k5 ?_; (case q9k1 => with_reducible assumption); (case q9k2 => first | with_reducible assumption | exact AllS.gd (by with_reducible assumption) (by omega)); (case q9k3 => first | with_reducible assumption | exact AllS.gd (by with_reducible assumption) (by omega)); (case q9k4 => exact Nat.le_of_ble_eq_true rfl); (case q9k5 => exact ext_back (by with_reducible assumption) (by with_reducible assumption)); k_whole))
  k_with "call builtin:list.pop" => (k_here; k_dflt (refine' pop_l ?q9F ?q9N ?q9n ?q9z ?q9U ?_; (case q9F => with_reducible assumption); (case q9N => with_reducible assumption); (case q9n => first | with_reducible assumption | omega); (case q9z => first | with_reducible assumption | (rw [sizeLine_eq]; omega)); (case q9U => k_upd)); (intro h' F' N'; (try dsimp only); revert h' F' N'; intro _ _ _; (try k_sweep)))
  k_with "truthy ref" => (k_here; k_dflt (refine' wpAny_truthy_list ?q9l ?q9z ?_; (case q9l => first | with_reducible assumption | exact News.isList (by with_reducible assumption) (by k_mem) | exact Fr.lst (by with_reducible assumption) (by with_reducible assumption)); (case q9z => (try simp only [Array.size_pop]); omega); k_whole))
  trivial
theorem su {w : World} {base : Heap} {mean : ExcName → Option Value} {mg mb : Str → Option Value} (X : (Mine.hd.heap_39 w.params).In base)
    (T : Top tp tlo mean mg mb base) {s : Shared} (st : base.StaysIn s.heap) {a : Nat} {its : Array Value} {n0 : Nat} (ha : s.heap.get? a = some (listOf its n0)) (hb : base.get? a = none) (hz : (its.size : Int) < 2 ^ 60)
    {S : Value → Prop} {lt : Value → Value → Bool} (hS : AllS S its) (hl : LtOn w a s.heap S lt) {pos t2 : Nat} (hp : pos < its.size) {Q E}
    (ret : ∀ (h' : Heap) (tk : Nat), Ext [a] s.heap h' → h'.get? a = some (listOf (siftF lt its pos) n0) → Q .none { s with heap := h', toks := tk }) :
    wpAny (model PySem.Challenge.rw_pg0206_01.row.prog w) (Aw 800) (call (.ref 90) [.ref a, .int (pos : Int) t2]) Q E s := by
  revert X; k_fill; intro X
  refine' ent (news := [(a, listOf its n0)]) (binds := [(Str.ofString "heap", .ref a), (Str.ofString "pos", .int (pos : Int) t2)]) X T st ?k1 ?k2 ?k3 ?k4 ?k5 ?k6 ?_ ?k7 ?k8 ?k9 ?k10
  case k1 => intro p hp; cases hp with | head => exact ⟨ha, hb⟩ | tail _ h => cases h
  case k2 => k_is
  case k3 => k_is
  case k4 => decide
  case k5 => exact kp_binds (Frag.In.keeps X st) (fun _ => rfl)
  case k6 => exact locs rfl
  case k7 => rfl
  case k8 => rfl
  case k9 => rfl
  case k10 => decide
  intro g L h₁ bb1 x1 bb2 z1 F N X T l1 bb3
  try dsimp only at F ⊢

  have x1' : Ext [a] s.heap g := x1
  have hSx : S (its.getD pos .none) := hS.gd hp
  k_steps
  refine Stop.mk ?_
  refine While_all (fun n m news => ∃ (p f tp tc : Nat) (arr : Array Value), news = [(a, listOf arr n0)] ∧ m "heap" = some (.ref a) ∧ m "startpos" = some (.int (pos : Int) t2) ∧ m "pos" = some (.int (p : Int) tp) ∧ m "childpos" = some (.int ((2 * p + 1 : Nat) : Int) tc) ∧ m "newitem" = some (its.getD pos .none) ∧
    (∃ te, m "endpos" = some (.int (its.size : Int) te)) ∧
    arr.size = its.size ∧ AllS S arr ∧ p < its.size ∧ its.size ≤ p + f ∧ suF lt its.size f p arr = suF lt its.size its.size pos its ∧ n = f) (n₀ := its.size) (by with_reducible assumption) (by with_reducible assumption) ?_ ?_
  · exact ⟨pos, its.size, _, _, its, rfl, rfl, rfl, rfl, congrArg (fun z => some (Value.int z _)) (by (with_reducible exact o373)), rfl, ⟨_, rfl⟩, rfl, hS, hp, by (with_reducible exact o175), rfl, rfl⟩
  · intro n m₁ news₁ h₂ tk₁ F₁ N₁ hJ
    refine ex5 hJ ?_
    clear hJ
    intro p f tp tc arr hX
    refine and13 hX ?_
    clear hX
    intro e0X mh ms mp mc mn n1X q1 q2 q3 q4 q5 q6
    subst e0X
    obtain ⟨te, me⟩ := n1X
    have hz2 : (arr.size : Int) < 2 ^ 60 := by (with_reducible exact o181 ‹_› ‹_›)
    have hp2 : ((p : Int)).toNat = p := by (with_reducible exact o216)
    have hp3 : ((2 * p + 1 : Nat) : Int).toNat = 2 * p + 1 := by (with_reducible exact o216)
    k_steps
    · rename_i a1 h3 tk3 qq3 a2 a3 h6 h7 tk7 qq7 h8 tk8 F8 N8 qq8
      have hp4 : (((2 * p + 1 : Nat) : Int) + 1).toNat = 2 * p + 1 + 1 := by (with_reducible exact o257)
      rw [hp3, hp4] at a3
      have hch : chF lt its.size arr (2 * p + 1) = 2 * p + 1 := by unfold chF; rw [if_pos (by (with_reducible exact o17 ‹_›)), if_pos a3]
      rw [hp3, hp2] at N8
      obtain ⟨f', rfl⟩ : ∃ f', f = f' + 1 := ⟨f - 1, by (with_reducible exact o113 ‹_› ‹_›)⟩
      rw [suF, if_pos (by (with_reducible exact o352 ‹_›)), hch] at q5
      exact TurnEnd.next (n' := f') F8 N8 (by (with_reducible exact o368 ‹_›)) ⟨2 * p + 1, f', _, _, _, rfl, mh, ms, congrArg (fun z => some (Value.int z _)) (by (with_reducible exact o451)), congrArg (fun z => some (Value.int z _)) (by (with_reducible exact o251)), mn, ⟨te, me⟩, by rw [Array.size_setIfInBounds]; exact q1, q2.set (q2.gd (by (with_reducible exact o59 ‹_› ‹_›))), by (with_reducible exact o352 ‹_›), by (with_reducible exact o252 ‹_›), q5, rfl⟩
    · rename_i a1 h3 tk3 qq3 a2 a3 h5 tk5 qq5 h6 h7 tk7 qq7 h8 tk8 F8 N8 qq8
      have hp4 : (((2 * p + 1 : Nat) : Int) + 1).toNat = 2 * p + 1 + 1 := by (with_reducible exact o257)
      rw [hp3, hp4] at a3
      have hch : chF lt its.size arr (2 * p + 1) = 2 * p + 1 + 1 := by unfold chF; rw [if_pos (by (with_reducible exact o17 ‹_›)), if_neg (by rw [a3]; exact Bool.false_ne_true)]
      rw [hp4, hp2] at N8
      obtain ⟨f', rfl⟩ : ∃ f', f = f' + 1 := ⟨f - 1, by (with_reducible exact o113 ‹_› ‹_›)⟩
      rw [suF, if_pos (by (with_reducible exact o352 ‹_›)), hch] at q5
      exact TurnEnd.next (n' := f') F8 N8 (by (with_reducible exact o368 ‹_›)) ⟨2 * p + 1 + 1, f', _, _, _, rfl, mh, ms, congrArg (fun z => some (Value.int z _)) (by (with_reducible exact o347)), congrArg (fun z => some (Value.int z _)) (by (with_reducible exact o446)), mn, ⟨te, me⟩, by rw [Array.size_setIfInBounds]; exact q1, q2.set (q2.gd (by (with_reducible exact o6 ‹_› ‹_›))), by (with_reducible exact o17 ‹_›), by (with_reducible exact o249 ‹_›), q5, rfl⟩
    · rename_i a1 h3 tk3 qq3 a2 h6 h7 tk7 qq7 h8 tk8 F8 N8 qq8
      have hch : chF lt its.size arr (2 * p + 1) = 2 * p + 1 := by unfold chF; rw [if_neg (by omega)]
      rw [hp3, hp2] at N8
      obtain ⟨f', rfl⟩ : ∃ f', f = f' + 1 := ⟨f - 1, by (with_reducible exact o113 ‹_› ‹_›)⟩
      rw [suF, if_pos (by (with_reducible exact o498 ‹_›)), hch] at q5
      exact TurnEnd.next (n' := f') F8 N8 (by (with_reducible exact o368 ‹_›)) ⟨2 * p + 1, f', _, _, _, rfl, mh, ms, congrArg (fun z => some (Value.int z _)) (by (with_reducible exact o451)), congrArg (fun z => some (Value.int z _)) (by (with_reducible exact o251)), mn, ⟨te, me⟩, by rw [Array.size_setIfInBounds]; exact q1, q2.set (q2.gd (by (with_reducible exact o59 ‹_› ‹_›))), by (with_reducible exact o498 ‹_›), by (with_reducible exact o252 ‹_›), q5, rfl⟩
    · rename_i a1 h5 F5 N5
      refine Stop.mk ?_
      rw [hp2] at N5
      have q7 : suF lt its.size its.size pos its = (p, arr) := by
        rw [← q5]
        cases f with
        | zero => rfl
        | succ f' => rw [suF, if_neg (by omega)]
      have hq : siftF lt its pos = sdF lt ((arr.setIfInBounds p (its.getD pos .none)).getD p .none) pos p p (arr.setIfInBounds p (its.getD pos .none)) := by unfold siftF; rw [q7]
      refine sdN X T F5 N5 (by rw [Array.size_setIfInBounds]; exact hz2) (q2.set hSx) (hl.ext (ext_back x1' F5)) (by rw [Array.size_setIfInBounds]; (with_reducible exact o45 ‹_› ‹_›)) (.head (by first | k_extra "mem" | simp)) ?_ rfl (Nat.le_of_ble_eq_true rfl) (Nat.le_of_ble_eq_true rfl)
      intro h6 tk6 x6 F6 N6 qq6
      try dsimp only
      k_steps
      exact ret _ _ (ext_back x1' F6) ((News.get N6 (.head _)).trans (by rw [hq]))
end
end
noncomputable abbrev ritO (x left step : Int) : Obj := { cls := .type "range_iterator", dict := none, data := .fields #[rawInt x, rawInt left, rawInt step], slots := #[] }
section
variable {prog : Program} {w : World} {A : Around} {E : Value → Shared → Prop} {s : Shared}
theorem sub_rit_reversed : isSubtype (.type "range_iterator") (.type "reversed") = pure false := by rw [isSubtype_type]; kernel_rfl
theorem wpAny_rangeFields {r : Addr} {a b c : Int} {t u v : Tok} {Q : Int × Int × Int → Shared → Prop} (hr : IsRange s.heap r a b c t u v) (h : Q (a, b, c) s) : wpAny (model prog w) A (Builtin.Range.rangeFields (.ref r)) Q E s := by
  unfold Builtin.Range.rangeFields
  refine wpAny_bind (wpAny_field hr rfl (x := .int a t) rfl ?_)
  refine wpAny_bind (wpAny_of_eq (a := some a) rfl ?_)
  refine wpAny_bind (wpAny_field hr rfl (x := .int b u) rfl ?_)
  refine wpAny_bind (wpAny_of_eq (a := some b) rfl ?_)
  refine wpAny_bind (wpAny_field hr rfl (x := .int c v) rfl ?_)
  refine wpAny_bind (wpAny_of_eq (a := some c) rfl ?_)
  exact wpAny_pure h
theorem call_range_reversed {r : Addr} {k : Nat} {t u v : Tok} {Q : Value → Shared → Prop} (hr : IsRange s.heap r 0 (k : Int) 1 t u v) (hk : (k : Int) < 2 ^ 60)
    (h : Q (.ref s.heap.objs.size) { s with heap := s.heap.push (ritO ((k : Int) - 1) k (-1)) }) : wpAny (model prog w) A (call (.builtin "range.__reversed__") [.ref r]) Q E s := by
  have hT : s.TypeIs (.ref r) "range" := ⟨_, hr, rfl⟩
  refine wpAny_call_entry F.slot_range_reversed hT F.entry_range_reversed ?_ (F.args_range_reversed_1 _)
  unfold Builtin.«range.__reversed__»
  refine wpAny_bind (wpAny_of_eq (a := Value.ref r) rfl ?_)
  refine wpAny_bind (wpAny_rangeFields hr ?_)
  have e : Builtin.Range.rangeSize 0 (k : Int) 1 = (k : Int) := by
    unfold Builtin.Range.rangeSize
    rw [if_pos (by decide)]
    split <;> (first | with_reducible exact o5 ‹_› | with_reducible exact o138)
  try dsimp only
  rw [e]
  have q1 : Builtin.Range.rangeFitsLong 0 = true := by decide
  have q2 : Builtin.Range.rangeFitsLong (k : Int) = true := by unfold Builtin.Range.rangeFitsLong; simp only [Bool.and_eq_true, decide_eq_true_eq]; (with_reducible exact o302 ‹_›)
  have q3 : Builtin.Range.rangeFitsLong 1 = true := by decide
  have q4 : Builtin.Range.rangeFitsLong (-1) = true := by decide
  have q5 : Builtin.Range.rangeFitsLong (0 - 1) = true := by decide
  simp only [q1, q2, q3, q4, q5, Bool.and_self, Bool.not_true, Bool.false_eq_true, if_false, if_true]
  have e2 : (0 : Int) + ((k : Int) - 1) * 1 = (k : Int) - 1 := by (with_reducible exact o136)
  rw [e2]
  exact wpAny_bind (wpAny_newObj_type (wpAny_pure ⟨_, rfl, h⟩))
theorem code_reversed_range {l : Addr} {k : Nat} {t u v : Tok} {Q₁ : Value → Shared → Prop} (hr : IsRange s.heap l 0 (k : Int) 1 t u v) (hk : (k : Int) < 2 ^ 60)
    (h : Q₁ (.ref s.heap.objs.size) { s with heap := s.heap.push (ritO ((k : Int) - 1) k (-1)) }) :
    codeAny (model prog w) A (.call (.builtin "reversed.__new__") ⟨[.type "reversed", .ref l], []⟩) (wants Q₁ E) s := by
  have hT : s.TypeIs (.ref l) "range" := ⟨_, hr, rfl⟩
  refine codeAny_of_tree ?_
  show wpAny _ A.in1 (do checkBuiltinCall "reversed.__new__" ⟨[.type "reversed", .ref l], []⟩; again (.builtin "reversed.__new__" ⟨[.type "reversed", .ref l], []⟩)) _ _ s
  refine wpAny_bind (wpAny_of_eq (F.newCall_reversed_1 _) (wpAny_pure ⟨plainId_quiet F.plain_reversed_new _, codeAny_builtin F.entry_reversed_new ?_⟩))
  rw [Around.under_plainId F.plain_reversed_new _]
  unfold Builtin.«reversed.__new__»
  refine wpAny_bind (wpAny_of_eq (newClass_reversed _) ?_)
  try dsimp only
  refine wpAny_bind (wpAny_of_eq (a := ()) (by first | rfl | kernel_rfl) ?_)
  refine wpAny_bind (wpAny_of_eq (a := ()) (by first | rfl | kernel_rfl) ?_)
  try dsimp only
  refine wpAny_bind (wpAny_specialOf hT F.slot_range_reversed.lookup ?_)
  try dsimp only
  refine wpAny_bind (wpAny_of_eq (F.slot_range_reversed.bind _) ?_)
  try dsimp only
  first
  | rw [if_neg (show ¬ ((Value.builtin "range.__reversed__" == Value.none) = true) from Bool.false_ne_true)]
  | (show wpAny _ _ (if (Value.builtin "range.__reversed__" == Value.none) = true then _ else _) _ _ _; rw [if_neg (show ¬ ((Value.builtin "range.__reversed__" == Value.none) = true) from Bool.false_ne_true)])
  refine wpAny_bind (wpAny_rule ?_)
  refine wpAny_bind (m := runValue (.call (.builtin "range.__reversed__") ⟨[.ref l], []⟩)) (show wpAny _ _ (call (.builtin "range.__reversed__") [.ref l]) _ _ _ from call_range_reversed hr hk ?_)
  first
  | exact wpAny_pure h
  | exact wpAny_bind (wpAny_pure (wpAny_pure h))
theorem call_reversed_range {l : Addr} {k : Nat} {t u v : Tok} {Q : Value → Shared → Prop} (hr : IsRange s.heap l 0 (k : Int) 1 t u v) (hk : (k : Int) < 2 ^ 60)
    (h : Q (.ref s.heap.objs.size) { s with heap := s.heap.push (ritO ((k : Int) - 1) k (-1)) }) : wpAny (model prog w) A (call (.type "reversed") [.ref l]) Q E s := by
  refine callType_other (U := "range_iterator") (Q₁ := fun obj s₁ => obj = .ref s.heap.objs.size ∧ s₁ = { s with heap := s.heap.push (ritO ((k : Int) - 1) k (-1)) }) (by decide +kernel) F.create_reversed ⟨_, _, F.mro_reversed⟩ F.made_reversed sub_rit_reversed (F.typeCall_reversed_1 _) (code_reversed_range hr hk ⟨rfl, rfl⟩) ?_
  rintro obj s₁ ⟨rfl, rfl⟩
  exact ⟨⟨_, Heap.get?_push_size _ rfl, rfl⟩, h⟩
end
/-- how a turn of a for ends -/
noncomputable def ForEnd (h₀ : Heap) (L I : Addr) (o : Obj) (s : Shared) (J : (Str → Option Value) → List (Addr × Obj) → Prop) (Q : Flow → Shared → Prop) (f : Flow) (s₃ : Shared) : Prop :=
  match f with
  | .next | .cont => ∃ h' tk m₂ rest₂, s₃ = { s with heap := h', toks := tk } ∧ Fr h₀ L h' m₂ ∧ News h₀ L h' ((I, o) :: rest₂) ∧ J m₂ rest₂
  | .brk => Q .next s₃
  | .ret v => Q (.ret v) s₃
theorem ForEnd.next {h₀ h' : Heap} {L I : Addr} {o : Obj} {s : Shared} {J : (Str → Option Value) → List (Addr × Obj) → Prop} {Q : Flow → Shared → Prop} {tk : Nat} {m₂ : Str → Option Value} {rest₂ : List (Addr × Obj)}
    (F : Fr h₀ L h' m₂) (N : News h₀ L h' ((I, o) :: rest₂)) (hJ : J m₂ rest₂) : ForEnd h₀ L I o s J Q .next { s with heap := h', toks := tk } := ⟨h', tk, m₂, rest₂, rfl, F, N, hJ⟩
theorem News.rest {h₀ h : Heap} {L : Addr} {p : Addr × Obj} {news : List (Addr × Obj)} (N : News h₀ L h (p :: news)) : News h₀ L h news := fun q hq => N q (.tail _ hq)
theorem News.head {h₀ h h' : Heap} {L I : Addr} {o o' : Obj} {news : List (Addr × Obj)} (N : News h₀ L h ((I, o) :: news)) (hap : ∀ p ∈ news, p.1 ≠ I) (hs : Heap.SameBut I h h') (ho : h'.get? I = some o') : News h₀ L h' ((I, o') :: news) := fun p hp => by
  rcases List.mem_cons.mp hp with rfl | hp
  · exact ⟨ho, (N _ (.head _)).2⟩
  · exact ⟨(hs.2 p.1 (hap p hp)).trans (N p (.tail _ hp)).1, (N p (.tail _ hp)).2⟩
section
variable {prog : Program} {w : World} {A : Around} {E : Value → Shared → Prop} {Q : Flow → Shared → Prop} {s : Shared} {h₀ : Heap} {L : Addr} {name : Str} {scope : Scope} {fa : Addr} {cd : Value}
theorem for_rit {x : Str} {px : Pos} {body : List Stmt} {I : Addr} {a c : Int} {n : Nat} {m : Str → Option Value} {rest : List (Addr × Obj)} (J : Nat → (Str → Option Value) → List (Addr × Obj) → Prop)
    (F : Fr h₀ L s.heap m) (N : News h₀ L s.heap ((I, ritO a n c) :: rest)) (hJ : J 0 m rest) (hap : ∀ k m rest, J k m rest → ∀ p ∈ rest, p.1 ≠ I) (hh : A.handled = none)
    (turn : ∀ (k : Nat) m₁ rest₁ h₁ tk₁ tkx, k < n → Fr h₀ L h₁ (fun y => if y = x then some (.int (a + k * c) tkx) else m₁ y) → News h₀ L h₁ ((I, ritO (a + ((k + 1 : Nat) : Int) * c) ((n : Int) - ((k + 1 : Nat) : Int)) c) :: rest₁) → J k m₁ rest₁ →
      wpAny (model prog w) A (execs body (envOf name scope L fa cd)) (ForEnd h₀ L I (ritO (a + ((k + 1 : Nat) : Int) * c) ((n : Int) - ((k + 1 : Nat) : Int)) c) s (J (k + 1)) Q) E { s with heap := h₁, toks := tk₁ })
    (fin : ∀ h' tk m' rest', Fr h₀ L h' m' → News h₀ L h' rest' → J n m' rest' → Q .next { s with heap := h', toks := tk })
    (hE : PassesOwn (model prog w) A (envOf name scope L fa cd) E := by passes_own) (hk : scope.kind = .function := by rfl) (hl : (envOf name scope L fa cd).kindOf x = some .local := by rfl) :
    codeAny (model prog w) A (.forLoop (.Name x px) (.ref I) body [] (envOf name scope L fa cd)) (fun r s' => match r with | .ok f => Q f s' | .error e => cameBackBy (model prog w) A (envOf name scope L fa cd) E e s') s := by
  refine codeAny_forLoop (fun q s' => ∃ (h' : Heap) (tk : Nat) (m' : Str → Option Value) (rest' : List (Addr × Obj)) (i : Nat), s' = { s with heap := h', toks := tk } ∧ Fr h₀ L h' m' ∧ News h₀ L h' ((I, ritO (a + (i : Int) * c) ((n : Int) - (i : Int)) c) :: rest') ∧ J i m' rest' ∧ i ≤ n ∧ q = n + 1 - i) ?_ (n + 1)
    ⟨s.heap, s.toks, m, rest, 0, rfl, F, by simpa using N, hJ, Nat.zero_le _, rfl⟩
  rintro q s' ⟨h', tk, m', rest', i, rfl, F', N', hJ', hi, rfl⟩
  by_cases hlt : i < n
  · refine wpAny_pyNext_range_item (N'.get (.head _)) (by (with_reducible exact o178 ‹_›)) fun h₁ hit₁ hs₁ => ?_
    have hIL : I ≠ L := (N' _ (.head _)).2.1
    have e1 : a + ((i + 1 : Nat) : Int) * c = a + (i : Int) * c + c := by push_cast; rw [Int.add_mul, Int.one_mul, Int.add_assoc]
    have e2 : (n : Int) - ((i + 1 : Nat) : Int) = (n : Int) - (i : Int) - 1 := by push_cast; (with_reducible exact o425)
    have N1 : News h₀ L h₁ ((I, ritO (a + ((i + 1 : Nat) : Int) * c) ((n : Int) - ((i + 1 : Nat) : Int)) c) :: rest') := News.head N' (hap _ _ _ hJ') hs₁ (by rw [e1, e2]; exact hit₁)
    refine wpAny_assign_Name (stN (F'.change hs₁ hIL (N'.fresh (.head _))) N1 (fun h₂ F2 N2 => ?_) hk hl)
    refine wpAny_mono (turn i m' rest' h₂ _ _ hlt F2 N2 hJ') (fun f s₃ h₃ => ?_) hE
    cases f with
    | next => obtain ⟨h', tk, m₂, rest₂, rfl, F₂, N₂, J₂⟩ := h₃; exact ⟨n + 1 - (i + 1), by (with_reducible exact o111 ‹_›), h', tk, m₂, rest₂, i + 1, rfl, F₂, N₂, J₂, hlt, rfl⟩
    | cont => obtain ⟨h', tk, m₂, rest₂, rfl, F₂, N₂, J₂⟩ := h₃; exact ⟨n + 1 - (i + 1), by (with_reducible exact o111 ‹_›), h', tk, m₂, rest₂, i + 1, rfl, F₂, N₂, J₂, hlt, rfl⟩
    | brk => exact h₃
    | ret v => exact h₃
  · have hin : i = n := by (with_reducible exact o149 ‹_› ‹_›)
    subst hin
    refine wpAny_pyNext_range_end hh (N'.get (.head _)) (by (with_reducible exact o499)) fun h₁ he₁ => wpAny_execs_nil ?_
    have hIL : I ≠ L := (N' _ (.head _)).2.1
    have x : Ext [I] h' h₁ := fun b o e n => he₁ b o (by simpa using n) e
    exact fin h₁ tk m' rest' (Fr.ext F' x (by simp; exact hIL.symm) (by simp; exact N'.fresh (.head _))) (News.ext (News.rest N') x (by simpa using hap _ _ _ hJ')) hJ'
end
section
variable {prog : Program} {w : World} {A : Around} {E : Value → Shared → Prop} {s : Shared}
theorem pyIter_rit {it : Addr} {x l c : Int} {Q : Value → Shared → Prop} (hit : s.heap.get? it = some (ritO x l c)) (h : Q (.ref it) s) : wpAny (model prog w) A (pyIter (.ref it)) Q E s := by
  have hT : s.TypeIs (.ref it) "range_iterator" := ⟨_, hit, rfl⟩
  refine wpAny_pyIter_slot hT F.slot_range_iterator_iter (wpAny_call_entry F.slot_range_iterator_iter hT F.entry_range_iterator_iter ?_ (F.args_range_iterator_iter_1 _))
  show wpAny _ _ (ret (.ref it)) _ _ s
  exact wpAny_pure ⟨_, rfl, "range_iterator", _, hT, F.slot_range_iterator_next.lookup, h⟩
end
theorem suN {w : World} {A : Around} {E : Value → Shared → Prop} {Q : Value → Shared → Prop} {s : Shared} {h₀ : Heap} {L a : Nat} {m : Str → Option Value} {news news' : List (Addr × Obj)} {mean : ExcName → Option Value} {mg mb : Str → Option Value} {its : Array Value} {n0 pos t2 : Nat} {S : Value → Prop} {lt : Value → Value → Bool}
    (X : (Mine.hd.heap_39 w.params).In h₀) (T : Top tp tlo mean mg mb h₀) (F : Fr h₀ L s.heap m) (N : News h₀ L s.heap news) (hz : (its.size : Int) < 2 ^ 60) (hS : AllS S its) (hl : LtOn w a s.heap S lt) (hp : pos < its.size)
    (U : Upd a (listOf its n0) (listOf (siftF lt its pos) n0) news news')
    (h : ∀ (h' : Heap) (tk : Nat), Ext [a] s.heap h' → Fr h₀ L h' m → News h₀ L h' news' → s.toks ≤ tk → Q .none { s with heap := h', toks := tk }) (hh : A.handled = none) (hd : A.depth ≤ 800) (hu : A.units ≤ 800) :
    wpAny (model PySem.Challenge.rw_pg0206_01.row.prog w) A (call (.ref 90) [.ref a, .int (pos : Int) t2]) Q E s :=
  toksle (lift (su X T F.keep (N.get (upd_mem U)) (N.fresh (upd_mem U)) hz hS hl hp fun h' tk x hg q => let r := back_upd F N U x hg; h h' tk x r.1 r.2 q) hh hd hu)
/-- what heapify makes: places k - 1 down to 0 -/
noncomputable def hfF (lt : Value → Value → Bool) : Nat → Array Value → Array Value
  | 0, a => a
  | k + 1, a => hfF lt k (siftF lt a k)

section
variable {prog : Program} {w : World} {A : Around} {E : Value → Shared → Prop} {s : Shared} {h₀ : Heap} {L D : Addr} {m : Str → Option Value} {news news' : List (Addr × Obj)}
theorem pop_l {its : Array Value} {n : Nat} {Q : Value → Shared → Prop} (F : Fr h₀ L s.heap m) (N : News h₀ L s.heap news) (hne : 0 < its.size) (hz : its.size ≤ sizeLine) (U : Upd D (listOf its n) (listOf its.pop (n + 1)) news news')
    (h : ∀ h', Fr h₀ L h' m → News h₀ L h' news' → Q (its.getD (its.size - 1) .none) { s with heap := h' }) : wpAny (model prog w) A (call (.builtin "list.pop") [.ref D]) Q E s := by
  have e1 : its.toList = its.pop.toList ++ [its.getD (its.size - 1) .none] := by
    have h2 : its.toList ≠ [] := fun q => by rw [← Array.length_toList, q] at hne; exact absurd hne (Nat.lt_irrefl 0)
    have h3 := (List.dropLast_concat_getLast h2).symm
    rw [Array.toList_pop]
    have h4 : its.toList.getLast h2 = its.getD (its.size - 1) .none := by
      have : its.size - 1 < its.size := by (with_reducible exact o184 ‹_›)
      rw [List.getLast_eq_getElem]
      simp [Array.getD, this]
    rw [← h4]
    exact h3
  have e2 := kpa_last (its.getD (its.size - 1) .none) its.pop.toList
  rw [← e1] at e2
  refine kl_pop F N e2 (by rw [Array.toArray_toList]; exact U) (by rw [Array.length_toList]; exact hz) h
end
section
theorem lay_Hf_0 : True := by
  w_top off
  k_with_none
  k_with "eval Name" => (k_here; k_dflt (refine' nameE_C ?q9k1 ?_ ?q9k2 ?q9b ?q9c ?q9d; (case q9b => rfl); (case q9c => rfl); (case q9d => decide); (case q9k2 => rfl); (case q9k1 => first | with_reducible assumption | exact CellAt.keep (by with_reducible assumption) (by with_reducible assumption)); k_whole))
  k_with "eval Name" => (k_here; k_dflt (refine' nameE_B ?q9F ?q9X ?q9T ?q9e ?q9v ?q9n ?_ ?q9a ?q9a2 ?q9b ?q9c ?q9d; (case q9b => rfl); (case q9c => rfl); (case q9F => with_reducible assumption); (case q9X => with_reducible assumption); (case q9T => k_asm); (case q9a => rfl); (case q9a2 => rfl); (case q9d => decide); (case q9e => k_is); (case q9v => boot_fast); (case q9n => decide); k_whole))
  k_with "eval Name" => (k_here; k_dflt (refine' nameE_K ?q9F ?q9X ?q9T ?q9e ?_ ?q9a ?q9b ?q9c ?q9d; (case q9b => rfl); (case q9c => rfl); (case q9F => with_reducible assumption); (case q9X => with_reducible assumption); (case q9T => k_asm); (case q9a => rfl); (case q9d => decide); (case q9e => k_is); k_whole))
  k_with "eval Name" => (k_here; k_dflt (refine' nameE_L ?q9k1 ?q9k2 ?_ ?q9a ?q9b ?q9c ?q9d; (case q9c => rfl); (case q9k1 => with_reducible assumption); (case q9k2 => first | exact rfl | assumption); (case q9a => rfl); (case q9b => rfl); (case q9d => decide); k_whole))
  k_with "call builtin:len" => (k_here; (with_reducible show wpAny _ _ (call (Value.builtin "len") [Value.ref _]) _ _ _); k_dflt (refine' len_list ?q9k1 ?q9k2 ?_; (case q9k1 => first | with_reducible assumption | exact Fr.lst (by with_reducible assumption) (by with_reducible assumption) | exact News.isList (by with_reducible assumption) (by k_mem)); (case q9k2 => first | with_reducible assumption | omega); k_whole))
  k_with "subscriptTail" => (k_here; (with_reducible show wpAny _ _ (subscriptTail _ _ (Value.ref _) (Value.int _ _)) _ _ _); k_dflt (refine' item_at ?q9k1 ?q9k2 ?q9k3 ?q9k4 ?_; (case q9k1 => first | with_reducible assumption | exact Fr.lst (by with_reducible assumption) (by with_reducible assumption) | exact News.isList (by with_reducible assumption) (by k_mem)); (case q9k2 => omega); (case q9k3 => omega); (case q9k4 => first | with_reducible assumption | omega); k_whole); intro _ _)
  k_with "compareOp Lt" => (k_here; k_dflt (refine' CmpAt.use ?q9k1 ?q9k2 ?_; (case q9k1 => with_reducible assumption); (case q9k2 => assumption); k_whole))
  k_with "exec While Compare cons nil" => (k_here; refine Stop.to ?_)
  k_with "storeName" => (k_here; k_dflt (refine' stE ?q9F ?q9N ?_ ?q9a ?q9b ?q9c; (case q9b => rfl); (case q9F => with_reducible assumption); (case q9N => with_reducible assumption); (case q9a => rfl); (case q9c => rfl); k_whole); intro h' tk' F' N' q'; (try dsimp only at F' q'); (try dsimp only); revert h' tk' F' N' q'; intro _ _ _ _ _; (try k_sweep))
  k_with "binaryOp FloorDiv int int" => (k_here; refine' div_lit ?q9a ?q9b ?_; (case q9a => decide); (case q9b => decide); k_whole)
  k_with "binaryOp Mod int int" => (k_here; refine' mod_lit ?q9a ?q9b ?_; (case q9a => decide); (case q9b => decide); k_whole)
  k_with "call builtin:max" => (k_here; refine' max3 ?q9a ?q9b ?_ ?q9c; (case q9a => with_reducible assumption); (case q9b => with_reducible assumption); (case q9c => rfl); k_whole; intro h' tk' tk2' F' N' e' q'; (try dsimp only at q'); (try dsimp only); revert h' tk' tk2' F' N' e' q'; intro _ _ _ _ _ _ _; (try k_sweep))
  k_with "call builtin:min" => (k_here; refine' min3 ?q9a ?q9b ?_ ?q9c; (case q9a => with_reducible assumption); (case q9b => with_reducible assumption); (case q9c => rfl); k_whole; intro h' tk' tk2' F' N' e' q'; (try dsimp only at q'); (try dsimp only); revert h' tk' tk2' F' N' e' q'; intro _ _ _ _ _ _ _; (try k_sweep))
  k_with "execs cons" => (k_here; (with_reducible refine execs_seq ?_))
  k_with "execs nil" => (k_here; (with_reducible refine wpAny_execs_nil ?_); (try dsimp only))
  k_with "call ref" => (k_here; refine Stop.to ?_)
  k_with "exec For Name Call cons nil" => (k_here; refine Stop.to ?_)
  k_with "exec Assign cons ListComp cons" => (k_here; refine Stop.to ?_)
  k_with "exec Assign cons ListComp" => (k_here; refine Stop.to ?_)
  k_with "eval ListComp" => (k_here; refine Stop.to ?_)
  k_with "subscriptTail List Slice ref ref" => (k_here; k_dflt (refine kba_turn (value' := PySem.Expr.Name (PySem.Str.ofString "_") ⟨0, 0, 0, 0⟩) (fun _ => rfl) ?_))
  k_with "subscriptTail Name Slice ref ref" => (k_here; k_dflt (refine' kmk_slice ?q9F ?q9N ?q9l ?q9p ?q9q ?_ ?q9s ?q9t ?q9z; (case q9F => with_reducible assumption); (case q9N => with_reducible assumption); (case q9l => first | with_reducible assumption | exact News.isList (by with_reducible assumption) (by k_mem) | exact Fr.lst (by with_reducible assumption) (by with_reducible assumption)); (case q9p => first | exact IsPart.none | exact IsPart.int _ _); (case q9q => first | exact IsPart.none | exact IsPart.int _ _); (case q9s => with_unfolding_all rfl); (case q9t => (intro _; with_unfolding_all rfl)); (case q9z => first | with_reducible assumption | (rw [sizeLine_eq]; simp only [List.size_toArray, List.length_cons, List.length_nil]; omega) | (rw [sizeLine_eq]; omega))); intro D' h' F' N' l1; (try dsimp only); revert D' h' F' N' l1; intro _ _ _ _ _; (try k_sweep))
  k_with "binaryOp Add ref ref" => (k_here; k_dflt (refine' add_arrays ?q9F ?q9N ?q9l ?q9b ?_ ?q9z; (case q9F => with_reducible assumption); (case q9N => with_reducible assumption); (case q9l => first | with_reducible assumption | exact News.isList (by with_reducible assumption) (by k_mem) | exact Fr.lst (by with_reducible assumption) (by with_reducible assumption)); (case q9b => first | with_reducible assumption | exact News.isList (by with_reducible assumption) (by k_mem) | exact Fr.lst (by with_reducible assumption) (by with_reducible assumption)); (case q9z => first | with_reducible assumption | (rw [sizeLine_eq]; omega))); intro h' F' N'; (try dsimp only); revert h' F' N'; intro _ _ _; (try k_sweep))
  k_with "mem" => (first | exact List.Mem.head _ | with_reducible assumption | exact List.not_mem_nil | exact nm1 (by assumption) | exact nm1 (Ne.symm (by assumption)) | exact nm2 (by assumption) (by assumption) | (refine' List.mem_append_left _ ?_; k_extra "mem") | (refine' List.mem_append_right _ ?_; k_extra "mem") | (refine' List.Mem.tail _ ?_; k_extra "mem"))
  trivial
section
theorem lay_Hf_1 : True := by
  k_with "subscriptTail" => (k_here; (with_reducible show wpAny _ _ (subscriptTail _ _ (Value.ref _) (Value.int _ _)) _ _ _); k_dflt (refine' item_gd ?q9k1 ?q9k2 ?q9k3 ?q9k4 ?_; (case q9k1 => first | with_reducible assumption | exact News.isList (by with_reducible assumption) (by k_mem) | exact Fr.lst (by with_reducible assumption) (by with_reducible assumption)); (case q9k2 => omega); (case q9k3 => (try simp only [Array.size_setIfInBounds, Array.size_pop]); omega); (case q9k4 => (try simp only [Array.size_setIfInBounds, Array.size_pop]); first | with_reducible assumption | omega); k_whole))
  k_with "setItem ref int" => (k_here; k_dflt (refine' set_at ?q9k1 ?q9k2 ?q9k3 ?q9k4 ?q9k5 ?q9k6 ?_; (case q9k1 => with_reducible assumption); (case q9k2 => with_reducible assumption); (case q9k3 => k_upd); (case q9k4 => omega); (case q9k5 => (try simp only [Array.size_setIfInBounds, Array.size_pop]); omega); (case q9k6 => (try simp only [Array.size_setIfInBounds, Array.size_pop]); first | with_reducible assumption | omega); k_whole); intro h' F' N'; (try dsimp only); revert h' F' N'; intro _ _ _; (try k_sweep))
  k_with "binaryOp RShift int int" => (k_here; refine' shr1 ?_)
  k_with "compareOp Lt" => (k_here; k_dflt (refine' LtOn.use ?q9k1 ?q9k2 ?q9k3 ?q9k4 ?q9k5 ?_; (case q9k1 => with_reducible assumption); (case q9k2 => first | with_reducible assumption | exact AllS.gd (by with_reducible assumption) (by omega)); (case q9k3 => first | with_reducible assumption | exact AllS.gd (by with_reducible assumption) (by omega)); (case q9k4 => exact Nat.le_of_ble_eq_true rfl); (case q9k5 => exact ext_back (by with_reducible assumption) (by with_reducible assumption)); k_whole))
  k_with "call builtin:list.pop" => (k_here; k_dflt (refine' pop_l ?q9F ?q9N ?q9n ?q9z ?q9U ?_; (case q9F => with_reducible assumption); (case q9N => with_reducible assumption); (case q9n => first | with_reducible assumption | omega); (case q9z => first | with_reducible assumption | (rw [sizeLine_eq]; omega)); (case q9U => k_upd)); (intro h' F' N'; (try dsimp only); revert h' F' N'; intro _ _ _; (try k_sweep)))
  k_with "truthy ref" => (k_here; k_dflt (refine' wpAny_truthy_list ?q9l ?q9z ?_; (case q9l => first | with_reducible assumption | exact News.isList (by with_reducible assumption) (by k_mem) | exact Fr.lst (by with_reducible assumption) (by with_reducible assumption)); (case q9z => (try simp only [Array.size_pop]); omega); k_whole))
  trivial
theorem hf {w : World} {base : Heap} {mean : ExcName → Option Value} {mg mb : Str → Option Value} (X : (Mine.hd.heap_39 w.params).In base)
    (T : Top tp tlo mean mg mb base) {s : Shared} (st : base.StaysIn s.heap) {a : Nat} {its : Array Value} {n0 : Nat} (ha : s.heap.get? a = some (listOf its n0)) (hb : base.get? a = none) (hz : (its.size : Int) < 2 ^ 60)
    {S : Value → Prop} {lt : Value → Value → Bool} (hS : AllS S its) (hl : LtOn w a s.heap S lt) {Q E}
    (ret : ∀ (h' : Heap) (tk : Nat), Ext [a] s.heap h' → h'.get? a = some (listOf (hfF lt (its.size / 2) its) n0) → Q .none { s with heap := h', toks := tk }) :
    wpAny (model PySem.Challenge.rw_pg0206_01.row.prog w) (Aw 700) (call (.ref 76) [.ref a]) Q E s := by
  revert X; k_fill; intro X
  refine' ent (news := [(a, listOf its n0)]) (binds := [(Str.ofString "x", .ref a)]) X T st ?k1 ?k2 ?k3 ?k4 ?k5 ?k6 ?_ ?k7 ?k8 ?k9 ?k10
  case k1 => intro p hp; cases hp with | head => exact ⟨ha, hb⟩ | tail _ h => cases h
  case k2 => k_is
  case k3 => k_is
  case k4 => decide
  case k5 => exact kp_binds (Frag.In.keeps X st) (fun _ => rfl)
  case k6 => exact locs rfl
  case k7 => rfl
  case k8 => rfl
  case k9 => rfl
  case k10 => decide
  intro g L h₁ bb1 x1 bb2 z1 F N X T l1 bb3
  try dsimp only at F ⊢

  have x1' : Ext [a] s.heap g := x1
  k_steps
  refine Stop.mk (wpAny_For ?_)
  k_steps
  rename_i h3 tk3 F3 N3 qq3 h4 tk4 t4 u4 v4 R4 F4 N4 x4
  have R4' : IsRange h4 h3.objs.size 0 ((its.size / 2 : Nat) : Int) 1 t4 u4 v4 := R4
  refine call_reversed_range R4' (by (with_reducible exact o417 ‹_›)) ?_
  have hI : a ≠ h4.objs.size := Nat.ne_of_lt (Heap.lt_size (N4 _ (.head _)).1)
  have F5 := F4.push (ritO (((its.size / 2 : Nat) : Int) - 1) ((its.size / 2 : Nat) : Int) (-1))
  have N5 := News.push F4 N4 (ritO (((its.size / 2 : Nat) : Int) - 1) ((its.size / 2 : Nat) : Int) (-1))
  generalize (h4.push (ritO (((its.size / 2 : Nat) : Int) - 1) ((its.size / 2 : Nat) : Int) (-1))) = h5 at F5 N5 ⊢
  generalize h4.objs.size = I at hI N5 ⊢
  clear F4 N4 F3 N3 R4 R4' x4
  try dsimp only
  refine pyIter_rit (N5.get (.head _)) ?_
  refine for_rit (fun k m news => ∃ arr, news = [(a, listOf arr n0)] ∧ m "x" = some (.ref a) ∧ arr.size = its.size ∧ AllS S arr ∧ hfF lt (its.size / 2 - k) arr = hfF lt (its.size / 2) its) F5 N5 ⟨its, rfl, rfl, rfl, hS, rfl⟩ ?_ rfl ?_ ?_
  · rintro k m rest ⟨arr, rfl, _⟩ p hp
    rcases List.mem_cons.mp hp with rfl | hp
    · exact hI
    · cases hp
  · intro k m₁ rest₁ h₁ tk₁ tkx hk F6 N6 hX
    refine ex1 hX ?_
    clear hX
    intro arr hX
    refine and5 hX ?_
    clear hX
    intro e0X mx q1 q2 q3
    subst e0X
    k_steps
    refine Stop.mk ?_
    have hkk : (((its.size / 2 : Nat) : Int) - 1 + (k : Int) * (-1)) = ((its.size / 2 - 1 - k : Nat) : Int) := by (with_reducible exact o423 ‹_›)
    rw [hkk]
    refine suN X T F6 N6 (by (with_reducible exact o181 ‹_› ‹_›)) q2 (hl.ext (ext_back x1' F6)) (by (with_reducible exact o506 ‹_› ‹_›)) (.tail (by exact hI.symm) (.head (by first | k_extra "mem" | simp))) ?_ rfl (Nat.le_of_ble_eq_true rfl) (Nat.le_of_ble_eq_true rfl)
    intro h7 tk7 x7 F7 N7 qq7
    try dsimp only
    k_steps
    have e1 : its.size / 2 - k = (its.size / 2 - 1 - k) + 1 := by (with_reducible exact o291 ‹_›)
    have e2 : its.size / 2 - (k + 1) = its.size / 2 - 1 - k := by (with_reducible exact o56)
    rw [e1] at q3
    exact ForEnd.next F7 N7 ⟨_, rfl, mx, by rw [siftF_size]; exact q1, siftF_all lt q2 (by (with_reducible exact o324 ‹_› ‹_›)), by rw [e2]; exact q3⟩
  · intro h6 tk6 m6 rest6 F6 N6 hX
    refine ex1 hX ?_
    clear hX
    intro arr hX
    refine and5 hX ?_
    clear hX
    intro e0X mx q1 q2 q3
    subst e0X
    try dsimp only
    k_steps
    rw [Nat.sub_self] at q3
    exact ret _ _ (ext_back x1' F6) ((N6.get (.head _)).trans (by rw [← q3]; rfl))
end
end
section
theorem lay_Hp_0 : True := by
  w_top off
  k_with_none
  k_with "eval Name" => (k_here; k_dflt (refine' nameE_C ?q9k1 ?_ ?q9k2 ?q9b ?q9c ?q9d; (case q9b => rfl); (case q9c => rfl); (case q9d => decide); (case q9k2 => rfl); (case q9k1 => first | with_reducible assumption | exact CellAt.keep (by with_reducible assumption) (by with_reducible assumption)); k_whole))
  k_with "eval Name" => (k_here; k_dflt (refine' nameE_B ?q9F ?q9X ?q9T ?q9e ?q9v ?q9n ?_ ?q9a ?q9a2 ?q9b ?q9c ?q9d; (case q9b => rfl); (case q9c => rfl); (case q9F => with_reducible assumption); (case q9X => with_reducible assumption); (case q9T => k_asm); (case q9a => rfl); (case q9a2 => rfl); (case q9d => decide); (case q9e => k_is); (case q9v => boot_fast); (case q9n => decide); k_whole))
  k_with "eval Name" => (k_here; k_dflt (refine' nameE_K ?q9F ?q9X ?q9T ?q9e ?_ ?q9a ?q9b ?q9c ?q9d; (case q9b => rfl); (case q9c => rfl); (case q9F => with_reducible assumption); (case q9X => with_reducible assumption); (case q9T => k_asm); (case q9a => rfl); (case q9d => decide); (case q9e => k_is); k_whole))
  k_with "eval Name" => (k_here; k_dflt (refine' nameE_L ?q9k1 ?q9k2 ?_ ?q9a ?q9b ?q9c ?q9d; (case q9c => rfl); (case q9k1 => with_reducible assumption); (case q9k2 => first | exact rfl | assumption); (case q9a => rfl); (case q9b => rfl); (case q9d => decide); k_whole))
  k_with "call builtin:len" => (k_here; (with_reducible show wpAny _ _ (call (Value.builtin "len") [Value.ref _]) _ _ _); k_dflt (refine' len_list ?q9k1 ?q9k2 ?_; (case q9k1 => first | with_reducible assumption | exact Fr.lst (by with_reducible assumption) (by with_reducible assumption) | exact News.isList (by with_reducible assumption) (by k_mem)); (case q9k2 => first | with_reducible assumption | omega); k_whole))
  k_with "subscriptTail" => (k_here; (with_reducible show wpAny _ _ (subscriptTail _ _ (Value.ref _) (Value.int _ _)) _ _ _); k_dflt (refine' item_at ?q9k1 ?q9k2 ?q9k3 ?q9k4 ?_; (case q9k1 => first | with_reducible assumption | exact Fr.lst (by with_reducible assumption) (by with_reducible assumption) | exact News.isList (by with_reducible assumption) (by k_mem)); (case q9k2 => omega); (case q9k3 => omega); (case q9k4 => first | with_reducible assumption | omega); k_whole); intro _ _)
  k_with "compareOp Lt" => (k_here; k_dflt (refine' CmpAt.use ?q9k1 ?q9k2 ?_; (case q9k1 => with_reducible assumption); (case q9k2 => assumption); k_whole))
  k_with "exec While Compare cons nil" => (k_here; refine Stop.to ?_)
  k_with "storeName" => (k_here; k_dflt (refine' stE ?q9F ?q9N ?_ ?q9a ?q9b ?q9c; (case q9b => rfl); (case q9F => with_reducible assumption); (case q9N => with_reducible assumption); (case q9a => rfl); (case q9c => rfl); k_whole); intro h' tk' F' N' q'; (try dsimp only at F' q'); (try dsimp only); revert h' tk' F' N' q'; intro _ _ _ _ _; (try k_sweep))
  k_with "binaryOp FloorDiv int int" => (k_here; refine' div_lit ?q9a ?q9b ?_; (case q9a => decide); (case q9b => decide); k_whole)
  k_with "binaryOp Mod int int" => (k_here; refine' mod_lit ?q9a ?q9b ?_; (case q9a => decide); (case q9b => decide); k_whole)
  k_with "call builtin:max" => (k_here; refine' max3 ?q9a ?q9b ?_ ?q9c; (case q9a => with_reducible assumption); (case q9b => with_reducible assumption); (case q9c => rfl); k_whole; intro h' tk' tk2' F' N' e' q'; (try dsimp only at q'); (try dsimp only); revert h' tk' tk2' F' N' e' q'; intro _ _ _ _ _ _ _; (try k_sweep))
  k_with "call builtin:min" => (k_here; refine' min3 ?q9a ?q9b ?_ ?q9c; (case q9a => with_reducible assumption); (case q9b => with_reducible assumption); (case q9c => rfl); k_whole; intro h' tk' tk2' F' N' e' q'; (try dsimp only at q'); (try dsimp only); revert h' tk' tk2' F' N' e' q'; intro _ _ _ _ _ _ _; (try k_sweep))
  k_with "execs cons" => (k_here; (with_reducible refine execs_seq ?_))
  k_with "execs nil" => (k_here; (with_reducible refine wpAny_execs_nil ?_); (try dsimp only))
  k_with "call ref" => (k_here; refine Stop.to ?_)
  k_with "exec For Name Call cons nil" => (k_here; refine Stop.to ?_)
  k_with "exec Assign cons ListComp cons" => (k_here; refine Stop.to ?_)
  k_with "exec Assign cons ListComp" => (k_here; refine Stop.to ?_)
  k_with "eval ListComp" => (k_here; refine Stop.to ?_)
  k_with "subscriptTail List Slice ref ref" => (k_here; k_dflt (refine kba_turn (value' := PySem.Expr.Name (PySem.Str.ofString "_") ⟨0, 0, 0, 0⟩) (fun _ => rfl) ?_))
  k_with "subscriptTail Name Slice ref ref" => (k_here; k_dflt (refine' kmk_slice ?q9F ?q9N ?q9l ?q9p ?q9q ?_ ?q9s ?q9t ?q9z; (case q9F => with_reducible assumption); (case q9N => with_reducible assumption); (case q9l => first | with_reducible assumption | exact News.isList (by with_reducible assumption) (by k_mem) | exact Fr.lst (by with_reducible assumption) (by with_reducible assumption)); (case q9p => first | exact IsPart.none | exact IsPart.int _ _); (case q9q => first | exact IsPart.none | exact IsPart.int _ _); (case q9s => with_unfolding_all rfl); (case q9t => (intro _; with_unfolding_all rfl)); (case q9z => first | with_reducible assumption | (rw [sizeLine_eq]; simp only [List.size_toArray, List.length_cons, List.length_nil]; omega) | (rw [sizeLine_eq]; omega))); intro D' h' F' N' l1; (try dsimp only); revert D' h' F' N' l1; intro _ _ _ _ _; (try k_sweep))
  k_with "binaryOp Add ref ref" => (k_here; k_dflt (refine' add_arrays ?q9F ?q9N ?q9l ?q9b ?_ ?q9z; (case q9F => with_reducible assumption); (case q9N => with_reducible assumption); (case q9l => first | with_reducible assumption | exact News.isList (by with_reducible assumption) (by k_mem) | exact Fr.lst (by with_reducible assumption) (by with_reducible assumption)); (case q9b => first | with_reducible assumption | exact News.isList (by with_reducible assumption) (by k_mem) | exact Fr.lst (by with_reducible assumption) (by with_reducible assumption)); (case q9z => first | with_reducible assumption | (rw [sizeLine_eq]; omega))); intro h' F' N'; (try dsimp only); revert h' F' N'; intro _ _ _; (try k_sweep))
  k_with "mem" => (first | exact List.Mem.head _ | with_reducible assumption | exact List.not_mem_nil | exact nm1 (by assumption) | exact nm1 (Ne.symm (by assumption)) | exact nm2 (by assumption) (by assumption) | (refine' List.mem_append_left _ ?_; k_extra "mem") | (refine' List.mem_append_right _ ?_; k_extra "mem") | (refine' List.Mem.tail _ ?_; k_extra "mem"))
  trivial
/-- what heappop leaves -/
noncomputable def popF (lt : Value → Value → Bool) (its : Array Value) : Array Value := if its.size = 1 then #[] else siftF lt (its.pop.setIfInBounds 0 (its.getD (its.size - 1) .none)) 0
section
theorem lay_Hp_1 : True := by
  k_with "subscriptTail" => (k_here; (with_reducible show wpAny _ _ (subscriptTail _ _ (Value.ref _) (Value.int _ _)) _ _ _); k_dflt (refine' item_gd ?q9k1 ?q9k2 ?q9k3 ?q9k4 ?_; (case q9k1 => first | with_reducible assumption | exact News.isList (by with_reducible assumption) (by k_mem) | exact Fr.lst (by with_reducible assumption) (by with_reducible assumption)); (case q9k2 => omega); (case q9k3 => (try simp only [Array.size_setIfInBounds, Array.size_pop]); omega); (case q9k4 => (try simp only [Array.size_setIfInBounds, Array.size_pop]); first | with_reducible assumption | omega); k_whole))
  k_with "setItem ref int" => (k_here; k_dflt (refine' set_at ?q9k1 ?q9k2 ?q9k3 ?q9k4 ?q9k5 ?q9k6 ?_; (case q9k1 => with_reducible assumption); (case q9k2 => with_reducible assumption); (case q9k3 => k_upd); (case q9k4 => omega); (case q9k5 => (try simp only [Array.size_setIfInBounds, Array.size_pop]); omega); (case q9k6 => (try simp only [Array.size_setIfInBounds, Array.size_pop]); first | with_reducible assumption | omega); k_whole); intro h' F' N'; (try dsimp only); revert h' F' N'; intro _ _ _; (try k_sweep))
  k_with "binaryOp RShift int int" => (k_here; refine' shr1 ?_)
  k_with "compareOp Lt" => (k_here; k_dflt (refine' LtOn.use ?q9k1 ?q9k2 ?q9k3 ?q9k4 ?q9k5 ?_; (case q9k1 => with_reducible assumption); (case q9k2 => first | with_reducible assumption | exact AllS.gd (by with_reducible assumption) (by omega)); (case q9k3 => first | with_reducible assumption | exact AllS.gd (by with_reducible assumption) (by omega)); (case q9k4 => exact Nat.le_of_ble_eq_true rfl); (case q9k5 => exact ext_back (by with_reducible assumption) (by with_reducible assumption)); k_whole))
  k_with "call builtin:list.pop" => (k_here; k_dflt (refine' pop_l ?q9F ?q9N ?q9n ?q9z ?q9U ?_; (case q9F => with_reducible assumption); (case q9N => with_reducible assumption); (case q9n => first | with_reducible assumption | omega); (case q9z => first | with_reducible assumption | (rw [sizeLine_eq]; omega)); (case q9U => k_upd)); (intro h' F' N'; (try dsimp only); revert h' F' N'; intro _ _ _; (try k_sweep)))
  k_with "truthy ref" => (k_here; k_dflt (refine' wpAny_truthy_list ?q9l ?q9z ?_; (case q9l => first | with_reducible assumption | exact News.isList (by with_reducible assumption) (by k_mem) | exact Fr.lst (by with_reducible assumption) (by with_reducible assumption)); (case q9z => (try simp only [Array.size_pop]); omega); k_whole))
  trivial
theorem hp {w : World} {base : Heap} {mean : ExcName → Option Value} {mg mb : Str → Option Value} (X : (Mine.hd.heap_39 w.params).In base)
    (T : Top tp tlo mean mg mb base) {s : Shared} (st : base.StaysIn s.heap) {a : Nat} {its : Array Value} {n0 : Nat} (ha : s.heap.get? a = some (listOf its n0)) (hb : base.get? a = none) (hz : (its.size : Int) < 2 ^ 60) (hz20 : its.size ≤ sizeLine) (hne : 0 < its.size)
    {S : Value → Prop} {lt : Value → Value → Bool} (hS : AllS S its) (hl : LtOn w a s.heap S lt) {Q E}
    (ret : ∀ (h' : Heap) (tk n1 : Nat), Ext [a] s.heap h' → h'.get? a = some (listOf (popF lt its) n1) → Q (its.getD 0 .none) { s with heap := h', toks := tk }) :
    wpAny (model PySem.Challenge.rw_pg0206_01.row.prog w) (Aw 700) (call (.ref 69) [.ref a]) Q E s := by
  revert X; k_fill; intro X
  refine' ent (news := [(a, listOf its n0)]) (binds := [(Str.ofString "heap", .ref a)]) X T st ?k1 ?k2 ?k3 ?k4 ?k5 ?k6 ?_ ?k7 ?k8 ?k9 ?k10
  case k1 => intro p hp; cases hp with | head => exact ⟨ha, hb⟩ | tail _ h => cases h
  case k2 => k_is
  case k3 => k_is
  case k4 => decide
  case k5 => exact kp_binds (Frag.In.keeps X st) (fun _ => rfl)
  case k6 => exact locs rfl
  case k7 => rfl
  case k8 => rfl
  case k9 => rfl
  case k10 => decide
  intro g L h₁ bb1 x1 bb2 z1 F N X T l1 bb3
  try dsimp only at F ⊢

  have x1' : Ext [a] s.heap g := x1
  have hzl : its.size ≤ sizeLine := hz20
  k_steps
  · rename_i h3 h4 tk4 F4 N4 qq4 c
    have e1 : its.size = 1 := by
      have : its.pop.size = 0 := by simpa [Array.isEmpty] using c
      rw [Array.size_pop] at this; (with_reducible exact o103 ‹_› ‹_›)
    have e2 : its.pop = #[] := by
      apply Array.eq_empty_of_size_eq_zero
      rw [Array.size_pop]; (with_reducible exact o112 ‹_›)
    try dsimp only
    have q := ret h4 (tk4 + 1 + 1) (n0 + 1) (ext_back x1' F4) ((N4.get (.head _)).trans (by rw [e2]; unfold popF; rw [if_pos e1]))
    rw [e1]
    exact q
  · rename_i h3 h4 tk4 F4 N4 qq4 c
    have e1 : 1 < its.size := by
      have : ¬ its.pop.size = 0 := by intro q; rw [Array.isEmpty, q] at c; simp at c
      rw [Array.size_pop] at this; (with_reducible exact o474 ‹_›)
    have e3 : its.pop.getD 0 .none = its.getD 0 .none := by
      have h1 : 0 < its.pop.size := by rw [Array.size_pop]; (with_reducible exact o323 ‹_›)
      have h2 : 0 < its.size := by omega
      rw [Array.getD_eq_getD_getElem?, Array.getD_eq_getD_getElem?, Array.getElem?_pop, if_pos (by (with_reducible exact o323 ‹_›))]
    have hSp : AllS S its.pop := ⟨fun i hi => by
      rw [Array.size_pop] at hi
      have := hS.all i (by (with_reducible exact o222 ‹_›))
      rw [Array.getD_eq_getD_getElem?, Array.getElem?_pop, if_pos (by omega), ← Array.getD_eq_getD_getElem?]
      exact this⟩
    k_steps
    rename_i tk5 qq5 h6 F6 N6
    refine Stop.mk ?_
    refine suN (pos := 0) X T F6 N6 (by (try simp only [Array.size_setIfInBounds, Array.size_pop]); (with_reducible exact o60 ‹_›)) (hSp.set (hS.gd (by (with_reducible exact o206 ‹_›)))) (hl.ext (ext_back x1' F6)) (by (try simp only [Array.size_setIfInBounds, Array.size_pop]); (with_reducible exact o323 ‹_›)) (.head (by first | k_extra "mem" | simp)) ?_ rfl (Nat.le_of_ble_eq_true rfl) (Nat.le_of_ble_eq_true rfl)
    intro h7 tk7 x7 F7 N7 qq7
    try dsimp only
    k_steps
    have q := ret h7 tk7 (n0 + 1) (ext_back x1' F7) ((N7.get (.head _)).trans (by unfold popF; rw [if_neg (by omega)]; rfl))
    rw [← e3] at q
    exact q
end
end
section
theorem lay_Br_0 : True := by
  w_top off
  k_with_none
  k_with "eval Name" => (k_here; k_dflt (refine' nameE_C ?q9k1 ?_ ?q9k2 ?q9b ?q9c ?q9d; (case q9b => rfl); (case q9c => rfl); (case q9d => decide); (case q9k2 => rfl); (case q9k1 => first | with_reducible assumption | exact CellAt.keep (by with_reducible assumption) (by with_reducible assumption)); k_whole))
  k_with "eval Name" => (k_here; k_dflt (refine' nameE_B ?q9F ?q9X ?q9T ?q9e ?q9v ?q9n ?_ ?q9a ?q9a2 ?q9b ?q9c ?q9d; (case q9b => rfl); (case q9c => rfl); (case q9F => with_reducible assumption); (case q9X => with_reducible assumption); (case q9T => k_asm); (case q9a => rfl); (case q9a2 => rfl); (case q9d => decide); (case q9e => k_is); (case q9v => boot_fast); (case q9n => decide); k_whole))
  k_with "eval Name" => (k_here; k_dflt (refine' nameE_K ?q9F ?q9X ?q9T ?q9e ?_ ?q9a ?q9b ?q9c ?q9d; (case q9b => rfl); (case q9c => rfl); (case q9F => with_reducible assumption); (case q9X => with_reducible assumption); (case q9T => k_asm); (case q9a => rfl); (case q9d => decide); (case q9e => k_is); k_whole))
  k_with "eval Name" => (k_here; k_dflt (refine' nameE_L ?q9k1 ?q9k2 ?_ ?q9a ?q9b ?q9c ?q9d; (case q9c => rfl); (case q9k1 => with_reducible assumption); (case q9k2 => first | exact rfl | assumption); (case q9a => rfl); (case q9b => rfl); (case q9d => decide); k_whole))
  k_with "call builtin:len" => (k_here; (with_reducible show wpAny _ _ (call (Value.builtin "len") [Value.ref _]) _ _ _); k_dflt (refine' len_list ?q9k1 ?q9k2 ?_; (case q9k1 => first | with_reducible assumption | exact Fr.lst (by with_reducible assumption) (by with_reducible assumption) | exact News.isList (by with_reducible assumption) (by k_mem)); (case q9k2 => first | with_reducible assumption | omega); k_whole))
  k_with "subscriptTail" => (k_here; (with_reducible show wpAny _ _ (subscriptTail _ _ (Value.ref _) (Value.int _ _)) _ _ _); k_dflt (refine' item_at ?q9k1 ?q9k2 ?q9k3 ?q9k4 ?_; (case q9k1 => first | with_reducible assumption | exact Fr.lst (by with_reducible assumption) (by with_reducible assumption) | exact News.isList (by with_reducible assumption) (by k_mem)); (case q9k2 => omega); (case q9k3 => omega); (case q9k4 => first | with_reducible assumption | omega); k_whole); intro _ _)
  k_with "compareOp Lt" => (k_here; k_dflt (refine' CmpAt.use ?q9k1 ?q9k2 ?_; (case q9k1 => with_reducible assumption); (case q9k2 => assumption); k_whole))
  k_with "exec While Compare cons nil" => (k_here; refine Stop.to ?_)
  k_with "storeName" => (k_here; k_dflt (refine' stE ?q9F ?q9N ?_ ?q9a ?q9b ?q9c; (case q9b => rfl); (case q9F => with_reducible assumption); (case q9N => with_reducible assumption); (case q9a => rfl); (case q9c => rfl); k_whole); intro h' tk' F' N' q'; (try dsimp only at F' q'); (try dsimp only); revert h' tk' F' N' q'; intro _ _ _ _ _; (try k_sweep))
  k_with "binaryOp FloorDiv int int" => (k_here; refine' div_lit ?q9a ?q9b ?_; (case q9a => decide); (case q9b => decide); k_whole)
  k_with "binaryOp Mod int int" => (k_here; refine' mod_lit ?q9a ?q9b ?_; (case q9a => decide); (case q9b => decide); k_whole)
  k_with "call builtin:max" => (k_here; refine' max3 ?q9a ?q9b ?_ ?q9c; (case q9a => with_reducible assumption); (case q9b => with_reducible assumption); (case q9c => rfl); k_whole; intro h' tk' tk2' F' N' e' q'; (try dsimp only at q'); (try dsimp only); revert h' tk' tk2' F' N' e' q'; intro _ _ _ _ _ _ _; (try k_sweep))
  k_with "call builtin:min" => (k_here; refine' min3 ?q9a ?q9b ?_ ?q9c; (case q9a => with_reducible assumption); (case q9b => with_reducible assumption); (case q9c => rfl); k_whole; intro h' tk' tk2' F' N' e' q'; (try dsimp only at q'); (try dsimp only); revert h' tk' tk2' F' N' e' q'; intro _ _ _ _ _ _ _; (try k_sweep))
  k_with "execs cons" => (k_here; (with_reducible refine execs_seq ?_))
  k_with "execs nil" => (k_here; (with_reducible refine wpAny_execs_nil ?_); (try dsimp only))
  k_with "call ref" => (k_here; refine Stop.to ?_)
  k_with "exec For Name Call cons nil" => (k_here; refine Stop.to ?_)
  k_with "exec Assign cons ListComp cons" => (k_here; refine Stop.to ?_)
  k_with "exec Assign cons ListComp" => (k_here; refine Stop.to ?_)
  k_with "eval ListComp" => (k_here; refine Stop.to ?_)
  k_with "subscriptTail List Slice ref ref" => (k_here; k_dflt (refine kba_turn (value' := PySem.Expr.Name (PySem.Str.ofString "_") ⟨0, 0, 0, 0⟩) (fun _ => rfl) ?_))
  k_with "subscriptTail Name Slice ref ref" => (k_here; k_dflt (refine' kmk_slice ?q9F ?q9N ?q9l ?q9p ?q9q ?_ ?q9s ?q9t ?q9z; (case q9F => with_reducible assumption); (case q9N => with_reducible assumption); (case q9l => first | with_reducible assumption | exact News.isList (by with_reducible assumption) (by k_mem) | exact Fr.lst (by with_reducible assumption) (by with_reducible assumption)); (case q9p => first | exact IsPart.none | exact IsPart.int _ _); (case q9q => first | exact IsPart.none | exact IsPart.int _ _); (case q9s => with_unfolding_all rfl); (case q9t => (intro _; with_unfolding_all rfl)); (case q9z => first | with_reducible assumption | (rw [sizeLine_eq]; simp only [List.size_toArray, List.length_cons, List.length_nil]; omega) | (rw [sizeLine_eq]; omega))); intro D' h' F' N' l1; (try dsimp only); revert D' h' F' N' l1; intro _ _ _ _ _; (try k_sweep))
  k_with "binaryOp Add ref ref" => (k_here; k_dflt (refine' add_arrays ?q9F ?q9N ?q9l ?q9b ?_ ?q9z; (case q9F => with_reducible assumption); (case q9N => with_reducible assumption); (case q9l => first | with_reducible assumption | exact News.isList (by with_reducible assumption) (by k_mem) | exact Fr.lst (by with_reducible assumption) (by with_reducible assumption)); (case q9b => first | with_reducible assumption | exact News.isList (by with_reducible assumption) (by k_mem) | exact Fr.lst (by with_reducible assumption) (by with_reducible assumption)); (case q9z => first | with_reducible assumption | (rw [sizeLine_eq]; omega))); intro h' F' N'; (try dsimp only); revert h' F' N'; intro _ _ _; (try k_sweep))
  k_with "mem" => (first | exact List.Mem.head _ | with_reducible assumption | exact List.not_mem_nil | exact nm1 (by assumption) | exact nm1 (Ne.symm (by assumption)) | exact nm2 (by assumption) (by assumption) | (refine' List.mem_append_left _ ?_; k_extra "mem") | (refine' List.mem_append_right _ ?_; k_extra "mem") | (refine' List.Mem.tail _ ?_; k_extra "mem"))
  trivial
/-- x is compared with an item of a list: p tells -/
noncomputable def CmpAtR (w : World) (its : Array Value) (x : Value) (p : Nat → Bool) : Prop :=
  ∀ i v, its[i]? = some v → ∀ (A : Around) (Q : Value → Shared → Prop) (E : Value → Shared → Prop) (s : Shared), Q (.bool (p i)) s → wpAny (model PySem.Challenge.rw_pg0206_01.row.prog w) A (compareOp .Lt x v) Q E s
theorem CmpAtR.use {w : World} {its : Array Value} {x v : Value} {p : Nat → Bool} {i : Nat} {A : Around} {Q : Value → Shared → Prop} {E : Value → Shared → Prop} {s : Shared} (c : CmpAtR w its x p) (hv : its[i]? = some v) (h : Q (.bool (p i)) s) :
    wpAny (model PySem.Challenge.rw_pg0206_01.row.prog w) A (compareOp .Lt x v) Q E s := c i v hv A Q E s h
section
theorem lay_Br_1 : True := by
  k_with "compareOp Lt" => (k_here; k_dflt (refine' CmpAtR.use ?q9k1 ?q9k2 ?_; (case q9k1 => with_reducible assumption); (case q9k2 => assumption); k_whole))
  trivial
theorem br {w : World} {base : Heap} {mean : ExcName → Option Value} {mg mb : Str → Option Value} (X : (Mine.hd.heap_39 w.params).In base)
    (T : Top tp tlo mean mg mb base) {s : Shared} (st : base.StaysIn s.heap) {a : Addr} {its : Array Value}
    (hl : s.heap.IsList a its) (hz : (its.size : Int) < 2 ^ 60) {x : Value} {p : Nat → Bool} {t0 : Nat} (hc : CmpAtR w its x p) {Q E} (ret : ∀ h' tk tk' r, Ext [] s.heap h' → Cut (fun i => !p i) its.size r → Q (.int r tk) { s with heap := h', toks := tk' }) :
    wpAny (model PySem.Challenge.rw_pg0206_01.row.prog w) (Aw 900) (call (.ref 32) [.ref a, x, .int 0 t0, .none]) Q E s := by
  revert X; k_fill; intro X
  refine' ent (news := []) X T st ?k1 ?k2 ?k3 ?k4 ?k5 ?k6 ?_ ?k7 ?k8 ?k9 ?k10
  case k1 => intro p hp; cases hp
  case k2 => k_is
  case k3 => k_is
  case k4 => decide
  case k5 => exact kp_binds (Frag.In.keeps X st) (fun _ => rfl)
  case k6 => exact locs rfl
  case k7 => rfl
  case k8 => rfl
  case k9 => rfl
  case k10 => decide
  intro g L h₁ b1 x1 b2 z1 F N X T l1 b3
  try dsimp only
  have hl' : g.IsList a its := by
    obtain ⟨o, ho, r⟩ := hl
    exact ⟨o, x1 _ _ ho (by first | k_extra "mem" | simp), r⟩
  have hz' : (its.size : Int) < 2 ^ 63 := by omega
  k_steps
  refine Stop.mk ?_
  refine While_inv (fun n m news => news = [] ∧ ∃ lo hi tl th : Nat, m "a" = some (.ref a) ∧ m "x" = some x ∧ m "lo" = some (.int lo tl) ∧ m "hi" = some (.int hi th) ∧ m "key" = some .none ∧ lo ≤ hi ∧ hi ≤ its.size ∧
    (lo = 0 ∨ p (lo - 1) = false) ∧ (hi = its.size ∨ p hi = true) ∧ n = hi - lo) (n₀ := its.size) (by assumption) (by assumption) ?_ ?_
  · exact ⟨rfl, 0, its.size, _, _, rfl, rfl, rfl, rfl, rfl, by (with_reducible exact o72), by (with_reducible exact o85), .inl rfl, .inl rfl, by (with_reducible exact o235)⟩
  · intro n m₁ news₁ h₂ tk₁ F₁ N₁ hJ
    refine and2 hJ ?_
    clear hJ
    intro e0X hX
    refine ex4 hX ?_
    clear hX
    intro lo hi tl th hX
    refine and10 hX ?_
    clear hX
    intro ma mx ml mh mk q1 q2 q3 q4 q5
    subst e0X
    k_steps
    · rename_i a1 h3 tk3 qq v hv a2 h5 tk5 F5 N5 qq2
      have hm : (((lo : Int) + hi) / 2).toNat = (lo + hi) / 2 := by (with_reducible exact o100)
      rw [hm] at a2
      refine WhileStep.intro (n' := (lo + hi) / 2 - lo) F5 N5 (by (with_reducible exact o170 ‹_› ‹_›)) ⟨rfl, lo, (lo + hi) / 2, _, _, ma, mx, ml, congrArg (fun z => some (Value.int z _)) (by (with_reducible exact o338)), mk, by (with_reducible exact o121 ‹_›), by (with_reducible exact o394 ‹_› ‹_›), q3, .inr ?_, rfl⟩
      · simpa using a2
    · rename_i a1 h3 tk3 qq v hv a2 h5 tk5 F5 N5 qq2
      have hm : (((lo : Int) + hi) / 2).toNat = (lo + hi) / 2 := by (with_reducible exact o100)
      rw [hm] at a2
      refine WhileStep.intro (n' := hi - ((lo + hi) / 2 + 1)) F5 N5 (by (with_reducible exact o160 ‹_› ‹_›)) ⟨rfl, (lo + hi) / 2 + 1, hi, _, _, ma, mx, congrArg (fun z => some (Value.int z _)) (by (with_reducible exact o156)), mh, mk, by (with_reducible exact o1 ‹_›), by omega, .inr ?_, q4, rfl⟩
      · rw [Nat.add_sub_cancel]; exact a2
    · rename_i a1
      have e : lo = hi := by (with_reducible exact o200 ‹_› ‹_›)
      subst e
      exact ret _ _ _ lo (ext_back x1 (by with_reducible assumption)) ⟨q2, by simpa using q3, by simpa using q4⟩
end
end
section
theorem lay_Ir_0 : True := by
  w_top off
  k_with_none
  k_with "eval Name" => (k_here; k_dflt (refine' nameE_C ?q9k1 ?_ ?q9k2 ?q9b ?q9c ?q9d; (case q9b => rfl); (case q9c => rfl); (case q9d => decide); (case q9k2 => rfl); (case q9k1 => first | with_reducible assumption | exact CellAt.keep (by with_reducible assumption) (by with_reducible assumption)); k_whole))
  k_with "eval Name" => (k_here; k_dflt (refine' nameE_B ?q9F ?q9X ?q9T ?q9e ?q9v ?q9n ?_ ?q9a ?q9a2 ?q9b ?q9c ?q9d; (case q9b => rfl); (case q9c => rfl); (case q9F => with_reducible assumption); (case q9X => with_reducible assumption); (case q9T => k_asm); (case q9a => rfl); (case q9a2 => rfl); (case q9d => decide); (case q9e => k_is); (case q9v => boot_fast); (case q9n => decide); k_whole))
  k_with "eval Name" => (k_here; k_dflt (refine' nameE_K ?q9F ?q9X ?q9T ?q9e ?_ ?q9a ?q9b ?q9c ?q9d; (case q9b => rfl); (case q9c => rfl); (case q9F => with_reducible assumption); (case q9X => with_reducible assumption); (case q9T => k_asm); (case q9a => rfl); (case q9d => decide); (case q9e => k_is); k_whole))
  k_with "eval Name" => (k_here; k_dflt (refine' nameE_L ?q9k1 ?q9k2 ?_ ?q9a ?q9b ?q9c ?q9d; (case q9c => rfl); (case q9k1 => with_reducible assumption); (case q9k2 => first | exact rfl | assumption); (case q9a => rfl); (case q9b => rfl); (case q9d => decide); k_whole))
  k_with "call builtin:len" => (k_here; (with_reducible show wpAny _ _ (call (Value.builtin "len") [Value.ref _]) _ _ _); k_dflt (refine' len_list ?q9k1 ?q9k2 ?_; (case q9k1 => first | with_reducible assumption | exact Fr.lst (by with_reducible assumption) (by with_reducible assumption) | exact News.isList (by with_reducible assumption) (by k_mem)); (case q9k2 => first | with_reducible assumption | omega); k_whole))
  k_with "subscriptTail" => (k_here; (with_reducible show wpAny _ _ (subscriptTail _ _ (Value.ref _) (Value.int _ _)) _ _ _); k_dflt (refine' item_at ?q9k1 ?q9k2 ?q9k3 ?q9k4 ?_; (case q9k1 => first | with_reducible assumption | exact Fr.lst (by with_reducible assumption) (by with_reducible assumption) | exact News.isList (by with_reducible assumption) (by k_mem)); (case q9k2 => omega); (case q9k3 => omega); (case q9k4 => first | with_reducible assumption | omega); k_whole); intro _ _)
  k_with "compareOp Lt" => (k_here; k_dflt (refine' CmpAt.use ?q9k1 ?q9k2 ?_; (case q9k1 => with_reducible assumption); (case q9k2 => assumption); k_whole))
  k_with "exec While Compare cons nil" => (k_here; refine Stop.to ?_)
  k_with "storeName" => (k_here; k_dflt (refine' stE ?q9F ?q9N ?_ ?q9a ?q9b ?q9c; (case q9b => rfl); (case q9F => with_reducible assumption); (case q9N => with_reducible assumption); (case q9a => rfl); (case q9c => rfl); k_whole); intro h' tk' F' N' q'; (try dsimp only at F' q'); (try dsimp only); revert h' tk' F' N' q'; intro _ _ _ _ _; (try k_sweep))
  k_with "binaryOp FloorDiv int int" => (k_here; refine' div_lit ?q9a ?q9b ?_; (case q9a => decide); (case q9b => decide); k_whole)
  k_with "binaryOp Mod int int" => (k_here; refine' mod_lit ?q9a ?q9b ?_; (case q9a => decide); (case q9b => decide); k_whole)
  k_with "call builtin:max" => (k_here; refine' max3 ?q9a ?q9b ?_ ?q9c; (case q9a => with_reducible assumption); (case q9b => with_reducible assumption); (case q9c => rfl); k_whole; intro h' tk' tk2' F' N' e' q'; (try dsimp only at q'); (try dsimp only); revert h' tk' tk2' F' N' e' q'; intro _ _ _ _ _ _ _; (try k_sweep))
  k_with "call builtin:min" => (k_here; refine' min3 ?q9a ?q9b ?_ ?q9c; (case q9a => with_reducible assumption); (case q9b => with_reducible assumption); (case q9c => rfl); k_whole; intro h' tk' tk2' F' N' e' q'; (try dsimp only at q'); (try dsimp only); revert h' tk' tk2' F' N' e' q'; intro _ _ _ _ _ _ _; (try k_sweep))
  k_with "execs cons" => (k_here; (with_reducible refine execs_seq ?_))
  k_with "execs nil" => (k_here; (with_reducible refine wpAny_execs_nil ?_); (try dsimp only))
  k_with "call ref" => (k_here; refine Stop.to ?_)
  k_with "exec For Name Call cons nil" => (k_here; refine Stop.to ?_)
  k_with "exec Assign cons ListComp cons" => (k_here; refine Stop.to ?_)
  k_with "exec Assign cons ListComp" => (k_here; refine Stop.to ?_)
  k_with "eval ListComp" => (k_here; refine Stop.to ?_)
  k_with "subscriptTail List Slice ref ref" => (k_here; k_dflt (refine kba_turn (value' := PySem.Expr.Name (PySem.Str.ofString "_") ⟨0, 0, 0, 0⟩) (fun _ => rfl) ?_))
  k_with "subscriptTail Name Slice ref ref" => (k_here; k_dflt (refine' kmk_slice ?q9F ?q9N ?q9l ?q9p ?q9q ?_ ?q9s ?q9t ?q9z; (case q9F => with_reducible assumption); (case q9N => with_reducible assumption); (case q9l => first | with_reducible assumption | exact News.isList (by with_reducible assumption) (by k_mem) | exact Fr.lst (by with_reducible assumption) (by with_reducible assumption)); (case q9p => first | exact IsPart.none | exact IsPart.int _ _); (case q9q => first | exact IsPart.none | exact IsPart.int _ _); (case q9s => with_unfolding_all rfl); (case q9t => (intro _; with_unfolding_all rfl)); (case q9z => first | with_reducible assumption | (rw [sizeLine_eq]; simp only [List.size_toArray, List.length_cons, List.length_nil]; omega) | (rw [sizeLine_eq]; omega))); intro D' h' F' N' l1; (try dsimp only); revert D' h' F' N' l1; intro _ _ _ _ _; (try k_sweep))
  k_with "binaryOp Add ref ref" => (k_here; k_dflt (refine' add_arrays ?q9F ?q9N ?q9l ?q9b ?_ ?q9z; (case q9F => with_reducible assumption); (case q9N => with_reducible assumption); (case q9l => first | with_reducible assumption | exact News.isList (by with_reducible assumption) (by k_mem) | exact Fr.lst (by with_reducible assumption) (by with_reducible assumption)); (case q9b => first | with_reducible assumption | exact News.isList (by with_reducible assumption) (by k_mem) | exact Fr.lst (by with_reducible assumption) (by with_reducible assumption)); (case q9z => first | with_reducible assumption | (rw [sizeLine_eq]; omega))); intro h' F' N'; (try dsimp only); revert h' F' N'; intro _ _ _; (try k_sweep))
  k_with "mem" => (first | exact List.Mem.head _ | with_reducible assumption | exact List.not_mem_nil | exact nm1 (by assumption) | exact nm1 (Ne.symm (by assumption)) | exact nm2 (by assumption) (by assumption) | (refine' List.mem_append_left _ ?_; k_extra "mem") | (refine' List.mem_append_right _ ?_; k_extra "mem") | (refine' List.Mem.tail _ ?_; k_extra "mem"))
  trivial
theorem brN {w : World} {A : Around} {E : Value → Shared → Prop} {Q : Value → Shared → Prop} {s : Shared} {h₀ : Heap} {L a : Nat} {m : Str → Option Value} {news : List (Addr × Obj)} {mean : ExcName → Option Value} {mg mb : Str → Option Value} {its : Array Value} {t0 : Nat} {x : Value} {p : Nat → Bool}
    (X : (Mine.hd.heap_39 w.params).In h₀) (T : Top tp tlo mean mg mb h₀) (F : Fr h₀ L s.heap m) (N : News h₀ L s.heap news) (hl : s.heap.IsList a its) (hz : (its.size : Int) < 2 ^ 60) (hc : CmpAtR w its x p)
    (h : ∀ (h' : Heap) (tk tk' r : Nat), Ext [] s.heap h' → Fr h₀ L h' m → News h₀ L h' news → s.toks ≤ tk' → Cut (fun i => !p i) its.size r → Q (.int r tk) { s with heap := h', toks := tk' }) (hh : A.handled = none) (hd : A.depth ≤ 900) (hu : A.units ≤ 900) :
    wpAny (model PySem.Challenge.rw_pg0206_01.row.prog w) A (call (.ref 32) [.ref a, x, .int 0 t0, .none]) Q E s :=
  toksle (lift (br X T F.keep hl hz hc fun h' tk tk' r x c q => h h' tk tk' r x (Fr.ext F x (by first | k_extra "mem" | simp) (by first | k_extra "mem" | simp)) (News.ext N x (by first | k_extra "mem" | simp)) q c) hh hd hu)
section
variable {prog : Program} {w : World} {A : Around} {E : Value → Shared → Prop} {s : Shared} {h₀ : Heap} {L D : Addr} {m : Str → Option Value} {news news' : List (Addr × Obj)}
theorem insert_at {its : Array Value} {n r : Nat} {u : Tok} {y : Value} {Q : Value → Shared → Prop} (F : Fr h₀ L s.heap m) (N : News h₀ L s.heap news) (hr : r ≤ its.size) (hz : its.size ≤ sizeLine)
    (U : Upd D (listOf its n) (listOf (its.toList.take r ++ y :: its.toList.drop r).toArray (n + 1)) news news') (h : ∀ h', Fr h₀ L h' m → News h₀ L h' news' → Q .none { s with heap := h' }) :
    wpAny (model prog w) A (call (.builtin "list.insert") [.ref D, .int (r : Int) u, y]) Q E s := by
  have hr2 : r < 2 ^ 62 := by rw [sizeLine_eq] at hz; (with_reducible exact o193 ‹_› ‹_›)
  refine kl_insert F N (l := its.toList.take r ++ y :: its.toList.drop r) (by unfold Builtin.List.listFitsIndex; simp only [Bool.and_eq_true, decide_eq_true_eq]; (with_reducible exact o233 ‹_›)) ?_ U (by rw [Array.length_toList]; exact hz) h
  unfold kl_ins
  rw [if_neg (by (with_reducible exact fun _ => o35 ‹_›))]
  simp only [Int.toNat_natCast, Array.length_toList, Nat.min_eq_left hr]
end
section
theorem lay_Ir_1 : True := by
  k_with "call builtin:list.insert" => (k_here; k_dflt (refine' insert_at ?q9F ?q9N ?q9r ?q9z ?q9U ?_; (case q9F => with_reducible assumption); (case q9N => with_reducible assumption); (case q9r => first | with_reducible assumption | omega); (case q9z => with_reducible assumption); (case q9U => k_upd)); intro h' F' N'; (try dsimp only); revert h' F' N'; intro _ _ _; (try k_sweep))
  trivial
theorem ir {w : World} {base : Heap} {mean : ExcName → Option Value} {mg mb : Str → Option Value} (X : (Mine.hd.heap_39 w.params).In base)
    (T : Top tp tlo mean mg mb base) {s : Shared} (st : base.StaysIn s.heap) {a : Nat} {its : Array Value} {n0 : Nat} (ha : s.heap.get? a = some (listOf its n0)) (hb : base.get? a = none) (hz20 : its.size ≤ sizeLine) {x : Value} {p : Nat → Bool} (hc : CmpAtR w its x p) {Q E}
    (ret : ∀ (h' : Heap) (tk r : Nat), Ext [a] s.heap h' → Cut (fun i => !p i) its.size r → h'.get? a = some (listOf (its.toList.take r ++ x :: its.toList.drop r).toArray (n0 + 1)) → Q .none { s with heap := h', toks := tk }) :
    wpAny (model PySem.Challenge.rw_pg0206_01.row.prog w) (Aw 800) (call (.ref 23) [.ref a, x]) Q E s := by
  revert X; k_fill; intro X
  refine' ent (news := [(a, listOf its n0)])  X T st ?k1 ?k2 ?k3 ?k4 ?k5 ?k6 ?_ ?k7 ?k8 ?k9 ?k10
  case k1 => intro p hp; cases hp with | head => exact ⟨ha, hb⟩ | tail _ h => cases h
  case k2 => k_is
  case k3 => k_is
  case k4 => decide
  case k5 => exact kp_binds (Frag.In.keeps X st) (fun _ => rfl)
  case k6 => exact locs rfl
  case k7 => rfl
  case k8 => rfl
  case k9 => rfl
  case k10 => decide
  intro g L h₁ bb1 x1 bb2 z1 F N X T l1 bb3
  try dsimp only at F ⊢

  have x1' : Ext [a] s.heap g := x1
  have hz : (its.size : Int) < 2 ^ 60 := by rw [sizeLine_eq] at hz20; (with_reducible exact o301 ‹_›)
  k_steps
  refine Stop.mk ?_
  refine brN X T (by with_reducible assumption) (by with_reducible assumption) (News.isList (by with_reducible assumption) (.head _)) hz hc ?_ rfl (Nat.le_of_ble_eq_true rfl) (Nat.le_of_ble_eq_true rfl)
  intro h5 tk5 tk6 r x5 F5 N5 qq5 c5
  have hr : r ≤ its.size := c5.1
  try dsimp only
  k_steps
  rename_i h6 tk7 qq6 h7 F7 N7
  exact ret _ _ r (ext_back x1' F7) c5 (N7.get (.head _))
end
end
section
theorem lay_Blk_0 : True := by
  w_top off
  k_with_none
  k_with "eval Name" => (k_here; k_dflt (refine' nameE_C ?q9k1 ?_ ?q9k2 ?q9b ?q9c ?q9d; (case q9b => rfl); (case q9c => rfl); (case q9d => decide); (case q9k2 => rfl); (case q9k1 => first | with_reducible assumption | exact CellAt.keep (by with_reducible assumption) (by with_reducible assumption)); k_whole))
  k_with "eval Name" => (k_here; k_dflt (refine' nameE_B ?q9F ?q9X ?q9T ?q9e ?q9v ?q9n ?_ ?q9a ?q9a2 ?q9b ?q9c ?q9d; (case q9b => rfl); (case q9c => rfl); (case q9F => with_reducible assumption); (case q9X => with_reducible assumption); (case q9T => k_asm); (case q9a => rfl); (case q9a2 => rfl); (case q9d => decide); (case q9e => k_is); (case q9v => boot_fast); (case q9n => decide); k_whole))
  k_with "eval Name" => (k_here; k_dflt (refine' nameE_K ?q9F ?q9X ?q9T ?q9e ?_ ?q9a ?q9b ?q9c ?q9d; (case q9b => rfl); (case q9c => rfl); (case q9F => with_reducible assumption); (case q9X => with_reducible assumption); (case q9T => k_asm); (case q9a => rfl); (case q9d => decide); (case q9e => k_is); k_whole))
  k_with "eval Name" => (k_here; k_dflt (refine' nameE_L ?q9k1 ?q9k2 ?_ ?q9a ?q9b ?q9c ?q9d; (case q9c => rfl); (case q9k1 => with_reducible assumption); (case q9k2 => first | exact rfl | assumption); (case q9a => rfl); (case q9b => rfl); (case q9d => decide); k_whole))
  k_with "call builtin:len" => (k_here; (with_reducible show wpAny _ _ (call (Value.builtin "len") [Value.ref _]) _ _ _); k_dflt (refine' len_list ?q9k1 ?q9k2 ?_; (case q9k1 => first | with_reducible assumption | exact Fr.lst (by with_reducible assumption) (by with_reducible assumption) | exact News.isList (by with_reducible assumption) (by k_mem)); (case q9k2 => first | with_reducible assumption | omega); k_whole))
  k_with "subscriptTail" => (k_here; (with_reducible show wpAny _ _ (subscriptTail _ _ (Value.ref _) (Value.int _ _)) _ _ _); k_dflt (refine' item_at ?q9k1 ?q9k2 ?q9k3 ?q9k4 ?_; (case q9k1 => first | with_reducible assumption | exact Fr.lst (by with_reducible assumption) (by with_reducible assumption) | exact News.isList (by with_reducible assumption) (by k_mem)); (case q9k2 => omega); (case q9k3 => omega); (case q9k4 => first | with_reducible assumption | omega); k_whole); intro _ _)
  k_with "compareOp Lt" => (k_here; k_dflt (refine' CmpAt.use ?q9k1 ?q9k2 ?_; (case q9k1 => with_reducible assumption); (case q9k2 => assumption); k_whole))
  k_with "exec While Compare cons nil" => (k_here; refine Stop.to ?_)
  k_with "storeName" => (k_here; k_dflt (refine' stE ?q9F ?q9N ?_ ?q9a ?q9b ?q9c; (case q9b => rfl); (case q9F => with_reducible assumption); (case q9N => with_reducible assumption); (case q9a => rfl); (case q9c => rfl); k_whole); intro h' tk' F' N' q'; (try dsimp only at F' q'); (try dsimp only); revert h' tk' F' N' q'; intro _ _ _ _ _; (try k_sweep))
  k_with "binaryOp FloorDiv int int" => (k_here; refine' div_lit ?q9a ?q9b ?_; (case q9a => decide); (case q9b => decide); k_whole)
  k_with "binaryOp Mod int int" => (k_here; refine' mod_lit ?q9a ?q9b ?_; (case q9a => decide); (case q9b => decide); k_whole)
  k_with "call builtin:max" => (k_here; refine' max3 ?q9a ?q9b ?_ ?q9c; (case q9a => with_reducible assumption); (case q9b => with_reducible assumption); (case q9c => rfl); k_whole; intro h' tk' tk2' F' N' e' q'; (try dsimp only at q'); (try dsimp only); revert h' tk' tk2' F' N' e' q'; intro _ _ _ _ _ _ _; (try k_sweep))
  k_with "call builtin:min" => (k_here; refine' min3 ?q9a ?q9b ?_ ?q9c; (case q9a => with_reducible assumption); (case q9b => with_reducible assumption); (case q9c => rfl); k_whole; intro h' tk' tk2' F' N' e' q'; (try dsimp only at q'); (try dsimp only); revert h' tk' tk2' F' N' e' q'; intro _ _ _ _ _ _ _; (try k_sweep))
  k_with "execs cons" => (k_here; (with_reducible refine execs_seq ?_))
  k_with "execs nil" => (k_here; (with_reducible refine wpAny_execs_nil ?_); (try dsimp only))
  k_with "call ref" => (k_here; refine Stop.to ?_)
  k_with "exec For Name Call cons nil" => (k_here; refine Stop.to ?_)
  k_with "exec Assign cons ListComp cons" => (k_here; refine Stop.to ?_)
  k_with "exec Assign cons ListComp" => (k_here; refine Stop.to ?_)
  k_with "eval ListComp" => (k_here; refine Stop.to ?_)
  k_with "subscriptTail List Slice ref ref" => (k_here; k_dflt (refine kba_turn (value' := PySem.Expr.Name (PySem.Str.ofString "_") ⟨0, 0, 0, 0⟩) (fun _ => rfl) ?_))
  k_with "subscriptTail Name Slice ref ref" => (k_here; k_dflt (refine' kmk_slice ?q9F ?q9N ?q9l ?q9p ?q9q ?_ ?q9s ?q9t ?q9z; (case q9F => with_reducible assumption); (case q9N => with_reducible assumption); (case q9l => first | with_reducible assumption | exact News.isList (by with_reducible assumption) (by k_mem) | exact Fr.lst (by with_reducible assumption) (by with_reducible assumption)); (case q9p => first | exact IsPart.none | exact IsPart.int _ _); (case q9q => first | exact IsPart.none | exact IsPart.int _ _); (case q9s => with_unfolding_all rfl); (case q9t => (intro _; with_unfolding_all rfl)); (case q9z => first | with_reducible assumption | (rw [sizeLine_eq]; simp only [List.size_toArray, List.length_cons, List.length_nil]; omega) | (rw [sizeLine_eq]; omega))); intro D' h' F' N' l1; (try dsimp only); revert D' h' F' N' l1; intro _ _ _ _ _; (try k_sweep))
  k_with "binaryOp Add ref ref" => (k_here; k_dflt (refine' add_arrays ?q9F ?q9N ?q9l ?q9b ?_ ?q9z; (case q9F => with_reducible assumption); (case q9N => with_reducible assumption); (case q9l => first | with_reducible assumption | exact News.isList (by with_reducible assumption) (by k_mem) | exact Fr.lst (by with_reducible assumption) (by with_reducible assumption)); (case q9b => first | with_reducible assumption | exact News.isList (by with_reducible assumption) (by k_mem) | exact Fr.lst (by with_reducible assumption) (by with_reducible assumption)); (case q9z => first | with_reducible assumption | (rw [sizeLine_eq]; omega))); intro h' F' N'; (try dsimp only); revert h' F' N'; intro _ _ _; (try k_sweep))
  k_with "mem" => (first | exact List.Mem.head _ | with_reducible assumption | exact List.not_mem_nil | exact nm1 (by assumption) | exact nm1 (Ne.symm (by assumption)) | exact nm2 (by assumption) (by assumption) | (refine' List.mem_append_left _ ?_; k_extra "mem") | (refine' List.mem_append_right _ ?_; k_extra "mem") | (refine' List.Mem.tail _ ?_; k_extra "mem"))
  trivial
/-- a call of the key f at place i gives fi i, and one more item in the list lk -/
noncomputable def KeyAt (w : World) (lk : Addr) (h0 : Heap) (its : Array Value) (f : Value) (fi : Nat → Int) : Prop :=
  ∀ (i : Nat) (v : Value) (arr : Array Value) (nn : Nat) (A : Around) (Q : Value → Shared → Prop) (E : Value → Shared → Prop) (s : Shared), its[i]? = some v → A.handled = none → A.depth ≤ 500 → A.units ≤ 520 → Ext [lk] h0 s.heap → s.heap.get? lk = some (listOf arr nn) → arr.size ≤ 1000 →
    (∀ (h' : Heap) (tk tk' nn' : Nat) (arr' : Array Value), arr'.size = arr.size + 1 → Ext [lk] s.heap h' → h'.get? lk = some (listOf arr' nn') → Q (.int (fi i) tk) { s with heap := h', toks := tk' }) →
    wpAny (model PySem.Challenge.rw_pg0206_01.row.prog w) A (call f [v]) Q E s
/-- a function lies at fn -/
noncomputable def FnAt (h : Heap) (fn : Addr) : Prop := ∃ o fd, h.get? fn = some o ∧ o.data = .func fd
theorem FnAt.keep {h₀ h : Heap} {fn L : Addr} {m : Str → Option Value} (k : FnAt h₀ fn) (F : Fr h₀ L h m) : FnAt h fn := let ⟨o, fd, ho, hd⟩ := k; ⟨o, fd, F.keep _ _ ho, hd⟩
theorem callWith_fn {M : Model} {A : Around} {E : Value → Shared → Prop} {s : Shared} {fn : Addr} {env : Env} {pos : Pos} {first : List Value} {Q : Value → Shared → Prop} {e : PySem.Expr} {rest : List PySem.Expr}
    (h : wpAny M A (spliced (backTo pos (starEach (e :: rest) env))) (fun vs s₁ => FnAt s₁.heap fn ∧ wpAny M A (call (.ref fn) (first ++ vs)) Q E s₁) E s)
    (he : starEach (e :: rest) env = (false, eval e env) :: starEach rest env := by rfl) (hplain : (backTo pos (starEach rest env)).any (·.1) = false := by rfl) :
    wpAny M A (callWith pos (.ref fn) first (backTo pos (starEach (e :: rest) env)) []) Q E s := by
  rw [he] at h ⊢
  refine callWith_of (P := fun h => FnAt h fn) (by show ((false || (backTo pos (starEach rest env)).any (·.1)) || false) = false; rw [hplain]; rfl) (fun h k => ⟨.frame, .inl rfl, ?_⟩) (PySem.Calls.evalArgs_plain h)
  obtain ⟨o, fd, ho, hd⟩ := k
  intro A Q E s k' q
  unfold keeperOf
  refine wpAny_bind (wpAny_load (k' _ _ ho) ?_)
  rw [hd]
  exact wpAny_pure q
theorem pow_half {j a b n : Nat} (h : (b - a) * 2 ^ j ≤ n) {a' b' : Nat} (h2 : 2 * (b' - a') ≤ b - a) : (b' - a') * 2 ^ (j + 1) ≤ n := by
  have : (b' - a') * 2 ^ (j + 1) = 2 * (b' - a') * 2 ^ j := by rw [Nat.pow_succ]; ac_rfl
  rw [this]
  exact Nat.le_trans (Nat.mul_le_mul_right _ h2) h
theorem pow_le {j a b n : Nat} (h : (b - a) * 2 ^ j ≤ n) (h2 : a < b) : 2 ^ j ≤ n := Nat.le_trans (by have := Nat.mul_le_mul_right (2 ^ j) (show 1 ≤ b - a by (with_reducible exact o13 ‹_›)); rwa [Nat.one_mul] at this) h
section
theorem lay_Blk_1 : True := by
  k_with "callWith ref" => (k_here; k_dflt (refine' callWith_fn ?_ ?q9a ?q9b; (case q9a => rfl); (case q9b => rfl)))
  k_with "And" => ((with_reducible show FnAt _ _ ∧ _); refine ⟨FnAt.keep (by with_reducible assumption) (by with_reducible assumption), ?_⟩; try dsimp only [List.nil_append, List.cons_append])
  trivial
theorem blk {w : World} {base : Heap} {mean : ExcName → Option Value} {mg mb : Str → Option Value} (X : (Mine.hd.heap_39 w.params).In base)
    (T : Top tp tlo mean mg mb base) {s : Shared} (st : base.StaysIn s.heap) {a lk : Nat} {its arr0 : Array Value} {n0 : Nat} (hl : s.heap.IsList a its) (hla : lk ≠ a) (hlk : s.heap.get? lk = some (listOf arr0 n0)) (hlb : base.get? lk = none) (hz : its.size ≤ 500) (ha0 : arr0.size = 0) {x : Int} {t0 : Nat} {fn : Nat} {fi : Nat → Int}
    (hfn : FnAt s.heap fn) (hlf : fn ≠ lk) (hk : KeyAt w lk s.heap its (.ref fn) fi) {Q E}
    (ret : ∀ (h' : Heap) (tk tk' r nn : Nat) (arr : Array Value), Ext [lk] s.heap h' → h'.get? lk = some (listOf arr nn) → (arr.size = 0 ∧ its.size = 0 ∨ 0 < arr.size ∧ 2 ^ (arr.size - 1) ≤ its.size) → Cut (fun i => decide (fi i < x)) its.size r → Q (.int r tk) { s with heap := h', toks := tk' }) :
    wpAny (model PySem.Challenge.rw_pg0206_01.row.prog w) (Aw 490) (call (.ref 41) [.ref a, .int x t0] [(Str.ofString "key", .ref fn)]) Q E s := by
  revert X; k_fill; intro X
  refine' ent (news := [(lk, listOf arr0 n0)]) X T st ?k1 ?k2 ?k3 ?k4 ?k5 ?k6 ?_ ?k7 ?k8 ?k9 ?k10
  case k1 => intro p hp; cases hp with | head => exact ⟨hlk, hlb⟩ | tail _ h => cases h
  case k2 => k_is
  case k3 => k_is
  case k4 => decide
  case k5 => exact kp_binds (Frag.In.keeps X st) (fun _ => rfl)
  case k6 => exact locs rfl
  case k7 => rfl
  case k8 => rfl
  case k9 => rfl
  case k10 => decide
  intro g L h₁ bb1 x1 bb2 z1 F N X T l1 bb3
  try dsimp only at F ⊢

  have x1' : Ext [lk] s.heap g := x1
  have hl' : g.IsList a its := by
    obtain ⟨o, ho, r⟩ := hl
    exact ⟨o, x1 _ _ ho (by first | k_extra "mem" | simpa using hla.symm), r⟩
  have hz' : (its.size : Int) < 2 ^ 63 := by (with_reducible exact o486 ‹_›)
  have hfn' : FnAt g fn := by obtain ⟨o, fd, ho, hd⟩ := hfn; exact ⟨o, fd, x1 _ _ ho (by first | k_extra "mem" | simpa using hlf), hd⟩
  k_steps
  refine Stop.mk ?_
  refine While_inv (fun n m news => ∃ (arr : Array Value) (nn lo hi tl th : Nat), news = [(lk, listOf arr nn)] ∧ m "a" = some (.ref a) ∧ m "x" = some (.int x t0) ∧ m "lo" = some (.int lo tl) ∧ m "hi" = some (.int hi th) ∧ m "key" = some (.ref fn) ∧ lo ≤ hi ∧ hi ≤ its.size ∧
    (lo = 0 ∨ fi (lo - 1) < x) ∧ (hi = its.size ∨ ¬ fi hi < x) ∧ (hi - lo) * 2 ^ arr.size ≤ its.size ∧ (arr.size = 0 ∧ hi - lo = its.size ∨ 0 < arr.size ∧ 2 ^ (arr.size - 1) ≤ its.size) ∧ n = hi - lo) (n₀ := its.size) (by with_reducible assumption) (by with_reducible assumption) ?_ ?_
  · exact ⟨arr0, n0, 0, its.size, _, _, rfl, rfl, rfl, rfl, rfl, rfl, by (with_reducible exact o72), by (with_reducible exact o85), .inl rfl, .inl rfl, by rw [ha0]; simp, .inl ⟨ha0, by (with_reducible exact o497)⟩, by (with_reducible exact o235)⟩
  · intro n m₁ news₁ h₂ tk₁ F₁ N₁ hJ
    refine ex6 hJ ?_
    clear hJ
    intro arr nn lo hi tl th hX
    refine and13 hX ?_
    clear hX
    intro e0X ma mx ml mh mk q1 q2 q3 q4 q5 q6 q7
    subst e0X
    k_steps
    · rename_i a1 h3 tk3 F3 N3 qq3 v hv
      have hm : (((lo : Int) + hi) / 2).toNat = (lo + hi) / 2 := by (with_reducible exact o100)
      rw [hm] at hv
      have hp := pow_le q5 (show lo < hi by (with_reducible exact o77 ‹_›))
      have hs : arr.size < 2 ^ arr.size := Nat.lt_two_pow_self
      refine Stop.mk ?_
      refine hk _ v arr nn _ _ _ _ hv rfl (Nat.le_of_ble_eq_true rfl) (Nat.le_of_ble_eq_true rfl) (ext_back x1' F3) (N3.get (.head _)) (by (with_reducible exact o349 ‹_› ‹_› ‹_›)) ?_
      intro h5 tk5 tk6 nn5 arr5 e5 x5 g5
      obtain ⟨F5, N5⟩ := back_upd F3 N3 (.head (by first | k_extra "mem" | simp)) x5 g5
      clear F3 N3
      try dsimp only
      k_steps
      · rename_i a2 h7 tk7 F7 N7 qq7
        refine WhileStep.intro (n' := hi - ((lo + hi) / 2 + 1)) F7 N7 (by (with_reducible exact o160 ‹_› ‹_›)) ⟨arr5, nn5, (lo + hi) / 2 + 1, hi, _, _, rfl, ma, mx, congrArg (fun z => some (Value.int z _)) (by (with_reducible exact o156)), mh, mk, by (with_reducible exact o1 ‹_›), by omega, .inr ?_, q4, ?_, .inr ⟨by (with_reducible exact o172 ‹_›), ?_⟩, rfl⟩
        · rw [Nat.add_sub_cancel]; exact a2
        · rw [e5]; exact pow_half q5 (by (with_reducible exact o236))
        · rw [e5, Nat.add_sub_cancel]; exact hp
      · rename_i a2 h7 tk7 F7 N7 qq7
        refine WhileStep.intro (n' := (lo + hi) / 2 - lo) F7 N7 (by (with_reducible exact o170 ‹_› ‹_›)) ⟨arr5, nn5, lo, (lo + hi) / 2, _, _, rfl, ma, mx, ml, congrArg (fun z => some (Value.int z _)) (by (with_reducible exact o338)), mk, by (with_reducible exact o121 ‹_›), by (with_reducible exact o394 ‹_› ‹_›), q3, .inr a2, ?_, .inr ⟨by (with_reducible exact o172 ‹_›), ?_⟩, rfl⟩
        · rw [e5]; exact pow_half q5 (by (with_reducible exact o438))
        · rw [e5, Nat.add_sub_cancel]; exact hp
    · rename_i a1
      have e : lo = hi := by (with_reducible exact o200 ‹_› ‹_›)
      subst e
      exact ret _ _ _ lo _ _ (ext_back x1' F₁) (N₁.get (.head _)) (by (with_reducible exact o409 ‹_›)) ⟨q2, by simpa using q3, by simpa using q4⟩
end
end
/-- where a comprehension's items come from: n of them, the i-th as P tells; It tells the iterator -/
structure Src (prog : Program) (w : World) (A : Around) (gC : Heap) (I : Addr) (n : Nat) (P : Nat → Value → Prop) (It : Nat → Obj → Prop) : Prop where
  nxt : ∀ (i : Nat) (o : Obj) (s : Shared) (Q : Option Value → Shared → Prop) (E : Value → Shared → Prop), i < n → It i o → s.heap.get? I = some o → gC.StaysIn s.heap →
    (∀ v tk h' o', P i v → It (i + 1) o' → h'.get? I = some o' → Heap.SameBut I s.heap h' → s.toks ≤ tk → Q (some v) { s with heap := h', toks := tk }) → wpAny (model prog w) A (pyNext (.ref I)) Q E s
  fin : ∀ (o : Obj) (s : Shared) (Q : Option Value → Shared → Prop) (E : Value → Shared → Prop), It n o → s.heap.get? I = some o → gC.StaysIn s.heap → (∀ h', Heap.ExtBut I s.heap h' → Q none { s with heap := h' }) → wpAny (model prog w) A (pyNext (.ref I)) Q E s
  cls : ∀ i o, It i o → o.cls ≠ .type "tuple"
  self : ∀ (o : Obj) (s : Shared) (Q : Value → Shared → Prop) (E : Value → Shared → Prop), It 0 o → s.heap.get? I = some o → Q (.ref I) s → wpAny (model prog w) A (pyIter (.ref I)) Q E s
noncomputable abbrev litO (l : Addr) (i : Nat) : Obj := { cls := .type "list_iterator", data := .fields #[.ref l, .int i 0] }
theorem Src.list {prog : Program} {w : World} {A : Around} {gC : Heap} {I l : Addr} {its : Array Value} (hh : A.handled = none) (hl : gC.IsList l its) : Src prog w A gC I its.size (fun i v => its[i]? = some v) (fun i o => o.cls = .type "list_iterator" ∧ o.data = .fields #[.ref l, .int i 0]) where
  nxt := fun i o s Q E hi hit ho hst h => by
    have hl' : s.heap.IsList l its := let ⟨ol, q, r⟩ := hl; ⟨ol, hst _ _ q, r⟩
    refine wpAny_pyNext_list_item ⟨o, ho, hit.1, hit.2⟩ hl' (Array.getElem?_eq_getElem hi) fun h' hit' hs' => ?_
    obtain ⟨o', ho', c', d'⟩ := hit'
    exact h _ _ _ o' (Array.getElem?_eq_getElem hi) ⟨c', d'⟩ ho' hs' (Nat.le_refl _)
  fin := fun o s Q E hit ho hst h => by
    have hl' : s.heap.IsList l its := let ⟨ol, q, r⟩ := hl; ⟨ol, hst _ _ q, r⟩
    exact wpAny_pyNext_list_end hh ⟨o, ho, hit.1, hit.2⟩ hl' (by simp) fun h' he => h h' he
  cls := fun i o h => by rw [h.1]; decide
  self := fun o s Q E hit ho h => wpAny_pyIter_listiter (i := 0) ⟨o, ho, hit.1, hit.2⟩ h
theorem Src.range {prog : Program} {w : World} {A : Around} {gC : Heap} {I : Addr} {n : Nat} (hh : A.handled = none) : Src prog w A gC I n (fun i v => ∃ tk, v = .int (i : Int) tk) (fun i o => o = ritO (i : Int) ((n : Int) - (i : Int)) 1) where
  nxt := fun i o s Q E hi hit ho hst h => by
    subst hit
    refine wpAny_pyNext_range_item ho (by omega) fun h' hit' hs' => ?_
    refine h _ _ h' _ ⟨_, rfl⟩ rfl ?_ hs' (Nat.le_succ _)
    have e1 : ((i + 1 : Nat) : Int) = (i : Int) + 1 := by (with_reducible exact o392)
    have e2 : (n : Int) - ((i + 1 : Nat) : Int) = (n : Int) - (i : Int) - 1 := by (with_reducible exact o248)
    rw [e1] at e2 ⊢
    rw [e2]; exact hit'
  fin := fun o s Q E hit ho hst h => by
    subst hit
    exact wpAny_pyNext_range_end hh ho (by omega) fun h' he => h h' he
  cls := fun i o h => by subst h; show Value.type "range_iterator" ≠ _; decide
  self := fun o s Q E hit ho h => by subst hit; exact pyIter_rit ho h

/-- a turn makes no element -/
noncomputable def SkipEnd (gC : Heap) (C D I : Addr) (ys : Array Value) (nD : Nat) (oI : Obj) (tl : List (Addr × Obj)) (s : Shared) (J : Array Value → List (Addr × Obj) → Nat → Prop) (s₃ : Shared) : Prop :=
  ∃ h' tk m', s₃ = { s with heap := h', toks := tk } ∧ Fr gC C h' m' ∧ News gC C h' ((D, listOf ys nD) :: (I, oI) :: tl) ∧ J ys tl tk
theorem SkipEnd.intro {gC h' : Heap} {C D I : Addr} {ys : Array Value} {nD tk : Nat} {oI : Obj} {tl : List (Addr × Obj)} {s : Shared} {J : Array Value → List (Addr × Obj) → Nat → Prop} {m' : Str → Option Value}
    (F : Fr gC C h' m') (N : News gC C h' ((D, listOf ys nD) :: (I, oI) :: tl)) (hJ : J ys tl tk) : SkipEnd gC C D I ys nD oI tl s J { s with heap := h', toks := tk } := ⟨h', tk, m', rfl, F, N, hJ⟩
/-- the iterator keeps no tuple of its own -/
noncomputable def OwnT (prog : Program) (w : World) (A : Around) (target : PySem.Expr) (I : Addr) (It : Nat → Obj → Prop) : Prop :=
  ∀ (i : Nat) (v : Value) (o : Obj) (s : Shared) (Q : Unit → Shared → Prop) (E : Value → Shared → Prop), It i o → s.heap.get? I = some o → Q () s → wpAny (model prog w) A (letOwnedTupleGo target (.ref I) v) Q E s
theorem OwnT.name {prog : Program} {w : World} {A : Around} {x : Str} {p : Pos} {I : Addr} {It : Nat → Obj → Prop} : OwnT prog w A (.Name x p) I It := fun _ _ _ _ _ _ _ _ q => wpAny_pure q
theorem OwnT.tuple {prog : Program} {w : World} {A : Around} {es : List PySem.Expr} {k} {p : Pos} {I l : Addr} : OwnT prog w A (.Tuple es k p) I (fun i o => o.cls = .type "list_iterator" ∧ o.data = .fields #[.ref l, .int i 0]) := fun i v o s Q E hit ho q => by
  cases v with
  | ref T => exact wpAny_letOwnedTupleGo_listiter (l := l) (i := i) ⟨o, ho, hit.1, hit.2⟩ q
  | _ => exact wpAny_pure q
/-- a loop of a comprehension, any target -/
theorem loop_any {prog : Program} {w : World} {A : Around} {s : Shared} {elt target iter : PySem.Expr} {ifs : List PySem.Expr} {scope : Scope} {pos : Pos} {it acc : Value} {env : Env} {R : Result → Shared → Prop} (I : Nat → Shared → Prop)
    (turn : ∀ n s, I n s → wpAny (model prog w) A (pyNext it) (fun r s₁ => match r with
      | none => R (.ok .next) s₁
      | some v => wpAny (model prog w) A (letOwnedTupleGo target it v) (fun _ s₀ => wpAny (model prog w) A (assign target env v) (fun _ s₂ =>
          wpAny (model prog w) A (forIn ifs true fun c r => if r = true then do let ok ← isTrue c env (eval c env); pure (ForInStep.yield ok) else pure (ForInStep.yield r)) (fun ok s₃ =>
            if ok = true then wpAny (model prog w) A (eval elt env) (fun x s₄ => wpAny (model prog w) A (call (.builtin "list.append") [acc, x]) (fun _ s₅ => ∃ m, m < n ∧ I m s₅) (fun _ _ => False) s₄) (fun _ _ => False) s₃
            else ∃ m, m < n ∧ I m s₃) (fun _ _ => False) s₂) (fun _ _ => False) s₀) (fun _ _ => False) s₁) (fun _ _ => False) s)
    (n : Nat) (h : I n s) : codeAny (model prog w) A (.compLoop (.ListComp elt [⟨target, iter, ifs, 0⟩] scope pos) 0 it acc env) R s := by
  refine codeAny_loop rfl I (fun n s hI => ?_) n h
  show wpAny _ A ((compTurn (.ListComp elt [⟨target, iter, ifs, 0⟩] scope pos) 0 it acc env).onRaise (fun x => do noteFrame x env; theTreesLotGoes x)) _ _ s
  refine wpAny_noted ?_
  rw [compTurn_list]
  refine wpAny_bind (wpAny_standAt (wpAny_bind (wpAny_mono (turn n s hI) (fun r s₁ h₁ => ?_) fun _ _ f => f.elim)))
  cases r with
  | none => exact wpAny_pure h₁
  | some v =>
    refine wpAny_bind (wpAny_mono h₁ (fun _ s₀ h₀ => ?_) fun _ _ f => f.elim)
    refine wpAny_bind (wpAny_mono h₀ (fun _ s₂ h₂ => wpAny_bind (wpAny_mono h₂ (fun ok s₃ h₃ => ?_) fun _ _ f => f.elim)) fun _ _ f => f.elim)
    cases ok with
    | false =>
      simp only [Bool.false_eq_true, if_false] at h₃
      exact wpAny_pure ⟨rfl, h₃⟩
    | true =>
      simp only [if_true] at h₃
      exact wpAny_bind (wpAny_bind (wpAny_mono h₃ (fun x s₄ h₄ => wpAny_bind (wpAny_mono h₄ (fun _ s₅ h₅ => wpAny_pure (wpAny_pure ⟨rfl, h₅⟩)) fun _ _ f => f.elim)) fun _ _ f => f.elim))
/-- an element is made -/
noncomputable def EltEnd (gC : Heap) (C D I : Addr) (ys : Array Value) (nD : Nat) (oI : Obj) (tl : List (Addr × Obj)) (s : Shared) (J : Array Value → List (Addr × Obj) → Nat → Prop) (y : Value) (s₃ : Shared) : Prop :=
  ∃ h' tk m' tnew, s₃ = { s with heap := h', toks := tk } ∧ Fr gC C h' m' ∧ News gC C h' (tnew ++ (D, listOf ys nD) :: (I, oI) :: tl) ∧ (∀ p ∈ tnew, p.2.cls = .type "tuple") ∧ ∀ tk', tk ≤ tk' → J (ys.push y) (tnew ++ tl) tk'
theorem EltEnd.intro {gC h' : Heap} {C D I : Addr} {ys : Array Value} {nD tk : Nat} {oI : Obj} {tl tnew : List (Addr × Obj)} {s : Shared} {J : Array Value → List (Addr × Obj) → Nat → Prop} {y : Value} {m' : Str → Option Value}
    (F : Fr gC C h' m') (N : News gC C h' (tnew ++ (D, listOf ys nD) :: (I, oI) :: tl)) (ht : ∀ p ∈ tnew, p.2.cls = .type "tuple") (hJ : ∀ tk', tk ≤ tk' → J (ys.push y) (tnew ++ tl) tk') : EltEnd gC C D I ys nD oI tl s J y { s with heap := h', toks := tk } :=
  ⟨h', tk, m', tnew, rfl, F, N, ht, hJ⟩

section
variable {prog : Program} {w : World} {A : Around} {s : Shared} {env : Env}
theorem push_list {D : Addr} {ys : Array Value} {nD : Nat} {y : Value} {Q : Value → Shared → Prop} {E : Value → Shared → Prop} (hD : s.heap.get? D = some (listOf ys nD)) (hz : ys.size ≤ sizeLine)
    (h : ∀ h', h'.get? D = some (listOf (ys.push y) (nD + 1)) → Heap.SameBut D s.heap h' → Q .none { s with heap := h' }) : wpAny (model prog w) A (call (.builtin "list.append") [.ref D, y]) Q E s := by
  have hl : s.heap.IsList D ys := ⟨_, hD, rfl, nD, rfl⟩
  refine wpAny_call_entry slot_list_append hl.typeIs entry_list_append ?_ (args_list_append _ _)
  show wpAny _ _ (updateSeq D (·.push y) >>= fun _ => ret .none) _ _ s
  refine wpAny_bind ?_
  refine wpAny_updateSeq hD rfl (wpAny_pure ⟨.none, rfl, h _ ?_ (Heap.SameBut.update ..)⟩)
  have q := PySem.IsL.update hD (·.push y)
  simpa using q

theorem comp_tail {elt target iter : PySem.Expr} {ifs : List PySem.Expr} {scope : Scope} {cl : List (Str × Addr)} {pos : Pos} {I : Addr} {n : Nat} {P : Nat → Value → Prop} {It : Nat → Obj → Prop} {gC : Heap} {oI : Obj} {RR : Value → Addr → Result → Shared → Prop}
    (S : Src prog w A gC I n P It) (hsz : n ≤ sizeLine) (hI : It 0 oI) (hoI : s.heap.get? I = some oI) (hgI : gC.get? I = none) (hgs : gC.StaysIn s.heap) (hgx : Ext [I] s.heap gC) (hgz : gC.objs.size ≤ s.heap.objs.size)
    (J : Nat → Array Value → List (Addr × Obj) → Nat → Prop) (hJ0 : ∀ tk, s.toks ≤ tk → J 0 #[] [] tk) (hJs : ∀ i ys tl tk tk', J i ys tl tk → tk ≤ tk' → J i ys tl tk') (hJz : ∀ i ys tl tk, J i ys tl tk → ys.size ≤ i)
    (hcell : ∀ y ∈ scope.names, y.2 ≠ .cell) (hkind : scope.kind = .function) (ht : OwnT prog w A target I It)
    (turn : ∀ (i : Nat) (v : Value) (C D : Addr) (h₁ : Heap) (tk₁ : Nat) (ys : Array Value) (nD : Nat) (tl : List (Addr × Obj)) (oI : Obj) (m₁ : Str → Option Value), i < n → P i v → s.heap.get? C = none → Fr gC C h₁ m₁ → News gC C h₁ ((D, listOf ys nD) :: (I, oI) :: tl) → J i ys tl tk₁ → s.toks ≤ tk₁ →
      wpAny (model prog w) A (assign target (compEnvC scope cl C env) v) (fun _ s₂ =>
        wpAny (model prog w) A (forIn ifs true fun c r => if r = true then do let ok ← isTrue c (compEnvC scope cl C env) (eval c (compEnvC scope cl C env)); pure (ForInStep.yield ok) else pure (ForInStep.yield r)) (fun ok s₃ =>
          if ok = true then wpAny (model prog w) A (eval elt (compEnvC scope cl C env)) (EltEnd gC C D I ys nD oI tl s (J (i + 1))) (fun _ _ => False) s₃
          else SkipEnd gC C D I ys nD oI tl s (J (i + 1)) s₃) (fun _ _ => False) s₂) (fun _ _ => False) { s with heap := h₁, toks := tk₁ })
    (hRR : ∀ (D C : Addr) (h' : Heap) (tk : Nat) (m' : Str → Option Value) (ys : Array Value) (nD : Nat) (tl : List (Addr × Obj)), s.heap.get? D = none → s.heap.get? C = none → D ≠ C → Fr gC C h' m' → News gC C h' ((D, listOf ys nD) :: tl) → (∀ p ∈ tl, p.2.cls = .type "tuple") → J n ys tl tk → s.toks ≤ tk → Ext [I] s.heap h' → RR (.ref D) C (.ok .next) { s with heap := h', toks := tk }) :
    wpAny (model prog w) A (newList []) (fun acc s₃ => wpAny (model prog w) A (newFunctionEnv scope env.globals cl [] env.qual none .none (some env)) (fun cenv s₄ =>
      codeAny (model prog w) A (.compStart (.ListComp elt [⟨target, iter, ifs, 0⟩] scope pos) 0 (.ref I) acc { cenv with scope := relabel scope env }) (RR acc cenv.locals) s₄) (fun _ _ => False) s₃) (fun _ _ => False) s := by
  refine wpAny_newObj_type (wpAny_newFunctionEnv hcell (by intro y hy; simp at hy) (fun h₁ hns₁ hsb₁ => ?_) hkind)
  dsimp only at hns₁ hsb₁ ⊢
  generalize hH2 : s.heap.push { cls := .type "list", dict := none, data := .seq ([] : List Value).toArray } = H2 at hns₁ hsb₁ ⊢
  have hC : H2.objs.size = s.heap.objs.size + 1 := by rw [← hH2, Heap.size_push]
  have hDC : s.heap.objs.size ≠ H2.objs.size := by rw [hC]; exact Nat.ne_of_lt (Nat.lt_succ_self _)
  have fresh : ∀ a, s.heap.objs.size ≤ a → s.heap.get? a = none := fun a ha => by
    cases e : s.heap.get? a with
    | none => rfl
    | some o' => exact absurd (Heap.lt_size e) (Nat.not_lt.mpr ha)
  have hfD : s.heap.get? s.heap.objs.size = none := fresh _ (Nat.le_refl _)
  have hfC : s.heap.get? H2.objs.size = none := fresh _ (by rw [hC]; exact Nat.le_succ _)
  have gn : ∀ a, s.heap.get? a = none → gC.get? a = none := fun a ha => by
    cases e : gC.get? a with
    | none => rfl
    | some o' => rw [hgs _ _ e] at ha; cases ha
  have old : s.heap.StaysIn h₁ := fun b o e => hsb₁.extBut b o (by rintro rfl; rw [hfC] at e; cases e) (Heap.get?_push_of_some _ (hH2 ▸ Heap.get?_push_of_some _ e))
  have hacc : h₁.get? s.heap.objs.size = some (listOf #[] 0) := hsb₁.extBut _ _ hDC (Heap.get?_push_of_some _ (hH2 ▸ Heap.get?_push_size _ rfl))
  have hDI : s.heap.objs.size ≠ I := fun e => by have := Heap.lt_size hoI; rw [← e] at this; exact Nat.lt_irrefl _ this
  have hIC : I ≠ H2.objs.size := fun e => by rw [← e, hoI] at hfC; cases hfC
  have F₁ : Fr gC H2.objs.size h₁ (fun _ => none) := ⟨hns₁, fun b o e => old b o (hgs b o e), by rw [hC]; exact Nat.le_succ_of_le hgz⟩
  have N₁ : News gC H2.objs.size h₁ ((s.heap.objs.size, listOf #[] 0) :: (I, oI) :: []) := by
    intro p hp
    rcases List.mem_cons.mp hp with rfl | hp
    · exact ⟨hacc, hDC, gn _ hfD⟩
    · rcases List.mem_cons.mp hp with rfl | hp
      · exact ⟨old _ _ hoI, hIC, hgI⟩
      · cases hp
  have loop : ∀ s₃ : Shared, s₃ = { s with heap := h₁, toks := s.toks + ([] : List (Str × Value)).length } →
      codeAny (model prog w) A (.compLoop (.ListComp elt [⟨target, iter, ifs, 0⟩] scope pos) 0 (.ref I) (.ref s.heap.objs.size) (compEnvC scope cl H2.objs.size env)) (RR (.ref s.heap.objs.size) H2.objs.size) s₃ := by
    rintro s₃ rfl
    refine loop_any (fun q s' => ∃ (h' : Heap) (tk : Nat) (m' : Str → Option Value) (ys : Array Value) (nD : Nat) (tl : List (Addr × Obj)) (oI : Obj) (i : Nat), s' = { s with heap := h', toks := tk } ∧ Fr gC H2.objs.size h' m' ∧ News gC H2.objs.size h' ((s.heap.objs.size, listOf ys nD) :: (I, oI) :: tl) ∧
        (∀ p ∈ tl, p.2.cls = .type "tuple") ∧ It i oI ∧ J i ys tl tk ∧ s.toks ≤ tk ∧ i ≤ n ∧ q = n + 1 - i) ?_ (n + 1)
      ⟨h₁, _, _, #[], 0, [], oI, 0, rfl, F₁, N₁, (fun p hp => nomatch hp), hI, hJ0 _ (Nat.le_add_right _ _), Nat.le_add_right _ _, Nat.zero_le _, rfl⟩
    intro q s' hX
    refine ex8 hX ?_
    clear hX
    intro h' tk m' ys nD tl oI' i hX
    refine and9 hX ?_
    clear hX
    intro e0X F' N' hap hIt hJ htk hi e1X
    subst e0X
    subst e1X
    have gst : gC.StaysIn h' := fun b o e => F'.keep b o e
    have hIh := N'.get (.tail _ (.head _))
    have apt : ∀ p ∈ tl, p.1 ≠ I ∧ p.1 ≠ s.heap.objs.size := fun p hp => by
      have hc := hap p hp
      have hg := N'.get (.tail _ (.tail _ hp))
      refine ⟨fun e => ?_, fun e => ?_⟩
      · rw [e, hIh] at hg; cases hg; exact S.cls _ _ hIt hc
      · rw [e, N'.get (.head _)] at hg; rw [← Option.some.inj hg] at hc; exact absurd hc (by show ¬ (Value.type "list" = Value.type "tuple"); decide)
    by_cases hlt : i < n
    · refine S.nxt i oI' _ _ _ hlt hIt hIh gst fun v tk2 h2 o2 hP hIt2 ho2 hs2 htk2 => ?_
      have F2 : Fr gC H2.objs.size h2 m' := F'.change hs2 hIC hgI
      have N2 : News gC H2.objs.size h2 ((s.heap.objs.size, listOf ys nD) :: (I, o2) :: tl) := by
        intro p hp
        rcases List.mem_cons.mp hp with rfl | hp
        · exact ⟨(hs2.2 _ hDI).trans (N'.get (.head _)), (N' _ (.head _)).2⟩
        · rcases List.mem_cons.mp hp with rfl | hp
          · exact ⟨ho2, (N' _ (.tail _ (.head _))).2⟩
          · exact ⟨(hs2.2 _ (apt p hp).1).trans (N'.get (.tail _ (.tail _ hp))), (N' _ (.tail _ (.tail _ hp))).2⟩
      have htk2' : tk ≤ tk2 := htk2
      refine ht _ v o2 _ _ _ hIt2 ho2 ?_
      refine toksle (wpAny_mono (turn i v H2.objs.size s.heap.objs.size h2 tk2 ys nD tl o2 m' hlt hP hfC F2 N2 (hJs _ _ _ _ _ hJ htk2') (Nat.le_trans htk htk2')) (fun _ s₂ h₂ q₂ => ?_) fun _ _ f => f.elim)
      refine toksle (wpAny_mono h₂ (fun ok s₃ h₃ q₃ => ?_) fun _ _ f => f.elim)
      have q₂' : tk2 ≤ s₂.toks := q₂
      cases ok with
      | false =>
        simp only [Bool.false_eq_true, if_false] at h₃ ⊢
        refine ex3 (h₃) ?_
        intro h4 tk4 m4 hX
        refine and4 hX ?_
        clear hX
        intro e0X F4 N4 J4
        subst e0X
        have q₃' : s₂.toks ≤ tk4 := q₃
        exact ⟨n + 1 - (i + 1), by (with_reducible exact o111 ‹_›), h4, tk4, m4, ys, nD, tl, o2, i + 1, rfl, F4, N4, hap, hIt2, J4, by (with_reducible exact o97 ‹_› ‹_› ‹_› ‹_›), hlt, rfl⟩
      | true =>
        simp only [if_true] at h₃ ⊢
        refine toksle (wpAny_mono h₃ (fun y s₄ h₄ q₄ => ?_) fun _ _ f => f.elim)
        refine ex4 (h₄) ?_
        intro h4 tk4 m4 tnew hX
        refine and5 hX ?_
        clear hX
        intro e0X F4 N4 ht4 J4
        subst e0X
        have q₄' : s₃.toks ≤ tk4 := q₄
        have gD := N4.get (List.mem_append_right _ (.head _))
        have gI := N4.get (List.mem_append_right _ (.tail _ (.head _)))
        have hzz := hJz _ _ _ _ hJ
        refine push_list gD (by (with_reducible exact o462 ‹_› ‹_› ‹_›)) fun h5 g5 s5 => ?_
        have apt2 : ∀ p ∈ tnew ++ tl, p.1 ≠ I ∧ p.1 ≠ s.heap.objs.size := fun p hp => by
          have hc : p.2.cls = .type "tuple" := by
            rcases List.mem_append.mp hp with hp | hp
            · exact ht4 p hp
            · exact hap p hp
          have hg : h4.get? p.1 = some p.2 := by
            rcases List.mem_append.mp hp with hp | hp
            · exact (N4 p (List.mem_append_left _ hp)).1
            · exact (N4 p (List.mem_append_right _ (.tail _ (.tail _ hp)))).1
          refine ⟨fun e => ?_, fun e => ?_⟩
          · rw [e, gI] at hg; cases hg; exact S.cls _ _ hIt2 hc
          · rw [e, gD] at hg; rw [← Option.some.inj hg] at hc; exact absurd hc (by show ¬ (Value.type "list" = Value.type "tuple"); decide)
        have F5 : Fr gC H2.objs.size h5 m4 := F4.change s5 hDC (gn _ hfD)
        have N5 : News gC H2.objs.size h5 ((s.heap.objs.size, listOf (ys.push y) (nD + 1)) :: (I, o2) :: (tnew ++ tl)) := by
          intro p hp
          rcases List.mem_cons.mp hp with rfl | hp
          · exact ⟨g5, hDC, gn _ hfD⟩
          · rcases List.mem_cons.mp hp with rfl | hp
            · exact ⟨(s5.2 _ hDI.symm).trans gI, hIC, hgI⟩
            · refine ⟨(s5.2 _ (apt2 p hp).2).trans ?_, ?_⟩
              · rcases List.mem_append.mp hp with hp | hp
                · exact (N4 p (List.mem_append_left _ hp)).1
                · exact (N4 p (List.mem_append_right _ (.tail _ (.tail _ hp)))).1
              · rcases List.mem_append.mp hp with hp | hp
                · exact (N4 p (List.mem_append_left _ hp)).2
                · exact (N4 p (List.mem_append_right _ (.tail _ (.tail _ hp)))).2
        refine ⟨n + 1 - (i + 1), by (with_reducible exact o111 ‹_›), h5, tk4, m4, ys.push y, nD + 1, tnew ++ tl, o2, i + 1, rfl, F5, N5, ?_, hIt2, J4 _ (Nat.le_refl _), by (with_reducible exact o225 ‹_› ‹_› ‹_› ‹_› ‹_›), hlt, rfl⟩
        intro p hp
        rcases List.mem_append.mp hp with hp | hp
        · exact ht4 p hp
        · exact hap p hp
    · have hin : i = n := by (with_reducible exact o149 ‹_› ‹_›)
      subst hin
      refine S.fin oI' _ _ _ hIt hIh gst fun h2 he2 => ?_
      have x2 : Ext [I] h' h2 := fun b o e nn => he2 b o (by simpa using nn) e
      refine hRR _ _ h2 tk m' ys nD tl hfD hfC hDC (Fr.ext F' x2 (by simp; exact hIC.symm) (by simp; exact hgI)) (fun p hp => ?_) hap hJ htk ((ext_back hgx F').trans x2)
      rcases List.mem_cons.mp hp with rfl | hp
      · exact ⟨x2 _ _ (N'.get (.head _)) (by simp; exact hDI), (N' _ (.head _)).2⟩
      · exact ⟨x2 _ _ (N'.get (.tail _ (.tail _ hp))) (by simp; exact (apt p hp).1), (N' _ (.tail _ (.tail _ hp))).2⟩
  exact codeAny_compStart_list (loop _ rfl) (S.self _ _ _ _ hI (old _ _ hoI) (loop _ rfl))
end
/-- a comprehension behind its source -/
noncomputable def CompTail (prog : Program) (w : World) (A : Around) (E : Value → Shared → Prop) (elt target iter : PySem.Expr) (ifs : List PySem.Expr) (scope : Scope) (cl : List (Str × Addr)) (pos : Pos) (env : Env) (use : Option (Value → Sem Unit)) (Q : Value → Shared → Prop) (it : Value) (s₂ : Shared) : Prop :=
  wpAny (model prog w) A (newList []) (fun acc s₃ => wpAny (model prog w) A (newFunctionEnv scope env.globals cl [] env.qual none .none (some env)) (fun cenv s₄ =>
      codeAny (model prog w) A (.compStart (.ListComp elt [⟨target, iter, ifs, 0⟩] scope pos) 0 it acc { cenv with scope := relabel scope env }) (compPost (model prog w) A E use Q acc cenv.locals) s₄) E s₃) E s₂
section
variable {prog : Program} {w : World} {A : Around} {s : Shared} {env : Env} {E : Value → Shared → Prop} {elt target iter : PySem.Expr} {ifs : List PySem.Expr} {scope : Scope} {cl : List (Str × Addr)} {pos : Pos}
theorem comp_eval0 {Q : Value → Shared → Prop} (hclos : closureFor scope env = pure cl) (hkind : scope.kind = .function) (hnames : ∀ y ∈ scope.names, y.2 = .local → scope.names.lookup y.1 = some .local)
    (h : wpAny (model prog w) A (eval iter env) (fun x s₁ => wpAny (model prog w) A (pyIter x) (fun it s₂ => CompTail prog w A E elt target iter ifs scope cl pos env none Q it s₂) E s₁) E s) (hs : ∀ x, foldedSetIterable iter env x = pure x := by intro _; rfl) :
    wpAny (model prog w) A (eval (.ListComp elt [⟨target, iter, ifs, 0⟩] scope pos) env) Q E s := by
  rw [eval_ListComp]
  exact wpAny_comprehension_free (use := none) rfl hs hclos hkind hnames h
theorem comp_assign0 {y : Str} {py spos : Pos} {Q : Flow → Shared → Prop} (hsw : swapsWith (.ListComp elt [⟨target, iter, ifs, 0⟩] scope pos) (some (.Name y py)) spos.line env = pure true)
    (hclos : closureFor scope env = pure cl) (hkind : scope.kind = .function) (hnames : ∀ y ∈ scope.names, y.2 = .local → scope.names.lookup y.1 = some .local)
    (h : wpAny (model prog w) A (eval iter env) (fun x s₁ => wpAny (model prog w) A (pyIter x) (fun it s₂ => CompTail prog w A E elt target iter ifs scope cl pos env (some (assign (.Name y py) env)) (fun _ s' => Q .next s') it s₂) E s₁) E s) (hs : ∀ x, foldedSetIterable iter env x = pure x := by intro _; rfl) :
    wpAny (model prog w) A (exec (.Assign [.Name y py] (.ListComp elt [⟨target, iter, ifs, 0⟩] scope pos) spos) env) Q E s := by
  rw [exec_Assign_Name_used _ _ _ _ hsw]
  refine wpAny_bind (wpAny_standAt (wpAny_bind ?_))
  show wpAny _ A (do let _ ← comprehension (.ListComp elt [⟨target, iter, ifs, 0⟩] scope pos) scope env _ (newList []) false (eval iter env) (some (assign (.Name y py) env))) _ _ s
  exact wpAny_bind (wpAny_mono (wpAny_comprehension_free (use := some (assign (.Name y py) env)) (Q := fun _ s' => Q .next s') rfl hs hclos hkind hnames h) (fun _ s' hq => wpAny_pure (wpAny_pure hq)) fun _ _ e => e)

/-- the turn of a comprehension that a user shows -/
noncomputable def TurnC (prog : Program) (w : World) (A : Around) (s : Shared) (gC : Heap) (I : Addr) (n : Nat) (P : Nat → Value → Prop) (elt target : PySem.Expr) (ifs : List PySem.Expr) (scope : Scope) (cl : List (Str × Addr)) (env : Env) (J : Nat → Array Value → List (Addr × Obj) → Nat → Prop) : Prop :=
  ∀ (i : Nat) (v : Value) (C D : Addr) (h₁ : Heap) (tk₁ : Nat) (ys : Array Value) (nD : Nat) (tl : List (Addr × Obj)) (oI : Obj) (m₁ : Str → Option Value), i < n → P i v → s.heap.get? C = none → Fr gC C h₁ m₁ → News gC C h₁ ((D, listOf ys nD) :: (I, oI) :: tl) → J i ys tl tk₁ → s.toks ≤ tk₁ →
      wpAny (model prog w) A (assign target (compEnvC scope cl C env) v) (fun _ s₂ =>
        wpAny (model prog w) A (forIn ifs true fun c r => if r = true then do let ok ← isTrue c (compEnvC scope cl C env) (eval c (compEnvC scope cl C env)); pure (ForInStep.yield ok) else pure (ForInStep.yield r)) (fun ok s₃ =>
          if ok = true then wpAny (model prog w) A (eval elt (compEnvC scope cl C env)) (EltEnd gC C D I ys nD oI tl s (J (i + 1))) (fun _ _ => False) s₃
          else SkipEnd gC C D I ys nD oI tl s (J (i + 1)) s₃) (fun _ _ => False) s₂) (fun _ _ => False) { s with heap := h₁, toks := tk₁ }

theorem comp_go {use : Option (Value → Sem Unit)} {Q : Value → Shared → Prop} {P : Nat → Value → Prop} {It : Nat → Obj → Prop} {n : Nat} {oI : Obj} (hfo : oI.isFreed = false)
    (S : Src prog w A s.heap s.heap.objs.size n P It) (hsz : n ≤ sizeLine) (hI : It 0 oI)
    (J : Nat → Array Value → List (Addr × Obj) → Nat → Prop) (hJ0 : ∀ tk, s.toks ≤ tk → J 0 #[] [] tk) (hJs : ∀ i ys tl tk tk', J i ys tl tk → tk ≤ tk' → J i ys tl tk') (hJz : ∀ i ys tl tk, J i ys tl tk → ys.size ≤ i)
    (hcell : ∀ y ∈ scope.names, y.2 ≠ .cell) (hkind : scope.kind = .function) (ht : OwnT prog w A target s.heap.objs.size It)
    (turn : TurnC prog w A { s with heap := s.heap.push oI } s.heap s.heap.objs.size n P elt target ifs scope cl env J)
    (fin : ∀ (D C : Addr) (h' : Heap) (tk : Nat) (m' : Str → Option Value) (ys : Array Value) (nD : Nat) (tl : List (Addr × Obj)), s.heap.get? D = none → s.heap.get? C = none → Fr s.heap C h' m' → News s.heap C h' ((D, listOf ys nD) :: tl) → (∀ p ∈ tl, p.2.cls = .type "tuple") → J n ys tl tk → s.toks ≤ tk →
      compPost (model prog w) A E use Q (.ref D) C (.ok .next) { s with heap := h', toks := tk }) :
    CompTail prog w A E elt target iter ifs scope cl pos env use Q (.ref s.heap.objs.size) { s with heap := s.heap.push oI } := by
  unfold CompTail
  have fresh : s.heap.get? s.heap.objs.size = none := by
    cases e : s.heap.get? s.heap.objs.size with
    | none => rfl
    | some o' => exact absurd (Heap.lt_size e) (Nat.lt_irrefl _)
  have st : s.heap.StaysIn (s.heap.push oI) := fun b o e => Heap.get?_push_of_some _ e
  have xt : Ext [s.heap.objs.size] (s.heap.push oI) s.heap := fun b o e nn => by
    have hb : b ≠ s.heap.objs.size := by simpa using nn
    have hlt : b < s.heap.objs.size := by
      have := Heap.lt_size e
      rw [Heap.size_push] at this
      exact Nat.lt_of_le_of_ne (Nat.le_of_lt_succ this) hb
    rw [← e]
    unfold Heap.get? Heap.push
    simp only [Array.getElem?_push, if_neg hb]
  refine wpAny_mono (wpAny_mono (comp_tail (s := { s with heap := s.heap.push oI }) (gC := s.heap) (RR := fun acc C => compPost (model prog w) A E use Q acc C) (J := J) S hsz hI (Heap.get?_push_size _ hfo) fresh st xt
    (by rw [show ({ s with heap := s.heap.push oI } : Shared).heap.objs.size = s.heap.objs.size + 1 from Heap.size_push ..]; exact Nat.le_succ _) hJ0 hJs hJz hcell hkind ht turn ?_) (fun _ _ q => wpAny_mono q (fun _ _ q => q) fun _ _ f => f.elim) fun _ _ f => f.elim) (fun _ _ q => q) fun _ _ f => f
  intro D C h' tk m' ys nD tl hD hC hDC F N hap hJ htk x
  have fn : ∀ a, (s.heap.push oI).get? a = none → s.heap.get? a = none := fun a q => by
    cases e : s.heap.get? a with
    | none => rfl
    | some o => rw [st _ _ e] at q; cases q
  exact fin D C h' tk m' ys nD tl (fn _ hD) (fn _ hC) F N hap hJ htk

/-- the end of a comprehension whose list is a value -/
theorem compPost_none {Q : Value → Shared → Prop} {D C : Addr} {nD : Nat} {m' : Str → Option Value} {ys : Array Value} {tl : List (Addr × Obj)} {g : Heap} {u : Shared} (F : Fr g C u.heap m') (N : News g C u.heap ((D, listOf ys nD) :: tl))
    (h : ∀ h'', g.StaysIn h'' → h''.get? D = some (listOf ys nD) → g.get? D = none → (∀ p ∈ tl, h''.get? p.1 = some p.2 ∧ g.get? p.1 = none) → Q (.ref D) { u with heap := h'' }) (hC : g.get? C = none) :
    compPost (model prog w) A E none Q (.ref D) C (.ok .next) u :=
  ⟨m', F.ns, fun h'' hs => h h'' (fun b o e => (hs.2 b (by rintro rfl; rw [hC] at e; cases e)).trans (F.keep b o e)) ((hs.2 _ (N _ (.head _)).2.1).trans (N.get (.head _))) (N.fresh (.head _)) fun p hp =>
    ⟨(hs.2 _ (N _ (.tail _ hp)).2.1).trans (N.get (.tail _ hp)), N.fresh (.tail _ hp)⟩⟩
/-- the end of a comprehension that is stored -/
theorem compPost_store {Q : Value → Shared → Prop} {y : Str} {py : Pos} {D C : Addr} {h₀ : Heap} {nD : Nat} {m m' : Str → Option Value} {ys : Array Value} {tl news : List (Addr × Obj)} {g : Heap} {u : Shared} (F : Fr g C u.heap m') (N : News g C u.heap ((D, listOf ys nD) :: tl)) (hC : g.get? C = none)
    {L : Addr} (F₀ : Fr h₀ L g m) (N₀ : News h₀ L g news) (hy : env.kindOf y = some .local) (hp : (env.scope.kind == .class || (env.scope.kind == .module && env.locals != env.globals)) = false)
    (h : ∀ h'', Fr h₀ L h'' (fun z => if z = y then some (.ref D) else m z) → News h₀ L h'' ((D, listOf ys nD) :: (tl ++ news)) → (∀ p ∈ news, p.1 ≠ D) → Q .none { u with heap := h'', toks := u.toks + 1 })  (hL : env.locals = L := by rfl) :
    compPost (model prog w) A E (some (assign (.Name y py) env)) Q (.ref D) C (.ok .next) u := by
  subst hL
  obtain ⟨oL, q1, q2, hoL, q3⟩ := id F₀.ns
  have hLC : env.locals ≠ C := by rintro e; rw [e, hC] at hoL; cases hoL
  have hfD := N.fresh (.head _)
  have hLD : env.locals ≠ D := by rintro e; rw [e, hfD] at hoL; cases hoL
  show wpAny _ A (assign (.Name y py) env (.ref D)) _ _ _
  have hnL : u.heap.Ns env.locals m := ⟨oL, q1, q2, F.keep _ _ hoL, q3⟩
  refine wpAny_assign_Name (wpAny_storeName_local hy hnL (fun h₂ hn₂ hs₂ => ?_) hp)
  refine ⟨m', F.ns.sameBut hs₂ hLC.symm, fun h₃ hs₃ => ?_⟩
  have hk : ∀ b o, b ≠ env.locals → b ≠ C → u.heap.get? b = some o → h₃.get? b = some o := fun b o n1 n2 e => (hs₃.2 b n2).trans ((hs₂.2 b n1).trans e)
  have h0n : ∀ a, g.get? a = none → h₀.get? a = none := fun a q => by
    cases e : h₀.get? a with
    | none => rfl
    | some o => rw [F₀.keep _ _ e] at q; cases q
  have h0L : h₀.get? env.locals = none := by
    cases e : h₀.get? env.locals with
    | none => rfl
    | some o => exact absurd (Heap.lt_size e) (Nat.not_lt.mpr F₀.above)
  have nD' : ∀ p ∈ news, p.1 ≠ D := fun p hp e => by have := (N₀ p hp).1; rw [e, hfD] at this; cases this
  refine h h₃ ⟨hn₂.sameBut hs₃ hLC, fun b o e => ?_, F₀.above⟩ (fun p hp => ?_) nD'
  · have hg := F₀.keep _ _ e
    exact hk b o (by rintro rfl; rw [h0L] at e; cases e) (by rintro rfl; rw [hC] at hg; cases hg) (F.keep _ _ hg)
  · rcases List.mem_cons.mp hp with rfl | hp
    · exact ⟨hk _ _ hLD.symm (N _ (.head _)).2.1 (N.get (.head _)), hLD.symm, h0n _ hfD⟩
    · rcases List.mem_append.mp hp with hp | hp
      · have hf := N.fresh (.tail _ hp)
        have hne : p.1 ≠ env.locals := by intro e; rw [e, hoL] at hf; cases hf
        exact ⟨hk _ _ hne (N _ (.tail _ hp)).2.1 (N.get (.tail _ hp)), hne, h0n _ hf⟩
      · have hg := (N₀ p hp).1
        exact ⟨hk _ _ (N₀ p hp).2.1 (by rintro e; rw [e, hC] at hg; cases hg) (F.keep _ _ hg), (N₀ p hp).2⟩
end
theorem TurnC.plain {prog : Program} {w : World} {A : Around} {s : Shared} {gC : Heap} {I : Addr} {n : Nat} {P : Nat → Value → Prop} {elt target : PySem.Expr} {scope : Scope} {cl : List (Str × Addr)} {env : Env} {J : Nat → Array Value → List (Addr × Obj) → Nat → Prop}
    (h : ∀ (i : Nat) (v : Value) (C D : Addr) (h₁ : Heap) (tk₁ : Nat) (ys : Array Value) (nD : Nat) (tl : List (Addr × Obj)) (oI : Obj) (m₁ : Str → Option Value), i < n → P i v → s.heap.get? C = none → Fr gC C h₁ m₁ → News gC C h₁ ((D, listOf ys nD) :: (I, oI) :: tl) → J i ys tl tk₁ → s.toks ≤ tk₁ →
      wpAny (model prog w) A (assign target (compEnvC scope cl C env) v) (fun _ s₂ => wpAny (model prog w) A (eval elt (compEnvC scope cl C env)) (EltEnd gC C D I ys nD oI tl s (J (i + 1))) (fun _ _ => False) s₂) (fun _ _ => False) { s with heap := h₁, toks := tk₁ }) :
    TurnC prog w A s gC I n P elt target [] scope cl env J := by
  intro i v C D h₁ tk₁ ys nD tl oI m₁ a1 a2 a3 a4 a5 a6 a7
  refine wpAny_mono (h i v C D h₁ tk₁ ys nD tl oI m₁ a1 a2 a3 a4 a5 a6 a7) (fun _ s₂ q => ?_) fun _ _ f => f
  rw [List.forIn_nil]
  exact wpAny_pure (by rw [if_pos rfl]; exact q)
theorem ints_at {vs : List Value} {ns : List Int} (h : IntsAre vs ns) : ∀ {i : Nat} {v : Value}, vs[i]? = some v → ∃ n t, ns[i]? = some n ∧ v = .int n t := by
  induction h with
  | nil => intro i v e; cases e
  | cons k t r ih =>
    intro i v e
    cases i with
    | zero => cases e; exact ⟨_, _, rfl, rfl⟩
    | succ i => exact ih e
theorem ints_take {vs : List Value} {ns : List Int} (h : IntsAre vs ns) : ∀ k, IntsAre (vs.take k) (ns.take k) := by
  induction h with
  | nil => intro k; simp; exact .nil
  | cons i t r ih =>
    intro k
    cases k with
    | zero => exact .nil
    | succ k => exact .cons i t (ih k)
section
theorem lay_Lb_0 : True := by
  w_top off
  k_with_none
  k_with "eval Name" => (k_here; k_dflt (refine' nameE_C ?q9k1 ?_ ?q9k2 ?q9b ?q9c ?q9d; (case q9b => rfl); (case q9c => rfl); (case q9d => decide); (case q9k2 => rfl); (case q9k1 => first | with_reducible assumption | exact CellAt.keep (by with_reducible assumption) (by with_reducible assumption)); k_whole))
  k_with "eval Name" => (k_here; k_dflt (refine' nameE_B ?q9F ?q9X ?q9T ?q9e ?q9v ?q9n ?_ ?q9a ?q9a2 ?q9b ?q9c ?q9d; (case q9b => rfl); (case q9c => rfl); (case q9F => with_reducible assumption); (case q9X => with_reducible assumption); (case q9T => k_asm); (case q9a => rfl); (case q9a2 => rfl); (case q9d => decide); (case q9e => k_is); (case q9v => boot_fast); (case q9n => decide); k_whole))
  k_with "eval Name" => (k_here; k_dflt (refine' nameE_K ?q9F ?q9X ?q9T ?q9e ?_ ?q9a ?q9b ?q9c ?q9d; (case q9b => rfl); (case q9c => rfl); (case q9F => with_reducible assumption); (case q9X => with_reducible assumption); (case q9T => k_asm); (case q9a => rfl); (case q9d => decide); (case q9e => k_is); k_whole))
  k_with "eval Name" => (k_here; k_dflt (refine' nameE_L ?q9k1 ?q9k2 ?_ ?q9a ?q9b ?q9c ?q9d; (case q9c => rfl); (case q9k1 => with_reducible assumption); (case q9k2 => first | exact rfl | assumption); (case q9a => rfl); (case q9b => rfl); (case q9d => decide); k_whole))
  k_with "call builtin:len" => (k_here; (with_reducible show wpAny _ _ (call (Value.builtin "len") [Value.ref _]) _ _ _); k_dflt (refine' len_list ?q9k1 ?q9k2 ?_; (case q9k1 => first | with_reducible assumption | exact Fr.lst (by with_reducible assumption) (by with_reducible assumption) | exact News.isList (by with_reducible assumption) (by k_mem)); (case q9k2 => first | with_reducible assumption | omega); k_whole))
  k_with "subscriptTail" => (k_here; (with_reducible show wpAny _ _ (subscriptTail _ _ (Value.ref _) (Value.int _ _)) _ _ _); k_dflt (refine' item_at ?q9k1 ?q9k2 ?q9k3 ?q9k4 ?_; (case q9k1 => first | with_reducible assumption | exact Fr.lst (by with_reducible assumption) (by with_reducible assumption) | exact News.isList (by with_reducible assumption) (by k_mem)); (case q9k2 => omega); (case q9k3 => omega); (case q9k4 => first | with_reducible assumption | omega); k_whole); intro _ _)
  k_with "compareOp Lt" => (k_here; k_dflt (refine' CmpAt.use ?q9k1 ?q9k2 ?_; (case q9k1 => with_reducible assumption); (case q9k2 => assumption); k_whole))
  k_with "exec While Compare cons nil" => (k_here; refine Stop.to ?_)
  k_with "storeName" => (k_here; k_dflt (refine' stE ?q9F ?q9N ?_ ?q9a ?q9b ?q9c; (case q9b => rfl); (case q9F => with_reducible assumption); (case q9N => with_reducible assumption); (case q9a => rfl); (case q9c => rfl); k_whole); intro h' tk' F' N' q'; (try dsimp only at F' q'); (try dsimp only); revert h' tk' F' N' q'; intro _ _ _ _ _; (try k_sweep))
  k_with "binaryOp FloorDiv int int" => (k_here; refine' div_lit ?q9a ?q9b ?_; (case q9a => decide); (case q9b => decide); k_whole)
  k_with "binaryOp Mod int int" => (k_here; refine' mod_lit ?q9a ?q9b ?_; (case q9a => decide); (case q9b => decide); k_whole)
  k_with "call builtin:max" => (k_here; refine' max3 ?q9a ?q9b ?_ ?q9c; (case q9a => with_reducible assumption); (case q9b => with_reducible assumption); (case q9c => rfl); k_whole; intro h' tk' tk2' F' N' e' q'; (try dsimp only at q'); (try dsimp only); revert h' tk' tk2' F' N' e' q'; intro _ _ _ _ _ _ _; (try k_sweep))
  k_with "call builtin:min" => (k_here; refine' min3 ?q9a ?q9b ?_ ?q9c; (case q9a => with_reducible assumption); (case q9b => with_reducible assumption); (case q9c => rfl); k_whole; intro h' tk' tk2' F' N' e' q'; (try dsimp only at q'); (try dsimp only); revert h' tk' tk2' F' N' e' q'; intro _ _ _ _ _ _ _; (try k_sweep))
  k_with "execs cons" => (k_here; (with_reducible refine execs_seq ?_))
  k_with "execs nil" => (k_here; (with_reducible refine wpAny_execs_nil ?_); (try dsimp only))
  k_with "call ref" => (k_here; refine Stop.to ?_)
  k_with "exec For Name Call cons nil" => (k_here; refine Stop.to ?_)
  k_with "exec Assign cons ListComp cons" => (k_here; refine Stop.to ?_)
  k_with "exec Assign cons ListComp" => (k_here; refine Stop.to ?_)
  k_with "eval ListComp" => (k_here; refine Stop.to ?_)
  k_with "subscriptTail List Slice ref ref" => (k_here; k_dflt (refine kba_turn (value' := PySem.Expr.Name (PySem.Str.ofString "_") ⟨0, 0, 0, 0⟩) (fun _ => rfl) ?_))
  k_with "subscriptTail Name Slice ref ref" => (k_here; k_dflt (refine' kmk_slice ?q9F ?q9N ?q9l ?q9p ?q9q ?_ ?q9s ?q9t ?q9z; (case q9F => with_reducible assumption); (case q9N => with_reducible assumption); (case q9l => first | with_reducible assumption | exact News.isList (by with_reducible assumption) (by k_mem) | exact Fr.lst (by with_reducible assumption) (by with_reducible assumption)); (case q9p => first | exact IsPart.none | exact IsPart.int _ _); (case q9q => first | exact IsPart.none | exact IsPart.int _ _); (case q9s => with_unfolding_all rfl); (case q9t => (intro _; with_unfolding_all rfl)); (case q9z => first | with_reducible assumption | (rw [sizeLine_eq]; simp only [List.size_toArray, List.length_cons, List.length_nil]; omega) | (rw [sizeLine_eq]; omega))); intro D' h' F' N' l1; (try dsimp only); revert D' h' F' N' l1; intro _ _ _ _ _; (try k_sweep))
  k_with "binaryOp Add ref ref" => (k_here; k_dflt (refine' add_arrays ?q9F ?q9N ?q9l ?q9b ?_ ?q9z; (case q9F => with_reducible assumption); (case q9N => with_reducible assumption); (case q9l => first | with_reducible assumption | exact News.isList (by with_reducible assumption) (by k_mem) | exact Fr.lst (by with_reducible assumption) (by with_reducible assumption)); (case q9b => first | with_reducible assumption | exact News.isList (by with_reducible assumption) (by k_mem) | exact Fr.lst (by with_reducible assumption) (by with_reducible assumption)); (case q9z => first | with_reducible assumption | (rw [sizeLine_eq]; omega))); intro h' F' N'; (try dsimp only); revert h' F' N'; intro _ _ _; (try k_sweep))
  k_with "mem" => (first | exact List.Mem.head _ | with_reducible assumption | exact List.not_mem_nil | exact nm1 (by assumption) | exact nm1 (Ne.symm (by assumption)) | exact nm2 (by assumption) (by assumption) | (refine' List.mem_append_left _ ?_; k_extra "mem") | (refine' List.mem_append_right _ ?_; k_extra "mem") | (refine' List.Mem.tail _ ?_; k_extra "mem"))
  trivial
theorem ints_of : ∀ {vs : List Value} {ns : List Int}, vs.length = ns.length → (∀ k, k < vs.length → ∃ n t, ns[k]? = some n ∧ vs[k]? = some (.int n t)) → IntsAre vs ns
  | [], [], _, _ => .nil
  | v :: vs, n :: ns, hl, h => by
    obtain ⟨n', t, a1, a2⟩ := h 0 (Nat.succ_pos _)
    cases a1; cases a2
    exact .cons _ _ (ints_of (Nat.succ.inj hl) fun k hk => h (k + 1) (Nat.succ_lt_succ hk))
theorem pick_from (items : Array Value) (k : Nat) : slicePick items (some (k : Int)) none none = (items.toList.drop k).toArray := by
  have e : sliceBounds (some (k : Int)) none none items.size = (((min k items.size : Nat) : Int), ((items.size : Nat) : Int), 1) := by
    simp only [sliceBounds, Option.getD_none, show (1 : Int) > 0 by decide, if_true, if_neg (show ¬ ((k : Int) < 0) by (with_reducible exact fun _ => o35 ‹_›))]
    congr 1
    (with_reducible exact o48)
  rw [kmk_pick_nat _ e]
  congr 1
  rw [List.take_of_length_le (by rw [List.length_drop, Array.length_toList]; (with_reducible exact o140)), ← Array.length_toList, kmk_drop_min]
theorem pick_upto (items : Array Value) (k : Nat) : slicePick items none (some (k : Int)) none = (items.toList.take k).toArray := by
  have e : sliceBounds none (some (k : Int)) none items.size = (((0 : Nat) : Int), ((min k items.size : Nat) : Int), 1) := by
    simp only [sliceBounds, Option.getD_none, show (1 : Int) > 0 by decide, if_true, if_neg (show ¬ ((k : Int) < 0) by (with_reducible exact fun _ => o35 ‹_›))]
    congr 1
    congr 1
    (with_reducible exact o48)
  rw [kmk_pick_nat _ e, List.drop_zero, Nat.sub_zero, ← Array.length_toList, kmk_take_min]
/-- a bead: hue in 64ths, saturation and value in quarters -/
structure Bead where
  h : Nat
  s : Nat
  v : Nat
noncomputable def Bead.ok (b : Bead) : Prop := b.h < 64 ∧ 1 ≤ b.s ∧ b.s ≤ 4 ∧ 1 ≤ b.v ∧ b.v ≤ 4
/-- a list of tuples that tell the beads -/
noncomputable def BeadsIn (ys : Array Value) (bs : List Bead) (tl : List (Addr × Obj)) : Prop :=
  ys.size = bs.length ∧ ∀ (i : Nat) (b : Bead), bs[i]? = some b → ∃ (a t1 t2 t3 : Nat), ys[i]? = some (.ref a) ∧ (a, tupO #[.int (b.h : Int) t1, .int (b.s : Int) t2, .int (b.v : Int) t3]) ∈ tl
theorem BeadsIn.push {ys : Array Value} {bs : List Bead} {tl : List (Addr × Obj)} {b : Bead} {a t1 t2 t3 : Nat} (h : BeadsIn ys bs tl) : BeadsIn (ys.push (.ref a)) (bs ++ [b]) ((a, tupO #[.int (b.h : Int) t1, .int (b.s : Int) t2, .int (b.v : Int) t3]) :: tl) := by
  refine ⟨by rw [Array.size_push, List.length_append, h.1]; rfl, fun i b' hb => ?_⟩
  by_cases hi : i < bs.length
  · rw [List.getElem?_append_left hi] at hb
    obtain ⟨a', u1, u2, u3, q1, q2⟩ := h.2 i b' hb
    refine ⟨a', u1, u2, u3, ?_, .tail _ q2⟩
    rw [Array.getElem?_push_lt (by rw [h.1]; exact hi), ← q1]
    exact (Array.getElem?_eq_getElem (by rw [h.1]; exact hi)).symm
  · rw [List.getElem?_append_right (by (with_reducible exact o19 ‹_›))] at hb
    have : i - bs.length = 0 := by
      by_cases q : i - bs.length = 0
      · exact q
      · rw [List.getElem?_eq_none (by simp; (with_reducible exact o9 ‹_›))] at hb; cases hb
    rw [this] at hb
    cases hb
    have e : i = ys.size := by rw [h.1]; (with_reducible exact o3 ‹_› ‹_›)
    exact ⟨a, t1, t2, t3, by rw [e, Array.getElem?_push_size], .head _⟩
theorem lb {w : World} {base : Heap} {mean : ExcName → Option Value} {mg mb : Str → Option Value} (X : (Mine.hd.heap_39 w.params).In base)
    (T : Top tp tlo mean mg mb base) {s : Shared} (st : base.StaysIn s.heap) {sc : Nat} {vs : List Value} {ns : List Int} (hl : s.heap.IsList sc vs.toArray) (hi : IntsAre vs ns) (hz : vs.length ≤ 1000) {Q E}
    (ret : ∀ (h' : Heap) (tk D nn : Nat) (ys : Array Value) (bs : List Bead) (tl : List (Addr × Obj)), Ext [] s.heap h' → s.heap.get? D = none → h'.get? D = some (listOf ys nn) → (∀ p ∈ tl, h'.get? p.1 = some p.2 ∧ s.heap.get? p.1 = none ∧ p.2.cls = .type "tuple") →
      BeadsIn ys bs tl → (∀ b ∈ bs, b.ok) → (∃ m, bs.length = 2 * m ∧ 4 ≤ m ∧ m ≤ 8) → Q (.ref D) { s with heap := h', toks := tk }) :
    wpAny (model PySem.Challenge.rw_pg0206_01.row.prog w) (Aw 600) (call (.ref 95) [.ref sc]) Q E s := by
  revert X; k_fill; intro X
  refine' ent (news := []) (binds := [(Str.ofString "script", .ref sc)]) X T st ?k1 ?k2 ?k3 ?k4 ?k5 ?k6 ?_ ?k7 ?k8 ?k9 ?k10
  case k1 => intro p hp; cases hp
  case k2 => k_is
  case k3 => k_is
  case k4 => decide
  case k5 => exact kp_binds (Frag.In.keeps X st) (fun _ => rfl)
  case k6 => exact locs rfl
  case k7 => rfl
  case k8 => rfl
  case k9 => rfl
  case k10 => decide
  intro g L h₁ bb1 x1 bb2 z1 F N X T l1 bb3
  try dsimp only at F ⊢

  have hl' : g.IsList sc vs.toArray := by
    obtain ⟨o, ho, r⟩ := hl
    exact ⟨o, x1 _ _ ho (by first | k_extra "mem" | simp), r⟩
  have hzs : vs.toArray.size ≤ sizeLine := by rw [sizeLine_eq, List.size_toArray]; (with_reducible exact o150 ‹_›)
  k_steps
  refine Stop.mk (comp_assign0 (cl := []) (by with_unfolding_all rfl) (by with_unfolding_all rfl) rfl (by decide) ?_)
  k_steps
  rename_i D1 h3 F3 N3 l3
  have hp8 := pick_upto vs.toArray 8
  have hp8' : slicePick vs.toArray none (some 8) none = (vs.take 8).toArray := hp8
  rw [hp8'] at N3
  have hI3 : IntsAre (vs.take 8) (ns.take 8) := ints_take hi 8
  generalize vs.take 8 = ws at N3 hI3
  have hl3 : h3.IsList D1 ws.toArray := News.isList N3 (.head _)
  try dsimp only
  refine Stop.mk (wpAny_pyIter_list hl3 ?_)
  have hws : ws.length ≤ 8 := by have := hI3.length; rw [this, List.length_take]; (with_reducible exact o279)
  refine comp_go (It := fun i o => o.cls = .type "list_iterator" ∧ o.data = .fields #[.ref D1, .int i 0]) rfl (Src.list rfl hl3) (by rw [sizeLine_eq]; simp; (with_reducible exact o287 ‹_›)) ⟨rfl, rfl⟩
    (fun i ys tl tk => tl = [] ∧ ys.size = i ∧ ∀ k, k < i → ∃ n t, (ns.take 8)[k]? = some n ∧ ys[k]? = some (.int (n % 1024) t)) (fun _ _ => ⟨rfl, rfl, fun k hk => nomatch hk⟩) (fun _ _ _ _ _ h _ => h) (fun _ _ _ _ h => Nat.le_of_eq h.2.1) (by decide) rfl OwnT.name ?_ ?_
  · refine TurnC.plain ?_
    rintro i v C D h4 tk4 ys nD tl oI m4 hi hP hC F4 N4 ⟨rfl, j1, j2⟩ htk
    try dsimp only at hC F4 N4 htk ⊢
    k_fold
    obtain ⟨n, t, e1, rfl⟩ := ints_at hI3 (by simpa using hP)
    have X4 : (Mine.hd.heap_39 w.params).In h3 := X.keeps F3.keep
    have T4 : Top tp tlo mean mg mb h3 := T.keeps F3.keep
    k_steps
    rename_i h5 tk5 F5 N5 q5
    refine EltEnd.intro (tnew := []) F5 N5 (fun p hp => nomatch hp) fun tk' htk' => ⟨rfl, by rw [Array.size_push, j1], fun k hk => ?_⟩
    by_cases hki : k < i
    · obtain ⟨n', t', a1, a2⟩ := j2 k hki
      exact ⟨n', t', a1, by rw [Array.getElem?_push_lt (by (with_reducible exact o45 ‹_› ‹_›))]; rw [← a2]; exact (Array.getElem?_eq_getElem (by (with_reducible exact o45 ‹_› ‹_›))).symm⟩
    · obtain rfl : k = i := by (with_reducible exact o132 ‹_› ‹_›)
      exact ⟨n, _, e1, by rw [← j1, Array.getElem?_push_size]⟩
  · intro D C h4 tk4 m4 ys nD tl hD hC F4 N4 hap hJ htk
    try dsimp only at hD hC F4 N4 htk ⊢
    refine compPost_store F4 N4 hC F3 N3 (by with_unfolding_all rfl) (by with_unfolding_all rfl) ?_
    intro h5 F5 N5 hn5
    obtain ⟨rfl, j1, j2⟩ := hJ
    have hys8 : ys.size ≤ 8 := by rw [j1]; simpa using hws
    have hints : ∀ k, k < ys.size → ∃ (x : Nat) (t : Nat), x < 1024 ∧ ys[k]? = some (.int (x : Int) t) := by
      intro k hk
      obtain ⟨n, t, a1, a2⟩ := j2 k (by rw [← j1]; exact hk)
      exact ⟨(n % 1024).toNat, t, by (with_reducible exact o420), by rw [a2]; exact congrArg (fun z => some (Value.int z t)) (by (with_reducible exact o261))⟩
    clear j1 j2 F4 N4
    simp only [List.nil_append] at N5
    have hzu : (ys.size : Int) < 2 ^ 63 := by (with_reducible exact o509 ‹_›)
    try dsimp only
    k_steps
    rename_i l5 h6 l5' D6 h7 F7 N7 l7
    have e1 : ((ys.size : Int) % 2) = ((ys.size % 2 : Nat) : Int) := by (with_reducible exact o341)
    rw [e1, pick_from] at N7
    clear l7
    obtain ⟨P, hP, hP1, hP2⟩ : ∃ P : List Value, (List.drop (ys.size % 2) (#[Value.int 773 (tk4 + 1), Value.int 1000 (tk4 + 1 + 1), Value.int 593 (tk4 + 1 + 1 + 1), Value.int 186 (tk4 + 1 + 1 + 1 + 1), Value.int 913 (tk4 + 1 + 1 + 1 + 1 + 1), Value.int 289 (tk4 + 1 + 1 + 1 + 1 + 1 + 1), Value.int 905 (tk4 + 1 + 1 + 1 + 1 + 1 + 1 + 1), Value.int 470 (tk4 + 1 + 1 + 1 + 1 + 1 + 1 + 1 + 1)] : Array Value).toList) = P ∧
        P.length = 8 - ys.size % 2 ∧ ∀ k, k < P.length → ∃ (x : Nat) (t : Nat), x < 1024 ∧ P[k]? = some (.int (x : Int) t) := by
      refine ⟨_, rfl, ?_, ?_⟩
      · rw [List.length_drop]; rfl
      · intro k hk
        rw [List.getElem?_drop]
        rw [List.length_drop] at hk
        have hk8 : ys.size % 2 + k < 8 := Nat.add_lt_of_lt_sub' hk
        generalize ys.size % 2 + k = q at hk8 ⊢
        have : q = 0 ∨ q = 1 ∨ q = 2 ∨ q = 3 ∨ q = 4 ∨ q = 5 ∨ q = 6 ∨ q = 7 := by (with_reducible exact o94 ‹_›)
        rcases this with rfl | rfl | rfl | rfl | rfl | rfl | rfl | rfl
        · exact ⟨773, _, by decide, rfl⟩
        · exact ⟨1000, _, by decide, rfl⟩
        · exact ⟨593, _, by decide, rfl⟩
        · exact ⟨186, _, by decide, rfl⟩
        · exact ⟨913, _, by decide, rfl⟩
        · exact ⟨289, _, by decide, rfl⟩
        · exact ⟨905, _, by decide, rfl⟩
        · exact ⟨470, _, by decide, rfl⟩
    rw [hP] at N7
    clear hP
    have hzP : ys.size + P.toArray.size ≤ sizeLine := by have : P.toArray.size = P.length := by simp
                                                         rw [sizeLine_eq]; (with_reducible exact o186 ‹_› ‹_› ‹_›)
    k_steps
    rename_i h8 h9 tk9 F9 N9 q9
    generalize h7.objs.size = D9 at F9 N9 ⊢
    obtain ⟨W9, hW, hW1, hW2⟩ : ∃ W9 : Array Value, (ys.toList ++ P.toArray.toList).toArray = W9 ∧ W9.size = ys.size + P.length ∧ ∀ k, k < W9.size → ∃ (x : Nat) (t : Nat), x < 1024 ∧ W9[k]? = some (.int (x : Int) t) := by
      refine ⟨_, rfl, by simp, ?_⟩
      intro k hk
      simp only [List.size_toArray, List.length_append, Array.length_toList] at hk
      by_cases hky : k < ys.size
      · obtain ⟨x, t, a1, a2⟩ := hints k hky
        exact ⟨x, t, a1, by rw [List.getElem?_toArray, List.getElem?_append_left (by rw [Array.length_toList]; exact hky)]; simpa using a2⟩
      · obtain ⟨x, t, a1, a2⟩ := hP2 (k - ys.size) (by (with_reducible exact o334 ‹_› ‹_›))
        exact ⟨x, t, a1, by rw [List.getElem?_toArray, List.getElem?_append_right (by rw [Array.length_toList]; (with_reducible exact o19 ‹_›)), Array.length_toList]; exact a2⟩
    rw [hW] at N9
    clear hW
    refine Stop.mk (comp_eval0 (cl := []) (by with_unfolding_all rfl) rfl (by decide) ?_)
    k_steps
    have hl9 : h9.IsList D9 W9 := News.isList N9 (.head _)
    refine Stop.mk (wpAny_pyIter_list hl9 ?_)
    refine comp_go (It := fun i o => o.cls = .type "list_iterator" ∧ o.data = .fields #[.ref D9, .int i 0]) rfl (Src.list rfl hl9) (by rw [sizeLine_eq]; (with_reducible exact o331 ‹_› ‹_› ‹_›)) ⟨rfl, rfl⟩
      (fun i ys tl tk => ∃ bs : List Bead, bs.length = i ∧ (∀ b ∈ bs, b.ok) ∧ BeadsIn ys bs tl) (fun _ _ => ⟨[], rfl, (fun b hb => nomatch hb), rfl, (fun i b hb => by simp at hb)⟩) (fun _ _ _ _ _ h _ => h) (fun _ _ _ _ h => by obtain ⟨bs, a1, _, a2, _⟩ := h; (with_reducible exact o386 ‹_› ‹_›)) (by decide) rfl OwnT.name ?_ ?_
    · refine TurnC.plain ?_
      rintro i v C D h4 tk4 ys nD tl oI m4 hi hP hC F4 N4 ⟨bs, j1, j2, j3⟩ htk
      try dsimp only at hC F4 N4 htk ⊢
      k_fold
      obtain ⟨x, t, e1, e2⟩ := hW2 i hi
      rw [e2] at hP
      cases hP
      have X4 : (Mine.hd.heap_39 w.params).In h9 := X.keeps F9.keep
      have T4 : Top tp tlo mean mg mb h9 := T.keeps F9.keep
      k_steps
      rename_i h5 tk5 q5 a5 h6 F6 N6 l6
      have c1 : ((x : Int) % 64) = ((x % 64 : Nat) : Int) := by (with_reducible exact o463)
      have c2 : ((x : Int) / 64 % 4 + 1) = ((x / 64 % 4 + 1 : Nat) : Int) := by (with_reducible exact o148)
      have c3 : ((x : Int) / 256 + 1) = ((x / 256 + 1 : Nat) : Int) := by (with_reducible exact o64)
      rw [c1, c2, c3] at N6
      refine EltEnd.intro (tnew := [_]) F6 N6 (fun p hp => by rcases List.mem_cons.mp hp with rfl | hp; rfl; cases hp) fun tk' htk' => ⟨bs ++ [⟨x % 64, x / 64 % 4 + 1, x / 256 + 1⟩], by rw [List.length_append, j1]; rfl, fun b hb => ?_, BeadsIn.push j3⟩
      rcases List.mem_append.mp hb with hb | hb
      · exact j2 b hb
      · rcases List.mem_cons.mp hb with rfl | hb
        · exact ⟨by show x % 64 < 64; (with_reducible exact o16), by show 1 ≤ x / 64 % 4 + 1; (with_reducible exact o258), by show x / 64 % 4 + 1 ≤ 4; (with_reducible exact o177), by show 1 ≤ x / 256 + 1; (with_reducible exact o399), by show x / 256 + 1 ≤ 4; (with_reducible exact o69 ‹_›)⟩
        · cases hb
    · intro D C h4 tk4 m4 ys nD tl hD hC F4 N4 hap hJ htk
      try dsimp only at hD hC F4 N4 htk ⊢
      refine compPost_none F4 N4 ?_ hC
      intro h5 x5 g5 f5 t5
      obtain ⟨bs, j1, j2, j3⟩ := hJ
      try dsimp only
      have hst : s.heap.StaysIn h9 := fun b o e => F9.keep b o (x1 b o e (by first | k_extra "mem" | simp))
      have fresh : ∀ a, h9.get? a = none → s.heap.get? a = none := fun a q => by
        cases e : s.heap.get? a with
        | none => rfl
        | some o => rw [hst _ _ e] at q; cases q
      exact ret h5 tk4 D nD ys bs tl (Ext.of_stays fun b o e => x5 b o (hst b o e)) (fresh _ f5) g5 (fun p hp => ⟨(t5 p hp).1, fresh _ (t5 p hp).2, hap p hp⟩) j3 j2 ⟨bs.length / 2, by (with_reducible exact o67 ‹_› ‹_› ‹_›), by (with_reducible exact o472 ‹_› ‹_› ‹_›), by (with_reducible exact o135 ‹_› ‹_› ‹_› ‹_›)⟩
end
theorem ns_none_of {K : Frag} {h : Heap} {a : Addr} {m : Str → Option Value} {n : Str} (X : K.In h) (G : h.Ns a m) (e : nsIn K a n = some none) : m n = none := by
  obtain ⟨o, es, ep, ho, hd, _, hf⟩ := G
  unfold nsIn at e
  split at e
  · rename_i c d es' n' sl q
    have := X _ _ q
    rw [ho] at this
    cases this
    cases hd
    split at e
    · cases e
    · rename_i he
      rw [← hf]
      unfold nsFind findBy
      rw [← Array.find?_toList, he]
      rfl
  · cases e
theorem noneBooked_of {w : World} {h : Heap} {mean : ExcName → Option Value} {mg mb : Str → Option Value} (X : (Mine.hd.heap_39 w.params).In h) (T : Top tp tlo mean mg mb h) : NoneBooked h := by
  obtain ⟨mc, hc, _⟩ := T.nolimit
  exact ⟨mc, hc, ns_none_of X hc (by kernel_rfl)⟩
theorem NoneBooked.keeps' {h h' : Heap} (n : NoneBooked h) (k : ∀ b o, h.get? b = some o → h'.get? b = some o) : NoneBooked h' := let ⟨mc, a, b⟩ := n; ⟨mc, a.keeps k, b⟩
theorem hfN {w : World} {A : Around} {E : Value → Shared → Prop} {Q : Value → Shared → Prop} {s : Shared} {h₀ : Heap} {L a : Nat} {m : Str → Option Value} {news news' : List (Addr × Obj)} {mean : ExcName → Option Value} {mg mb : Str → Option Value} {its : Array Value} {n0 : Nat} {S : Value → Prop} {lt : Value → Value → Bool}
    (X : (Mine.hd.heap_39 w.params).In h₀) (T : Top tp tlo mean mg mb h₀) (F : Fr h₀ L s.heap m) (N : News h₀ L s.heap news) (hz : (its.size : Int) < 2 ^ 60) (hS : AllS S its) (hl : LtOn w a s.heap S lt)
    (U : Upd a (listOf its n0) (listOf (hfF lt (its.size / 2) its) n0) news news')
    (h : ∀ (h' : Heap) (tk : Nat), Ext [a] s.heap h' → Fr h₀ L h' m → News h₀ L h' news' → s.toks ≤ tk → Q .none { s with heap := h', toks := tk }) (hh : A.handled = none) (hd : A.depth ≤ 700) (hu : A.units ≤ 700) :
    wpAny (model PySem.Challenge.rw_pg0206_01.row.prog w) A (call (.ref 76) [.ref a]) Q E s :=
  toksle (lift (hf X T F.keep (N.get (upd_mem U)) (N.fresh (upd_mem U)) hz hS hl fun h' tk x hg q => let r := back_upd F N U x hg; h h' tk x r.1 r.2 q) hh hd hu)
theorem hpN {w : World} {A : Around} {E : Value → Shared → Prop} {Q : Value → Shared → Prop} {s : Shared} {h₀ : Heap} {L a : Nat} {m : Str → Option Value} {news : List (Addr × Obj)} {mean : ExcName → Option Value} {mg mb : Str → Option Value} {its : Array Value} {n0 : Nat} {S : Value → Prop} {lt : Value → Value → Bool} {news' : Nat → List (Addr × Obj)}
    (X : (Mine.hd.heap_39 w.params).In h₀) (T : Top tp tlo mean mg mb h₀) (F : Fr h₀ L s.heap m) (N : News h₀ L s.heap news) (hz : (its.size : Int) < 2 ^ 60) (hz20 : its.size ≤ sizeLine) (hne : 0 < its.size) (hS : AllS S its) (hl : LtOn w a s.heap S lt)
    (U : ∀ n1, Upd a (listOf its n0) (listOf (popF lt its) n1) news (news' n1))
    (h : ∀ (h' : Heap) (tk n1 : Nat), Ext [a] s.heap h' → Fr h₀ L h' m → News h₀ L h' (news' n1) → s.toks ≤ tk → Q (its.getD 0 .none) { s with heap := h', toks := tk }) (hh : A.handled = none) (hd : A.depth ≤ 700) (hu : A.units ≤ 700) :
    wpAny (model PySem.Challenge.rw_pg0206_01.row.prog w) A (call (.ref 69) [.ref a]) Q E s :=
  toksle (lift (hp X T F.keep (N.get (upd_mem (U 0))) (N.fresh (upd_mem (U 0))) hz hz20 hne hS hl fun h' tk n1 x hg q => let r := back_upd F N (U n1) x hg; h h' tk n1 x r.1 r.2 q) hh hd hu)
theorem CellAt.news {h₀ h : Heap} {L c : Addr} {o : Obj} {v : Value} {news : List (Addr × Obj)} (N : News h₀ L h news) (hm : (c, o) ∈ news) (hd : o.data = .cell (some v)) : CellAt h c v := ⟨o, N.get hm, hd⟩
/-- entry of a def with cell variables -/
theorem entC {w : World} {A : Around} {s : Shared} {base : Heap} {news : List (Addr × Obj)} {mean : ExcName → Option Value} {mg mb : Str → Option Value} {K : Frag}
    {name qual : Str} {params : Arguments} {body : List Stmt} {scope : Scope} {dV kV doc pm cdv ct oc : Value} {an od : Option Addr} {osl : Array (Option Value)} {f : Addr} {args : List Value} {kw : List (Str × Value)}
    {binds : List (Str × Value)} {Q : Value → Shared → Prop} {E : Value → Shared → Prop}
    (X : K.In base) (T : Top tp tlo mean mg mb base) (st : base.StaysIn s.heap)
    (hn : ∀ p ∈ news, s.heap.get? p.1 = some p.2 ∧ base.get? p.1 = none)
    (ho : K.lookup f = some ⟨oc, od, .func (fnOf name qual params body scope dV kV doc pm an cdv ct), osl⟩) (hcd : codeIn K cdv qual = true) (hroom : A.depth < recursionLimit)
    (hbind : BindsTo s (fnOf name qual params body scope dV kV doc pm an cdv ct) ⟨args, kw⟩ binds) (hkind : (binds.all fun y => scope.names.lookup y.1 == some .local || scope.names.lookup y.1 == some .cell) = true)
    (hnd : ((cellsFrom 0 scope.names []).map (·.1)).Nodup)
    (h : ∀ g L' h₁ tk cells, base.StaysIn g → Ext (news.map (·.1)) s.heap g → g.StaysIn s.heap → (∀ p ∈ news, g.get? p.1 = none) → Fr g L' h₁ (bindL (envOfC qual scope L' f cdv).kindOf binds fun _ => none) → News g L' h₁ (cells ++ news) →
      CellsAre (bindC (envOfC qual scope L' f cdv).kindOf binds fun _ => none) (cellsFrom (L' + 1) scope.names []) cells → K.In g → Top tp tlo mean mg mb g →
      s.heap.get? L' = none → s.heap.StaysIn h₁ → (∀ p ∈ cells, s.heap.get? p.1 = none) → s.toks ≤ tk →
      wpAny (model PySem.Challenge.rw_pg0206_01.row.prog w) (A.deeper (envOfC qual scope L' f cdv)) (execs body (envOfC qual scope L' f cdv))
        (fun fl s' => Q (match fl with | .ret v => v | _ => .none) s') (fun _ _ => False) { s with heap := h₁, toks := tk })
    (hco : scope.isCoroutine = false := by rfl) (hgen : scope.isGenerator = false := by rfl) (hk : scope.kind = .function := by rfl) : wpAny (model PySem.Challenge.rw_pg0206_01.row.prog w) A (call (.ref f) args kw) Q E s := by
  have g1 : base.StaysIn (hideAll s.heap (news.map (·.1))) := fun b o e => hideAll_get _ (st b o e) fun q => by
    obtain ⟨p, hp, rfl⟩ := List.mem_map.mp q
    rw [(hn p hp).2] at e; cases e
  have sf : s.heap.get? s.heap.objs.size = none := by
    cases q : s.heap.get? s.heap.objs.size with
    | none => rfl
    | some o => exact absurd (Heap.lt_size q) (Nat.lt_irrefl _)
  refine wpAny_call ?_
  refine codeAny_call_function hroom (st _ _ (X _ _ ho)) rfl hco hgen rfl (codeRec_of (X.keeps st) hcd) (hbind _ _ _ _ ?_)
  refine toksle (wpAny_newFunctionEnv_cells hk (kindsX hkind _) fun env' he s' x htk => ?_)
  subst he
  refine ⟨(T.nolimit.keeps st).keeps x.toInCall.keep, codeAny_func ?_⟩
  obtain ⟨h₁, tk, rfl, _⟩ := x.done
  have hk₁ := x.toInCall.keep
  obtain ⟨cells, NC, Y⟩ := Cl.news (h₀ := s.heap) (Nat.le_refl _) fun n c hm => ⟨x.cell n c (lookup_of_mem_nodup (cellsFrom_names scope.names 0 (s.heap.objs.size + 1) [] [] rfl ▸ hnd) hm), x.above n c hm⟩
  refine wpAny_mono (h (hideAll s.heap (news.map (·.1))) s.heap.objs.size h₁ tk cells g1 (fun b o e n => hideAll_get _ e n) (fun b o e => of_hideAll _ e) (fun p hp => hideAll_none _ (List.mem_map_of_mem hp))
    ⟨x.toInCall.ns, fun b o e => hk₁ b o (of_hideAll _ e), Nat.le_of_eq (hideAll_size _ _)⟩ (fun p hp => ?_) Y (X.keeps fun b o e => g1 b o e) (T.keeps fun b o e => g1 b o e) sf (fun b o e => hk₁ b o e) (fun p hp => (NC p hp).2.2) htk) (fun fl s' q => q) fun _ _ y => y.elim
  rcases List.mem_append.mp hp with hp | hp
  · refine ⟨(NC p hp).1, (NC p hp).2.1, ?_⟩
    cases q : (hideAll s.heap (news.map (·.1))).get? p.1 with
    | none => rfl
    | some o => have := of_hideAll _ q; rw [(NC p hp).2.2] at this; cases this
  · exact ⟨hk₁ _ _ (hn p hp).1, Nat.ne_of_lt (Heap.lt_size (hn p hp).1), hideAll_none _ (List.mem_map_of_mem hp)⟩
section
theorem lay_Str1_0 : True := by
  w_top off
  k_with_none
  k_with "eval Name" => (k_here; k_dflt (refine' nameE_C ?q9k1 ?_ ?q9k2 ?q9b ?q9c ?q9d; (case q9b => rfl); (case q9c => rfl); (case q9d => decide); (case q9k2 => rfl); (case q9k1 => first | with_reducible assumption | exact CellAt.keep (by with_reducible assumption) (by with_reducible assumption)); k_whole))
  k_with "eval Name" => (k_here; k_dflt (refine' nameE_B ?q9F ?q9X ?q9T ?q9e ?q9v ?q9n ?_ ?q9a ?q9a2 ?q9b ?q9c ?q9d; (case q9b => rfl); (case q9c => rfl); (case q9F => with_reducible assumption); (case q9X => with_reducible assumption); (case q9T => k_asm); (case q9a => rfl); (case q9a2 => rfl); (case q9d => decide); (case q9e => k_is); (case q9v => boot_fast); (case q9n => decide); k_whole))
  k_with "eval Name" => (k_here; k_dflt (refine' nameE_K ?q9F ?q9X ?q9T ?q9e ?_ ?q9a ?q9b ?q9c ?q9d; (case q9b => rfl); (case q9c => rfl); (case q9F => with_reducible assumption); (case q9X => with_reducible assumption); (case q9T => k_asm); (case q9a => rfl); (case q9d => decide); (case q9e => k_is); k_whole))
  k_with "eval Name" => (k_here; k_dflt (refine' nameE_L ?q9k1 ?q9k2 ?_ ?q9a ?q9b ?q9c ?q9d; (case q9c => rfl); (case q9k1 => with_reducible assumption); (case q9k2 => first | exact rfl | assumption); (case q9a => rfl); (case q9b => rfl); (case q9d => decide); k_whole))
  k_with "call builtin:len" => (k_here; (with_reducible show wpAny _ _ (call (Value.builtin "len") [Value.ref _]) _ _ _); k_dflt (refine' len_list ?q9k1 ?q9k2 ?_; (case q9k1 => first | with_reducible assumption | exact Fr.lst (by with_reducible assumption) (by with_reducible assumption) | exact News.isList (by with_reducible assumption) (by k_mem)); (case q9k2 => first | with_reducible assumption | omega); k_whole))
  k_with "subscriptTail" => (k_here; (with_reducible show wpAny _ _ (subscriptTail _ _ (Value.ref _) (Value.int _ _)) _ _ _); k_dflt (refine' item_at ?q9k1 ?q9k2 ?q9k3 ?q9k4 ?_; (case q9k1 => first | with_reducible assumption | exact Fr.lst (by with_reducible assumption) (by with_reducible assumption) | exact News.isList (by with_reducible assumption) (by k_mem)); (case q9k2 => omega); (case q9k3 => omega); (case q9k4 => first | with_reducible assumption | omega); k_whole); intro _ _)
  k_with "compareOp Lt" => (k_here; k_dflt (refine' CmpAt.use ?q9k1 ?q9k2 ?_; (case q9k1 => with_reducible assumption); (case q9k2 => assumption); k_whole))
  k_with "exec While Compare cons nil" => (k_here; refine Stop.to ?_)
  k_with "storeName" => (k_here; k_dflt (refine' stE ?q9F ?q9N ?_ ?q9a ?q9b ?q9c; (case q9b => rfl); (case q9F => with_reducible assumption); (case q9N => with_reducible assumption); (case q9a => rfl); (case q9c => rfl); k_whole); intro h' tk' F' N' q'; (try dsimp only at F' q'); (try dsimp only); revert h' tk' F' N' q'; intro _ _ _ _ _; (try k_sweep))
  k_with "binaryOp FloorDiv int int" => (k_here; refine' div_lit ?q9a ?q9b ?_; (case q9a => decide); (case q9b => decide); k_whole)
  k_with "binaryOp Mod int int" => (k_here; refine' mod_lit ?q9a ?q9b ?_; (case q9a => decide); (case q9b => decide); k_whole)
  k_with "call builtin:max" => (k_here; refine' max3 ?q9a ?q9b ?_ ?q9c; (case q9a => with_reducible assumption); (case q9b => with_reducible assumption); (case q9c => rfl); k_whole; intro h' tk' tk2' F' N' e' q'; (try dsimp only at q'); (try dsimp only); revert h' tk' tk2' F' N' e' q'; intro _ _ _ _ _ _ _; (try k_sweep))
  k_with "call builtin:min" => (k_here; refine' min3 ?q9a ?q9b ?_ ?q9c; (case q9a => with_reducible assumption); (case q9b => with_reducible assumption); (case q9c => rfl); k_whole; intro h' tk' tk2' F' N' e' q'; (try dsimp only at q'); (try dsimp only); revert h' tk' tk2' F' N' e' q'; intro _ _ _ _ _ _ _; (try k_sweep))
  k_with "execs cons" => (k_here; (with_reducible refine execs_seq ?_))
  k_with "execs nil" => (k_here; (with_reducible refine wpAny_execs_nil ?_); (try dsimp only))
  k_with "call ref" => (k_here; refine Stop.to ?_)
  k_with "exec For Name Call cons nil" => (k_here; refine Stop.to ?_)
  k_with "exec Assign cons ListComp cons" => (k_here; refine Stop.to ?_)
  k_with "exec Assign cons ListComp" => (k_here; refine Stop.to ?_)
  k_with "eval ListComp" => (k_here; refine Stop.to ?_)
  k_with "subscriptTail List Slice ref ref" => (k_here; k_dflt (refine kba_turn (value' := PySem.Expr.Name (PySem.Str.ofString "_") ⟨0, 0, 0, 0⟩) (fun _ => rfl) ?_))
  k_with "subscriptTail Name Slice ref ref" => (k_here; k_dflt (refine' kmk_slice ?q9F ?q9N ?q9l ?q9p ?q9q ?_ ?q9s ?q9t ?q9z; (case q9F => with_reducible assumption); (case q9N => with_reducible assumption); (case q9l => first | with_reducible assumption | exact News.isList (by with_reducible assumption) (by k_mem) | exact Fr.lst (by with_reducible assumption) (by with_reducible assumption)); (case q9p => first | exact IsPart.none | exact IsPart.int _ _); (case q9q => first | exact IsPart.none | exact IsPart.int _ _); (case q9s => with_unfolding_all rfl); (case q9t => (intro _; with_unfolding_all rfl)); (case q9z => first | with_reducible assumption | (rw [sizeLine_eq]; simp only [List.size_toArray, List.length_cons, List.length_nil]; omega) | (rw [sizeLine_eq]; omega))); intro D' h' F' N' l1; (try dsimp only); revert D' h' F' N' l1; intro _ _ _ _ _; (try k_sweep))
  k_with "binaryOp Add ref ref" => (k_here; k_dflt (refine' add_arrays ?q9F ?q9N ?q9l ?q9b ?_ ?q9z; (case q9F => with_reducible assumption); (case q9N => with_reducible assumption); (case q9l => first | with_reducible assumption | exact News.isList (by with_reducible assumption) (by k_mem) | exact Fr.lst (by with_reducible assumption) (by with_reducible assumption)); (case q9b => first | with_reducible assumption | exact News.isList (by with_reducible assumption) (by k_mem) | exact Fr.lst (by with_reducible assumption) (by with_reducible assumption)); (case q9z => first | with_reducible assumption | (rw [sizeLine_eq]; omega))); intro h' F' N'; (try dsimp only); revert h' F' N'; intro _ _ _; (try k_sweep))
  k_with "mem" => (first | exact List.Mem.head _ | with_reducible assumption | exact List.not_mem_nil | exact nm1 (by assumption) | exact nm1 (Ne.symm (by assumption)) | exact nm2 (by assumption) (by assumption) | (refine' List.mem_append_left _ ?_; k_extra "mem") | (refine' List.mem_append_right _ ?_; k_extra "mem") | (refine' List.Mem.tail _ ?_; k_extra "mem"))
  trivial
theorem pyIter_range {w : World} {A : Around} {E : Value → Shared → Prop} {s : Shared} {r : Addr} {n : Nat} {t u v : Tok} {Q : Value → Shared → Prop} (hr : IsRange s.heap r 0 (n : Int) 1 t u v) (hn : n < 2 ^ 60)
    (h : Q (.ref s.heap.objs.size) { s with heap := s.heap.push (ritO 0 (n : Int) 1) }) : wpAny (model PySem.Challenge.rw_pg0206_01.row.prog w) A (pyIter (.ref r)) Q E s := by
  refine wpAny_pyIter_range hr (small_one (by (with_reducible exact o303)) (by (with_reducible exact o124)) (by (with_reducible exact o134)) (by (with_reducible exact o293 ‹_›))) ?_
  rw [show Builtin.Range.rangeSize 0 (n : Int) 1 = (n : Int) by rw [rangeSize_one]; split <;> (first | with_reducible exact o5 ‹_› | with_reducible exact o209)]
  exact h
/-- the hues' list: bits xs i, tokens, told apart as the ranks r tell -/
structure Hues (hs : Array Value) (n : Nat) (x : Nat → UInt64) (r : Nat → Nat) : Prop where
  size : hs.size = n
  at_ : ∀ i, i < n → ∃ t, t ≠ 0 ∧ hs[i]? = some (.float (x i) t) ∧ ∀ j, j < n → hs[j]? = some (.float (x j) t) → r i = r j
  eq_ : ∀ i j, i < n → j < n → (Float64.cmp (x i) (x j) == some Ordering.eq) = decide (r i = r j)
  lt_ : ∀ i j, i < n → j < n → (Float64.cmp (x i) (x j) == some Ordering.lt) = decide (r i < r j)
  bits : ∀ i j, i < n → j < n → x i = x j → r i = r j
/-- the queue: tuples of hue and index -/
noncomputable def QIn (ys : Array Value) (n : Nat) (x : Nat → UInt64) (hs : Array Value) (tl : List (Addr × Obj)) : Prop :=
  ys.size = n ∧ ∀ i, i < n → ∃ a t c, ys[i]? = some (.ref a) ∧ (a, tupO #[.float (x i) t, .int (i : Int) c]) ∈ tl ∧ hs[i]? = some (.float (x i) t)
theorem QIn.push {ys : Array Value} {n : Nat} {x : Nat → UInt64} {hs : Array Value} {tl : List (Addr × Obj)} {a t c : Nat} (h : QIn ys n x hs tl) (e : hs[n]? = some (.float (x n) t)) : QIn (ys.push (.ref a)) (n + 1) x hs ((a, tupO #[.float (x n) t, .int (n : Int) c]) :: tl) := by
  refine ⟨by rw [Array.size_push, h.1], fun i hi => ?_⟩
  by_cases q : i < n
  · obtain ⟨a', t', c', h1, h2, h3⟩ := h.2 i q
    refine ⟨a', t', c', ?_, .tail _ h2, h3⟩
    rw [Array.getElem?_push_lt (by rw [h.1]; exact q), ← h1]
    exact (Array.getElem?_eq_getElem (by rw [h.1]; exact q)).symm
  · obtain rfl : i = n := by (with_reducible exact o132 ‹_› ‹_›)
    exact ⟨a, t, c, by rw [← h.1, Array.getElem?_push_size], .head _, e⟩
noncomputable def ixOf (ys : Array Value) (v : Value) : Nat := Classical.epsilon fun i => ys[i]? = some v
theorem ixOf_eq {ys : Array Value} {v : Value} {i : Nat} (hinj : ∀ i j : Nat, ys[i]? = some v → ys[j]? = some v → i = j) (h : ys[i]? = some v) : ixOf ys v = i :=
  hinj _ _ (Classical.epsilon_spec (p := fun i => ys[i]? = some v) ⟨i, h⟩) h
/-- index i stands ahead of index j -/
noncomputable abbrev lexLt (r : Nat → Nat) (i j : Nat) : Prop := r i < r j ∨ (r i = r j ∧ i < j)
noncomputable def ltQ (ys : Array Value) (r : Nat → Nat) (v u : Value) : Bool := decide (lexLt r (ixOf ys v) (ixOf ys u))
noncomputable def InQ (ys : Array Value) (v : Value) : Prop := ∃ i, i < ys.size ∧ ys[i]? = some v
/-- drained -/
noncomputable def drainF (lt : Value → Value → Bool) : Nat → Array Value → List Value
  | 0, _ => []
  | k + 1, its => its.getD 0 .none :: drainF lt k (popF lt its)
/-- a row that tells indices -/
noncomputable def RowIs (row : Array Value) (is : List Nat) : Prop := row.size = is.length ∧ ∀ (k i : Nat), is[k]? = some i → ∃ t, row[k]? = some (.int (i : Int) t)
theorem RowIs.push {row : Array Value} {is : List Nat} {i t : Nat} (h : RowIs row is) : RowIs (row.push (.int (i : Int) t)) (is ++ [i]) := by
  refine ⟨by rw [Array.size_push, List.length_append, h.1]; rfl, fun k j hb => ?_⟩
  by_cases hi : k < is.length
  · rw [List.getElem?_append_left hi] at hb
    obtain ⟨t', q⟩ := h.2 k j hb
    refine ⟨t', ?_⟩
    rw [Array.getElem?_push_lt (by rw [h.1]; exact hi), ← q]
    exact (Array.getElem?_eq_getElem (by rw [h.1]; exact hi)).symm
  · rw [List.getElem?_append_right (by (with_reducible exact o19 ‹_›))] at hb
    have : k - is.length = 0 := by
      by_cases q : k - is.length = 0
      · exact q
      · rw [List.getElem?_eq_none (by simp; (with_reducible exact o9 ‹_›))] at hb; cases hb
    rw [this] at hb
    cases hb
    have e : k = row.size := by rw [h.1]; (with_reducible exact o3 ‹_› ‹_›)
    exact ⟨t, by rw [e, Array.getElem?_push_size]⟩
theorem QIn.inj {h : Heap} {ys : Array Value} {n : Nat} {x : Nat → UInt64} {hs : Array Value} {tl : List (Addr × Obj)} (q : QIn ys n x hs tl) (ht : ∀ p ∈ tl, h.get? p.1 = some p.2) (v : Value) : ∀ i j : Nat, ys[i]? = some v → ys[j]? = some v → i = j := by
  intro i j hi hj
  have bi : i < n := by
    rw [← q.1]
    exact (Array.getElem?_eq_some_iff.mp hi).1
  have bj : j < n := by
    rw [← q.1]
    exact (Array.getElem?_eq_some_iff.mp hj).1
  obtain ⟨a, t, c, h1, h2, _⟩ := q.2 i bi
  obtain ⟨a', t', c', h1', h2', _⟩ := q.2 j bj
  rw [hi] at h1; rw [hj] at h1'
  cases h1; cases h1'
  have e1 := ht _ h2
  have e2 := ht _ h2'
  rw [show ((a, tupO #[.float (x j) t', .int (j : Int) c']) : Addr × Obj).1 = a from rfl, show h.get? a = _ from e1] at e2
  have e3 := congrArg (fun o : Option Obj => o.map (·.data)) e2
  simp only [Option.map_some, Option.some.injEq, Data.seq.injEq, Array.mk.injEq, List.cons.injEq, Value.int.injEq, true_and, and_true] at e3
  omega
theorem InQ.ix {h : Heap} {ys : Array Value} {n : Nat} {x : Nat → UInt64} {hs : Array Value} {tl : List (Addr × Obj)} (q : QIn ys n x hs tl) (ht : ∀ p ∈ tl, h.get? p.1 = some p.2) {v : Value} (hv : InQ ys v) :
    ixOf ys v < n ∧ ∃ a t c, v = .ref a ∧ (a, tupO #[.float (x (ixOf ys v)) t, .int ((ixOf ys v : Nat) : Int) c]) ∈ tl ∧ hs[ixOf ys v]? = some (.float (x (ixOf ys v)) t) := by
  obtain ⟨i, hi, e⟩ := hv
  rw [ixOf_eq (q.inj ht v) e]
  rw [q.1] at hi
  obtain ⟨a, t, c, h1, h2, h3⟩ := q.2 i hi
  rw [e] at h1
  cases h1
  exact ⟨hi, a, t, c, rfl, h2, h3⟩
theorem ltOn_q {w : World} {h : Heap} {D : Addr} {ys : Array Value} {n : Nat} {x : Nat → UInt64} {r : Nat → Nat} {hs : Array Value} {tl : List (Addr × Obj)} {g : Heap} (q : QIn ys n x hs tl) (hh : Hues hs n x r) (ht : ∀ p ∈ tl, h.get? p.1 = some p.2) (hD : ∀ p ∈ tl, p.1 ≠ D)
    (nb : NoneBooked g) (st : g.StaysIn h) (hDg : g.get? D = none) : LtOn w D h (InQ ys) (ltQ ys r) := by
  intro v u A Q E s hv hu hA xt hq
  obtain ⟨iv, a, t, c, e1, e2, e3⟩ := hv.ix q ht
  obtain ⟨iu, b, t', c', f1, f2, f3⟩ := hu.ix q ht
  have nbs : NoneBooked s.heap := NoneBooked.keeps' nb fun b o e => xt b o (st b o e) (by rintro hb; rcases List.mem_singleton.mp hb with rfl; rw [hDg] at e; cases e)
  have ga := xt _ _ (ht _ e2) (by simpa using hD _ e2)
  have gb := xt _ _ (ht _ f2) (by simpa using hD _ f2)
  unfold ltQ at hq
  generalize ixOf ys v = i at *
  generalize ixOf ys u = j at *
  subst e1; subst f1
  obtain ⟨ti, z1, z2, z3⟩ := hh.at_ i iv
  obtain ⟨tj, y1, y2, y3⟩ := hh.at_ j iu
  rw [z2] at e3; cases e3
  rw [y2] at f3; cases f3
  refine tup_lt hA ⟨_, ga, rfl, _, rfl⟩ ⟨_, gb, rfl, _, rfl⟩ z1 y1 nbs (decide (r i = r j)) (hh.eq_ i j iv iu) (fun e => ?_) (fun e => decide_eq_true (hh.bits i j iv iu e)) ?_
  · subst e
    exact decide_eq_true (z3 j iu y2)
  · refine cast (congrArg (fun z => Q (.bool z) s) ?_) hq
    rw [hh.lt_ i j iv iu]
    by_cases k : r i = r j
    · simp [lexLt, k]
    · simp [lexLt, k]
end
theorem hfF_size (lt : Value → Value → Bool) : ∀ (k : Nat) (a : Array Value), (hfF lt k a).size = a.size
  | 0, _ => rfl
  | k + 1, a => by rw [hfF, hfF_size lt k, siftF_size]
theorem hfF_all {S : Value → Prop} (lt : Value → Value → Bool) : ∀ (k : Nat) (a : Array Value), AllS S a → k ≤ a.size → AllS S (hfF lt k a)
  | 0, _, h, _ => h
  | k + 1, a, h, hk => by
    rw [hfF]
    exact hfF_all lt k _ (siftF_all lt h (by (with_reducible exact o253 ‹_›))) (by rw [siftF_size]; (with_reducible exact o144 ‹_›))
theorem AllS.pop {S : Value → Prop} {its : Array Value} (h : AllS S its) : AllS S its.pop := ⟨fun i hi => by
  rw [Array.size_pop] at hi
  have := h.all i (by (with_reducible exact o222 ‹_›))
  rw [Array.getD_eq_getD_getElem?, Array.getElem?_pop, if_pos (by omega), ← Array.getD_eq_getD_getElem?]
  exact this⟩
theorem popF_size (lt : Value → Value → Bool) {its : Array Value} (h : 0 < its.size) : (popF lt its).size = its.size - 1 := by
  unfold popF
  split
  · rename_i e; rw [e]; rfl
  · rw [siftF_size, Array.size_setIfInBounds, Array.size_pop]
theorem popF_all {S : Value → Prop} (lt : Value → Value → Bool) {its : Array Value} (h : AllS S its) (hn : 0 < its.size) : AllS S (popF lt its) := by
  unfold popF
  split
  · exact ⟨fun i hi => nomatch hi⟩
  · exact siftF_all lt (h.pop.set (h.gd (by omega))) (by rw [Array.size_setIfInBounds, Array.size_pop]; (with_reducible exact o147 ‹_› ‹_›))
theorem TurnEnd.nxt {h₀ h' : Heap} {L : Addr} {s : Shared} {J : Nat → (Str → Option Value) → List (Addr × Obj) → Prop} {Q : Flow → Shared → Prop} {n n' tk : Nat} {m₂ : Str → Option Value} {news₂ : List (Addr × Obj)}
    (F : Fr h₀ L h' m₂) (N : News h₀ L h' news₂) (hn : n' < n) (hJ : J n' m₂ news₂) : TurnEnd h₀ L s J Q n .next { s with heap := h', toks := tk } := ⟨h', tk, m₂, news₂, n', rfl, F, N, hn, hJ⟩
section
theorem lay_Ls_0 : True := by
  w_top off
  k_with_none
  k_with "eval Name" => (k_here; k_dflt (refine' nameE_C ?q9k1 ?_ ?q9k2 ?q9b ?q9c ?q9d; (case q9b => rfl); (case q9c => rfl); (case q9d => decide); (case q9k2 => rfl); (case q9k1 => first | with_reducible assumption | exact CellAt.keep (by with_reducible assumption) (by with_reducible assumption)); k_whole))
  k_with "eval Name" => (k_here; k_dflt (refine' nameE_B ?q9F ?q9X ?q9T ?q9e ?q9v ?q9n ?_ ?q9a ?q9a2 ?q9b ?q9c ?q9d; (case q9b => rfl); (case q9c => rfl); (case q9F => with_reducible assumption); (case q9X => with_reducible assumption); (case q9T => k_asm); (case q9a => rfl); (case q9a2 => rfl); (case q9d => decide); (case q9e => k_is); (case q9v => boot_fast); (case q9n => decide); k_whole))
  k_with "eval Name" => (k_here; k_dflt (refine' nameE_K ?q9F ?q9X ?q9T ?q9e ?_ ?q9a ?q9b ?q9c ?q9d; (case q9b => rfl); (case q9c => rfl); (case q9F => with_reducible assumption); (case q9X => with_reducible assumption); (case q9T => k_asm); (case q9a => rfl); (case q9d => decide); (case q9e => k_is); k_whole))
  k_with "eval Name" => (k_here; k_dflt (refine' nameE_L ?q9k1 ?q9k2 ?_ ?q9a ?q9b ?q9c ?q9d; (case q9c => rfl); (case q9k1 => with_reducible assumption); (case q9k2 => first | exact rfl | assumption); (case q9a => rfl); (case q9b => rfl); (case q9d => decide); k_whole))
  k_with "call builtin:len" => (k_here; (with_reducible show wpAny _ _ (call (Value.builtin "len") [Value.ref _]) _ _ _); k_dflt (refine' len_list ?q9k1 ?q9k2 ?_; (case q9k1 => first | with_reducible assumption | exact Fr.lst (by with_reducible assumption) (by with_reducible assumption) | exact News.isList (by with_reducible assumption) (by k_mem)); (case q9k2 => first | with_reducible assumption | omega); k_whole))
  k_with "subscriptTail" => (k_here; (with_reducible show wpAny _ _ (subscriptTail _ _ (Value.ref _) (Value.int _ _)) _ _ _); k_dflt (refine' item_at ?q9k1 ?q9k2 ?q9k3 ?q9k4 ?_; (case q9k1 => first | with_reducible assumption | exact Fr.lst (by with_reducible assumption) (by with_reducible assumption) | exact News.isList (by with_reducible assumption) (by k_mem)); (case q9k2 => omega); (case q9k3 => omega); (case q9k4 => first | with_reducible assumption | omega); k_whole); intro _ _)
  k_with "compareOp Lt" => (k_here; k_dflt (refine' CmpAt.use ?q9k1 ?q9k2 ?_; (case q9k1 => with_reducible assumption); (case q9k2 => assumption); k_whole))
  k_with "exec While Compare cons nil" => (k_here; refine Stop.to ?_)
  k_with "storeName" => (k_here; k_dflt (refine' stE ?q9F ?q9N ?_ ?q9a ?q9b ?q9c; (case q9b => rfl); (case q9F => with_reducible assumption); (case q9N => with_reducible assumption); (case q9a => rfl); (case q9c => rfl); k_whole); intro h' tk' F' N' q'; (try dsimp only at F' q'); (try dsimp only); revert h' tk' F' N' q'; intro _ _ _ _ _; (try k_sweep))
  k_with "binaryOp FloorDiv int int" => (k_here; refine' div_lit ?q9a ?q9b ?_; (case q9a => decide); (case q9b => decide); k_whole)
  k_with "binaryOp Mod int int" => (k_here; refine' mod_lit ?q9a ?q9b ?_; (case q9a => decide); (case q9b => decide); k_whole)
  k_with "call builtin:max" => (k_here; refine' max3 ?q9a ?q9b ?_ ?q9c; (case q9a => with_reducible assumption); (case q9b => with_reducible assumption); (case q9c => rfl); k_whole; intro h' tk' tk2' F' N' e' q'; (try dsimp only at q'); (try dsimp only); revert h' tk' tk2' F' N' e' q'; intro _ _ _ _ _ _ _; (try k_sweep))
  k_with "call builtin:min" => (k_here; refine' min3 ?q9a ?q9b ?_ ?q9c; (case q9a => with_reducible assumption); (case q9b => with_reducible assumption); (case q9c => rfl); k_whole; intro h' tk' tk2' F' N' e' q'; (try dsimp only at q'); (try dsimp only); revert h' tk' tk2' F' N' e' q'; intro _ _ _ _ _ _ _; (try k_sweep))
  k_with "execs cons" => (k_here; (with_reducible refine execs_seq ?_))
  k_with "execs nil" => (k_here; (with_reducible refine wpAny_execs_nil ?_); (try dsimp only))
  k_with "call ref" => (k_here; refine Stop.to ?_)
  k_with "exec For Name Call cons nil" => (k_here; refine Stop.to ?_)
  k_with "exec Assign cons ListComp cons" => (k_here; refine Stop.to ?_)
  k_with "exec Assign cons ListComp" => (k_here; refine Stop.to ?_)
  k_with "eval ListComp" => (k_here; refine Stop.to ?_)
  k_with "subscriptTail List Slice ref ref" => (k_here; k_dflt (refine kba_turn (value' := PySem.Expr.Name (PySem.Str.ofString "_") ⟨0, 0, 0, 0⟩) (fun _ => rfl) ?_))
  k_with "subscriptTail Name Slice ref ref" => (k_here; k_dflt (refine' kmk_slice ?q9F ?q9N ?q9l ?q9p ?q9q ?_ ?q9s ?q9t ?q9z; (case q9F => with_reducible assumption); (case q9N => with_reducible assumption); (case q9l => first | with_reducible assumption | exact News.isList (by with_reducible assumption) (by k_mem) | exact Fr.lst (by with_reducible assumption) (by with_reducible assumption)); (case q9p => first | exact IsPart.none | exact IsPart.int _ _); (case q9q => first | exact IsPart.none | exact IsPart.int _ _); (case q9s => with_unfolding_all rfl); (case q9t => (intro _; with_unfolding_all rfl)); (case q9z => first | with_reducible assumption | (rw [sizeLine_eq]; simp only [List.size_toArray, List.length_cons, List.length_nil]; omega) | (rw [sizeLine_eq]; omega))); intro D' h' F' N' l1; (try dsimp only); revert D' h' F' N' l1; intro _ _ _ _ _; (try k_sweep))
  k_with "binaryOp Add ref ref" => (k_here; k_dflt (refine' add_arrays ?q9F ?q9N ?q9l ?q9b ?_ ?q9z; (case q9F => with_reducible assumption); (case q9N => with_reducible assumption); (case q9l => first | with_reducible assumption | exact News.isList (by with_reducible assumption) (by k_mem) | exact Fr.lst (by with_reducible assumption) (by with_reducible assumption)); (case q9b => first | with_reducible assumption | exact News.isList (by with_reducible assumption) (by k_mem) | exact Fr.lst (by with_reducible assumption) (by with_reducible assumption)); (case q9z => first | with_reducible assumption | (rw [sizeLine_eq]; omega))); intro h' F' N'; (try dsimp only); revert h' F' N'; intro _ _ _; (try k_sweep))
  k_with "mem" => (first | exact List.Mem.head _ | with_reducible assumption | exact List.not_mem_nil | exact nm1 (by assumption) | exact nm1 (Ne.symm (by assumption)) | exact nm2 (by assumption) (by assumption) | (refine' List.mem_append_left _ ?_; k_extra "mem") | (refine' List.mem_append_right _ ?_; k_extra "mem") | (refine' List.Mem.tail _ ?_; k_extra "mem"))
  trivial
section
theorem lay_Ls_1 : True := by
  k_with "subscriptTail" => (k_here; (with_reducible show wpAny _ _ (subscriptTail _ _ (Value.ref _) (Value.int _ _)) _ _ _); k_dflt (refine' item_gd ?q9k1 ?q9k2 ?q9k3 ?q9k4 ?_; (case q9k1 => first | with_reducible assumption | exact News.isList (by with_reducible assumption) (by k_mem) | exact Fr.lst (by with_reducible assumption) (by with_reducible assumption)); (case q9k2 => omega); (case q9k3 => (try simp only [Array.size_setIfInBounds, Array.size_pop]); omega); (case q9k4 => (try simp only [Array.size_setIfInBounds, Array.size_pop]); first | with_reducible assumption | omega); k_whole))
  k_with "setItem ref int" => (k_here; k_dflt (refine' set_at ?q9k1 ?q9k2 ?q9k3 ?q9k4 ?q9k5 ?q9k6 ?_; (case q9k1 => with_reducible assumption); (case q9k2 => with_reducible assumption); (case q9k3 => k_upd); (case q9k4 => omega); (case q9k5 => (try simp only [Array.size_setIfInBounds, Array.size_pop]); omega); (case q9k6 => (try simp only [Array.size_setIfInBounds, Array.size_pop]); first | with_reducible assumption | omega); k_whole); intro h' F' N'; (try dsimp only); revert h' F' N'; intro _ _ _; (try k_sweep))
  k_with "binaryOp RShift int int" => (k_here; refine' shr1 ?_)
  k_with "compareOp Lt" => (k_here; k_dflt (refine' LtOn.use ?q9k1 ?q9k2 ?q9k3 ?q9k4 ?q9k5 ?_; (case q9k1 => with_reducible assumption); (case q9k2 => first | with_reducible assumption | exact AllS.gd (by with_reducible assumption) (by omega)); (case q9k3 => first | with_reducible assumption | exact AllS.gd (by with_reducible assumption) (by omega)); (case q9k4 => exact Nat.le_of_ble_eq_true rfl); (case q9k5 => exact ext_back (by with_reducible assumption) (by with_reducible assumption)); k_whole))
  k_with "call builtin:list.pop" => (k_here; k_dflt (refine' pop_l ?q9F ?q9N ?q9n ?q9z ?q9U ?_; (case q9F => with_reducible assumption); (case q9N => with_reducible assumption); (case q9n => first | with_reducible assumption | omega); (case q9z => first | with_reducible assumption | (rw [sizeLine_eq]; omega)); (case q9U => k_upd)); (intro h' F' N'; (try dsimp only); revert h' F' N'; intro _ _ _; (try k_sweep)))
  k_with "truthy ref" => (k_here; k_dflt (refine' wpAny_truthy_list ?q9l ?q9z ?_; (case q9l => first | with_reducible assumption | exact News.isList (by with_reducible assumption) (by k_mem) | exact Fr.lst (by with_reducible assumption) (by with_reducible assumption)); (case q9z => (try simp only [Array.size_pop]); omega); k_whole))
  trivial
local macro_rules | `(tactic| k_all) => `(tactic| with_reducible assumption)
theorem lay_Ls_2 : True := by
  k_with "exec While Name" => (k_here; refine Stop.to ?_)
  trivial
theorem ls {w : World} {base : Heap} {mean : ExcName → Option Value} {mg mb : Str → Option Value} (X : (Mine.hd.heap_39 w.params).In base)
    (T : Top tp tlo mean mg mb base) {s : Shared} (st : base.StaysIn s.heap) {hd1 : Nat} {hs : Array Value} {n : Nat} {x : Nat → UInt64} {r : Nat → Nat} (hl : s.heap.IsList hd1 hs) (hh : Hues hs n x r) (hn : n ≤ 64) {Q E}
    (ret : ∀ (h' : Heap) (tk D nn : Nat) (rw ys : Array Value), Ext [] s.heap h' → s.heap.get? D = none → h'.get? D = some (listOf rw nn) → ys.size = n → (∀ (v : Value) (i j : Nat), ys[i]? = some v → ys[j]? = some v → i = j) →
      RowIs rw ((drainF (ltQ ys r) n (hfF (ltQ ys r) (n / 2) ys)).map (ixOf ys)) → Q (.ref D) { s with heap := h', toks := tk }) :
    wpAny (model PySem.Challenge.rw_pg0206_01.row.prog w) (Aw 600) (call (.ref 100) [.ref hd1]) Q E s := by
  revert X; k_fill; intro X
  refine' entC (news := []) (binds := [(Str.ofString "hues", .ref hd1)]) X T st ?k1 ?k2 ?k3 ?k4 ?k5 ?k6 ?k6b ?_ ?k7 ?k8 ?k9
  case k1 => intro p hp; cases hp
  case k2 => k_is
  case k3 => k_is
  case k4 => decide
  case k5 => exact kp_binds (Frag.In.keeps X st) (fun _ => rfl)
  case k6 => rfl
  case k6b => decide +kernel
  case k7 => rfl
  case k8 => rfl
  case k9 => rfl
  intro g L h₁ tk cells bb1 x1 bb2 z1 F N Y X T l1 bb3 cf htk
  obtain ⟨o1, he, d1⟩ := CellsAre.one Y
  subst he
  try dsimp only at F N d1 ⊢
  try simp only [List.cons_append, List.nil_append] at N
  have hl' : g.IsList hd1 hs := by
    obtain ⟨o, ho, r⟩ := hl
    exact ⟨o, x1 _ _ ho (by first | k_extra "mem" | simp), r⟩
  have hzs : (hs.size : Int) < 2 ^ 63 := by have := hh.size; (with_reducible exact o333 ‹_› ‹_›)
  have c1 : CellAt h₁ (L + 1) (.ref hd1) := CellAt.news N (.head _) d1
  k_steps
  refine Stop.mk (comp_assign0 (cl := [(Str.ofString "hues", L + 1)]) (by with_unfolding_all rfl) (by with_unfolding_all rfl) rfl (by decide) ?_)
  k_steps
  rename_i h3 tk3 t3 u3 v3 r3 F3 N3 k3
  try dsimp only at r3 F3 N3 k3 ⊢
  rw [hh.size] at r3
  refine Stop.mk (pyIter_range r3 (by (with_reducible exact o246 ‹_›)) ?_)
  have c3 : CellAt h3 (L + 1) (.ref hd1) := CellAt.news N3 (.head _) d1
  have hl3 : h3.IsList hd1 hs := Fr.lst F3 hl'
  refine comp_go (n := n) (oI := ritO 0 (n : Int) 1) (It := fun i o => o = ritO (i : Int) ((n : Int) - (i : Int)) 1) rfl (Src.range rfl) (by rw [sizeLine_eq]; (with_reducible exact o58 ‹_›)) (by show ritO 0 (n : Int) 1 = ritO 0 ((n : Int) - 0) 1; rw [Int.sub_zero])
    (fun i ys tl tk => QIn ys i x hs tl) (fun _ _ => ⟨rfl, fun i hi => nomatch hi⟩) (fun _ _ _ _ _ h _ => h) (fun _ _ _ _ h => Nat.le_of_eq h.1) (by decide) rfl OwnT.name ?_ ?_
  · refine TurnC.plain ?_
    rintro i v C D h4 tk4 ys nD tl oI m4 hi ⟨ti, rfl⟩ hC F4 N4 hq htk
    try dsimp only at hC F4 N4 htk ⊢
    k_fold
    have X4 : (Mine.hd.heap_39 w.params).In h3 := X.keeps F3.keep
    have T4 : Top tp tlo mean mg mb h3 := T.keeps F3.keep
    have hi2 : i < hs.size := by have := hh.size; (with_reducible exact o45 ‹_› ‹_›)
    k_steps
    rename_i h6 tk6 q6 w6 e6 D6 h7 F7 N7 l7
    obtain ⟨ti', z1, z2, z3⟩ := hh.at_ i hi
    have e7 : ((i : Int)).toNat = i := by (with_reducible exact o216)
    rw [e7, z2] at e6
    cases e6
    exact EltEnd.intro (tnew := [_]) F7 N7 (fun p hp => by rcases List.mem_cons.mp hp with rfl | hp; rfl; cases hp) fun tk' htk' => QIn.push hq z2
  · intro D C h4 tk4 m4 ys nD tl hD hC F4 N4 hap hJ htk
    try dsimp only at hD hC F4 N4 htk ⊢
    refine compPost_store F4 N4 hC F3 N3 (by with_unfolding_all rfl) (by with_unfolding_all rfl) ?_
    intro h5 F5 N5 hn5
    try dsimp only
    clear F4 N4
    have ht5 : ∀ p ∈ tl, h5.get? p.1 = some p.2 := fun p hp => News.get N5 (.tail _ (List.mem_append_left _ hp))
    have htD : ∀ p ∈ tl, p.1 ≠ D := fun p hp e => by
      have a1 := ht5 p hp
      have a2 := News.get N5 (.head _)
      rw [e, a2] at a1
      have a3 := hap p hp
      rw [← Option.some.inj a1] at a3
      have a4 : (Value.type "list") = Value.type "tuple" := a3
      injection a4 with a4
      exact absurd a4 (by decide)
    have nb : NoneBooked g := noneBooked_of X T
    have hDg : g.get? D = none := News.fresh N5 (.head _)
    have hys : ys.size = n := hJ.1
    have hlt : LtOn w D h5 (InQ ys) (ltQ ys r) := ltOn_q hJ hh ht5 htD nb (fun b o e => F5.keep b o e) hDg
    k_steps
    refine Stop.mk ?_
    refine hfN (its := ys) (n0 := nD) (S := InQ ys) (lt := ltQ ys r) X T F5 N5 (by (with_reducible exact o263 ‹_› ‹_›)) ⟨fun i hi => ⟨i, hi, by rw [Array.getD_eq_getD_getElem?, Array.getElem?_eq_getElem hi]; rfl⟩⟩ hlt (.head (by intro p hp; rcases List.mem_append.mp hp with hp | hp; exact htD p hp; exact hn5 p hp)) ?_ rfl (Nat.le_of_ble_eq_true rfl) (Nat.le_of_ble_eq_true rfl)
    intro h6 tk6 x6 F6 N6 q6
    try dsimp only
    k_steps
    rename_i R h7 l7 h8 tk8 F8 N8 q8
    refine Stop.mk ?_
    refine While_all (fun k m news => ∃ (its row : Array Value) (nr nd : Nat) (done : List Nat), news = (R, listOf row nr) :: (D, listOf its nd) :: (tl ++ [(L + 1, o1)]) ∧ m "queue" = some (.ref D) ∧ m "row" = some (.ref R) ∧
      its.size = k ∧ k + done.length = n ∧ AllS (InQ ys) its ∧ RowIs row done ∧ done ++ (drainF (ltQ ys r) k its).map (ixOf ys) = (drainF (ltQ ys r) n (hfF (ltQ ys r) (n / 2) ys)).map (ixOf ys)) (n₀ := n) F8 N8 ?_ ?_
    · refine ⟨hfF (ltQ ys r) (ys.size / 2) ys, #[], 0, nD, [], rfl, rfl, rfl, by rw [hfF_size]; exact hys, rfl, hfF_all _ _ _ ⟨fun i hi => ⟨i, hi, by rw [Array.getD_eq_getD_getElem?, Array.getElem?_eq_getElem hi]; rfl⟩⟩ (by (with_reducible exact o95)), ⟨rfl, fun k i e => nomatch e⟩, by rw [hys]; rfl⟩
    · intro k m9 news9 h9 tk9 F9 N9 hJ9
      refine ex5 hJ9 ?_
      clear hJ9
      intro its row nr nd done hX
      refine and8 hX ?_
      clear hX
      intro e0X mq mr e1 e2 e3 e4 e5
      subst e0X
      have hz9 : (its.size : Int) < 2 ^ 63 := by (with_reducible exact o264 ‹_› ‹_› ‹_›)
      k_steps
      · rename_i c9
        have k0 : k = 0 := by
          have : its.size = 0 := by simpa [Array.isEmpty] using c9
          (with_reducible exact o285 ‹_› ‹_›)
        subst k0
        refine ret h9 _ R nr row ys (Ext.of_stays fun b o e => F9.keep b o (x1 b o e (by first | k_extra "mem" | simp))) ?_ (News.get N9 (.head _)) hys (hJ.inj ht5) ?_
        · have := News.fresh N9 (.head _)
          cases q : s.heap.get? R with
          | none => rfl
          | some o => rw [x1 _ _ q (by first | k_extra "mem" | simp)] at this; cases this
        · rw [← e5]
          simpa [drainF] using e4
      · rename_i c9
        have hk : 0 < its.size := by
          have : ¬ its.size = 0 := by intro q; rw [Array.isEmpty, q] at c9; simp at c9
          (with_reducible exact o25 ‹_›)
        obtain ⟨k', rfl⟩ : ∃ k', k = k' + 1 := ⟨k - 1, by (with_reducible exact o309 ‹_› ‹_›)⟩
        have hlt9 : LtOn w D h9 (InQ ys) (ltQ ys r) := ltOn_q hJ hh (fun p hp => News.get N9 (.tail _ (.tail _ (List.mem_append_left _ hp)))) htD nb (fun b o e => F9.keep b o e) hDg
        obtain ⟨iv, a, t, c, ev, e7, _⟩ := (e3.gd hk).ix hJ ht5
        have hRD : R ≠ D := Nat.ne_of_gt l7.1
        have hzR : row.size ≤ sizeLine := by rw [sizeLine_eq, e4.1]; (with_reducible exact o62 ‹_› ‹_›)
        have hc : ∀ p ∈ tl ++ [(L + 1, o1)], p.1 ≠ D := by intro p hp; rcases List.mem_append.mp hp with hp | hp; exact htD p hp; exact hn5 p hp
        refine Stop.mk ?_
        refine hpN (its := its) (n0 := nd) (S := InQ ys) (lt := ltQ ys r) (news' := fun n1 => (R, listOf row nr) :: (D, listOf (popF (ltQ ys r) its) n1) :: (tl ++ [(L + 1, o1)])) X T F9 N9 (by (with_reducible exact o143 ‹_› ‹_› ‹_›)) (by rw [sizeLine_eq]; (with_reducible exact o242 ‹_› ‹_› ‹_›)) hk e3 hlt9 (fun n1 => ?_) ?_ rfl (Nat.le_of_ble_eq_true rfl) (Nat.le_of_ble_eq_true rfl)
        · k_upd
        intro h10 tk10 n10 x10 F10 N10 q10
        try dsimp only
        have htup : h10.IsTuple a #[.float (x (ixOf ys (its.getD 0 .none))) t, .int ((ixOf ys (its.getD 0 .none) : Nat) : Int) c] := ⟨_, News.get N10 (.tail _ (.tail _ (List.mem_append_left _ e7))), rfl, _, rfl⟩
        generalize hv : its.getD 0 .none = v at *
        subst ev
        k_steps
        rename_i h11 F11 N11
        have e8 : (done ++ [ixOf ys (.ref a)]) ++ (drainF (ltQ ys r) k' (popF (ltQ ys r) its)).map (ixOf ys) = (drainF (ltQ ys r) n (hfF (ltQ ys r) (n / 2) ys)).map (ixOf ys) := by
          rw [← e5, drainF, hv, List.map_cons, List.append_assoc]
          rfl
        show TurnEnd _ _ _ _ _ _ _ _
        exact TurnEnd.nxt (n' := k') F11 N11 (Nat.lt_succ_self _) ⟨popF (ltQ ys r) its, _, _, _, done ++ [ixOf ys (.ref a)], rfl, mq, mr, by rw [popF_size _ hk]; (with_reducible exact o210 ‹_›), by rw [List.length_append]; simp; (with_reducible exact o153 ‹_›), popF_all _ e3 hk, e4.push, e8⟩

end
end
theorem item_known {prog : Program} {w : World} {A : Around} {E : Value → Shared → Prop} {s : Shared} {value slice : PySem.Expr} {l : Addr} {its : Array Value} {k : Nat} {u : Tok} {v : Value} {Q : Value → Shared → Prop} (hk : its[k]? = some v) (hl : s.heap.IsList l its)
    (hz : (its.size : Int) < 2 ^ 63) (h : Q v s)
    (hs : subscripted slice false (.ref l) (.int (k : Int) u) = operate [.ref l, .int (k : Int) u] (getItem (.ref l) (.int (k : Int) u)) := by with_unfolding_all rfl) (hg : ∀ r, letTemporaryGo value (.ref l) r = pure () := by intro _; with_unfolding_all rfl) :
    wpAny (model prog w) A (subscriptTail value slice (.ref l) (.int (k : Int) u)) Q E s := by
  have hb := (Array.getElem?_eq_some_iff.mp hk).1
  refine item_at hl (by omega) (by omega) hz (fun v' hv => ?_) hs hg
  rw [Int.toNat_natCast, hk] at hv
  cases hv
  exact h
theorem irN {w : World} {A : Around} {E : Value → Shared → Prop} {Q : Value → Shared → Prop} {s : Shared} {h₀ : Heap} {L a : Nat} {m : Str → Option Value} {news : List (Addr × Obj)} {mean : ExcName → Option Value} {mg mb : Str → Option Value} {its : Array Value} {n0 : Nat} {x : Value} {p : Nat → Bool} {news' : Nat → List (Addr × Obj)}
    (X : (Mine.hd.heap_39 w.params).In h₀) (T : Top tp tlo mean mg mb h₀) (F : Fr h₀ L s.heap m) (N : News h₀ L s.heap news) (hz20 : its.size ≤ sizeLine) (hc : CmpAtR w its x p)
    (U : ∀ r, Upd a (listOf its n0) (listOf (its.toList.take r ++ x :: its.toList.drop r).toArray (n0 + 1)) news (news' r))
    (h : ∀ (h' : Heap) (tk r : Nat), Ext [a] s.heap h' → Fr h₀ L h' m → News h₀ L h' (news' r) → s.toks ≤ tk → Cut (fun i => !p i) its.size r → Q .none { s with heap := h', toks := tk }) (hh : A.handled = none) (hd : A.depth ≤ 800) (hu : A.units ≤ 800) :
    wpAny (model PySem.Challenge.rw_pg0206_01.row.prog w) A (call (.ref 23) [.ref a, x]) Q E s :=
  toksle (lift (ir X T F.keep (N.get (upd_mem (U 0))) (N.fresh (upd_mem (U 0))) hz20 hc fun h' tk r x c hg q => let z := back_upd F N (U r) x hg; h h' tk r x z.1 z.2 q c) hh hd hu)
theorem lsN {w : World} {A : Around} {E : Value → Shared → Prop} {Q : Value → Shared → Prop} {s : Shared} {h₀ : Heap} {L hd1 : Nat} {m : Str → Option Value} {news : List (Addr × Obj)} {mean : ExcName → Option Value} {mg mb : Str → Option Value} {hs : Array Value} {n : Nat} {x : Nat → UInt64} {r : Nat → Nat}
    (X : (Mine.hd.heap_39 w.params).In h₀) (T : Top tp tlo mean mg mb h₀) (F : Fr h₀ L s.heap m) (N : News h₀ L s.heap news) (hL : s.heap.get? L ≠ none) (hl : s.heap.IsList hd1 hs) (hh : Hues hs n x r) (hn : n ≤ 64)
    (h : ∀ (h' : Heap) (tk D nn : Nat) (rw ys : Array Value), Ext [] s.heap h' → Fr h₀ L h' m → News h₀ L h' ((D, listOf rw nn) :: news) → s.toks ≤ tk → ys.size = n → (∀ (v : Value) (i j : Nat), ys[i]? = some v → ys[j]? = some v → i = j) →
      RowIs rw ((drainF (ltQ ys r) n (hfF (ltQ ys r) (n / 2) ys)).map (ixOf ys)) → Q (.ref D) { s with heap := h', toks := tk }) (hha : A.handled = none) (hd : A.depth ≤ 600) (hu : A.units ≤ 600) :
    wpAny (model PySem.Challenge.rw_pg0206_01.row.prog w) A (call (.ref 100) [.ref hd1]) Q E s := by
  refine toksle (lift (ls X T F.keep hl hh hn fun h' tk D nn rw ys x f g e inj R q => ?_) hha hd hu)
  refine h h' tk D nn rw ys x (Fr.ext F x (by simp) (by simp)) (News.cons (News.ext N x (by simp)) g (fun e => hL (e ▸ f)) ?_) q e inj R
  cases e : h₀.get? D with
  | none => rfl
  | some o => rw [F.keep _ _ e] at f; cases f
/-- comparing with the numbers of a row -/
theorem cmpR_row {w : World} {arr : Array Value} {is : List Nat} (h : RowIs arr is) (x t : Nat) : CmpAtR w arr (.int (x : Int) t) (fun i => decide (x < is.getD i 0)) := by
  intro i v hv A Q E s hq
  have hb : i < is.length := by
    rw [← h.1]
    exact (Array.getElem?_eq_some_iff.mp hv).1
  obtain ⟨u, e⟩ := h.2 i _ (List.getElem?_eq_getElem hb)
  rw [hv] at e
  cases e
  refine lt_int ?_
  have e2 : is.getD i 0 = is[i] := by rw [List.getD_eq_getElem?_getD, List.getElem?_eq_getElem hb]; rfl
  dsimp only at hq
  rw [e2] at hq
  have e3 : decide ((x : Int) < (is[i] : Int)) = decide (x < is[i]) := decide_eq_decide.mpr (by (with_reducible exact o501))
  rw [e3]
  exact hq
theorem RowIs.ins {arr : Array Value} {is : List Nat} (h : RowIs arr is) (x t r : Nat) (hr : r ≤ is.length) : RowIs (arr.toList.take r ++ Value.int (x : Int) t :: arr.toList.drop r).toArray (is.take r ++ x :: is.drop r) := by
  have hl : arr.toList.length = is.length := by rw [Array.length_toList]; exact h.1
  refine ⟨by simp [h.1], fun k i hk => ?_⟩
  rw [List.getElem?_toArray]
  have g : ∀ j i : Nat, is[j]? = some i → ∃ t, arr.toList[j]? = some (Value.int (i : Int) t) := fun j i e => by
    obtain ⟨t, e⟩ := h.2 j i e
    exact ⟨t, by rw [← e]; simp⟩
  rcases Nat.lt_trichotomy k r with q | q | q
  · rw [List.getElem?_append_left (by rw [List.length_take]; (first | with_reducible exact o240 ‹_› ‹_› | with_reducible exact o387 ‹_› ‹_› ‹_›)), List.getElem?_take_of_lt q] at hk ⊢
    exact g k i hk
  · subst q
    rw [List.getElem?_append_right (by rw [List.length_take]; (with_reducible exact o250)), List.length_take, Nat.min_eq_left hr, Nat.sub_self] at hk
    rw [List.getElem?_append_right (by rw [List.length_take]; (with_reducible exact o250)), List.length_take, Nat.min_eq_left (by (with_reducible exact o83 ‹_› ‹_›)), Nat.sub_self]
    cases hk
    exact ⟨t, rfl⟩
  · rw [List.getElem?_append_right (by rw [List.length_take]; (with_reducible exact o137 ‹_›)), List.length_take, Nat.min_eq_left hr] at hk
    rw [List.getElem?_append_right (by rw [List.length_take]; (with_reducible exact o137 ‹_›)), List.length_take, Nat.min_eq_left (by (with_reducible exact o83 ‹_› ‹_›))]
    obtain ⟨d, hd⟩ : ∃ d, k - r = d + 1 := ⟨k - r - 1, by (with_reducible exact o79 ‹_›)⟩
    rw [hd, List.getElem?_cons_succ, List.getElem?_drop] at hk ⊢
    exact g _ i hk
/-- where a number goes: behind all that are not above it -/
theorem cut_place {A B : List Nat} {x r n : Nat} (hn : n = (A ++ B).length) (c : Cut (fun i => !decide (x < (A ++ B).getD i 0)) n r) (hA : ∀ a ∈ A, a ≤ x) (hB : ∀ b ∈ B, x < b) : r = A.length := by
  obtain ⟨c1, c2, c3⟩ := c
  have hlen : (A ++ B).length = A.length + B.length := List.length_append
  rcases Nat.lt_trichotomy r A.length with q | q | q
  · exfalso
    rcases c3 with e | e
    · (with_reducible exact (o163 ‹_› ‹_› ‹_› ‹_›).elim)
    · have : (A ++ B).getD r 0 = A[r] := by rw [List.getD_eq_getElem?_getD, List.getElem?_append_left q, List.getElem?_eq_getElem q]; rfl
      dsimp only at e
      rw [this] at e
      have := hA _ (List.getElem_mem q)
      simp at e
      omega
  · exact q
  · exfalso
    rcases c2 with e | e
    · (with_reducible exact (o432 ‹_› ‹_›).elim)
    · have q2 : r - 1 - A.length < B.length := by (with_reducible exact o162 ‹_› ‹_› ‹_› ‹_›)
      have : (A ++ B).getD (r - 1) 0 = B[r - 1 - A.length] := by rw [List.getD_eq_getElem?_getD, List.getElem?_append_right (by (with_reducible exact o141 ‹_›)), List.getElem?_eq_getElem q2]; rfl
      dsimp only at e
      rw [this] at e
      have := hB _ (List.getElem_mem q2)
      simp at e
      omega
/-- the marks behind k turns -/
noncomputable def half1 (f : Nat → Bool) (k : Nat) : List Nat := (List.range k).filter f
noncomputable def marksOf (f : Nat → Bool) (n k : Nat) : List Nat := half1 f k ++ (half1 f k).map (· + n)
theorem half1_lt {f : Nat → Bool} {k a : Nat} (h : a ∈ half1 f k) : a < k := List.mem_range.mp (List.mem_filter.mp h).1
theorem half1_len (f : Nat → Bool) (k : Nat) : (half1 f k).length ≤ k := by
  have := List.length_filter_le f (List.range k)
  rwa [List.length_range] at this
theorem half1_succ (f : Nat → Bool) (k : Nat) : half1 f (k + 1) = if f k = true then half1 f k ++ [k] else half1 f k := by
  unfold half1
  rw [List.range_succ, List.filter_append]
  by_cases h : f k = true
  · simp [h]
  · simp [h]
section
theorem lay_Mk_0 : True := by
  w_top off
  k_with_none
  k_with "eval Name" => (k_here; k_dflt (refine' nameE_C ?q9k1 ?_ ?q9k2 ?q9b ?q9c ?q9d; (case q9b => rfl); (case q9c => rfl); (case q9d => decide); (case q9k2 => rfl); (case q9k1 => first | with_reducible assumption | exact CellAt.keep (by with_reducible assumption) (by with_reducible assumption)); k_whole))
  k_with "eval Name" => (k_here; k_dflt (refine' nameE_B ?q9F ?q9X ?q9T ?q9e ?q9v ?q9n ?_ ?q9a ?q9a2 ?q9b ?q9c ?q9d; (case q9b => rfl); (case q9c => rfl); (case q9F => with_reducible assumption); (case q9X => with_reducible assumption); (case q9T => k_asm); (case q9a => rfl); (case q9a2 => rfl); (case q9d => decide); (case q9e => k_is); (case q9v => boot_fast); (case q9n => decide); k_whole))
  k_with "eval Name" => (k_here; k_dflt (refine' nameE_K ?q9F ?q9X ?q9T ?q9e ?_ ?q9a ?q9b ?q9c ?q9d; (case q9b => rfl); (case q9c => rfl); (case q9F => with_reducible assumption); (case q9X => with_reducible assumption); (case q9T => k_asm); (case q9a => rfl); (case q9d => decide); (case q9e => k_is); k_whole))
  k_with "eval Name" => (k_here; k_dflt (refine' nameE_L ?q9k1 ?q9k2 ?_ ?q9a ?q9b ?q9c ?q9d; (case q9c => rfl); (case q9k1 => with_reducible assumption); (case q9k2 => first | exact rfl | assumption); (case q9a => rfl); (case q9b => rfl); (case q9d => decide); k_whole))
  k_with "call builtin:len" => (k_here; (with_reducible show wpAny _ _ (call (Value.builtin "len") [Value.ref _]) _ _ _); k_dflt (refine' len_list ?q9k1 ?q9k2 ?_; (case q9k1 => first | with_reducible assumption | exact Fr.lst (by with_reducible assumption) (by with_reducible assumption) | exact News.isList (by with_reducible assumption) (by k_mem)); (case q9k2 => first | with_reducible assumption | omega); k_whole))
  k_with "subscriptTail" => (k_here; (with_reducible show wpAny _ _ (subscriptTail _ _ (Value.ref _) (Value.int _ _)) _ _ _); k_dflt (refine' item_at ?q9k1 ?q9k2 ?q9k3 ?q9k4 ?_; (case q9k1 => first | with_reducible assumption | exact Fr.lst (by with_reducible assumption) (by with_reducible assumption) | exact News.isList (by with_reducible assumption) (by k_mem)); (case q9k2 => omega); (case q9k3 => omega); (case q9k4 => first | with_reducible assumption | omega); k_whole); intro _ _)
  k_with "compareOp Lt" => (k_here; k_dflt (refine' CmpAt.use ?q9k1 ?q9k2 ?_; (case q9k1 => with_reducible assumption); (case q9k2 => assumption); k_whole))
  k_with "exec While Compare cons nil" => (k_here; refine Stop.to ?_)
  k_with "storeName" => (k_here; k_dflt (refine' stE ?q9F ?q9N ?_ ?q9a ?q9b ?q9c; (case q9b => rfl); (case q9F => with_reducible assumption); (case q9N => with_reducible assumption); (case q9a => rfl); (case q9c => rfl); k_whole); intro h' tk' F' N' q'; (try dsimp only at F' q'); (try dsimp only); revert h' tk' F' N' q'; intro _ _ _ _ _; (try k_sweep))
  k_with "binaryOp FloorDiv int int" => (k_here; refine' div_lit ?q9a ?q9b ?_; (case q9a => decide); (case q9b => decide); k_whole)
  k_with "binaryOp Mod int int" => (k_here; refine' mod_lit ?q9a ?q9b ?_; (case q9a => decide); (case q9b => decide); k_whole)
  k_with "call builtin:max" => (k_here; refine' max3 ?q9a ?q9b ?_ ?q9c; (case q9a => with_reducible assumption); (case q9b => with_reducible assumption); (case q9c => rfl); k_whole; intro h' tk' tk2' F' N' e' q'; (try dsimp only at q'); (try dsimp only); revert h' tk' tk2' F' N' e' q'; intro _ _ _ _ _ _ _; (try k_sweep))
  k_with "call builtin:min" => (k_here; refine' min3 ?q9a ?q9b ?_ ?q9c; (case q9a => with_reducible assumption); (case q9b => with_reducible assumption); (case q9c => rfl); k_whole; intro h' tk' tk2' F' N' e' q'; (try dsimp only at q'); (try dsimp only); revert h' tk' tk2' F' N' e' q'; intro _ _ _ _ _ _ _; (try k_sweep))
  k_with "execs cons" => (k_here; (with_reducible refine execs_seq ?_))
  k_with "execs nil" => (k_here; (with_reducible refine wpAny_execs_nil ?_); (try dsimp only))
  k_with "call ref" => (k_here; refine Stop.to ?_)
  k_with "exec For Name Call cons nil" => (k_here; refine Stop.to ?_)
  k_with "exec Assign cons ListComp cons" => (k_here; refine Stop.to ?_)
  k_with "exec Assign cons ListComp" => (k_here; refine Stop.to ?_)
  k_with "eval ListComp" => (k_here; refine Stop.to ?_)
  k_with "subscriptTail List Slice ref ref" => (k_here; k_dflt (refine kba_turn (value' := PySem.Expr.Name (PySem.Str.ofString "_") ⟨0, 0, 0, 0⟩) (fun _ => rfl) ?_))
  k_with "subscriptTail Name Slice ref ref" => (k_here; k_dflt (refine' kmk_slice ?q9F ?q9N ?q9l ?q9p ?q9q ?_ ?q9s ?q9t ?q9z; (case q9F => with_reducible assumption); (case q9N => with_reducible assumption); (case q9l => first | with_reducible assumption | exact News.isList (by with_reducible assumption) (by k_mem) | exact Fr.lst (by with_reducible assumption) (by with_reducible assumption)); (case q9p => first | exact IsPart.none | exact IsPart.int _ _); (case q9q => first | exact IsPart.none | exact IsPart.int _ _); (case q9s => with_unfolding_all rfl); (case q9t => (intro _; with_unfolding_all rfl)); (case q9z => first | with_reducible assumption | (rw [sizeLine_eq]; simp only [List.size_toArray, List.length_cons, List.length_nil]; omega) | (rw [sizeLine_eq]; omega))); intro D' h' F' N' l1; (try dsimp only); revert D' h' F' N' l1; intro _ _ _ _ _; (try k_sweep))
  k_with "binaryOp Add ref ref" => (k_here; k_dflt (refine' add_arrays ?q9F ?q9N ?q9l ?q9b ?_ ?q9z; (case q9F => with_reducible assumption); (case q9N => with_reducible assumption); (case q9l => first | with_reducible assumption | exact News.isList (by with_reducible assumption) (by k_mem) | exact Fr.lst (by with_reducible assumption) (by with_reducible assumption)); (case q9b => first | with_reducible assumption | exact News.isList (by with_reducible assumption) (by k_mem) | exact Fr.lst (by with_reducible assumption) (by with_reducible assumption)); (case q9z => first | with_reducible assumption | (rw [sizeLine_eq]; omega))); intro h' F' N'; (try dsimp only); revert h' F' N'; intro _ _ _; (try k_sweep))
  k_with "mem" => (first | exact List.Mem.head _ | with_reducible assumption | exact List.not_mem_nil | exact nm1 (by assumption) | exact nm1 (Ne.symm (by assumption)) | exact nm2 (by assumption) (by assumption) | (refine' List.mem_append_left _ ?_; k_extra "mem") | (refine' List.mem_append_right _ ?_; k_extra "mem") | (refine' List.Mem.tail _ ?_; k_extra "mem"))
  trivial
section
theorem lay_Mk_1 : True := by
  k_with "subscriptTail" => (k_here; k_dflt (refine' item_known ?q9k0 ?q9k1 ?q9k2 ?_; (case q9k0 => with_reducible assumption); (case q9k1 => first | with_reducible assumption | exact News.isList (by with_reducible assumption) (by k_mem) | exact Fr.lst (by with_reducible assumption) (by with_reducible assumption)); (case q9k2 => with_reducible assumption); k_whole))
  trivial
theorem cut_last {A : List Nat} {x r n : Nat} (hn : n = A.length) (c : Cut (fun i => !decide (x < A.getD i 0)) n r) (hA : ∀ a ∈ A, a ≤ x) : r = A.length := by
  have h := @cut_place A [] x r n
  rw [List.append_nil] at h
  exact h hn c hA fun b hb => nomatch hb
theorem mk {w : World} {base : Heap} {mean : ExcName → Option Value} {mg mb : Str → Option Value} (X : (Mine.hd.heap_39 w.params).In base)
    (T : Top tp tlo mean mg mb base) {s : Shared} (st : base.StaysIn s.heap) {ra wa : Nat} {rw wn : Array Value} {is : List Nat} {wf : Nat → Bool} (hl : s.heap.IsList ra rw) (hri : RowIs rw is) (hw : s.heap.IsList wa wn) (hwf : ∀ i ∈ is, wn[i]? = some (.bool (wf i)))
    (hn : is.length ≤ 64) (hwz : (wn.size : Int) < 2 ^ 63) {Q E}
    (ret : ∀ (h' : Heap) (tk D nn : Nat) (arr : Array Value), Ext [] s.heap h' → s.heap.get? D = none → h'.get? D = some (listOf arr nn) → RowIs arr (marksOf (fun k => wf (is.getD k 0)) is.length is.length) → Q (.ref D) { s with heap := h', toks := tk }) :
    wpAny (model PySem.Challenge.rw_pg0206_01.row.prog w) (Aw 600) (call (.ref 107) [.ref ra, .ref wa]) Q E s := by
  revert X; k_fill; intro X
  refine' ent (news := []) (binds := [(Str.ofString "row", .ref ra), (Str.ofString "worn", .ref wa)]) X T st ?k1 ?k2 ?k3 ?k4 ?k5 ?k6 ?_ ?k7 ?k8 ?k9 ?k10
  case k1 => intro p hp; cases hp
  case k2 => k_is
  case k3 => k_is
  case k4 => decide
  case k5 => exact kp_binds (Frag.In.keeps X st) (fun _ => rfl)
  case k6 => exact locs rfl
  case k7 => rfl
  case k8 => rfl
  case k9 => rfl
  case k10 => decide
  intro g L h₁ bb1 x1 bb2 z1 F N X T l1 bb3
  try dsimp only at F ⊢

  have hl' : g.IsList ra rw := by
    obtain ⟨o, ho, r⟩ := hl
    exact ⟨o, x1 _ _ ho (by first | k_extra "mem" | simp), r⟩
  have hw' : g.IsList wa wn := by
    obtain ⟨o, ho, r⟩ := hw
    exact ⟨o, x1 _ _ ho (by first | k_extra "mem" | simp), r⟩
  have hrz : (rw.size : Int) < 2 ^ 63 := by have := hri.1; (with_reducible exact o333 ‹_› ‹_›)
  k_steps
  refine Stop.mk (wpAny_For ?_)
  k_steps
  rename_i D h2 l3 h3 tk3 F3 N3 q3 h4 tk4 t4 u4 v4 R4 F4 N4 x4
  rw [hri.1] at R4
  refine Stop.mk (pyIter_range R4 (by (with_reducible exact o246 ‹_›)) ?_)
  have hI : D ≠ h4.objs.size := Nat.ne_of_lt (Heap.lt_size (N4 _ (.head _)).1)
  have F5 := F4.push (ritO 0 (is.length : Int) 1)
  have N5 := News.push F4 N4 (ritO 0 (is.length : Int) 1)
  generalize (h4.push (ritO 0 (is.length : Int) 1)) = h5 at F5 N5 ⊢
  generalize h4.objs.size = I at hI N5 ⊢
  clear F4 N4 R4 x4
  refine for_rit (fun k m news => ∃ arr nn, news = [(D, listOf arr nn)] ∧ m "row" = some (.ref ra) ∧ m "worn" = some (.ref wa) ∧ m "marks" = some (.ref D) ∧ RowIs arr (marksOf (fun k => wf (is.getD k 0)) is.length k)) F5 N5 ⟨#[], 0, rfl, rfl, rfl, rfl, rfl, fun k i e => nomatch e⟩ ?_ rfl ?_ ?_
  · rintro k m rest ⟨arr, nn, rfl, _⟩ p hp
    rcases List.mem_cons.mp hp with rfl | hp
    · exact hI
    · cases hp
  · intro k m₁ rest₁ h₁ tk₁ tkx hk F6 N6 hX
    refine ex2 hX ?_
    clear hX
    intro arr nn hX
    refine and5 hX ?_
    clear hX
    intro e0X mr mw mm q1
    subst e0X
    have hkk : ((0 : Int) + (k : Int) * 1) = (k : Int) := by (with_reducible exact o393)
    rw [hkk] at F6
    obtain ⟨t6, g6⟩ := hri.2 k _ (List.getElem?_eq_getElem hk)
    have g7 := hwf _ (List.getElem_mem hk)
    have egd : is.getD k 0 = is[k] := by rw [List.getD_eq_getElem?_getD, List.getElem?_eq_getElem hk]; rfl
    generalize is[k] = ik at g6 g7 egd
    cases hw7 : wf ik with
    | false =>
      rw [hw7] at g7
      k_steps
      refine ForEnd.next F6 N6 ⟨arr, nn, rfl, mr, mw, mm, ?_⟩
      have e1 : half1 (fun k => wf (is.getD k 0)) (k + 1) = half1 (fun k => wf (is.getD k 0)) k := by
        rw [half1_succ, if_neg (by show ¬ wf (is.getD k 0) = true; rw [egd, hw7]; decide)]
      unfold marksOf at q1 ⊢
      rw [e1]
      exact q1
    | true =>
      rw [hw7] at g7
      have e1 : half1 (fun k => wf (is.getD k 0)) (k + 1) = half1 (fun k => wf (is.getD k 0)) k ++ [k] := by
        rw [half1_succ, if_pos (by show wf (is.getD k 0) = true; rw [egd, hw7])]
      unfold marksOf at q1 ⊢
      rw [e1]
      have hAl := half1_len (fun k => wf (is.getD k 0)) k
      have hAm : ∀ a ∈ half1 (fun k => wf (is.getD k 0)) k, a < k := fun a h => half1_lt h
      generalize half1 (fun k => wf (is.getD k 0)) k = P at q1 hAl hAm ⊢
      have hBm : ∀ b ∈ P.map (· + is.length), k < b ∧ b < k + is.length := fun b hb => by
        obtain ⟨a, ha, rfl⟩ := List.mem_map.mp hb
        have := hAm a ha
        exact ⟨by show k < a + is.length; (with_reducible exact o212 ‹_›), by show a + is.length < k + is.length; (with_reducible exact o442 ‹_›)⟩
      have hlen : (P ++ P.map (· + is.length)).length = P.length + P.length := by rw [List.length_append, List.length_map]
      have hza : arr.size ≤ sizeLine := by rw [sizeLine_eq, q1.1, hlen]; (with_reducible exact o298 ‹_› ‹_› ‹_›)
      k_steps
      refine Stop.mk ?_
      refine irN (its := arr) (n0 := nn) (news' := fun r => [(I, ritO (0 + ((k + 1 : Nat) : Int) * 1) ((is.length : Int) - ((k + 1 : Nat) : Int)) 1), (D, listOf (arr.toList.take r ++ Value.int (k : Int) tkx :: arr.toList.drop r).toArray (nn + 1))]) X T F6 N6 hza (cmpR_row q1 k tkx) (fun r => ?_) ?_ rfl (Nat.le_of_ble_eq_true rfl) (Nat.le_of_ble_eq_true rfl)
      · exact .tail (by exact hI.symm) (.head (by first | k_extra "mem" | simp))
      intro h7 tk7 r7 x7 F7 N7 q7 c7
      have hr7 : r7 = P.length := cut_place q1.1 c7 (fun a h => Nat.le_of_lt (hAm a h)) (fun b h => (hBm b h).1)
      subst hr7
      have q2 := q1.ins k tkx P.length (by rw [hlen]; (with_reducible exact o128))
      rw [List.take_left' rfl, List.drop_left' rfl] at q2
      dsimp only at N7 ⊢
      generalize (arr.toList.take P.length ++ Value.int (k : Int) tkx :: arr.toList.drop P.length).toArray = arr2 at N7 q2
      have q2l : (P ++ k :: P.map (· + is.length)).length = P.length + P.length + 1 := by rw [List.length_append, List.length_cons, List.length_map]; (with_reducible exact o485)
      have hz2 : arr2.size ≤ sizeLine := by rw [sizeLine_eq, q2.1, q2l]; (with_reducible exact o457 ‹_› ‹_› ‹_›)
      k_steps
      have e8 : ((k : Int) + (rw.size : Int)) = ((k + is.length : Nat) : Int) := by rw [hri.1]; (with_reducible exact o12)
      rw [e8]
      refine Stop.mk ?_
      refine irN (its := arr2) (n0 := nn + 1) (news' := fun r => [(I, ritO (0 + ((k + 1 : Nat) : Int) * 1) ((is.length : Int) - ((k + 1 : Nat) : Int)) 1), (D, listOf (arr2.toList.take r ++ Value.int ((k + is.length : Nat) : Int) (tk7 + 1 + 1) :: arr2.toList.drop r).toArray (nn + 1 + 1))]) X T F7 N7 hz2 (cmpR_row q2 (k + is.length) (tk7 + 1 + 1)) (fun r => ?_) ?_ rfl (Nat.le_of_ble_eq_true rfl) (Nat.le_of_ble_eq_true rfl)
      · exact .tail (by exact hI.symm) (.head (by first | k_extra "mem" | simp))
      intro h9 tk9 r9 x9 F9 N9 q9 c9
      dsimp only at N9 ⊢
      have hr9 : r9 = (P ++ k :: P.map (· + is.length)).length := cut_last q2.1 c9 (fun a h => by
        rcases List.mem_append.mp h with h | h
        · have := hAm a h; (with_reducible exact o44 ‹_›)
        · rcases List.mem_cons.mp h with rfl | h
          · (with_reducible exact o128)
          · have := (hBm a h).2; (with_reducible exact o7 ‹_›))
      subst hr9
      have q3 := q2.ins (k + is.length) (tk7 + 1 + 1) (P ++ k :: P.map (· + is.length)).length (Nat.le_refl _)
      rw [List.take_length, List.drop_length] at q3
      k_steps
      refine ForEnd.next F9 N9 ⟨_, _, rfl, mr, mw, mm, ?_⟩
      rw [show (P ++ [k] ++ (P ++ [k]).map (· + is.length)) = P ++ k :: P.map (· + is.length) ++ [k + is.length] by simp]
      exact q3
  · intro h6 tk6 m6 rest6 F6 N6 hX
    refine ex2 hX ?_
    clear hX
    intro arr nn hX
    refine and5 hX ?_
    clear hX
    intro e0X mr mw mm q1
    subst e0X
    try dsimp only
    k_steps
    refine ret _ _ D nn arr (Ext.of_stays fun b o e => F6.keep b o (x1 b o e (by first | k_extra "mem" | simp))) ?_ (News.get N6 (.head _)) q1
    have := News.fresh N6 (.head _)
    cases q : s.heap.get? D with
    | none => rfl
    | some o => rw [x1 _ _ q (by first | k_extra "mem" | simp)] at this; cases this
end
end
section
theorem lay_Sh_0 : True := by
  w_top off
  k_with_none
  k_with "eval Name" => (k_here; k_dflt (refine' nameE_C ?q9k1 ?_ ?q9k2 ?q9b ?q9c ?q9d; (case q9b => rfl); (case q9c => rfl); (case q9d => decide); (case q9k2 => rfl); (case q9k1 => first | with_reducible assumption | exact CellAt.keep (by with_reducible assumption) (by with_reducible assumption)); k_whole))
  k_with "eval Name" => (k_here; k_dflt (refine' nameE_B ?q9F ?q9X ?q9T ?q9e ?q9v ?q9n ?_ ?q9a ?q9a2 ?q9b ?q9c ?q9d; (case q9b => rfl); (case q9c => rfl); (case q9F => with_reducible assumption); (case q9X => with_reducible assumption); (case q9T => k_asm); (case q9a => rfl); (case q9a2 => rfl); (case q9d => decide); (case q9e => k_is); (case q9v => boot_fast); (case q9n => decide); k_whole))
  k_with "eval Name" => (k_here; k_dflt (refine' nameE_K ?q9F ?q9X ?q9T ?q9e ?_ ?q9a ?q9b ?q9c ?q9d; (case q9b => rfl); (case q9c => rfl); (case q9F => with_reducible assumption); (case q9X => with_reducible assumption); (case q9T => k_asm); (case q9a => rfl); (case q9d => decide); (case q9e => k_is); k_whole))
  k_with "eval Name" => (k_here; k_dflt (refine' nameE_L ?q9k1 ?q9k2 ?_ ?q9a ?q9b ?q9c ?q9d; (case q9c => rfl); (case q9k1 => with_reducible assumption); (case q9k2 => first | exact rfl | assumption); (case q9a => rfl); (case q9b => rfl); (case q9d => decide); k_whole))
  k_with "call builtin:len" => (k_here; (with_reducible show wpAny _ _ (call (Value.builtin "len") [Value.ref _]) _ _ _); k_dflt (refine' len_list ?q9k1 ?q9k2 ?_; (case q9k1 => first | with_reducible assumption | exact Fr.lst (by with_reducible assumption) (by with_reducible assumption) | exact News.isList (by with_reducible assumption) (by k_mem)); (case q9k2 => first | with_reducible assumption | omega); k_whole))
  k_with "subscriptTail" => (k_here; (with_reducible show wpAny _ _ (subscriptTail _ _ (Value.ref _) (Value.int _ _)) _ _ _); k_dflt (refine' item_at ?q9k1 ?q9k2 ?q9k3 ?q9k4 ?_; (case q9k1 => first | with_reducible assumption | exact Fr.lst (by with_reducible assumption) (by with_reducible assumption) | exact News.isList (by with_reducible assumption) (by k_mem)); (case q9k2 => omega); (case q9k3 => omega); (case q9k4 => first | with_reducible assumption | omega); k_whole); intro _ _)
  k_with "compareOp Lt" => (k_here; k_dflt (refine' CmpAt.use ?q9k1 ?q9k2 ?_; (case q9k1 => with_reducible assumption); (case q9k2 => assumption); k_whole))
  k_with "exec While Compare cons nil" => (k_here; refine Stop.to ?_)
  k_with "storeName" => (k_here; k_dflt (refine' stE ?q9F ?q9N ?_ ?q9a ?q9b ?q9c; (case q9b => rfl); (case q9F => with_reducible assumption); (case q9N => with_reducible assumption); (case q9a => rfl); (case q9c => rfl); k_whole); intro h' tk' F' N' q'; (try dsimp only at F' q'); (try dsimp only); revert h' tk' F' N' q'; intro _ _ _ _ _; (try k_sweep))
  k_with "binaryOp FloorDiv int int" => (k_here; refine' div_lit ?q9a ?q9b ?_; (case q9a => decide); (case q9b => decide); k_whole)
  k_with "binaryOp Mod int int" => (k_here; refine' mod_lit ?q9a ?q9b ?_; (case q9a => decide); (case q9b => decide); k_whole)
  k_with "call builtin:max" => (k_here; refine' max3 ?q9a ?q9b ?_ ?q9c; (case q9a => with_reducible assumption); (case q9b => with_reducible assumption); (case q9c => rfl); k_whole; intro h' tk' tk2' F' N' e' q'; (try dsimp only at q'); (try dsimp only); revert h' tk' tk2' F' N' e' q'; intro _ _ _ _ _ _ _; (try k_sweep))
  k_with "call builtin:min" => (k_here; refine' min3 ?q9a ?q9b ?_ ?q9c; (case q9a => with_reducible assumption); (case q9b => with_reducible assumption); (case q9c => rfl); k_whole; intro h' tk' tk2' F' N' e' q'; (try dsimp only at q'); (try dsimp only); revert h' tk' tk2' F' N' e' q'; intro _ _ _ _ _ _ _; (try k_sweep))
  k_with "execs cons" => (k_here; (with_reducible refine execs_seq ?_))
  k_with "execs nil" => (k_here; (with_reducible refine wpAny_execs_nil ?_); (try dsimp only))
  k_with "call ref" => (k_here; refine Stop.to ?_)
  k_with "exec For Name Call cons nil" => (k_here; refine Stop.to ?_)
  k_with "exec Assign cons ListComp cons" => (k_here; refine Stop.to ?_)
  k_with "exec Assign cons ListComp" => (k_here; refine Stop.to ?_)
  k_with "eval ListComp" => (k_here; refine Stop.to ?_)
  k_with "subscriptTail List Slice ref ref" => (k_here; k_dflt (refine kba_turn (value' := PySem.Expr.Name (PySem.Str.ofString "_") ⟨0, 0, 0, 0⟩) (fun _ => rfl) ?_))
  k_with "subscriptTail Name Slice ref ref" => (k_here; k_dflt (refine' kmk_slice ?q9F ?q9N ?q9l ?q9p ?q9q ?_ ?q9s ?q9t ?q9z; (case q9F => with_reducible assumption); (case q9N => with_reducible assumption); (case q9l => first | with_reducible assumption | exact News.isList (by with_reducible assumption) (by k_mem) | exact Fr.lst (by with_reducible assumption) (by with_reducible assumption)); (case q9p => first | exact IsPart.none | exact IsPart.int _ _); (case q9q => first | exact IsPart.none | exact IsPart.int _ _); (case q9s => with_unfolding_all rfl); (case q9t => (intro _; with_unfolding_all rfl)); (case q9z => first | with_reducible assumption | (rw [sizeLine_eq]; simp only [List.size_toArray, List.length_cons, List.length_nil]; omega) | (rw [sizeLine_eq]; omega))); intro D' h' F' N' l1; (try dsimp only); revert D' h' F' N' l1; intro _ _ _ _ _; (try k_sweep))
  k_with "binaryOp Add ref ref" => (k_here; k_dflt (refine' add_arrays ?q9F ?q9N ?q9l ?q9b ?_ ?q9z; (case q9F => with_reducible assumption); (case q9N => with_reducible assumption); (case q9l => first | with_reducible assumption | exact News.isList (by with_reducible assumption) (by k_mem) | exact Fr.lst (by with_reducible assumption) (by with_reducible assumption)); (case q9b => first | with_reducible assumption | exact News.isList (by with_reducible assumption) (by k_mem) | exact Fr.lst (by with_reducible assumption) (by with_reducible assumption)); (case q9z => first | with_reducible assumption | (rw [sizeLine_eq]; omega))); intro h' F' N'; (try dsimp only); revert h' F' N'; intro _ _ _; (try k_sweep))
  k_with "mem" => (first | exact List.Mem.head _ | with_reducible assumption | exact List.not_mem_nil | exact nm1 (by assumption) | exact nm1 (Ne.symm (by assumption)) | exact nm2 (by assumption) (by assumption) | (refine' List.mem_append_left _ ?_; k_extra "mem") | (refine' List.mem_append_right _ ?_; k_extra "mem") | (refine' List.Mem.tail _ ?_; k_extra "mem"))
  trivial
theorem cmp_row {w : World} {arr : Array Value} {is : List Nat} (h : RowIs arr is) (x : Int) (t : Nat) : CmpAt w arr (.int x t) (fun i => decide ((is.getD i 0 : Int) < x)) := by
  intro i v hv A Q E s hq
  have hb : i < is.length := by
    rw [← h.1]
    exact (Array.getElem?_eq_some_iff.mp hv).1
  obtain ⟨u, e⟩ := h.2 i _ (List.getElem?_eq_getElem hb)
  rw [hv] at e
  cases e
  refine lt_int ?_
  have e2 : is.getD i 0 = is[i] := by rw [List.getD_eq_getElem?_getD, List.getElem?_eq_getElem hb]; rfl
  dsimp only at hq
  rw [e2] at hq
  exact hq
theorem blN {w : World} {A : Around} {E : Value → Shared → Prop} {Q : Value → Shared → Prop} {s : Shared} {h₀ : Heap} {L a : Nat} {m : Str → Option Value} {news : List (Addr × Obj)} {mean : ExcName → Option Value} {mg mb : Str → Option Value} {its : Array Value} {x : Value} {p : Nat → Bool}
    (X : (Mine.hd.heap_39 w.params).In h₀) (T : Top tp tlo mean mg mb h₀) (F : Fr h₀ L s.heap m) (N : News h₀ L s.heap news) (hl : s.heap.IsList a its) (hz : (its.size : Int) < 2 ^ 60) (hc : CmpAt w its x p)
    (h : ∀ (h' : Heap) (tk tk' r : Nat), Ext [] s.heap h' → Fr h₀ L h' m → News h₀ L h' news → s.toks ≤ tk' → Cut p its.size r → Q (.int r tk) { s with heap := h', toks := tk' }) (hh : A.handled = none) (hd : A.depth ≤ 900) (hu : A.units ≤ 900) :
    wpAny (model PySem.Challenge.rw_pg0206_01.row.prog w) A (call (.ref 41) [.ref a, x]) Q E s :=
  toksle (lift (bl X T F.keep hl hz hc fun h' tk tk' r x c q => h h' tk tk' r x (Fr.ext F x (by first | k_extra "mem" | simp) (by first | k_extra "mem" | simp)) (News.ext N x (by first | k_extra "mem" | simp)) q c) hh hd hu)
theorem sh {w : World} {base : Heap} {mean : ExcName → Option Value} {mg mb : Str → Option Value} (X : (Mine.hd.heap_39 w.params).In base)
    (T : Top tp tlo mean mg mb base) {s : Shared} (st : base.StaysIn s.heap) {ma lk : Nat} {marr arr : Array Value} {ms : List Nat} {nn k half t1 t2 : Nat} (hm : s.heap.IsList ma marr) (hri : RowIs marr ms) (hz : ms.length ≤ 200)
    (hlk : s.heap.get? lk = some (listOf arr nn)) (hlb : base.get? lk = none) (hml : ma ≠ lk) (hza : arr.size ≤ 1000) {Q E}
    (ret : ∀ (h' : Heap) (tk tk' r1 r2 : Nat), Ext [lk] s.heap h' → h'.get? lk = some (listOf (arr.push (.int (k : Int) t1)) (nn + 1)) → Cut (fun i => decide ((ms.getD i 0 : Int) < (k : Int) + half)) marr.size r1 → Cut (fun i => decide ((ms.getD i 0 : Int) < (k : Int))) marr.size r2 → Q (.int ((r1 : Int) - r2) tk) { s with heap := h', toks := tk' }) :
    wpAny (model PySem.Challenge.rw_pg0206_01.row.prog w) (Aw 700) (call (.ref 114) [.ref ma, .int (k : Int) t1, .int (half : Int) t2, .ref lk]) Q E s := by
  revert X; k_fill; intro X
  refine' ent (news := [(lk, listOf arr nn)]) (binds := [(Str.ofString "marks", .ref ma), (Str.ofString "k", .int (k : Int) t1), (Str.ofString "half", .int (half : Int) t2), (Str.ofString "looks", .ref lk)]) X T st ?k1 ?k2 ?k3 ?k4 ?k5 ?k6 ?_ ?k7 ?k8 ?k9 ?k10
  case k1 => intro p hp; cases hp with | head => exact ⟨hlk, hlb⟩ | tail _ h => cases h
  case k2 => k_is
  case k3 => k_is
  case k4 => decide
  case k5 => exact kp_binds (Frag.In.keeps X st) (fun _ => rfl)
  case k6 => exact locs rfl
  case k7 => rfl
  case k8 => rfl
  case k9 => rfl
  case k10 => decide
  intro g L h₁ bb1 x1 bb2 z1 F N X T l1 bb3
  try dsimp only at F ⊢

  have x1' : Ext [lk] s.heap g := x1
  have hm' : g.IsList ma marr := by
    obtain ⟨o, ho, r⟩ := hm
    exact ⟨o, x1' _ _ ho (by first | k_extra "mem" | simpa using hml), r⟩
  have hzr : (marr.size : Int) < 2 ^ 60 := by have := hri.1; (with_reducible exact o54 ‹_› ‹_›)
  have hzl : arr.size ≤ sizeLine := by rw [sizeLine_eq]; (with_reducible exact o150 ‹_›)
  k_steps
  rename_i h3 F3 N3
  refine Stop.mk ?_
  refine blN X T F3 N3 (Fr.lst F3 hm') hzr (cmp_row hri _ _) ?_ rfl (Nat.le_of_ble_eq_true rfl) (Nat.le_of_ble_eq_true rfl)
  intro h4 tk4 tk5 r4 x4 F4 N4 q4 c4
  try dsimp only
  k_steps
  refine Stop.mk ?_
  refine blN X T F4 N4 (Fr.lst F4 hm') hzr (cmp_row hri _ _) ?_ rfl (Nat.le_of_ble_eq_true rfl) (Nat.le_of_ble_eq_true rfl)
  intro h6 tk6 tk7 r6 x6 F6 N6 q6 c6
  try dsimp only
  k_steps
  exact ret _ _ _ _ _ (ext_back x1' F6) (N6.get (.head _)) c4 c6
end
theorem nameE_F {M : Model} {A : Around} {E : Value → Shared → Prop} {s : Shared} {env : Env} {x : Str} {pos : Pos} {v : Value} {c : Addr} {Q : Value → Shared → Prop} (hm : CellAt s.heap c v) (h : Q v s) (hc : env.cells.lookup x = some c) (hk : env.scope.kind = .function := by rfl) (hx : env.kindOf x = some .free := by rfl)
    (hb : (x == ("__debug__" : Str)) = false := by decide) (hn : (x == ("__classdict__" : Str)) = false := by decide) :
    wpAny M A (eval (.Name x pos) env) Q E s := wpAny_Name (wpAny_loadName_free hk hx hc hm h hn) hb
/-- a call of a lambda: entered raw -/
theorem entL {w : World} {A : Around} {s : Shared} {base : Heap} {news : List (Addr × Obj)} {mean : ExcName → Option Value} {mg mb : Str → Option Value} {K : Frag}
    {name qual : Str} {params : Arguments} {body : PySem.Expr} {scope : Scope} {cl : List (Str × Addr)} {pm ctv : Value} {c' f : Addr} {args : List Value}
    {binds : List (Str × Value)} {Q : Value → Shared → Prop} {E : Value → Shared → Prop}
    (X : K.In base) (T : Top tp tlo mean mg mb base) (st : base.StaysIn s.heap)
    (hn : ∀ p ∈ news, s.heap.get? p.1 = some p.2 ∧ base.get? p.1 = none)
    (ho : s.heap.get? f = some (kla_obj name qual params body scope cl pm c' ctv)) (hcd : s.heap.CodeRec (.ref c') qual) (hroom : A.depth < recursionLimit)
    (hbind : bindArgs (kla_fn name qual params body scope cl pm (.ref c') ctv) ⟨args, []⟩ = pure binds) (hloc : ∀ y ∈ binds, scope.names.lookup y.1 = some .local)
    (h : ∀ g L' h₁, base.StaysIn g → Ext (news.map (·.1)) s.heap g → g.StaysIn s.heap → (∀ p ∈ news, g.get? p.1 = none) → Fr g L' h₁ (fun y => binds.reverse.lookup y) → News g L' h₁ news → K.In g → Top tp tlo mean mg mb g →
      s.heap.get? L' = none → s.heap.StaysIn h₁ →
      wpAny (model PySem.Challenge.rw_pg0206_01.row.prog w) (A.deeper (envX qual scope L' f (.ref c') cl)) (eval body (envX qual scope L' f (.ref c') cl))
        (fun v s' => Q v s') (fun _ _ => False) { s with heap := h₁, toks := s.toks + binds.length })
    (hco : scope.isCoroutine = false := by rfl) (hgen : scope.isGenerator = false := by rfl) (hk : scope.kind = .function := by rfl)
    (hcell : ∀ x ∈ scope.names, x.2 ≠ .cell := by decide) : wpAny (model PySem.Challenge.rw_pg0206_01.row.prog w) A (call (.ref f) args) Q E s := by
  have g1 : base.StaysIn (hideAll s.heap (news.map (·.1))) := fun b o e => hideAll_get _ (st b o e) fun q => by
    obtain ⟨p, hp, rfl⟩ := List.mem_map.mp q
    rw [(hn p hp).2] at e; cases e
  have sf : s.heap.get? s.heap.objs.size = none := by
    cases q : s.heap.get? s.heap.objs.size with
    | none => rfl
    | some o => exact absurd (Heap.lt_size q) (Nat.lt_irrefl _)
  refine wpAny_call ?_
  refine kla_callFunE hroom ho rfl hco hgen rfl hcd ?_
  rw [hbind]
  refine wpAny_pure (wpAny_newFunctionEnv hcell hloc (fun h₁ hns hsb => ⟨((T.nolimit).keeps st).fresh _ hsb, ?_⟩) hk)
  show codeAny _ _ (.expr body (envX qual scope s.heap.objs.size f (.ref c') cl)) _ _
  have hk₁ : ∀ b o, s.heap.get? b = some o → h₁.get? b = some o := fun b o e => hsb.extBut b o (Nat.ne_of_lt (Heap.lt_size e)) (Heap.get?_push_of_some _ e)
  exact kla_codeExpr (wpAny_mono (h (hideAll s.heap (news.map (·.1))) s.heap.objs.size h₁ g1 (fun b o e n => hideAll_get _ e n) (fun b o e => of_hideAll _ e) (fun p hp => hideAll_none _ (List.mem_map_of_mem hp))
    ⟨hns, fun b o e => hk₁ b o (of_hideAll _ e), Nat.le_of_eq (hideAll_size _ _)⟩
    (fun p hp => ⟨hk₁ _ _ (hn p hp).1, Nat.ne_of_lt (Heap.lt_size (hn p hp).1), hideAll_none _ (List.mem_map_of_mem hp)⟩) (X.keeps fun b o e => g1 b o e) (T.keeps fun b o e => g1 b o e) sf (fun b o e => hk₁ b o e)) (fun v s' q => q) fun _ _ y => y.elim)
theorem getD_take {ms : List Nat} {r i : Nat} (h : i < r) : (ms.take r).getD i 0 = ms.getD i 0 := by
  rw [List.getD_eq_getElem?_getD, List.getD_eq_getElem?_getD, List.getElem?_take_of_lt h]
/-- how many of the row are smaller than x -/
noncomputable def below (ms : List Nat) (x : Int) : Nat := ms.countP fun m : Nat => decide ((m : Int) < x)
theorem mem_le_get {ms : List Nat} (hs : ms.Pairwise (· ≤ ·)) {i j : Nat} (hij : i ≤ j) (hj : j < ms.length) : ms.getD i 0 ≤ ms.getD j 0 := by
  rw [List.getD_eq_getElem?_getD, List.getD_eq_getElem?_getD, List.getElem?_eq_getElem hj, List.getElem?_eq_getElem (Nat.lt_of_le_of_lt hij hj)]
  rcases Nat.lt_or_ge i j with q | q
  · exact List.pairwise_iff_getElem.mp hs i j _ hj q
  · obtain rfl : i = j := by (with_reducible exact o66 ‹_› ‹_›)
    exact Nat.le_refl _
theorem cut_count {ms : List Nat} (hs : ms.Pairwise (· ≤ ·)) {x : Int} {r : Nat} (h : Cut (fun i => decide ((ms.getD i 0 : Int) < x)) ms.length r) : r = below ms x := by
  obtain ⟨h1, h2, h3⟩ := h
  have e : below ms x = below (ms.take r) x + below (ms.drop r) x := by unfold below; rw [← List.countP_append, List.take_append_drop]
  have a1 : below (ms.take r) x = r := by
    unfold below
    have : (ms.take r).countP (fun m : Nat => decide ((m : Int) < x)) = (ms.take r).length := by
      rw [List.countP_eq_length]
      intro m hm
      obtain ⟨i, hi, rfl⟩ := List.mem_iff_getElem.mp hm
      rw [List.length_take] at hi
      rcases h2 with h2 | h2
      · (with_reducible exact (o505 ‹_› ‹_›).elim)
      · simp only [decide_eq_true_eq] at h2 ⊢
        have := mem_le_get hs (show i ≤ r - 1 by (with_reducible exact o316 ‹_›)) (show r - 1 < ms.length by (with_reducible exact o411 ‹_› ‹_›))
        have e2 : (ms.take r)[i]'(by rw [List.length_take]; exact hi) = ms.getD i 0 := by
          rw [List.getElem_take, List.getD_eq_getElem?_getD, List.getElem?_eq_getElem (by (with_reducible exact o348 ‹_›))]; rfl
        rw [e2]
        (with_reducible exact o187 ‹_› ‹_›)
    rw [this, List.length_take]
    (with_reducible exact o428 ‹_›)
  have a2 : below (ms.drop r) x = 0 := by
    unfold below
    rw [List.countP_eq_zero]
    intro m hm
    obtain ⟨i, hi, rfl⟩ := List.mem_iff_getElem.mp hm
    rw [List.length_drop] at hi
    rcases h3 with h3 | h3
    · (with_reducible exact (o87 ‹_› ‹_›).elim)
    · simp only [decide_eq_true_eq, decide_eq_false_iff_not] at h3 ⊢
      have := mem_le_get hs (show r ≤ r + i by (with_reducible exact o128)) (show r + i < ms.length by (with_reducible exact o122 ‹_›))
      have e2 : (ms.drop r)[i]'(by rw [List.length_drop]; exact hi) = ms.getD (r + i) 0 := by
        rw [List.getElem_drop, List.getD_eq_getElem?_getD, List.getElem?_eq_getElem (by (with_reducible exact o122 ‹_›))]; rfl
      rw [e2]
      omega
  (with_reducible exact o355 ‹_› ‹_› ‹_›)
/-- how many of the row lie in half from k on -/
noncomputable def shareOf (ms : List Nat) (half k : Nat) : Int := (below ms ((k : Int) + half) : Int) - below ms (k : Int)
theorem shN {w : World} {A : Around} {E : Value → Shared → Prop} {Q : Value → Shared → Prop} {s : Shared} {h₀ : Heap} {L : Nat} {m : Str → Option Value} {news news' : List (Addr × Obj)} {mean : ExcName → Option Value} {mg mb : Str → Option Value} {ma lk : Nat} {marr arr : Array Value} {ms : List Nat} {nn k half t1 t2 : Nat}
    (X : (Mine.hd.heap_39 w.params).In h₀) (T : Top tp tlo mean mg mb h₀) (F : Fr h₀ L s.heap m) (N : News h₀ L s.heap news) (hm : s.heap.IsList ma marr) (hri : RowIs marr ms) (hs : ms.Pairwise (· ≤ ·)) (hz : ms.length ≤ 200) (hml : ma ≠ lk) (hza : arr.size ≤ 1000)
    (U : Upd lk (listOf arr nn) (listOf (arr.push (.int (k : Int) t1)) (nn + 1)) news news')
    (h : ∀ (h' : Heap) (tk tk' : Nat), Ext [lk] s.heap h' → h'.get? lk = some (listOf (arr.push (.int (k : Int) t1)) (nn + 1)) → Fr h₀ L h' m → News h₀ L h' news' → Q (.int (shareOf ms half k) tk) { s with heap := h', toks := tk' }) (hh : A.handled = none) (hd : A.depth ≤ 700) (hu : A.units ≤ 700) :
    wpAny (model PySem.Challenge.rw_pg0206_01.row.prog w) A (call (.ref 114) [.ref ma, .int (k : Int) t1, .int (half : Int) t2, .ref lk]) Q E s := by
  refine lift (sh X T F.keep hm hri hz (N.get (upd_mem U)) (N.fresh (upd_mem U)) hml hza fun h' tk tk' r1 r2 x g q1 q2 => ?_) hh hd hu
  rw [hri.1] at q1 q2
  have e1 := cut_count hs q1
  have e2 := cut_count hs q2
  subst e1; subst e2
  obtain ⟨F', N'⟩ := back_upd F N U x g
  exact h h' tk tk' x g F' N'
noncomputable abbrev lamQ : Str := Str.ofString "_law_place.<locals>.<lambda>"
/-- the code of a lambda at pos, once made -/
noncomputable def LamIn (xs : List (Addr × Obj)) (ps : Array Value) (pos : Pos) : Prop :=
  codeAmong pos ps.toList = none ∨ ∃ c' oc vs t, codeAmong pos ps.toList = some (.ref c') ∧ (c', oc) ∈ xs ∧ oc.data = .fields vs ∧ vs[1]? = some (.str lamQ t)
noncomputable def TabOk (xs : List (Addr × Obj)) (ps : Array Value) : Prop :=
  TriplesOk ps.toList ∧ ∀ pos : Pos, LamIn xs ps pos
theorem TabOk.empty : TabOk [] #[] := ⟨trivial, fun _ => .inl rfl⟩
theorem ca_nil {pos : Pos} : codeAmong pos [] = none := rfl
theorem ca_int {pos : Pos} {a b : Int} {t u : Nat} {x : Value} {rest : List Value} : codeAmong pos (.int a t :: .int b u :: x :: rest) = if (a == pos.line && b == pos.col) = true then some x else codeAmong pos rest := rfl
theorem codeAmong_other {pos pos' : Pos} {c : Value} (l : List Value) (h : TriplesOk l) (hne : ¬ (pos.line = pos'.line ∧ pos.col = pos'.col)) : codeAmong pos' (l ++ [rawInt pos.line, rawInt pos.col, c]) = codeAmong pos' l := by
  fun_induction TriplesOk l with
  | case1 =>
    rw [List.nil_append, rawInt, rawInt, ca_int, ca_nil, if_neg]
    intro q
    rw [Bool.and_eq_true, beq_iff_eq, beq_iff_eq] at q
    exact hne ⟨Int.ofNat_inj.mp q.1, Int.ofNat_inj.mp q.2⟩
  | case2 a t b u x rest ih =>
    rw [List.cons_append, List.cons_append, List.cons_append, ca_int, ca_int, ih h]
  | case3 l h1 h2 => exact h.elim
theorem codeAmong_same {pos pos' : Pos} (l : List Value) (h : TriplesOk l) (h1 : pos.line = pos'.line) (h2 : pos.col = pos'.col) : codeAmong pos' l = codeAmong pos l := by
  fun_induction TriplesOk l with
  | case1 => rfl
  | case2 a t b u x rest ih => rw [ca_int, ca_int, h1, h2, ih h]
  | case3 l h1 h2 => exact h.elim
theorem TabOk.add {xs : List (Addr × Obj)} {ps : Array Value} {pos : Pos} {c' : Addr} {oc : Obj} {vs : Array Value} {t : Tok} (h : TabOk xs ps) (hn : codeAmong pos ps.toList = none) (hd : oc.data = .fields vs) (hv : vs[1]? = some (.str lamQ t)) :
    TabOk ((c', oc) :: xs) (ps ++ #[rawInt pos.line, rawInt pos.col, .ref c']) := by
  have e : (ps ++ #[rawInt pos.line, rawInt pos.col, .ref c']).toList = ps.toList ++ [rawInt pos.line, rawInt pos.col, .ref c'] := by simp
  refine ⟨by rw [e]; exact TriplesOk_snoc _ _ _ _ h.1, fun pos' => ?_⟩
  unfold LamIn
  rw [e]
  by_cases hp : pos.line = pos'.line ∧ pos.col = pos'.col
  · refine .inr ⟨c', oc, vs, t, ?_, .head _, hd, hv⟩
    rw [codeAmong_same _ (TriplesOk_snoc _ _ _ _ h.1) hp.1 hp.2]
    exact codeAmong_snoc _ h.1 hn
  · rw [codeAmong_other _ h.1 hp]
    rcases h.2 pos' with q | ⟨c2, o2, v2, t2, q1, q2, q3, q4⟩
    · exact .inl q
    · exact .inr ⟨c2, o2, v2, t2, q1, .tail _ q2, q3, q4⟩
theorem lamMake {M : Model} {A : Around} {E : Value → Shared → Prop} {s : Shared} {h₀ : Heap} {L a : Addr} {m mg mb : Str → Option Value} {cn : Str} {cs : Scope} {cl : List (Str × Addr)} {news : List (Addr × Obj)} {g : Obj → List (Addr × Obj)}
    {p : Program} {loose : List Str} {mean : ExcName → Option Value} {qual : Str} {params : Arguments} {body : PySem.Expr} {scope : Scope} {ps : Array Value} {pos : Pos} {firstLine : Nat} {clos : List (Str × Addr)} {xs : List (Addr × Obj)} {Q : Value → Shared → Prop}
    (F : Fr h₀ L s.heap m) (N : News h₀ L s.heap news) (T : Top p loose mean mg mb h₀) (C : CodeHd h₀ 120 116) (U : UpdF 116 (tabObj ps) news g) (ht : TabOk xs ps) (hx : ∀ p ∈ xs, h₀.get? p.1 = some p.2) (hq : qual = lamQ)
    (hcl : closureFor scope (envX cn cs L a (.ref 120) cl) = pure clos)
    (h : ∀ f c' ctv h' tk ps' ex, Fr h₀ L h' m → News h₀ L h' ((f, kla_obj "<lambda>" qual params body scope clos ((mg "__name__").getD .none) c' ctv) :: (ex ++ g (tabObj ps'))) → h'.CodeRec (.ref c') qual → TabOk (ex ++ xs) ps' → (∀ q ∈ news, q.1 < f) → (∀ p ∈ ex, ∀ q ∈ news, q.1 < p.1) → Q (.ref f) { s with heap := h', toks := tk }) :
    wpAny M A (makeFunction "<lambda>" qual params (.expr body) scope (envX cn cs L a (.ref 120) cl) [] [] [] pos firstLine) Q E s := by
  subst hq
  rcases ht.2 pos with q | ⟨c', oc, vs, t, q1, q2, q3, q4⟩
  · refine kla_nest F N T C rfl U ht.1 q hcl fun f c' oc vs t ctv h' tk F' N' d1 d2 l1 l2 => ?_
    exact h f c' ctv h' tk _ [(c', oc)] F' N' (codeRec_news N' (.tail _ (.head _)) d1 d2) (ht.add q d1 d2) (fun q hq => Nat.lt_trans (l1 q hq) l2) (fun p hp q hq => by rcases List.mem_cons.mp hp with rfl | hp; exact l1 q hq; cases hp)
  · have hU : g (tabObj ps) = news := by
      obtain ⟨own, rest, e1, e2, _, _⟩ := U.split
      rw [e2, e1]
    have hm : (116, tabObj ps) ∈ news := by
      obtain ⟨own, rest, e1, e2, _, _⟩ := U.split
      rw [e1]
      exact List.mem_append_right _ (.head _)
    refine kla_hit F N T C rfl hm ht.1 q1 hcl fun f ctv h' tk F' N' l1 => ?_
    exact h f c' ctv h' tk ps [] F' (by rw [List.nil_append, hU]; exact N') ⟨c', oc, vs, t, rfl, F'.keep _ _ (hx _ q2), q3, q4⟩ ht l1 (fun p hp => nomatch hp)
theorem codeRec_ne {h : Heap} {lk : Addr} {arr : Array Value} {nn : Nat} {c' : Addr} {q : Str} (h1 : h.CodeRec (.ref c') q) (h2 : h.get? lk = some (listOf arr nn)) {h' : Heap} (x : Ext [lk] h h') : h'.CodeRec (.ref c') q := by
  obtain ⟨c, o, vs, t, e, g, d, r⟩ := h1
  refine ⟨c, o, vs, t, e, x _ _ g (fun hm => ?_), d, r⟩
  rcases List.mem_singleton.mp hm with rfl
  rw [h2] at g
  cases g
  cases d
theorem cellExt {W : List Addr} {h h' : Heap} {c : Addr} {v : Value} (k : CellAt h c v) (x : Ext W h h') (hc : c ∉ W) : CellAt h' c v := let ⟨o, ho, hd⟩ := k; ⟨o, x _ _ ho hc, hd⟩
section
theorem lay_Pl_0 : True := by
  w_top off
  k_with_none
  k_with "eval Name" => (k_here; k_dflt (refine' nameE_C ?q9k1 ?_ ?q9k2 ?q9b ?q9c ?q9d; (case q9b => rfl); (case q9c => rfl); (case q9d => decide); (case q9k2 => rfl); (case q9k1 => first | with_reducible assumption | exact CellAt.keep (by with_reducible assumption) (by with_reducible assumption)); k_whole))
  k_with "eval Name" => (k_here; k_dflt (refine' nameE_B ?q9F ?q9X ?q9T ?q9e ?q9v ?q9n ?_ ?q9a ?q9a2 ?q9b ?q9c ?q9d; (case q9b => rfl); (case q9c => rfl); (case q9F => with_reducible assumption); (case q9X => with_reducible assumption); (case q9T => k_asm); (case q9a => rfl); (case q9a2 => rfl); (case q9d => decide); (case q9e => k_is); (case q9v => boot_fast); (case q9n => decide); k_whole))
  k_with "eval Name" => (k_here; k_dflt (refine' nameE_K ?q9F ?q9X ?q9T ?q9e ?_ ?q9a ?q9b ?q9c ?q9d; (case q9b => rfl); (case q9c => rfl); (case q9F => with_reducible assumption); (case q9X => with_reducible assumption); (case q9T => k_asm); (case q9a => rfl); (case q9d => decide); (case q9e => k_is); k_whole))
  k_with "eval Name" => (k_here; k_dflt (refine' nameE_L ?q9k1 ?q9k2 ?_ ?q9a ?q9b ?q9c ?q9d; (case q9c => rfl); (case q9k1 => with_reducible assumption); (case q9k2 => first | exact rfl | assumption); (case q9a => rfl); (case q9b => rfl); (case q9d => decide); k_whole))
  k_with "call builtin:len" => (k_here; (with_reducible show wpAny _ _ (call (Value.builtin "len") [Value.ref _]) _ _ _); k_dflt (refine' len_list ?q9k1 ?q9k2 ?_; (case q9k1 => first | with_reducible assumption | exact Fr.lst (by with_reducible assumption) (by with_reducible assumption) | exact News.isList (by with_reducible assumption) (by k_mem)); (case q9k2 => first | with_reducible assumption | omega); k_whole))
  k_with "subscriptTail" => (k_here; (with_reducible show wpAny _ _ (subscriptTail _ _ (Value.ref _) (Value.int _ _)) _ _ _); k_dflt (refine' item_at ?q9k1 ?q9k2 ?q9k3 ?q9k4 ?_; (case q9k1 => first | with_reducible assumption | exact Fr.lst (by with_reducible assumption) (by with_reducible assumption) | exact News.isList (by with_reducible assumption) (by k_mem)); (case q9k2 => omega); (case q9k3 => omega); (case q9k4 => first | with_reducible assumption | omega); k_whole); intro _ _)
  k_with "compareOp Lt" => (k_here; k_dflt (refine' CmpAt.use ?q9k1 ?q9k2 ?_; (case q9k1 => with_reducible assumption); (case q9k2 => assumption); k_whole))
  k_with "exec While Compare cons nil" => (k_here; refine Stop.to ?_)
  k_with "storeName" => (k_here; k_dflt (refine' stE ?q9F ?q9N ?_ ?q9a ?q9b ?q9c; (case q9b => rfl); (case q9F => with_reducible assumption); (case q9N => with_reducible assumption); (case q9a => rfl); (case q9c => rfl); k_whole); intro h' tk' F' N' q'; (try dsimp only at F' q'); (try dsimp only); revert h' tk' F' N' q'; intro _ _ _ _ _; (try k_sweep))
  k_with "binaryOp FloorDiv int int" => (k_here; refine' div_lit ?q9a ?q9b ?_; (case q9a => decide); (case q9b => decide); k_whole)
  k_with "binaryOp Mod int int" => (k_here; refine' mod_lit ?q9a ?q9b ?_; (case q9a => decide); (case q9b => decide); k_whole)
  k_with "call builtin:max" => (k_here; refine' max3 ?q9a ?q9b ?_ ?q9c; (case q9a => with_reducible assumption); (case q9b => with_reducible assumption); (case q9c => rfl); k_whole; intro h' tk' tk2' F' N' e' q'; (try dsimp only at q'); (try dsimp only); revert h' tk' tk2' F' N' e' q'; intro _ _ _ _ _ _ _; (try k_sweep))
  k_with "call builtin:min" => (k_here; refine' min3 ?q9a ?q9b ?_ ?q9c; (case q9a => with_reducible assumption); (case q9b => with_reducible assumption); (case q9c => rfl); k_whole; intro h' tk' tk2' F' N' e' q'; (try dsimp only at q'); (try dsimp only); revert h' tk' tk2' F' N' e' q'; intro _ _ _ _ _ _ _; (try k_sweep))
  k_with "execs cons" => (k_here; (with_reducible refine execs_seq ?_))
  k_with "execs nil" => (k_here; (with_reducible refine wpAny_execs_nil ?_); (try dsimp only))
  k_with "call ref" => (k_here; refine Stop.to ?_)
  k_with "exec For Name Call cons nil" => (k_here; refine Stop.to ?_)
  k_with "exec Assign cons ListComp cons" => (k_here; refine Stop.to ?_)
  k_with "exec Assign cons ListComp" => (k_here; refine Stop.to ?_)
  k_with "eval ListComp" => (k_here; refine Stop.to ?_)
  k_with "subscriptTail List Slice ref ref" => (k_here; k_dflt (refine kba_turn (value' := PySem.Expr.Name (PySem.Str.ofString "_") ⟨0, 0, 0, 0⟩) (fun _ => rfl) ?_))
  k_with "subscriptTail Name Slice ref ref" => (k_here; k_dflt (refine' kmk_slice ?q9F ?q9N ?q9l ?q9p ?q9q ?_ ?q9s ?q9t ?q9z; (case q9F => with_reducible assumption); (case q9N => with_reducible assumption); (case q9l => first | with_reducible assumption | exact News.isList (by with_reducible assumption) (by k_mem) | exact Fr.lst (by with_reducible assumption) (by with_reducible assumption)); (case q9p => first | exact IsPart.none | exact IsPart.int _ _); (case q9q => first | exact IsPart.none | exact IsPart.int _ _); (case q9s => with_unfolding_all rfl); (case q9t => (intro _; with_unfolding_all rfl)); (case q9z => first | with_reducible assumption | (rw [sizeLine_eq]; simp only [List.size_toArray, List.length_cons, List.length_nil]; omega) | (rw [sizeLine_eq]; omega))); intro D' h' F' N' l1; (try dsimp only); revert D' h' F' N' l1; intro _ _ _ _ _; (try k_sweep))
  k_with "binaryOp Add ref ref" => (k_here; k_dflt (refine' add_arrays ?q9F ?q9N ?q9l ?q9b ?_ ?q9z; (case q9F => with_reducible assumption); (case q9N => with_reducible assumption); (case q9l => first | with_reducible assumption | exact News.isList (by with_reducible assumption) (by k_mem) | exact Fr.lst (by with_reducible assumption) (by with_reducible assumption)); (case q9b => first | with_reducible assumption | exact News.isList (by with_reducible assumption) (by k_mem) | exact Fr.lst (by with_reducible assumption) (by with_reducible assumption)); (case q9z => first | with_reducible assumption | (rw [sizeLine_eq]; omega))); intro h' F' N'; (try dsimp only); revert h' F' N'; intro _ _ _; (try k_sweep))
  k_with "mem" => (first | exact List.Mem.head _ | with_reducible assumption | exact List.not_mem_nil | exact nm1 (by assumption) | exact nm1 (Ne.symm (by assumption)) | exact nm2 (by assumption) (by assumption) | (refine' List.mem_append_left _ ?_; k_extra "mem") | (refine' List.mem_append_right _ ?_; k_extra "mem") | (refine' List.Mem.tail _ ?_; k_extra "mem"))
  trivial
noncomputable def codeHdIn (K : Frag) (c P : Addr) : Bool := match K.lookup c with
  | some ⟨.type n, _, .fields vs, _⟩ => n == "code" && (match (vs[11]? : Option Value) with | some (.ref q) => q == P | _ => false) && (match vs.getD 18 .none with | .str _ _ => true | _ => false) &&
      (match vs.getD 7 .none with | .int _ _ => true | _ => false) && (match vs.getD 9 .none with | .bool _ => true | _ => false) && (match vs.getD 10 .none with | .int _ _ => true | _ => false) && c != P
  | _ => false
theorem codeHd_of {K : Frag} {c P : Addr} {h : Heap} (X : K.In h) (e : codeHdIn K c P = true) : CodeHd h c P := by
  unfold codeHdIn at e
  split at e
  · rename_i n od vs osl q
    simp only [Bool.and_eq_true, bne_iff_ne, ne_eq, beq_iff_eq] at e
    obtain ⟨⟨⟨⟨⟨⟨e1, e2⟩, e3⟩, e4⟩, e5⟩, e6⟩, e7⟩ := e
    split at e2 <;> try cases e2
    rename_i q2 hq2
    split at e3 <;> try cases e3
    rename_i f1 f2 hq3
    split at e4 <;> try cases e4
    rename_i g1 g2 hq4
    split at e5 <;> try cases e5
    rename_i b1 hq5
    split at e6 <;> try cases e6
    rename_i i1 i2 hq6
    have e2' := eq_of_beq e2
    subst e2'
    exact ⟨_, vs, f1, f2, g1, g2, b1, i1, i2, X c _ q, by rw [e1], rfl, hq2, by rw [Array.getD_eq_getD_getElem?, hq2]; rfl, hq3, hq4, hq5, hq6, e7⟩
  · cases e
theorem codeHd120 {w : World} {base : Heap} (X : (Mine.hd.heap_39 w.params).In base) : CodeHd base 120 116 := codeHd_of X (by kernel_rfl)
/-- what _law_place gives -/
noncomputable def PlaceIs (ms : List Nat) (half r : Nat) : Prop :=
  (below ms (half : Int) ≤ ms.length / 4 → Cut (fun i => decide (shareOf ms half i < ((ms.length / 4 : Nat) : Int))) half r) ∧
  (¬ below ms (half : Int) ≤ ms.length / 4 → Cut (fun i => decide (-shareOf ms half i < -((ms.length / 2 - ms.length / 4 : Nat) : Int))) half r)
section
theorem lay_Pl_1 : True := by
  k_with "eval Lambda" => (k_here; refine Stop.to ?_)
  k_with "eval Name" => (k_here; k_dflt (refine' nameE_F ?q9k1 ?_ ?q9k2 ?q9b ?q9c ?q9d ?q9e; (case q9b => rfl); (case q9c => rfl); (case q9d => decide); (case q9e => decide); (case q9k2 => rfl); (case q9k1 => first | with_reducible assumption | exact CellAt.keep (by with_reducible assumption) (by with_reducible assumption)); k_whole))
  trivial
theorem pl {w : World} {base : Heap} {mean : ExcName → Option Value} {mg mb : Str → Option Value} (X : (Mine.hd.heap_39 w.params).In base)
    (T : Top tp tlo mean mg mb base) {s : Shared} (st : base.StaysIn s.heap) {ma lk : Nat} {marr arr ps : Array Value} {ms : List Nat} {n0 half th : Nat} {xs : List (Addr × Obj)} (hm : s.heap.IsList ma marr) (hri : RowIs marr ms) (hsm : ms.Pairwise (· ≤ ·)) (hz : ms.length ≤ 200) (hh : half ≤ 32)
    (hlk : s.heap.get? lk = some (listOf arr n0)) (hlb : base.get? lk = none) (hml : ma ≠ lk) (ha0 : arr.size = 0) (hta : s.heap.get? 116 = some (tabObj ps)) (htb : base.get? 116 = none) (hma : ma ≠ 116) (hl1 : lk ≠ 116)
    (htab : TabOk xs ps) (hxs : ∀ p ∈ xs, s.heap.get? p.1 = some p.2 ∧ p.1 ≠ 116 ∧ p.1 ≠ lk) {Q E}
    (ret : ∀ (h' : Heap) (tk tk' r nn : Nat) (arr' ps' : Array Value) (ex : List (Addr × Obj)), Ext [116, lk] s.heap h' → h'.get? lk = some (listOf arr' nn) → h'.get? 116 = some (tabObj ps') → TabOk (ex ++ xs) ps' → (∀ p ∈ ex, h'.get? p.1 = some p.2 ∧ s.heap.get? p.1 = none) →
      (arr'.size = 0 ∧ half = 0 ∨ 0 < arr'.size ∧ 2 ^ (arr'.size - 1) ≤ half) → PlaceIs ms half r → Q (.int r tk) { s with heap := h', toks := tk' }) :
    wpAny (model PySem.Challenge.rw_pg0206_01.row.prog w) (Aw 450) (call (.ref 121) [.ref ma, .int (half : Int) th, .ref lk]) Q E s := by
  have C0 := codeHd120 X
  revert X; k_fill; intro X
  refine' entC (news := [(116, tabObj ps), (lk, listOf arr n0)]) (binds := [(Str.ofString "marks", .ref ma), (Str.ofString "half", .int (half : Int) th), (Str.ofString "looks", .ref lk)]) X T st ?k1 ?k2 ?k3 ?k4 ?k5 ?k6 ?k6b ?_ ?k7 ?k8 ?k9
  case k1 => intro p hp; cases hp with | head => exact ⟨hta, htb⟩ | tail _ h => cases h with | head => exact ⟨hlk, hlb⟩ | tail _ h => cases h
  case k2 => k_is
  case k3 => k_is
  case k4 => decide
  case k5 => exact kp_binds (Frag.In.keeps X st) (fun _ => rfl)
  case k6 => rfl
  case k6b => decide +kernel
  case k7 => rfl
  case k8 => rfl
  case k9 => rfl
  intro g L h₁ tk cells bb1 x1 bb2 z1 F N Y X T l1 bb3 cf htk
  obtain ⟨o1, o2, o3, he, d1, d2, d3⟩ := CellsAre.three Y
  subst he
  try dsimp only at F N d1 ⊢
  try simp only [List.cons_append, List.nil_append] at N
  have C1 : CodeHd g 120 116 := C0.keeps bb1
  have x1' : Ext [116, lk] s.heap g := x1
  have hm' : g.IsList ma marr := by
    obtain ⟨o, ho, r⟩ := hm
    exact ⟨o, x1' _ _ ho (by simp [hma, hml]), r⟩
  have hxg : ∀ p ∈ xs, g.get? p.1 = some p.2 := fun p hp => x1' _ _ (hxs p hp).1 (by simp [(hxs p hp).2.1, (hxs p hp).2.2])
  have hzr : (marr.size : Int) < 2 ^ 60 := by have := hri.1; (with_reducible exact o54 ‹_› ‹_›)
  have hzr2 : (marr.size : Int) < 2 ^ 63 := by have := hri.1; (with_reducible exact o63 ‹_› ‹_›)
  have c1 : CellAt h₁ (L + 1) (.ref ma) := CellAt.news N (.tail _ (.tail _ (.head _))) d3
  have c2 : CellAt h₁ (L + 1 + 1) (.int (half : Int) th) := CellAt.news N (.tail _ (.head _)) d2
  have c3 : CellAt h₁ (L + 1 + 1 + 1) (.ref lk) := CellAt.news N (.head _) d1
  have l116 : ∀ p ∈ [(L + 1 + 1 + 1, o1), (L + 1 + 1, o2), (L + 1, o3)], p.1 ≠ 116 := fun p hp e => by
    have := cf p hp
    rw [e, hta] at this
    cases this
  have l116a : L + 1 + 1 + 1 ≠ 116 := l116 _ (.head _)
  have l116b : L + 1 + 1 ≠ 116 := l116 _ (.tail _ (.head _))
  have l116c : L + 1 ≠ 116 := l116 _ (.tail _ (.tail _ (.head _)))
  have llk : ∀ p ∈ [(L + 1 + 1 + 1, o1), (L + 1 + 1, o2), (L + 1, o3)], p.1 ≠ lk := fun p hp e => by
    have := cf p hp
    rw [e, hlk] at this
    cases this
  have llka : L + 1 + 1 + 1 ≠ lk := llk _ (.head _)
  have llkb : L + 1 + 1 ≠ lk := llk _ (.tail _ (.head _))
  have llkc : L + 1 ≠ lk := llk _ (.tail _ (.tail _ (.head _)))
  k_steps
  rename_i h3 tk3 t3 u3 v3 r3 F3 N3 k3
  refine kll_range (n := half) rfl F3 N3 r3 (small_one (by (with_reducible exact o303)) (by (with_reducible exact o124)) (by (with_reducible exact o134)) (by (with_reducible exact o413 ‹_›))) (by rw [rangeSize_one]; split <;> (first | with_reducible exact o5 ‹_› | with_reducible exact o209)) (by (with_reducible exact o375 ‹_›)) ?_
  intro D us nD h4 tk4 F4 N4 l4 i4
  have c1 : CellAt h4 (L + 1) (.ref ma) := CellAt.news N4 (.tail _ (.tail _ (.tail _ (.head _)))) d3
  have c2 : CellAt h4 (L + 1 + 1) (.int (half : Int) th) := CellAt.news N4 (.tail _ (.tail _ (.head _))) d2
  have c3 : CellAt h4 (L + 1 + 1 + 1) (.ref lk) := CellAt.news N4 (.tail _ (.head _)) d1
  have l4a : D ≠ 116 := Nat.ne_of_gt (l4 (116, tabObj ps) (by first | k_extra "mem" | simp))
  have l4b : D ≠ lk := Nat.ne_of_gt (l4 (lk, listOf arr n0) (by first | k_extra "mem" | simp))
  try dsimp only
  k_steps
  refine Stop.mk ?_
  rename_i h5 tk5 F5 N5 q5
  refine blN X T F5 N5 (Fr.lst F5 hm') hzr (cmp_row hri _ _) ?_ rfl (Nat.le_of_ble_eq_true rfl) (Nat.le_of_ble_eq_true rfl)
  intro h6 tk6 tk7 r6 x6 F6 N6 q6 cu6
  rw [hri.1] at cu6
  have cu7 := cut_count hsm cu6
  subst cu7
  try dsimp only
  k_steps
  · rename_i a6
    refine Stop.mk (kla_eval rfl ?_)
    refine lamMake (xs := xs) F6 N6 T C1 (.tail l4a (.tail l116a (.tail l116b (.tail l116c (.head (by simp [hl1])))))) htab hxg (by rfl) rfl ?_
    intro f c' ctv h8 tk8 ps8 ex F8 N8 cr8 tab8 lf8 lx8
    dsimp only at N8 ⊢
    k_steps
    refine Stop.mk ?_
    have hlk8 : h8.get? lk = some (listOf arr n0) := N8.get (.tail _ (List.mem_append_right _ (by first | k_extra "mem" | simp)))
    have h116 : h8.get? 116 = some (tabObj ps8) := N8.get (.tail _ (List.mem_append_right _ (by first | k_extra "mem" | simp)))
    have hus : us.toArray.size = half := by rw [List.size_toArray, i4.length]; simp [rangeKs]
    have lfk : f ≠ lk := Nat.ne_of_gt (lf8 (lk, listOf arr n0) (by first | k_extra "mem" | simp))
    have hD8 : h8.IsList D us.toArray := News.isList N8 (.tail _ (List.mem_append_right _ (.head _)))
    have k1 : CellAt h8 (L + 1) (.ref ma) := CellAt.news N8 (.tail _ (List.mem_append_right _ (.tail _ (.tail _ (.tail _ (.head _)))))) d3
    have k2 : CellAt h8 (L + 1 + 1) (.int (half : Int) th) := CellAt.news N8 (.tail _ (List.mem_append_right _ (.tail _ (.tail _ (.head _))))) d2
    have k3 : CellAt h8 (L + 1 + 1 + 1) (.ref lk) := CellAt.news N8 (.tail _ (List.mem_append_right _ (.tail _ (.head _)))) d1
    have hlg : g.get? lk = none := News.fresh N8 (show (lk, listOf arr n0) ∈ _ from .tail _ (List.mem_append_right _ (by first | k_extra "mem" | simp)))
    have hml8 : h8.IsList ma marr := Fr.lst F8 hm'
    have hk : KeyAt w lk h8 us.toArray (.ref f) (fun i => shareOf ms half i) := by
      intro i v arr1 nn1 A1 Q1 E1 s1 hv hh1 hd1 hu1 xx1 g1 hz1 ret1
      obtain ⟨n, t, e1, rfl⟩ := ints_at i4 (by first | k_extra "mem" | simpa using hv)
      have en : n = (i : Int) := by
        have hi : i < half := by
          have := (Array.getElem?_eq_some_iff.mp hv).1
          rw [hus] at this
          exact this
        simp [rangeKs, hi] at e1
        (with_reducible exact o154 ‹_›)
      subst en
      have k1 := cellExt k1 xx1 (by first | k_extra "mem" | simpa using llkc)
      have k2 := cellExt k2 xx1 (by first | k_extra "mem" | simpa using llkb)
      have k3 := cellExt k3 xx1 (by first | k_extra "mem" | simpa using llka)
      have hml1 : s1.heap.IsList ma marr := by
        obtain ⟨o, ho, r⟩ := hml8
        exact ⟨o, xx1 _ _ ho (by first | k_extra "mem" | simpa using hml), r⟩
      refine' entL (news := [(lk, listOf arr1 nn1)]) (binds := [(Str.ofString "k", .int (i : Int) t)]) X T (fun b o e => xx1 b o (F8.keep b o e) ?q1) ?q2 (xx1 _ _ (N8.get (.head _)) ?q3) (codeRec_ne cr8 hlk8 xx1) ?q4 ?q5 ?q6 ?_ ?q7 ?q8 ?q9 ?q10
      case q1 =>
        intro hb
        rcases List.mem_singleton.mp hb with rfl
        rw [hlg] at e
        cases e
      case q2 => intro p hp; cases hp with | head => exact ⟨g1, hlg⟩ | tail _ h => cases h
      case q3 => simpa using lfk
      case q4 => exact Nat.lt_of_le_of_lt hd1 (by decide)
      case q5 => rfl
      case q6 => exact locs rfl
      case q7 => rfl
      case q8 => rfl
      case q9 => rfl
      case q10 => decide
      intro g2 L2 h2 bb x2 bb2 z2 F2 N2 X2 T2 l2 b3
      try dsimp only at F2 ⊢
      have x2' : Ext [lk] s1.heap g2 := x2
      have k1 := cellExt k1 x2' (by first | k_extra "mem" | simpa using llkc)
      have k2 := cellExt k2 x2' (by first | k_extra "mem" | simpa using llkb)
      have k3 := cellExt k3 x2' (by first | k_extra "mem" | simpa using llka)
      have hml2 : g2.IsList ma marr := by
        obtain ⟨o, ho, r⟩ := hml1
        exact ⟨o, x2' _ _ ho (by first | k_extra "mem" | simpa using hml), r⟩
      k_steps
      refine Stop.mk ?_
      refine shN X2 T2 F2 N2 (Fr.lst F2 hml2) hri hsm hz hml hz1 (.head (by intro p hp; cases hp)) ?_ hh1 (by show A1.depth + 1 ≤ 700; (with_reducible exact o98 ‹_›)) (by show A1.units + 3 ≤ 700; (with_reducible exact o370 ‹_›))
      intro h3 tk3 tk4 x3 g3 F3 N3
      try dsimp only
      exact ret1 _ _ _ _ _ (Array.size_push ..) (ext_back x2 F3) g3
    refine toksle (lift (blk (s := { s with heap := h8, toks := tk8 }) X T F8.keep hD8 l4b.symm hlk8 hlg (by rw [hus]; (with_reducible exact o155 ‹_›)) ha0 ⟨_, _, N8.get (.head _), rfl⟩ lfk hk ?_) rfl (Nat.le_of_ble_eq_true rfl) (Nat.le_of_ble_eq_true rfl))
    intro h9 tk9 tk9' r nn arr' x9 g9 z9 cu9 q9
    try dsimp only
    have F9 : Fr g L h9 _ := Fr.ext F8 x9 (by simpa using (N8 _ (.tail _ (List.mem_append_right _ (.tail _ (.tail _ (.tail _ (.tail _ (.tail _ (.head _))))))))).2.1.symm) (by first | k_extra "mem" | simpa using hlg)
    refine ret h9 _ _ r nn arr' ps8 ex (ext_back x1' F9) g9 (x9 _ _ h116 (by first | k_extra "mem" | simpa using hl1.symm)) tab8 (fun p hp => ?_) (by rw [hus] at z9; exact z9) ?_
    · have p1 := lx8 p hp (lk, listOf arr n0) (by first | k_extra "mem" | simp)
      have p2 := lx8 p hp (116, tabObj ps) (by first | k_extra "mem" | simp)
      refine ⟨x9 _ _ (N8.get (.tail _ (List.mem_append_left _ hp))) (by simpa using Nat.ne_of_gt p1), ?_⟩
      have p3 := N8.fresh (.tail _ (List.mem_append_left _ hp))
      cases e : s.heap.get? p.1 with
      | none => rfl
      | some o =>
        rw [x1' _ _ e (by simp; exact ⟨Nat.ne_of_gt p2, Nat.ne_of_gt p1⟩)] at p3
        cases p3
    · refine ⟨fun _ => ?_, fun q => absurd (by rw [hri.1] at a6; (with_reducible exact o241 ‹_›)) q⟩
      have e1 : ((marr.size : Int) / 4) = ((ms.length / 4 : Nat) : Int) := by rw [hri.1]; (with_reducible exact o146)
      rw [e1, hus] at cu9
      exact cu9
  · rename_i a6
    refine Stop.mk (kla_eval rfl ?_)
    refine lamMake (xs := xs) F6 N6 T C1 (.tail l4a (.tail l116a (.tail l116b (.tail l116c (.head (by simp [hl1])))))) htab hxg (by rfl) rfl ?_
    intro f c' ctv h8 tk8 ps8 ex F8 N8 cr8 tab8 lf8 lx8
    dsimp only at N8 ⊢
    k_steps
    refine Stop.mk ?_
    have hlk8 : h8.get? lk = some (listOf arr n0) := N8.get (.tail _ (List.mem_append_right _ (by first | k_extra "mem" | simp)))
    have h116 : h8.get? 116 = some (tabObj ps8) := N8.get (.tail _ (List.mem_append_right _ (by first | k_extra "mem" | simp)))
    have hus : us.toArray.size = half := by rw [List.size_toArray, i4.length]; simp [rangeKs]
    have lfk : f ≠ lk := Nat.ne_of_gt (lf8 (lk, listOf arr n0) (by first | k_extra "mem" | simp))
    have hD8 : h8.IsList D us.toArray := News.isList N8 (.tail _ (List.mem_append_right _ (.head _)))
    have k1 : CellAt h8 (L + 1) (.ref ma) := CellAt.news N8 (.tail _ (List.mem_append_right _ (.tail _ (.tail _ (.tail _ (.head _)))))) d3
    have k2 : CellAt h8 (L + 1 + 1) (.int (half : Int) th) := CellAt.news N8 (.tail _ (List.mem_append_right _ (.tail _ (.tail _ (.head _))))) d2
    have k3 : CellAt h8 (L + 1 + 1 + 1) (.ref lk) := CellAt.news N8 (.tail _ (List.mem_append_right _ (.tail _ (.head _)))) d1
    have hlg : g.get? lk = none := News.fresh N8 (show (lk, listOf arr n0) ∈ _ from .tail _ (List.mem_append_right _ (by first | k_extra "mem" | simp)))
    have hml8 : h8.IsList ma marr := Fr.lst F8 hm'
    have hk : KeyAt w lk h8 us.toArray (.ref f) (fun i => -shareOf ms half i) := by
      intro i v arr1 nn1 A1 Q1 E1 s1 hv hh1 hd1 hu1 xx1 g1 hz1 ret1
      obtain ⟨n, t, e1, rfl⟩ := ints_at i4 (by first | k_extra "mem" | simpa using hv)
      have en : n = (i : Int) := by
        have hi : i < half := by
          have := (Array.getElem?_eq_some_iff.mp hv).1
          rw [hus] at this
          exact this
        simp [rangeKs, hi] at e1
        (with_reducible exact o154 ‹_›)
      subst en
      have k1 := cellExt k1 xx1 (by first | k_extra "mem" | simpa using llkc)
      have k2 := cellExt k2 xx1 (by first | k_extra "mem" | simpa using llkb)
      have k3 := cellExt k3 xx1 (by first | k_extra "mem" | simpa using llka)
      have hml1 : s1.heap.IsList ma marr := by
        obtain ⟨o, ho, r⟩ := hml8
        exact ⟨o, xx1 _ _ ho (by first | k_extra "mem" | simpa using hml), r⟩
      refine' entL (news := [(lk, listOf arr1 nn1)]) (binds := [(Str.ofString "k", .int (i : Int) t)]) X T (fun b o e => xx1 b o (F8.keep b o e) ?q1) ?q2 (xx1 _ _ (N8.get (.head _)) ?q3) (codeRec_ne cr8 hlk8 xx1) ?q4 ?q5 ?q6 ?_ ?q7 ?q8 ?q9 ?q10
      case q1 =>
        intro hb
        rcases List.mem_singleton.mp hb with rfl
        rw [hlg] at e
        cases e
      case q2 => intro p hp; cases hp with | head => exact ⟨g1, hlg⟩ | tail _ h => cases h
      case q3 => simpa using lfk
      case q4 => exact Nat.lt_of_le_of_lt hd1 (by decide)
      case q5 => rfl
      case q6 => exact locs rfl
      case q7 => rfl
      case q8 => rfl
      case q9 => rfl
      case q10 => decide
      intro g2 L2 h2 bb x2 bb2 z2 F2 N2 X2 T2 l2 b3
      try dsimp only at F2 ⊢
      have x2' : Ext [lk] s1.heap g2 := x2
      have k1 := cellExt k1 x2' (by first | k_extra "mem" | simpa using llkc)
      have k2 := cellExt k2 x2' (by first | k_extra "mem" | simpa using llkb)
      have k3 := cellExt k3 x2' (by first | k_extra "mem" | simpa using llka)
      have hml2 : g2.IsList ma marr := by
        obtain ⟨o, ho, r⟩ := hml1
        exact ⟨o, x2' _ _ ho (by first | k_extra "mem" | simpa using hml), r⟩
      k_steps
      refine Stop.mk ?_
      refine shN X2 T2 F2 N2 (Fr.lst F2 hml2) hri hsm hz hml hz1 (.head (by intro p hp; cases hp)) ?_ hh1 (by show A1.depth + 1 ≤ 700; (with_reducible exact o98 ‹_›)) (by show A1.units + 3 ≤ 700; (with_reducible exact o370 ‹_›))
      intro h3 tk3 tk4 x3 g3 F3 N3
      try dsimp only
      k_steps
      exact ret1 _ _ _ _ _ (Array.size_push ..) (ext_back x2 F3) g3
    refine toksle (lift (blk (s := { s with heap := h8, toks := tk8 }) X T F8.keep hD8 l4b.symm hlk8 hlg (by rw [hus]; (with_reducible exact o155 ‹_›)) ha0 ⟨_, _, N8.get (.head _), rfl⟩ lfk hk ?_) rfl (Nat.le_of_ble_eq_true rfl) (Nat.le_of_ble_eq_true rfl))
    intro h9 tk9 tk9' r nn arr' x9 g9 z9 cu9 q9
    try dsimp only
    have F9 : Fr g L h9 _ := Fr.ext F8 x9 (by simpa using (N8 _ (.tail _ (List.mem_append_right _ (.tail _ (.tail _ (.tail _ (.tail _ (.tail _ (.head _))))))))).2.1.symm) (by first | k_extra "mem" | simpa using hlg)
    refine ret h9 _ _ r nn arr' ps8 ex (ext_back x1' F9) g9 (x9 _ _ h116 (by first | k_extra "mem" | simpa using hl1.symm)) tab8 (fun p hp => ?_) (by rw [hus] at z9; exact z9) ?_
    · have p1 := lx8 p hp (lk, listOf arr n0) (by first | k_extra "mem" | simp)
      have p2 := lx8 p hp (116, tabObj ps) (by first | k_extra "mem" | simp)
      refine ⟨x9 _ _ (N8.get (.tail _ (List.mem_append_left _ hp))) (by simpa using Nat.ne_of_gt p1), ?_⟩
      have p3 := N8.fresh (.tail _ (List.mem_append_left _ hp))
      cases e : s.heap.get? p.1 with
      | none => rfl
      | some o =>
        rw [x1' _ _ e (by simp; exact ⟨Nat.ne_of_gt p2, Nat.ne_of_gt p1⟩)] at p3
        cases p3
    · refine ⟨fun q => absurd (by rw [hri.1]; (with_reducible exact o10 ‹_›)) a6, fun _ => ?_⟩
      have e1 : (-((marr.size : Int) / 2 - (marr.size : Int) / 4)) = -((ms.length / 2 - ms.length / 4 : Nat) : Int) := by rw [hri.1]; (with_reducible exact o325)
      rw [e1, hus] at cu9
      exact cu9

end
end
/-- a strict weak order -/
structure Swo (lt : Value → Value → Bool) : Prop where
  asym : ∀ a b, lt a b = true → lt b a = false
  nt : ∀ a b c, lt a c = true → lt a b = true ∨ lt b c = true
noncomputable def leV (lt : Value → Value → Bool) (a b : Value) : Prop := lt b a = false
theorem Swo.refl {lt : Value → Value → Bool} (W : Swo lt) (a : Value) : leV lt a a := by
  unfold leV
  cases h : lt a a with
  | false => rfl
  | true => have := W.asym a a h; rw [h] at this; cases this
theorem Swo.trans {lt : Value → Value → Bool} (W : Swo lt) {a b c : Value} (h1 : leV lt a b) (h2 : leV lt b c) : leV lt a c := by
  unfold leV at *
  cases h : lt c a with
  | false => rfl
  | true => rcases W.nt c b a h with q | q <;> simp_all
theorem Swo.of_lt {lt : Value → Value → Bool} (W : Swo lt) {a b : Value} (h : lt a b = true) : leV lt a b := W.asym a b h
noncomputable abbrev gV (a : Array Value) (i : Nat) : Value := a.getD i .none
theorem gV_ne {its : Array Value} {i j : Nat} {v : Value} (h : i ≠ j) : gV (its.setIfInBounds i v) j = gV its j := getD_set_ne h
theorem gV_eq {its : Array Value} {i : Nat} {v : Value} (h : i < its.size) : gV (its.setIfInBounds i v) i = v := getD_set_eq h
noncomputable abbrev par (c : Nat) : Nat := (c - 1) / 2
noncomputable def HF (lt : Value → Value → Bool) (a : Array Value) (p n : Nat) : Prop := ∀ c, 0 < c → c < n → p ≤ par c → leV lt (gV a (par c)) (gV a c)
inductive Anc (p : Nat) : Nat → Prop where
  | self : Anc p p
  | step {h c : Nat} : Anc p h → 0 < c → par c = h → Anc p c
theorem Anc.le {p h : Nat} (x : Anc p h) : p ≤ h := by
  induction x with
  | self => exact Nat.le_refl _
  | step _ h0 hc ih => simp only [par] at hc; (with_reducible exact o268 ‹_› ‹_›)
theorem Anc.up {p h : Nat} (x : Anc p h) (hp : p < h) : 0 < h ∧ Anc p (par h) := by
  cases x with
  | self => (with_reducible exact (o469 ‹_›).elim)
  | step y h0 hc => exact ⟨h0, by rw [hc]; exact y⟩
structure HH (lt : Value → Value → Bool) (a : Array Value) (p n h : Nat) : Prop where
  rel : ∀ c, 0 < c → c < n → p ≤ par c → c ≠ h → par c ≠ h → leV lt (gV a (par c)) (gV a c)
  gap : p < h → ∀ c, 0 < c → c < n → par c = h → leV lt (gV a (par h)) (gV a c)
  at_ : Anc p h
theorem HH.set {lt : Value → Value → Bool} {a : Array Value} {p n h : Nat} (H : HH lt a p n h) (x : Value) : HH lt (a.setIfInBounds h x) p n h where
  rel := fun c h0 hn hp h1 h2 => by
    rw [gV_ne (Ne.symm h1), gV_ne (Ne.symm h2)]
    exact H.rel c h0 hn hp h1 h2
  gap := fun hp c h0 hn hc => by
    have e1 : h ≠ par h := by simp only [par] at *; omega
    have e2 : h ≠ c := by simp only [par] at *; omega
    rw [gV_ne e1, gV_ne e2]
    exact H.gap hp c h0 hn hc
  at_ := H.at_
theorem gV_list {a : Array Value} {i : Nat} (h : i < a.toList.length) : gV a i = a.toList[i] := by
  rw [Array.length_toList] at h
  simp [gV, Array.getD, h]
theorem perm_move (l : List Value) {h c : Nat} (hh : h < l.length) (hc : c < l.length) (hne : h ≠ c) (x : Value) : ((l.set h l[c]).set c x).Perm (l.set h x) := by
  have := List.set_set_perm (as := l.set h x) (i := h) (j := c) (by simpa using hh) (by simpa using hc)
  rw [List.getElem_set_self, List.getElem_set_ne hne, List.set_set] at this
  exact this
theorem chF_spec {lt : Value → Value → Bool} (W : Swo lt) {n h : Nat} {a : Array Value} (hc : 2 * h + 1 < n) : chF lt n a (2 * h + 1) < n ∧ 0 < chF lt n a (2 * h + 1) ∧ par (chF lt n a (2 * h + 1)) = h ∧ ∀ c, 0 < c → c < n → par c = h → leV lt (gV a (chF lt n a (2 * h + 1))) (gV a c) := by
  unfold chF
  have two : ∀ c, 0 < c → par c = h → c = 2 * h + 1 ∨ c = 2 * h + 1 + 1 := fun c h0 hp => by simp only [par] at hp; (with_reducible exact o479 ‹_› ‹_›)
  split
  · split
    · rename_i h1 h2
      refine ⟨hc, by (with_reducible exact o102), by simp only [par]; (with_reducible exact o115), fun c h0 hn hp => ?_⟩
      rcases two c h0 hp with rfl | rfl
      · exact W.refl _
      · exact W.of_lt h2
    · rename_i h1 h2
      refine ⟨h1, by (with_reducible exact o482), by simp only [par]; (with_reducible exact o453), fun c h0 hn hp => ?_⟩
      rcases two c h0 hp with rfl | rfl
      · exact Bool.eq_false_iff.mpr h2
      · exact W.refl _
  · rename_i h1
    refine ⟨hc, by (with_reducible exact o102), by simp only [par]; (with_reducible exact o115), fun c h0 hn hp => ?_⟩
    rcases two c h0 hp with rfl | rfl
    · exact W.refl _
    · (with_reducible exact (o234 ‹_› ‹_›).elim)
theorem suF_heap {lt : Value → Value → Bool} (W : Swo lt) {p n : Nat} : ∀ (f h : Nat) (a : Array Value), a.size = n → h < n → n ≤ h + f → HH lt a p n h →
    (suF lt n f h a).1 < n ∧ HH lt (suF lt n f h a).2 p n (suF lt n f h a).1 ∧ n ≤ 2 * (suF lt n f h a).1 + 1 ∧ ∀ x, ((suF lt n f h a).2.toList.set (suF lt n f h a).1 x).Perm (a.toList.set h x)
  | 0, h, a, hs, hh, hf, H => by (with_reducible exact (o405 ‹_› ‹_›).elim)
  | f + 1, h, a, hs, hh, hf, H => by
    unfold suF
    by_cases hc : 2 * h + 1 < n
    · rw [if_pos hc]
      obtain ⟨c1, c0, c2, c3⟩ := chF_spec W (a := a) hc
      generalize chF lt n a (2 * h + 1) = c at *
      have hne : h ≠ c := by simp only [par] at c2; omega
      have H' : HH lt (a.setIfInBounds h (gV a c)) p n c := by
        refine ⟨fun d h0 hn hp h1 h2 => ?_, fun hp d h0 hn hd => ?_, .step H.at_ c0 c2⟩
        · by_cases e1 : par d = h
          · rw [e1, gV_eq (by (with_reducible exact o45 ‹_› ‹_›)), gV_ne (by simp only [par] at e1; omega)]
            exact c3 d h0 hn e1
          · by_cases e2 : d = h
            · subst e2
              rw [gV_eq (by (with_reducible exact o45 ‹_› ‹_›)), gV_ne (fun e => e1 e.symm)]
              have : p < d := by simp only [par] at hp; (with_reducible exact o164 ‹_› ‹_›)
              exact H.gap this c c0 c1 c2
            · rw [gV_ne (fun e => e2 e.symm), gV_ne (fun e => e1 e.symm)]
              exact H.rel d h0 hn hp e2 e1
        · have hhc : h < c := by simp only [par] at c2; (with_reducible exact o294 ‹_› ‹_›)
          have hcd : c < d := by simp only [par] at hd; (with_reducible exact o294 ‹_› ‹_›)
          rw [c2, gV_eq (by omega), gV_ne (by omega)]
          have h3 := H.rel d h0 hn (by rw [hd]; have := H.at_.le; (with_reducible exact o50 ‹_›)) (by omega) (by rw [hd]; exact hne.symm)
          rw [hd] at h3
          exact h3
      obtain ⟨r1, r2, r3, r4⟩ := suF_heap W f c (a.setIfInBounds h (gV a c)) (by rw [Array.size_setIfInBounds]; exact hs) c1 (by simp only [par] at c2; (with_reducible exact o429 ‹_› ‹_› ‹_›)) H'
      refine ⟨r1, r2, r3, fun x => (r4 x).trans ?_⟩
      have hl : a.toList.length = n := by rw [Array.length_toList]; exact hs
      rw [Array.toList_setIfInBounds, gV_list (by (with_reducible exact o45 ‹_› ‹_›))]
      exact perm_move a.toList (by (with_reducible exact o45 ‹_› ‹_›)) (by (with_reducible exact o45 ‹_› ‹_›)) hne x
    · rw [if_neg hc]
      exact ⟨hh, H, by show n ≤ 2 * h + 1; (with_reducible exact o36 ‹_›), fun x => .refl _⟩
theorem hh_close {lt : Value → Value → Bool} {a : Array Value} {p n h : Nat} {x : Value} (hs : a.size = n) (hh : h < n) (H : HH lt a p n h) (hx : ∀ c, 0 < c → c < n → par c = h → leV lt x (gV a c)) (hq : h = p ∨ leV lt (gV a (par h)) x) : HF lt (a.setIfInBounds h x) p n := by
  intro c h0 hn hp
  by_cases e1 : par c = h
  · rw [e1, gV_eq (by (with_reducible exact o45 ‹_› ‹_›)), gV_ne (by simp only [par] at e1; omega)]
    exact hx c h0 hn e1
  · by_cases e2 : c = h
    · subst e2
      rw [gV_eq (by (with_reducible exact o45 ‹_› ‹_›)), gV_ne (fun e => e1 e.symm)]
      rcases hq with hq | hq
      · simp only [par] at hp; (with_reducible exact (o443 ‹_› ‹_› ‹_›).elim)
      · exact hq
    · rw [gV_ne (fun e => e2 e.symm), gV_ne (fun e => e1 e.symm)]
      exact H.rel c h0 hn hp e2 e1
theorem sdF_heap {lt : Value → Value → Bool} (W : Swo lt) {p n : Nat} (x : Value) : ∀ (f h : Nat) (a : Array Value), a.size = n → h < n → h ≤ f → HH lt a p n h → (∀ c, 0 < c → c < n → par c = h → leV lt x (gV a c)) →
    HF lt (sdF lt x p f h a) p n ∧ (sdF lt x p f h a).toList.Perm (a.toList.set h x)
  | 0, h, a, hs, hh, hf, H, hx => by
    unfold sdF
    refine ⟨hh_close hs hh H hx (.inl ?_), by rw [Array.toList_setIfInBounds]⟩
    have := H.at_.le; (with_reducible exact o68 ‹_› ‹_›)
  | f + 1, h, a, hs, hh, hf, H, hx => by
    unfold sdF
    by_cases hp : p < h
    · rw [if_pos hp]
      obtain ⟨hat, hanc⟩ := H.at_.up hp
      have hpp := hanc.le
      by_cases hl : lt x (gV a (par h)) = true
      · rw [if_pos hl]
        have hne : h ≠ par h := by simp only [par]; (with_reducible exact fun _ => o336 ‹_› ‹_›)
        have hqn : par h < n := by simp only [par]; (with_reducible exact o61 ‹_›)
        have H' : HH lt (a.setIfInBounds h (gV a (par h))) p n (par h) := by
          refine ⟨fun d h0 hn hp' h1 h2 => ?_, fun hp' d h0 hn hd => ?_, ?_⟩
          · by_cases e1 : par d = h
            · rw [e1, gV_eq (by (with_reducible exact o45 ‹_› ‹_›)), gV_ne (by simp only [par] at e1; omega)]
              exact H.gap hp d h0 hn e1
            · by_cases e2 : d = h
              · subst e2; exact absurd rfl h2
              · rw [gV_ne (fun e => e2 e.symm), gV_ne (fun e => e1 e.symm)]
                exact H.rel d h0 hn hp' e2 e1
          · have e3 : h ≠ par (par h) := by simp only [par]; omega
            have h5 : leV lt (gV a (par (par h))) (gV a (par h)) := H.rel (par h) (hanc.up hp').1 hqn (hanc.up hp').2.le hne.symm (Ne.symm e3)
            by_cases e2 : d = h
            · subst e2
              rw [gV_eq (by (with_reducible exact o45 ‹_› ‹_›)), gV_ne e3]
              exact h5
            · rw [gV_ne e3, gV_ne (fun e => e2 e.symm)]
              have h6 := H.rel d h0 hn (by rw [hd]; (with_reducible exact o50 ‹_›)) e2 (by rw [hd]; exact hne.symm)
              rw [hd] at h6
              exact W.trans h5 h6
          · exact hanc
        obtain ⟨r1, r2⟩ := sdF_heap W x f (par h) (a.setIfInBounds h (gV a (par h))) (by rw [Array.size_setIfInBounds]; exact hs) hqn (by simp only [par]; (with_reducible exact o217 ‹_›)) H' (fun c h0 hn hc => by
          by_cases e2 : c = h
          · subst e2
            rw [gV_eq (by (with_reducible exact o45 ‹_› ‹_›))]
            exact W.of_lt hl
          · rw [gV_ne (fun e => e2 e.symm)]
            have h6 := H.rel c h0 hn (by rw [hc]; omega) e2 (by rw [hc]; exact hne.symm)
            rw [hc] at h6
            exact W.trans (W.of_lt hl) h6)
        refine ⟨r1, r2.trans ?_⟩
        have hll : a.toList.length = n := by rw [Array.length_toList]; exact hs
        rw [Array.toList_setIfInBounds, gV_list (by (with_reducible exact o45 ‹_› ‹_›))]
        exact perm_move a.toList (by (with_reducible exact o45 ‹_› ‹_›)) (by (with_reducible exact o45 ‹_› ‹_›)) hne x
      · rw [if_neg hl]
        exact ⟨hh_close hs hh H hx (.inr (Bool.eq_false_iff.mpr hl)), by rw [Array.toList_setIfInBounds]⟩
    · rw [if_neg hp]
      refine ⟨hh_close hs hh H hx (.inl ?_), by rw [Array.toList_setIfInBounds]⟩
      have := H.at_.le; (with_reducible exact o284 ‹_› ‹_›)
theorem set_self {l : List Value} {i : Nat} (h : i < l.length) : l.set i l[i] = l := List.set_getElem_self h
theorem siftF_heap {lt : Value → Value → Bool} (W : Swo lt) {p n : Nat} {its : Array Value} (hs : its.size = n) (hp : p < n) (H : HF lt its (p + 1) n) : HF lt (siftF lt its p) p n ∧ (siftF lt its p).toList.Perm its.toList := by
  have H0 : HH lt its p n p := ⟨fun c h0 hn hpc h1 h2 => H c h0 hn (by (with_reducible exact o398 ‹_› ‹_›)), fun h => by (with_reducible exact (o469 ‹_›).elim), .self⟩
  unfold siftF
  dsimp only
  rw [hs]
  obtain ⟨r1, r2, r3, r4⟩ := suF_heap W n p its hs hp (by (with_reducible exact o175)) H0
  have r5 : (suF lt n n p its).2.size = n := by rw [suF_size]; exact hs
  generalize suF lt n n p its = r at *
  obtain ⟨h, b⟩ := r
  dsimp only at *
  rw [getD_set_eq (by (with_reducible exact o45 ‹_› ‹_›))]
  obtain ⟨z1, z2⟩ := sdF_heap W (gV its p) h h (b.setIfInBounds h (gV its p)) (by rw [Array.size_setIfInBounds]; exact r5) r1 (Nat.le_refl _) (r2.set _) (fun c h0 hn hc => by simp only [par] at hc; (with_reducible exact (o23 ‹_› ‹_› ‹_› ‹_›).elim))
  refine ⟨z1, z2.trans ?_⟩
  rw [Array.toList_setIfInBounds, List.set_set]
  refine (r4 _).trans ?_
  have hl : p < its.toList.length := by rw [Array.length_toList]; (with_reducible exact o45 ‹_› ‹_›)
  rw [gV_list hl, set_self hl]
theorem hfF_heap {lt : Value → Value → Bool} (W : Swo lt) {n : Nat} : ∀ (k : Nat) (a : Array Value), a.size = n → k ≤ n → HF lt a k n → HF lt (hfF lt k a) 0 n ∧ (hfF lt k a).toList.Perm a.toList
  | 0, a, _, _, H => ⟨H, .refl _⟩
  | k + 1, a, hs, hk, H => by
    unfold hfF
    obtain ⟨z1, z2⟩ := siftF_heap W hs (show k < n by (with_reducible exact o253 ‹_›)) H
    obtain ⟨y1, y2⟩ := hfF_heap W k _ (by rw [siftF_size]; exact hs) (by (with_reducible exact o144 ‹_›)) z1
    exact ⟨y1, y2.trans z2⟩
theorem heap_min {lt : Value → Value → Bool} (W : Swo lt) {n : Nat} {a : Array Value} (H : HF lt a 0 n) : ∀ i, i < n → leV lt (gV a 0) (gV a i) := by
  intro i
  induction i using Nat.strongRecOn with
  | ind i ih =>
    intro hi
    by_cases h0 : i = 0
    · subst h0; exact W.refl _
    · exact W.trans (ih (par i) (by simp only [par]; (with_reducible exact o297 ‹_›)) (by simp only [par]; (with_reducible exact o61 ‹_›))) (H i (by (with_reducible exact o25 ‹_›)) hi (Nat.zero_le _))
theorem popF_heap {lt : Value → Value → Bool} (W : Swo lt) {n : Nat} {a : Array Value} (hs : a.size = n + 1) (H : HF lt a 0 (n + 1)) : HF lt (popF lt a) 0 n ∧ a.toList.Perm (gV a 0 :: (popF lt a).toList) := by
  have hl : a.toList.length = n + 1 := by rw [Array.length_toList]; exact hs
  unfold popF
  by_cases h1 : a.size = 1
  · rw [if_pos h1]
    have hn : n = 0 := by omega
    subst hn
    refine ⟨fun c h0 hc => by (with_reducible exact (o376 ‹_›).elim), ?_⟩
    rw [gV_list (by (with_reducible exact o172 ‹_›))]
    obtain ⟨x, hx⟩ : ∃ x, a.toList = [x] := List.length_eq_one_iff.mp hl
    simp [hx]
  · rw [if_neg h1]
    have hb : (a.pop.setIfInBounds 0 (gV a (a.size - 1))).size = n := by rw [Array.size_setIfInBounds, Array.size_pop]; (with_reducible exact o210 ‹_›)
    have Hb : HF lt (a.pop.setIfInBounds 0 (gV a (a.size - 1))) (0 + 1) n := fun c h0 hc hp => by
      have e : ∀ i, 0 < i → i < n → gV (a.pop.setIfInBounds 0 (gV a (a.size - 1))) i = gV a i := fun i hi hn => by
        rw [gV, getD_set_ne (by omega), Array.getD_eq_getD_getElem?, Array.getElem?_pop, if_pos (by (with_reducible exact o459 ‹_› ‹_›)), ← Array.getD_eq_getD_getElem?]
      rw [e c h0 hc, e (par c) (by (with_reducible exact o119 ‹_›)) (by simp only [par]; (with_reducible exact o61 ‹_›))]
      exact H c h0 (by (with_reducible exact o92 ‹_›)) (Nat.zero_le _)
    obtain ⟨z1, z2⟩ := siftF_heap W hb (by omega) Hb
    refine ⟨z1, .symm ?_⟩
    refine (List.Perm.cons _ z2).trans ?_
    obtain ⟨y, i, z, hA⟩ : ∃ y i z, a.toList = y :: (i ++ [z]) := by
      generalize a.toList = l at *
      cases l with
      | nil => simp at hl
      | cons y l =>
        have hne : l ≠ [] := fun q => by rw [q] at hl; simp at hl; (with_reducible exact (o21 ‹_› ‹_› ‹_›).elim)
        exact ⟨y, _, _, congrArg _ (List.dropLast_concat_getLast hne).symm⟩
    have hi : a.size - 1 = i.length + 1 := by
      have : a.toList.length = i.length + 2 := by rw [hA]; simp
      (with_reducible exact o366 ‹_› ‹_› ‹_›)
    have e0 : gV a 0 = y := by rw [gV_list (by (with_reducible exact o172 ‹_›))]; simp [hA]
    have e1 : gV a (a.size - 1) = z := by rw [gV_list (by (with_reducible exact o33 ‹_› ‹_›))]; simp [hA, hi]
    have e2 : ((y :: (i ++ [z])).dropLast) = y :: i := by rw [← List.cons_append, List.dropLast_concat]
    rw [e0, e1, Array.toList_setIfInBounds, Array.toList_pop, hA, e2, List.set_cons_zero]
    exact List.Perm.cons _ (List.perm_append_comm (l₁ := [z]) (l₂ := i))
theorem drainF_sorted {lt : Value → Value → Bool} (W : Swo lt) : ∀ (n : Nat) (a : Array Value), a.size = n → HF lt a 0 n → (drainF lt n a).Perm a.toList ∧ (drainF lt n a).Pairwise (leV lt)
  | 0, a, hs, _ => by
    have : a.toList = [] := List.eq_nil_of_length_eq_zero (by rw [Array.length_toList]; exact hs)
    rw [this]
    exact ⟨.refl _, .nil⟩
  | n + 1, a, hs, H => by
    obtain ⟨z1, z2⟩ := popF_heap W hs H
    obtain ⟨y1, y2⟩ := drainF_sorted W n (popF lt a) (by rw [popF_size _ (by (with_reducible exact o172 ‹_›))]; (with_reducible exact o210 ‹_›)) z1
    unfold drainF
    refine ⟨((y1.cons _).trans z2.symm), List.pairwise_cons.mpr ⟨fun v hv => ?_, y2⟩⟩
    have hm := heap_min W H
    have : v ∈ a.toList := z2.symm.mem_iff.mp (.tail _ (y1.mem_iff.mp hv))
    obtain ⟨i, hi, rfl⟩ := List.mem_iff_getElem.mp this
    rw [← gV_list hi]
    exact hm i (by rw [Array.length_toList] at hi; (with_reducible exact o310 ‹_› ‹_›))
theorem lexLt_asym {r : Nat → Nat} {i j : Nat} (h : lexLt r i j) : ¬ lexLt r j i := by unfold lexLt at *; omega
theorem lexLt_nt {r : Nat → Nat} {i j k : Nat} (h : lexLt r i k) : lexLt r i j ∨ lexLt r j k := by unfold lexLt at *; (with_reducible exact o78 ‹_›)
theorem swo_q (ys : Array Value) (r : Nat → Nat) : Swo (ltQ ys r) where
  asym := fun a b h => by
    unfold ltQ at *
    exact decide_eq_false (lexLt_asym (of_decide_eq_true h))
  nt := fun a b c h => by
    unfold ltQ at *
    rcases lexLt_nt (j := ixOf ys b) (of_decide_eq_true h) with q | q
    · exact .inl (decide_eq_true q)
    · exact .inr (decide_eq_true q)
/-- the order of the wheel -/
noncomputable def Wheel (r : Nat → Nat) (n : Nat) (is : List Nat) : Prop := is.Perm (List.range n) ∧ is.Pairwise fun i j => ¬ lexLt r j i
theorem heap_wheel {ys : Array Value} {r : Nat → Nat} {n : Nat} (hs : ys.size = n) (inj : ∀ (v : Value) (i j : Nat), ys[i]? = some v → ys[j]? = some v → i = j) :
    Wheel r n ((drainF (ltQ ys r) n (hfF (ltQ ys r) (n / 2) ys)).map (ixOf ys)) := by
  have W := swo_q ys r
  obtain ⟨h1, h2⟩ := hfF_heap W (n / 2) ys hs (by (with_reducible exact o95)) (fun c h0 hc hp => by simp only [par] at hp; (with_reducible exact (o488 ‹_› ‹_› ‹_›).elim))
  obtain ⟨d1, d2⟩ := drainF_sorted W n (hfF (ltQ ys r) (n / 2) ys) (by rw [hfF_size]; exact hs) h1
  refine ⟨((d1.trans h2).map _).trans ?_, ?_⟩
  · have : ys.toList.map (ixOf ys) = List.range n := by
      refine List.ext_getElem (by simp [hs]) fun i h1 h2 => ?_
      rw [List.getElem_map, List.getElem_range]
      have hi : i < ys.size := by simpa using h1
      exact ixOf_eq (inj _) (by simp [hi])
    rw [this]
  · rw [List.pairwise_map]
    exact d2.imp fun h => of_decide_eq_false h
theorem wheel_one {r : Nat → Nat} {n : Nat} {is js : List Nat} (h1 : Wheel r n is) (h2 : Wheel r n js) : is = js :=
  List.Perm.eq_of_pairwise (fun a b _ _ q1 q2 => by unfold lexLt at *; (with_reducible exact o281 ‹_› ‹_›)) h1.2 h2.2 (h1.1.trans h2.1.symm)
/-- a tree of questions, answered by lt on numbers below n, ends in P -/
noncomputable def OkT (n : Nat) (lt : Nat → Nat → Bool) {α : Type} : KasT α → (α → Prop) → Prop
  | .ret a, P => P a
  | .ask i j k, P => i < n ∧ j < n ∧ OkT n lt (k (lt i j)) P
theorem OkT.mono {n : Nat} {lt : Nat → Nat → Bool} {α : Type} {P P' : α → Prop} (hp : ∀ a, P a → P' a) : ∀ (t : KasT α), OkT n lt t P → OkT n lt t P'
  | .ret _, h => hp _ h
  | .ask _ _ _, h => ⟨h.1, h.2.1, OkT.mono hp _ h.2.2⟩
theorem OkT.bind {n : Nat} {lt : Nat → Nat → Bool} {α β : Type} {f : α → KasT β} {P : α → Prop} {P' : β → Prop} (hp : ∀ a, P a → OkT n lt (f a) P') : ∀ (t : KasT α), OkT n lt t P → OkT n lt (t.bind f) P'
  | .ret _, h => hp _ h
  | .ask _ _ _, h => ⟨h.1, h.2.1, OkT.bind hp _ h.2.2⟩
theorem OkT.wp {n : Nat} {lt : Nat → Nat → Bool} {α : Type} {cmp : Nat → Nat → (Bool → Shared → Prop) → Shared → Prop} {Inv : Shared → Prop} {Q : α → Shared → Prop} {P : α → Prop}
    (hc : ∀ i j C s, i < n → j < n → Inv s → (∀ s', Inv s' → C (lt i j) s') → cmp i j C s) (hq : ∀ a s, P a → Inv s → Q a s) : ∀ (t : KasT α) (s : Shared), OkT n lt t P → Inv s → t.kasWp cmp Q s
  | .ret _, _, h, hi => hq _ _ h hi
  | .ask i j k, s, h, hi => hc i j _ s h.1 h.2.1 hi fun s' hi' => OkT.wp hc hq (k (lt i j)) s' h.2.2 hi'
structure Sto (lt : Nat → Nat → Bool) : Prop where
  tr : ∀ {a b c}, lt a b = true → lt b c = true → lt a c = true
  tot : ∀ {a b}, a ≠ b → lt a b = false → lt b a = true
noncomputable abbrev gN (p : Array Nat) (i : Nat) : Nat := p.getD i 0
noncomputable def GP (n : Nat) (p : Array Nat) : Prop := p.size = n ∧ p.toList.Perm (List.range n)
theorem gN_list {p : Array Nat} {i : Nat} (h : i < p.toList.length) : gN p i = p.toList[i] := by
  rw [Array.length_toList] at h
  simp [gN, Array.getD, h]
theorem GP.lt {n : Nat} {p : Array Nat} (h : GP n p) {i : Nat} (hi : i < n) : gN p i < n := by
  have hl : i < p.toList.length := by rw [Array.length_toList, h.1]; exact hi
  rw [gN_list hl]
  exact List.mem_range.mp (h.2.mem_iff.mp (List.getElem_mem hl))
theorem GP.ne {n : Nat} {p : Array Nat} (h : GP n p) {i j : Nat} (hi : i < n) (hj : j < n) (hne : i ≠ j) : gN p i ≠ gN p j := by
  have hl : i < p.toList.length := by rw [Array.length_toList, h.1]; exact hi
  have hm : j < p.toList.length := by rw [Array.length_toList, h.1]; exact hj
  rw [gN_list hl, gN_list hm]
  have hn : p.toList.Nodup := h.2.nodup_iff.mpr List.nodup_range
  have hp := List.pairwise_iff_getElem.mp hn
  rcases Nat.lt_or_ge i j with q | q
  · exact hp i j hl hm q
  · exact fun e => hp j i hm hl (by (with_reducible exact o224 ‹_› ‹_›)) e.symm
theorem gN_of {p q : Array Nat} {i j : Nat} (h : p[i]? = q[j]?) : gN p i = gN q j := by
  rw [gN, gN, Array.getD_eq_getD_getElem?, Array.getD_eq_getD_getElem?, h]
noncomputable def SP (lt : Nat → Nat → Bool) (p : Array Nat) (k : Nat) : Prop := ∀ i j, i < j → j < k → lt (gN p i) (gN p j) = true
noncomputable def DP (lt : Nat → Nat → Bool) (p : Array Nat) (k : Nat) : Prop := ∀ i j, i < j → j < k → lt (gN p j) (gN p i) = true
section
variable {n : Nat} {lt : Nat → Nat → Bool} (W : Sto lt)
include W
theorem SP.more {p : Array Nat} {k : Nat} (h : SP lt p k) (h1 : 1 ≤ k) (hk : lt (gN p (k - 1)) (gN p k) = true) : SP lt p (k + 1) := by
  intro i j hij hj
  by_cases e : j = k
  · subst e
    by_cases e2 : i = j - 1
    · subst e2; exact hk
    · exact W.tr (h i (j - 1) (by (with_reducible exact o0 ‹_› ‹_›)) (by (with_reducible exact o27 ‹_›))) hk
  · exact h i j hij (by (with_reducible exact o2 ‹_› ‹_›))
theorem DP.more {p : Array Nat} {k : Nat} (h : DP lt p k) (h1 : 1 ≤ k) (hk : lt (gN p k) (gN p (k - 1)) = true) : DP lt p (k + 1) := by
  intro i j hij hj
  by_cases e : j = k
  · subst e
    by_cases e2 : i = j - 1
    · subst e2; exact hk
    · exact W.tr hk (h i (j - 1) (by (with_reducible exact o0 ‹_› ‹_›)) (by (with_reducible exact o27 ‹_›)))
  · exact h i j hij (by (with_reducible exact o2 ‹_› ‹_›))
theorem asc_ok {p : Array Nat} (G : GP n p) : ∀ (f m : Nat), SP lt p m → 1 ≤ m → m + f ≤ n → OkT n lt (kas_asc p f m) fun m' => m ≤ m' ∧ m' ≤ m + f ∧ SP lt p m' ∧ (m' = m + f ∨ lt (gN p m') (gN p (m' - 1)) = true)
  | 0, m, h, h1, hn => ⟨Nat.le_refl _, Nat.le_refl _, h, .inl rfl⟩
  | f + 1, m, h, h1, hn => by
    refine ⟨G.lt (by (with_reducible exact o11 ‹_›)), G.lt (by (with_reducible exact o34 ‹_›)), ?_⟩
    cases c : lt (gN p m) (gN p (m - 1)) with
    | true =>
      dsimp only
      rw [if_pos rfl]
      exact ⟨Nat.le_refl _, by (with_reducible exact o24), h, .inr c⟩
    | false =>
      dsimp only
      rw [if_neg (by decide)]
      refine OkT.mono (fun m' q => ⟨by omega, by omega, q.2.2.1, ?_⟩) _ (asc_ok G f (m + 1) (SP.more W h h1 (W.tot (G.ne (by (with_reducible exact o11 ‹_›)) (by (with_reducible exact o34 ‹_›)) (by (with_reducible exact fun _ => o295 ‹_› ‹_›))) c)) (by (with_reducible exact o445)) (by (with_reducible exact o167 ‹_›)))
      rcases q.2.2.2 with q | q
      · exact .inl (by (with_reducible exact o165 ‹_›))
      · exact .inr q
theorem desc_ok {p : Array Nat} (G : GP n p) : ∀ (f m : Nat), DP lt p m → 1 ≤ m → m + f ≤ n → OkT n lt (kas_desc f p m 0) fun r => r.1 = p ∧ r.2.2 = 0 ∧ m ≤ r.2.1 ∧ r.2.1 ≤ m + f ∧ DP lt p r.2.1
  | 0, m, h, h1, hn => ⟨rfl, rfl, Nat.le_refl _, Nat.le_refl _, h⟩
  | f + 1, m, h, h1, hn => by
    refine ⟨G.lt (by (with_reducible exact o11 ‹_›)), G.lt (by (with_reducible exact o34 ‹_›)), ?_⟩
    cases c : lt (gN p m) (gN p (m - 1)) with
    | true =>
      dsimp only
      rw [if_pos rfl, if_neg (by decide)]
      exact OkT.mono (fun r q => ⟨q.1, q.2.1, by omega, by omega, q.2.2.2.2⟩) _ (desc_ok G f (m + 1) (DP.more W h h1 c) (by (with_reducible exact o445)) (by (with_reducible exact o167 ‹_›)))
    | false =>
      dsimp only
      rw [if_neg (by decide)]
      refine ⟨G.lt (by (with_reducible exact o34 ‹_›)), G.lt (by (with_reducible exact o11 ‹_›)), ?_⟩
      have d : lt (p.getD (m - 1) 0) (p.getD m 0) = true := W.tot (G.ne (by (with_reducible exact o11 ‹_›)) (by (with_reducible exact o34 ‹_›)) (by (with_reducible exact fun _ => o295 ‹_› ‹_›))) c
      rw [d]
      dsimp only
      rw [if_pos rfl]
      exact ⟨rfl, rfl, Nat.le_refl _, by show m ≤ m + (f + 1); (with_reducible exact o24), h⟩
theorem rev_ok {p : Array Nat} (G : GP n p) {m : Nat} (hm : m ≤ n) (h : DP lt p m) : GP n (kas_rev p 0 m) ∧ SP lt (kas_rev p 0 m) m := by
  have e : ∀ i, i < m → gN (kas_rev p 0 m) i = gN p (m - 1 - i) := fun i hi => by
    refine gN_of ?_
    unfold kas_rev
    rw [getElem?_mirror_all (by rw [G.1]; exact hm), if_pos ⟨Nat.zero_le _, hi⟩]
    congr 1
    (with_reducible exact o42)
  refine ⟨⟨(mirror_size ..).trans G.1, ((mirror_perm p 0 m _).toList).trans G.2⟩, fun i j hij hj => ?_⟩
  rw [e i (by (with_reducible exact o125 ‹_› ‹_›)), e j hj]
  exact h _ _ (by (with_reducible exact o364 ‹_› ‹_›)) (by (with_reducible exact o47 ‹_›))
theorem tail3_ok {p : Array Nat} (G : GP n p) {m : Nat} (h1 : 1 ≤ m) (hm : m ≤ n) (h : DP lt p m) : OkT n lt (kas_tail3 m n p) fun r => 1 ≤ r.1 ∧ r.1 ≤ n ∧ GP n r.2 ∧ SP lt r.2 r.1 := by
  obtain ⟨G', S'⟩ := rev_ok W G hm h
  unfold kas_tail3
  refine OkT.bind (fun m' q => ?_) _ (asc_ok W G' (n - m) m S' h1 (by (with_reducible exact o433 ‹_›)))
  exact ⟨by show 1 ≤ m'; omega, by show m' ≤ n; omega, G', q.2.2.1⟩
theorem count_ok {p : Array Nat} (G : GP n p) (h2 : 2 ≤ n) : OkT n lt (kas_count n p) fun r => 1 ≤ r.1 ∧ r.1 ≤ n ∧ GP n r.2 ∧ SP lt r.2 r.1 := by
  unfold kas_count
  refine OkT.bind (fun m q => ?_) _ (asc_ok W G (n - 1) 1 (fun i j hij hj => by (with_reducible exact (o307 ‹_› ‹_›).elim)) (Nat.le_refl _) (by (with_reducible exact o319 ‹_›)))
  obtain ⟨q1, q2, q3, q4⟩ := q
  by_cases e : (m == n) = true
  · rw [if_pos e]
    have e' := eq_of_beq e
    exact ⟨q1, by show m ≤ n; (with_reducible exact o18 ‹_›), G, q3⟩
  · rw [if_neg e]
    have e' : m ≠ n := fun x => e (by simp [x])
    by_cases e1 : m > 1
    · rw [if_pos e1]
      refine ⟨G.lt (by (with_reducible exact o308 ‹_›)), G.lt (by omega), ?_⟩
      have c : lt (p.getD 0 0) (p.getD (m - 1) 0) = true := q3 0 (m - 1) (by (with_reducible exact o507 ‹_›)) (by (with_reducible exact o27 ‹_›))
      rw [c]
      dsimp only
      rw [if_pos rfl]
      exact ⟨q1, by show m ≤ n; omega, G, q3⟩
    · rw [if_neg e1]
      obtain rfl : m = 1 := by (with_reducible exact o421 ‹_› ‹_›)
      have hd : lt (gN p 1) (gN p 0) = true := by
        rcases q4 with q4 | q4
        · (with_reducible exact (o403 ‹_› ‹_›).elim)
        · exact q4
      unfold kas_descPart
      refine OkT.bind (fun r q => ?_) _ (desc_ok W G (n - (1 + 1)) (1 + 1) (fun i j hij hj => by
        obtain rfl : j = 1 := by (with_reducible exact o116 ‹_› ‹_›)
        obtain rfl : i = 0 := by (with_reducible exact o157 ‹_›)
        exact hd) (by (with_reducible exact o24)) (by (with_reducible exact o433 ‹_›)))
      obtain ⟨r1, r2, r3, r4, r5⟩ := q
      rw [if_neg (by rw [r2]; decide), r1]
      exact tail3_ok W G (by (with_reducible exact o500 ‹_›)) (by (with_reducible exact o108 ‹_› ‹_›)) r5
theorem place_ok {p : Array Nat} (G : GP n p) {k : Nat} (hk : k < n) (S : SP lt p k) : ∀ (f l r : Nat), l ≤ r → r ≤ k → r - l ≤ f → (∀ i, i < l → lt (gN p i) (gN p k) = true) → (∀ i, r ≤ i → i < k → lt (gN p k) (gN p i) = true) →
    OkT n lt (kas_place p k f l r) fun l' => l' ≤ k ∧ (∀ i, i < l' → lt (gN p i) (gN p k) = true) ∧ ∀ i, l' ≤ i → i < k → lt (gN p k) (gN p i) = true
  | 0, l, r, hlr, hrk, hf, h1, h2 => by
    obtain rfl : l = r := by (with_reducible exact o340 ‹_› ‹_›)
    exact ⟨hrk, h1, h2⟩
  | f + 1, l, r, hlr, hrk, hf, h1, h2 => by
    unfold kas_place
    by_cases c : l ≥ r
    · rw [if_pos c]
      obtain rfl : l = r := by (with_reducible exact o66 ‹_› ‹_›)
      exact ⟨hrk, h1, h2⟩
    · rw [if_neg c]
      refine ⟨G.lt hk, G.lt (by (with_reducible exact o76 ‹_› ‹_› ‹_›)), ?_⟩
      cases d : lt (gN p k) (gN p ((l + r) / 2)) with
      | true =>
        dsimp only
        rw [if_pos rfl]
        refine place_ok G hk S f l ((l + r) / 2) (by (with_reducible exact o329 ‹_›)) (by (with_reducible exact o495 ‹_› ‹_›)) (by (with_reducible exact o255 ‹_›)) h1 fun i hi hik => ?_
        by_cases e : i = (l + r) / 2
        · subst e; exact d
        · exact W.tr d (S _ _ (by (with_reducible exact o415 ‹_› ‹_›)) hik)
      | false =>
        dsimp only
        rw [if_neg (by decide)]
        have d' := W.tot (G.ne hk (by (with_reducible exact o76 ‹_› ‹_› ‹_›)) (by omega)) d
        refine place_ok G hk S f ((l + r) / 2 + 1) r (by (with_reducible exact o203 ‹_›)) hrk (by (with_reducible exact o367 ‹_›)) (fun i hi => ?_) h2
        by_cases e : i = (l + r) / 2
        · subst e; exact d'
        · exact W.tr (S i ((l + r) / 2) (by (with_reducible exact o2 ‹_› ‹_›)) (by (with_reducible exact o109 ‹_› ‹_›))) d'
theorem bin_ok : ∀ (f : Nat) (p : Array Nat) (k : Nat), GP n p → SP lt p k → k + f = n → OkT n lt (kas_bin f p k) fun q => GP n q ∧ SP lt q n
  | 0, p, k, G, S, hk => by
    obtain rfl : k = n := by omega
    exact ⟨G, S⟩
  | f + 1, p, k, G, S, hk => by
    unfold kas_bin
    refine OkT.bind (fun l q => ?_) _ (place_ok W G (show k < n by (with_reducible exact o55 ‹_›)) S k 0 k (Nat.zero_le _) (Nat.le_refl _) (by (with_reducible exact o277)) (fun i hi => by (with_reducible exact (o376 ‹_›).elim)) (fun i hi hik => by (with_reducible exact (o358 ‹_› ‹_›).elim)))
    obtain ⟨q1, q2, q3⟩ := q
    have e : ∀ i, i ≤ k → gN (bubble p k (k - l)) i = if i = l then gN p k else if l < i then gN p (i - 1) else gN p i := fun i hi => by
      have z := getElem?_bubble (xs := p) (src := k) (by rw [G.1]; (with_reducible exact o55 ‹_›)) (k - l) (by (with_reducible exact o277)) i
      rw [show k - (k - l) = l from by (with_reducible exact o475 ‹_›)] at z
      by_cases c : i = l
      · rw [if_pos c] at z ⊢; exact gN_of z
      · rw [if_neg c] at z ⊢
        by_cases d : l < i
        · rw [if_pos ⟨d, hi⟩] at z; rw [if_pos d]; exact gN_of z
        · rw [if_neg (fun x => d x.1)] at z; rw [if_neg d]; exact gN_of z
    refine bin_ok f _ (k + 1) ⟨(bubble_size ..).trans G.1, ((bubble_perm p k _).toList).trans G.2⟩ (fun i j hij hj => ?_) (by (with_reducible exact o471 ‹_›))
    rw [e i (by (with_reducible exact o344 ‹_› ‹_›)), e j (by (with_reducible exact o182 ‹_›))]
    by_cases c1 : i = l
    · rw [if_pos c1, if_neg (by omega), if_pos (by (with_reducible exact o345 ‹_› ‹_›))]
      exact q3 _ (by (with_reducible exact o179 ‹_› ‹_›)) (by (with_reducible exact o380 ‹_› ‹_›))
    · rw [if_neg c1]
      by_cases c2 : l < i
      · rw [if_pos c2, if_neg (by omega), if_pos (by (with_reducible exact o125 ‹_› ‹_›))]
        exact S _ _ (by (with_reducible exact o512 ‹_› ‹_›)) (by (with_reducible exact o380 ‹_› ‹_›))
      · rw [if_neg c2]
        by_cases c3 : j = l
        · rw [if_pos c3]
          exact q2 i (by (with_reducible exact o354 ‹_› ‹_›))
        · rw [if_neg c3]
          by_cases c4 : l < j
          · rw [if_pos c4]
            by_cases c5 : i = j - 1
            · (with_reducible exact (o458 ‹_› ‹_› ‹_› ‹_›).elim)
            · exact S _ _ (by (with_reducible exact o0 ‹_› ‹_›)) (by (with_reducible exact o380 ‹_› ‹_›))
          · rw [if_neg c4]
            exact S _ _ hij (by (with_reducible exact o332 ‹_› ‹_› ‹_›))
theorem sort_ok (h2 : 2 ≤ n) : OkT n lt (kas_sort n) fun q => GP n q ∧ SP lt q n := by
  unfold kas_sort
  refine OkT.bind (fun r q => ?_) _ (count_ok W (p := List.toArray (List.range n)) ⟨by simp, by simp⟩ h2)
  obtain ⟨q1, q2, q3, q4⟩ := q
  by_cases c : r.1 < n
  · rw [if_pos c, Nat.max_eq_left q1]
    exact bin_ok W _ _ _ q3 q4 (by (with_reducible exact o283 ‹_›))
  · rw [if_neg c]
    have e : r.1 = n := by (with_reducible exact o149 ‹_› ‹_›)
    rw [e] at q4
    exact ⟨q3, q4⟩
end
theorem sto_lex (r : Nat → Nat) : Sto fun i j => decide (lexLt r i j) where
  tr := fun h1 h2 => by
    have h1 := of_decide_eq_true h1
    have h2 := of_decide_eq_true h2
    exact decide_eq_true (by unfold lexLt at *; (with_reducible exact o238 ‹_› ‹_›))
  tot := fun hne h => by
    have h := of_decide_eq_false h
    exact decide_eq_true (by unfold lexLt at *; (with_reducible exact o195 ‹_› ‹_›))
theorem wheel_of_sp {r : Nat → Nat} {n : Nat} {p : Array Nat} (G : GP n p) (S : SP (fun i j => decide (lexLt r i j)) p n) : Wheel r n p.toList := by
  refine ⟨G.2, List.pairwise_iff_getElem.mpr fun i j hi hj hij => ?_⟩
  rw [← gN_list hi, ← gN_list hj]
  exact lexLt_asym (of_decide_eq_true (S i j hij (by rw [Array.length_toList, G.1] at hj; exact hj)))
section
variable {prog : Program} {w : World} {A : Around} {E : Value → Shared → Prop} {s : Shared}
theorem ne_same {l b : Addr} {items items2 : Array Value} {Q : Value → Shared → Prop} (hl : s.heap.IsList l items) (hb : s.heap.IsList b items2) (hsz : items.size = items2.size) (hu : A.units < cLine)
    (he : ∀ j (h1 : j < items.size) (h2 : j < items2.size), SeqAt.EqAt A.in1 s items[j] items2[j] true) (h : Q (.bool false) s) : wpAny (model prog w) A (compareOp .NotEq (.ref l) (.ref b)) Q E s := by
  refine SeqAt.RcNeAt.lists hl hb hsz hu (e := fun _ => true) he prog w E Q ?_
  have : (List.range items.size).all (fun _ => true) = true := by simp
  rw [this]
  exact h
theorem ne_bools {l b : Addr} {bs : List Bool} {Q : Value → Shared → Prop} (hl : s.heap.IsList l (bs.map Value.bool).toArray) (hb : s.heap.IsList b (bs.map Value.bool).toArray) (hu : A.units < cLine)
    (h : Q (.bool false) s) : wpAny (model prog w) A (compareOp .NotEq (.ref l) (.ref b)) Q E s := by
  refine ne_same hl hb rfl hu (fun j h1 h2 => ?_) h
  have e : ((bs.map Value.bool).toArray)[j] = Value.bool (bs[j]'(by simpa using h1)) := by simp
  rw [e]
  have := SeqAt.EqAt.bool_bool (A := A.in1) (s := s) (bs[j]'(by simpa using h1)) (bs[j]'(by simpa using h1))
  rw [beq_self_eq_true] at this
  exact this
theorem count_trues {l : Addr} {bs : List Bool} {Q : Value → Shared → Prop} (hl : s.heap.IsList l (bs.map Value.bool).toArray)
    (h : Q (.int (bs.count true : Nat) s.toks) { s with toks := s.toks + 1 }) : wpAny (model prog w) A (call (.builtin "list.count") [.ref l, .bool true]) Q E s := by
  obtain ⟨⟨cls, dd, data, sl⟩, ho, hc, n, hd⟩ := id hl
  simp only at hc hd
  subst hc hd
  refine call_meets PySem.F.slot_list_count ⟨_, ho, rfl⟩ PySem.F.entry_list_count (PySem.F.args_list_count_2 _ _) (SeqAt.list_countAt l (bs.map Value.bool).toArray n dd sl (.bool true) (fun v => v == .bool true)) ⟨ho, fun y hy => ?_, ?_⟩
  · obtain ⟨b, hb, rfl⟩ : ∃ b, b ∈ bs ∧ Value.bool b = y := by simpa using hy
    have := SeqAt.EqAt.bool_bool (A := A.in1) (s := s) b true
    have e : (Value.bool b == Value.bool true) = (b == true) := by cases b <;> rfl
    show SeqAt.EqAt _ _ _ _ (Value.bool b == Value.bool true)
    rw [e]
    exact this
  · have e : ((bs.map Value.bool).toArray.toList.countP (fun v => v == Value.bool true)) = bs.count true := by
      rw [show (bs.map Value.bool).toArray.toList = bs.map Value.bool from rfl, List.countP_map]
      unfold List.count
      congr 1
      funext b
      cases b <;> rfl
    rw [e]
    exact h
end
theorem pick_mid (items : Array Value) (a b : Nat) (hab : a ≤ b) : slicePick items (some (a : Int)) (some (b : Int)) none = ((items.toList.drop a).take (b - a)).toArray := by
  have e : sliceBounds (some (a : Int)) (some (b : Int)) none items.size = (((min a items.size : Nat) : Int), ((min b items.size : Nat) : Int), 1) := by
    simp only [sliceBounds, Option.getD_none, show (1 : Int) > 0 by decide, if_true, if_neg (show ¬ ((a : Int) < 0) by (with_reducible exact fun _ => o35 ‹_›)), if_neg (show ¬ ((b : Int) < 0) by (with_reducible exact fun _ => o35 ‹_›))]
    congr 1
    · (with_reducible exact o48)
    · congr 1
      (with_reducible exact o48)
  rw [kmk_pick_nat _ e]
  congr 1
  rw [← Array.length_toList, kmk_drop_min]
  generalize items.toList = l
  by_cases h : l.length ≤ a
  · rw [List.drop_eq_nil_of_le h]; simp
  · have e1 : min a l.length = a := by (with_reducible exact o382 ‹_›)
    rw [e1]
    by_cases h2 : b ≤ l.length
    · rw [Nat.min_eq_left h2]
    · rw [Nat.min_eq_right (by (with_reducible exact o84 ‹_›)), List.take_of_length_le (by rw [List.length_drop]; (with_reducible exact o435)), List.take_of_length_le (by rw [List.length_drop]; (with_reducible exact o456 ‹_›))]
theorem got {h₀ h h' : Heap} {L D : Addr} {m : Str → Option Value} {news : List (Addr × Obj)} {o : Obj} (F : Fr h₀ L h m) (N : News h₀ L h news) (x : Ext [] h h') (f : h.get? D = none) (g : h'.get? D = some o) :
    Fr h₀ L h' m ∧ News h₀ L h' ((D, o) :: news) ∧ (∀ p ∈ news, p.1 ≠ D) := by
  obtain ⟨oL, q1, q2, hoL, q3⟩ := id F.ns
  refine ⟨Fr.ext F x (by simp) (by simp), News.cons (News.ext N x (by simp)) g (fun e => by rw [e, hoL] at f; cases f) ?_, fun p hp e => by have := (N p hp).1; rw [e, f] at this; cases this⟩
  cases e : h₀.get? D with
  | none => rfl
  | some o => rw [F.keep _ _ e] at f; cases f
theorem marksOf_sorted (f : Nat → Bool) (n : Nat) : (marksOf f n n).Pairwise (· ≤ ·) := by
  have h1 : (half1 f n).Pairwise (· ≤ ·) := by
    unfold half1
    refine List.Pairwise.filter _ ?_
    exact (List.pairwise_lt_range).imp fun h => Nat.le_of_lt h
  unfold marksOf
  rw [List.pairwise_append]
  refine ⟨h1, ?_, fun a ha b hb => ?_⟩
  · rw [List.pairwise_map]
    exact h1.imp fun h => Nat.add_le_add_right h n
  · obtain ⟨c, hc, rfl⟩ := List.mem_map.mp hb
    have := half1_lt ha
    (with_reducible exact o377 ‹_›)
theorem marksOf_len (f : Nat → Bool) (n : Nat) : (marksOf f n n).length ≤ 2 * n := by
  unfold marksOf
  rw [List.length_append, List.length_map]
  have := half1_len f n
  (with_reducible exact o265 ‹_›)
theorem news4 {h₀ h h' : Heap} {L a b c d : Addr} {oa ob oc od ob' od' : Obj} {m : Str → Option Value} (F : Fr h₀ L h m) (N : News h₀ L h [(a, oa), (b, ob), (c, oc), (d, od)]) (x : Ext [d, b] h h') (gb : h'.get? b = some ob') (gd : h'.get? d = some od') (h1 : a ≠ b) (h2 : a ≠ d) (h3 : c ≠ b) (h4 : c ≠ d) :
    Fr h₀ L h' m ∧ News h₀ L h' [(a, oa), (b, ob'), (c, oc), (d, od')] := by
  refine ⟨Fr.ext F x ?_ ?_, fun p hp => ?_⟩
  · intro hm
    rcases List.mem_cons.mp hm with e | hm
    · exact (N _ (.tail _ (.tail _ (.tail _ (.head _))))).2.1 e.symm
    · rcases List.mem_singleton.mp hm with e
      exact (N _ (.tail _ (.head _))).2.1 e.symm
  · intro a' hm
    rcases List.mem_cons.mp hm with e | hm
    · rw [e]; exact N.fresh (.tail _ (.tail _ (.tail _ (.head _))))
    · rcases List.mem_singleton.mp hm with e
      rw [e]; exact N.fresh (.tail _ (.head _))
  · cases hp with
    | head => exact ⟨x _ _ (N.get (.head _)) (by simp [h1, h2]), (N _ (.head _)).2⟩
    | tail _ hp => cases hp with
      | head => exact ⟨gb, (N _ (.tail _ (.head _))).2⟩
      | tail _ hp => cases hp with
        | head => exact ⟨x _ _ (N.get (.tail _ (.tail _ (.head _)))) (by simp [h3, h4]), (N _ (.tail _ (.tail _ (.head _)))).2⟩
        | tail _ hp => cases hp with
          | head => exact ⟨gd, (N _ (.tail _ (.tail _ (.tail _ (.head _))))).2⟩
          | tail _ hp => cases hp
theorem RowIs.app {a b : Array Value} {is js : List Nat} (h : RowIs a is) (k : RowIs b js) : RowIs (a.toList ++ b.toList).toArray (is ++ js) := by
  refine ⟨by simp [h.1, k.1], fun q i hq => ?_⟩
  rw [List.getElem?_toArray]
  have hl : a.toList.length = is.length := by rw [Array.length_toList]; exact h.1
  by_cases c : q < is.length
  · rw [List.getElem?_append_left c] at hq
    rw [List.getElem?_append_left (by (with_reducible exact o45 ‹_› ‹_›)), Array.getElem?_toList]
    exact h.2 q i hq
  · rw [List.getElem?_append_right (by (with_reducible exact o19 ‹_›))] at hq
    rw [List.getElem?_append_right (by (with_reducible exact o70 ‹_› ‹_›)), Array.getElem?_toList, hl]
    exact k.2 _ i hq
theorem RowIs.at_ {a : Array Value} {is : List Nat} (h : RowIs a is) {i : Nat} (hi : i < is.length) : ∃ t, a[i]? = some (.int ((is[i] : Nat) : Int) t) := h.2 i _ (List.getElem?_eq_getElem hi)
theorem cnt_method {prog : Program} {w : World} {A : Around} {E : Value → Shared → Prop} {s : Shared} {l : Addr} {arr : Array Value} {nn : Nat} {pl : Sem Bool} {Q : Value × List Value → Shared → Prop} (h : s.heap.get? l = some (listOf arr nn)) (q : Q (.builtin "list.count", [.ref l]) s) :
    wpAny (model prog w) A (getMethod (.ref l) (Str.ofString "count") pl) Q E s :=
  getMethod_builtin ⟨_, h, rfl⟩ PySem.F.plainAttrs_list PySem.F.slot_list_count PySem.F.type_list_count (fun a e => by cases e; exact ⟨_, h, rfl⟩) q
theorem news_app {h₀ h h' : Heap} {L : Addr} {m : Str → Option Value} {news ex : List (Addr × Obj)} (F : Fr h₀ L h m) (N : News h₀ L h' news) (he : ∀ p ∈ ex, h'.get? p.1 = some p.2 ∧ h.get? p.1 = none) : News h₀ L h' (news ++ ex) := by
  obtain ⟨oL, q1, q2, hoL, q3⟩ := id F.ns
  intro p hp
  rcases List.mem_append.mp hp with hp | hp
  · exact N p hp
  · refine ⟨(he p hp).1, fun e => ?_, ?_⟩
    · have := (he p hp).2
      rw [e, hoL] at this
      cases this
    · cases e : h₀.get? p.1 with
      | none => rfl
      | some o => have := F.keep _ _ e; rw [(he p hp).2] at this; cases this
section
theorem lay_Fr_0 : True := by
  w_top off
  k_with_none
  k_with "eval Name" => (k_here; k_dflt (refine' nameE_C ?q9k1 ?_ ?q9k2 ?q9b ?q9c ?q9d; (case q9b => rfl); (case q9c => rfl); (case q9d => decide); (case q9k2 => rfl); (case q9k1 => first | with_reducible assumption | exact CellAt.keep (by with_reducible assumption) (by with_reducible assumption)); k_whole))
  k_with "eval Name" => (k_here; k_dflt (refine' nameE_B ?q9F ?q9X ?q9T ?q9e ?q9v ?q9n ?_ ?q9a ?q9a2 ?q9b ?q9c ?q9d; (case q9b => rfl); (case q9c => rfl); (case q9F => with_reducible assumption); (case q9X => with_reducible assumption); (case q9T => k_asm); (case q9a => rfl); (case q9a2 => rfl); (case q9d => decide); (case q9e => k_is); (case q9v => boot_fast); (case q9n => decide); k_whole))
  k_with "eval Name" => (k_here; k_dflt (refine' nameE_K ?q9F ?q9X ?q9T ?q9e ?_ ?q9a ?q9b ?q9c ?q9d; (case q9b => rfl); (case q9c => rfl); (case q9F => with_reducible assumption); (case q9X => with_reducible assumption); (case q9T => k_asm); (case q9a => rfl); (case q9d => decide); (case q9e => k_is); k_whole))
  k_with "eval Name" => (k_here; k_dflt (refine' nameE_L ?q9k1 ?q9k2 ?_ ?q9a ?q9b ?q9c ?q9d; (case q9c => rfl); (case q9k1 => with_reducible assumption); (case q9k2 => first | exact rfl | assumption); (case q9a => rfl); (case q9b => rfl); (case q9d => decide); k_whole))
  k_with "call builtin:len" => (k_here; (with_reducible show wpAny _ _ (call (Value.builtin "len") [Value.ref _]) _ _ _); k_dflt (refine' len_list ?q9k1 ?q9k2 ?_; (case q9k1 => first | with_reducible assumption | exact Fr.lst (by with_reducible assumption) (by with_reducible assumption) | exact News.isList (by with_reducible assumption) (by k_mem)); (case q9k2 => first | with_reducible assumption | omega); k_whole))
  k_with "subscriptTail" => (k_here; (with_reducible show wpAny _ _ (subscriptTail _ _ (Value.ref _) (Value.int _ _)) _ _ _); k_dflt (refine' item_at ?q9k1 ?q9k2 ?q9k3 ?q9k4 ?_; (case q9k1 => first | with_reducible assumption | exact Fr.lst (by with_reducible assumption) (by with_reducible assumption) | exact News.isList (by with_reducible assumption) (by k_mem)); (case q9k2 => omega); (case q9k3 => omega); (case q9k4 => first | with_reducible assumption | omega); k_whole); intro _ _)
  k_with "compareOp Lt" => (k_here; k_dflt (refine' CmpAt.use ?q9k1 ?q9k2 ?_; (case q9k1 => with_reducible assumption); (case q9k2 => assumption); k_whole))
  k_with "exec While Compare cons nil" => (k_here; refine Stop.to ?_)
  k_with "storeName" => (k_here; k_dflt (refine' stE ?q9F ?q9N ?_ ?q9a ?q9b ?q9c; (case q9b => rfl); (case q9F => with_reducible assumption); (case q9N => with_reducible assumption); (case q9a => rfl); (case q9c => rfl); k_whole); intro h' tk' F' N' q'; (try dsimp only at F' q'); (try dsimp only); revert h' tk' F' N' q'; intro _ _ _ _ _; (try k_sweep))
  k_with "binaryOp FloorDiv int int" => (k_here; refine' div_lit ?q9a ?q9b ?_; (case q9a => decide); (case q9b => decide); k_whole)
  k_with "binaryOp Mod int int" => (k_here; refine' mod_lit ?q9a ?q9b ?_; (case q9a => decide); (case q9b => decide); k_whole)
  k_with "call builtin:max" => (k_here; refine' max3 ?q9a ?q9b ?_ ?q9c; (case q9a => with_reducible assumption); (case q9b => with_reducible assumption); (case q9c => rfl); k_whole; intro h' tk' tk2' F' N' e' q'; (try dsimp only at q'); (try dsimp only); revert h' tk' tk2' F' N' e' q'; intro _ _ _ _ _ _ _; (try k_sweep))
  k_with "call builtin:min" => (k_here; refine' min3 ?q9a ?q9b ?_ ?q9c; (case q9a => with_reducible assumption); (case q9b => with_reducible assumption); (case q9c => rfl); k_whole; intro h' tk' tk2' F' N' e' q'; (try dsimp only at q'); (try dsimp only); revert h' tk' tk2' F' N' e' q'; intro _ _ _ _ _ _ _; (try k_sweep))
  k_with "execs cons" => (k_here; (with_reducible refine execs_seq ?_))
  k_with "execs nil" => (k_here; (with_reducible refine wpAny_execs_nil ?_); (try dsimp only))
  k_with "call ref" => (k_here; refine Stop.to ?_)
  k_with "exec For Name Call cons nil" => (k_here; refine Stop.to ?_)
  k_with "exec Assign cons ListComp cons" => (k_here; refine Stop.to ?_)
  k_with "exec Assign cons ListComp" => (k_here; refine Stop.to ?_)
  k_with "eval ListComp" => (k_here; refine Stop.to ?_)
  k_with "subscriptTail List Slice ref ref" => (k_here; k_dflt (refine kba_turn (value' := PySem.Expr.Name (PySem.Str.ofString "_") ⟨0, 0, 0, 0⟩) (fun _ => rfl) ?_))
  k_with "subscriptTail Name Slice ref ref" => (k_here; k_dflt (refine' kmk_slice ?q9F ?q9N ?q9l ?q9p ?q9q ?_ ?q9s ?q9t ?q9z; (case q9F => with_reducible assumption); (case q9N => with_reducible assumption); (case q9l => first | with_reducible assumption | exact News.isList (by with_reducible assumption) (by k_mem) | exact Fr.lst (by with_reducible assumption) (by with_reducible assumption)); (case q9p => first | exact IsPart.none | exact IsPart.int _ _); (case q9q => first | exact IsPart.none | exact IsPart.int _ _); (case q9s => with_unfolding_all rfl); (case q9t => (intro _; with_unfolding_all rfl)); (case q9z => first | with_reducible assumption | (rw [sizeLine_eq]; simp only [List.size_toArray, List.length_cons, List.length_nil]; omega) | (rw [sizeLine_eq]; omega))); intro D' h' F' N' l1; (try dsimp only); revert D' h' F' N' l1; intro _ _ _ _ _; (try k_sweep))
  k_with "binaryOp Add ref ref" => (k_here; k_dflt (refine' add_arrays ?q9F ?q9N ?q9l ?q9b ?_ ?q9z; (case q9F => with_reducible assumption); (case q9N => with_reducible assumption); (case q9l => first | with_reducible assumption | exact News.isList (by with_reducible assumption) (by k_mem) | exact Fr.lst (by with_reducible assumption) (by with_reducible assumption)); (case q9b => first | with_reducible assumption | exact News.isList (by with_reducible assumption) (by k_mem) | exact Fr.lst (by with_reducible assumption) (by with_reducible assumption)); (case q9z => first | with_reducible assumption | (rw [sizeLine_eq]; omega))); intro h' F' N'; (try dsimp only); revert h' F' N'; intro _ _ _; (try k_sweep))
  k_with "mem" => (first | exact List.Mem.head _ | with_reducible assumption | exact List.not_mem_nil | exact nm1 (by assumption) | exact nm1 (Ne.symm (by assumption)) | exact nm2 (by assumption) (by assumption) | (refine' List.mem_append_left _ ?_; k_extra "mem") | (refine' List.mem_append_right _ ?_; k_extra "mem") | (refine' List.Mem.tail _ ?_; k_extra "mem"))
  trivial
/-- how many of the string are wished for -/
noncomputable def wishOf (l : List Bool) (half : Nat) : Nat := if l.count true / 2 < ((l ++ l).take half).count true then l.count true - l.count true / 2 else l.count true / 2
section
theorem lay_Fr_1 : True := by
  k_with "getMethod ref" => (k_here; k_dflt (refine cnt_method (by first | exact News.get (by with_reducible assumption) (by k_mem) | exact Fr.keep (by with_reducible assumption) _ _ (by with_reducible assumption)) ?_))
  k_with "call builtin:list.count" => (k_here; refine Stop.to ?_)
  k_with "compareOp NotEq ref ref" => (k_here; refine Stop.to ?_)
  trivial
theorem fair {w : World} {base : Heap} {mean : ExcName → Option Value} {mg mb : Str → Option Value} (X : (Mine.hd.heap_39 w.params).In base)
    (T : Top tp tlo mean mg mb base) {s : Shared} (st : base.StaysIn s.heap) {ra wa da n half : Nat} {rw : Array Value} {is : List Nat} {bs : List Bool} {ps : Array Value} {xs : List (Addr × Obj)}
    (hr : s.heap.IsList ra rw) (hri : RowIs rw is) (hp : is.Perm (List.range n)) (hn : n = 2 * half) (h0 : 0 < half) (h8 : half ≤ 32) (hw : s.heap.IsList wa (bs.map Value.bool).toArray) {nd : Nat} (hd : s.heap.get? da = some (listOf (bs.map Value.bool).toArray nd)) (hb : bs.length = n)
    (hta : s.heap.get? 116 = some (tabObj ps)) (htb : base.get? 116 = none) (hra : ra ≠ 116) (hwa : wa ≠ 116) (hda : da ≠ 116)
    (htab : TabOk xs ps) (hxs : ∀ p ∈ xs, s.heap.get? p.1 = some p.2 ∧ p.1 ≠ 116)
    (hlaw : ∀ r, PlaceIs (marksOf (fun k => bs.getD (is.getD k 0) false) n n) half r → r ≤ half ∧ ((((is.map fun i => bs.getD i false) ++ (is.map fun i => bs.getD i false)).drop r).take half).count true = wishOf (is.map fun i => bs.getD i false) half) {Q E}
    (ret : ∀ (h' : Heap) (tk' : Nat) (ps' : Array Value) (ex : List (Addr × Obj)), Ext [116] s.heap h' → h'.get? 116 = some (tabObj ps') → TabOk (ex ++ xs) ps' → (∀ p ∈ ex, h'.get? p.1 = some p.2 ∧ s.heap.get? p.1 = none) → Q (.bool true) { s with heap := h', toks := tk' }) :
    wpAny (model PySem.Challenge.rw_pg0206_01.row.prog w) (Aw 400) (call (.ref 126) [.ref ra, .ref wa, .ref da]) Q E s := by
  revert X; k_fill; intro X
  refine' entC (news := [(116, tabObj ps)]) (binds := [(Str.ofString "row", .ref ra), (Str.ofString "worn", .ref wa), (Str.ofString "due", .ref da)]) X T st ?k1 ?k2 ?k3 ?k4 ?k5 ?k6 ?k6b ?_ ?k7 ?k8 ?k9
  case k1 => intro p hp; cases hp with | head => exact ⟨hta, htb⟩ | tail _ h => cases h
  case k2 => k_is
  case k3 => k_is
  case k4 => decide
  case k5 => exact kp_binds (Frag.In.keeps X st) (fun _ => rfl)
  case k6 => rfl
  case k6b => decide +kernel
  case k7 => rfl
  case k8 => rfl
  case k9 => rfl
  intro g L h₁ tk cells bb1 x1 bb2 z1 F N Y X T l1 bb3 cf htk
  obtain ⟨o1, he, d1⟩ := CellsAre.one Y
  subst he
  try dsimp only at F N d1 ⊢
  try simp only [List.cons_append, List.nil_append] at N
  have x1' : Ext [116] s.heap g := x1
  have ext1 : ∀ {a : Addr} {its : Array Value}, s.heap.IsList a its → a ≠ 116 → g.IsList a its := fun {a its} hl hne => by
    obtain ⟨o, ho, r⟩ := hl
    exact ⟨o, x1' _ _ ho (by first | k_extra "mem" | simpa using hne), r⟩
  have hr' := ext1 hr hra
  have hw' := ext1 hw hwa
  have hdg : g.get? da = some (listOf (bs.map Value.bool).toArray nd) := x1' _ _ hd (by first | k_extra "mem" | simpa using hda)
  have hd' : g.IsList da (bs.map Value.bool).toArray := ⟨_, hdg, rfl, _, rfl⟩
  have hxg : ∀ p ∈ xs, g.get? p.1 = some p.2 := fun p hp => x1' _ _ (hxs p hp).1 (by simp [(hxs p hp).2])
  have hisl : is.length = n := by rw [hp.length_eq, List.length_range]
  have hrs : rw.size = n := by rw [hri.1, hisl]
  have hzr : (rw.size : Int) < 2 ^ 60 := by (with_reducible exact o232 ‹_› ‹_› ‹_›)
  have hzr2 : (rw.size : Int) < 2 ^ 63 := by (with_reducible exact o74 ‹_›)
  have c1 : CellAt h₁ (L + 1) (.ref da) := CellAt.news N (.head _) d1
  k_steps
  refine Stop.mk (ne_bools (Fr.lst (by with_reducible assumption) hw') (Fr.lst (by with_reducible assumption) hd') (Nat.le_of_ble_eq_true rfl) ?_)
  k_steps
  refine Stop.mk ?_
  rename_i LK h2 l2 h3 tk3 F3 N3 q3
  have eh : ((rw.size : Int) / 2) = (half : Int) := by (with_reducible exact o391 ‹_› ‹_›)
  rw [eh] at F3
  refine toksle (lift (mk (s := { s with heap := h3, toks := tk3 }) (wf := fun i => bs.getD i false) X T F3.keep (Fr.lst F3 hr') hri (Fr.lst F3 hw') (fun i hi => ?_) (by (with_reducible exact o117 ‹_› ‹_› ‹_›)) (by simp; (with_reducible exact o306 ‹_› ‹_› ‹_›)) fun h4 tk4 D nn arr x4 f4 g4 R4 q4 => ?_) rfl (Nat.le_of_ble_eq_true rfl) (Nat.le_of_ble_eq_true rfl))
  · have hi2 : i < bs.length := by
      have := hp.mem_iff.mp hi
      rw [hb]
      exact List.mem_range.mp this
    simp [List.getD_eq_getElem?_getD, List.getElem?_eq_getElem hi2]
  obtain ⟨F4, N4, n4⟩ := got F3 N3 x4 f4 g4
  try dsimp only
  k_steps
  refine Stop.mk ?_
  rw [hisl] at R4
  have hm4 : h4.IsList D arr := ⟨_, g4, rfl, _, rfl⟩
  have nDK : D ≠ LK := (n4 _ (.head _)).symm
  have nD1 : D ≠ 116 := (n4 (116, tabObj ps) (by first | k_extra "mem" | simp)).symm
  have nLK : LK ≠ 116 := Nat.ne_of_gt l2.2
  have nCK : L + 1 ≠ LK := Nat.ne_of_lt l2.1
  have nC1 : L + 1 ≠ 116 := fun e => by
    have := cf _ (.head _)
    rw [show (L + 1, o1).1 = L + 1 from rfl, e, hta] at this
    cases this
  refine toksle (lift (pl (s := { s with heap := h4, toks := tk4 }) (arr := #[]) (n0 := 0) X T F4.keep hm4 R4 (marksOf_sorted _ _) (Nat.le_trans (marksOf_len _ _) (by (with_reducible exact o339 ‹_› ‹_›))) h8 (N4.get (.tail _ (.head _))) (N4.fresh (.tail _ (.head _))) nDK rfl (N4.get (by first | k_extra "mem" | simp)) (N4.fresh (show (116, tabObj ps) ∈ _ by first | k_extra "mem" | simp)) nD1 nLK htab
    (fun p hp => ⟨F4.keep _ _ (hxg p hp), (hxs p hp).2, fun e => ?_⟩) fun h5 tk5 tk5' r nn5 arr5 ps5 ex x5 g5l g5t tab5 ex5 sz5 pi5 q5 => ?_) rfl (Nat.le_of_ble_eq_true rfl) (Nat.le_of_ble_eq_true rfl))
  · have z1 := hxg p hp
    rw [e, N4.fresh (.tail _ (.head _))] at z1
    cases z1
  obtain ⟨F5, N5⟩ := news4 F4 N4 x5 g5l g5t nDK nD1 nCK nC1
  replace N5 := news_app F4 N5 ex5
  simp only [List.cons_append, List.nil_append] at N5
  have n116 : ∀ p ∈ ex, p.1 ≠ 116 := fun p hp e => by
    have z3 := (ex5 p hp).2
    rw [e, N4.get (show (116, tabObj ps) ∈ _ by first | k_extra "mem" | simp)] at z3
    cases z3
  obtain ⟨b1, b2⟩ := hlaw r pi5
  have hs1 : 0 < arr5.size := by (with_reducible exact o342 ‹_› ‹_›)
  have hs2 : 2 ^ (arr5.size - 1) ≤ half := by (with_reducible exact o465 ‹_› ‹_›)
  have hs3 : arr5.size ≤ 1000 := by
    have := Nat.lt_two_pow_self (n := arr5.size - 1)
    (with_reducible exact o508 ‹_› ‹_› ‹_›)
  have hs4 : (arr5.size : Int) < 2 ^ 63 := by (with_reducible exact o271 ‹_›)
  have hs5 : (2 : Int) ^ ((arr5.size : Int) - 1).toNat ≤ half := by
    have e1 : ((arr5.size : Int) - 1).toNat = arr5.size - 1 := by (with_reducible exact o470)
    rw [e1]
    have : (2 : Int) ^ (arr5.size - 1) = ((2 ^ (arr5.size - 1) : Nat) : Int) := by simp
    rw [this]
    (with_reducible exact o516 ‹_›)
  try dsimp only
  k_steps
  refine Stop.mk (comp_assign0 (cl := [(Str.ofString "due", L + 1)]) (by with_unfolding_all rfl) (by with_unfolding_all rfl) rfl (by decide) ?_)
  k_steps
  rename_i h6 tk6 q6 h7 F7 N7
  generalize h6.objs.size = R7 at F7 N7 ⊢
  have RR := RowIs.app hri hri
  have hWs : (rw.toList ++ rw.toList).toArray.size = 2 * n := by simp; (with_reducible exact o481 ‹_›)
  generalize (rw.toList ++ rw.toList).toArray = W7 at RR N7 hWs
  have hl7 : h7.IsList R7 W7 := News.isList N7 (.head _)
  have c7 : CellAt h7 (L + 1) (.ref da) := CellAt.news N7 (.tail _ (.tail _ (.tail _ (.head _)))) d1
  have hd7 : h7.IsList da (bs.map Value.bool).toArray := Fr.lst F7 hd'
  have hbz : (((bs.map Value.bool).toArray).size : Int) < 2 ^ 63 := by simp; (with_reducible exact o306 ‹_› ‹_› ‹_›)
  refine Stop.mk (wpAny_pyIter_list hl7 ?_)
  refine comp_go (It := fun i o => o.cls = .type "list_iterator" ∧ o.data = .fields #[.ref R7, .int i 0]) rfl (Src.list rfl hl7) (by rw [sizeLine_eq]; (with_reducible exact o483 ‹_› ‹_› ‹_›)) ⟨rfl, rfl⟩
    (fun i ys tl tk => tl = [] ∧ ys = (((is ++ is).take i).map fun j => Value.bool (bs.getD j false)).toArray) (fun _ _ => ⟨rfl, rfl⟩) (fun _ _ _ _ _ h _ => h) (fun _ _ _ _ h => by rw [h.2]; simp; (with_reducible exact o75)) (by decide) rfl OwnT.name ?_ ?_
  · refine TurnC.plain ?_
    rintro i v C D' h8 tk8 ys nD tl oI m8 hi hP hC F8 N8 ⟨rfl, j1⟩ htk
    try dsimp only at hC F8 N8 htk ⊢
    have hi2 : i < (is ++ is).length := by rw [List.length_append]; (with_reducible exact o396 ‹_› ‹_› ‹_›)
    obtain ⟨t, e1⟩ := RR.at_ hi2
    rw [e1] at hP
    cases hP
    have X8 : (Mine.hd.heap_39 w.params).In h7 := X.keeps F7.keep
    have T8 : Top tp tlo mean mg mb h7 := T.keeps F7.keep
    have hjb : (is ++ is)[i] < bs.length := by
      have : (is ++ is)[i] ∈ is ++ is := List.getElem_mem hi2
      have : (is ++ is)[i] ∈ is := by rcases List.mem_append.mp this with h | h <;> exact h
      have := hp.mem_iff.mp this
      rw [hb]
      exact List.mem_range.mp this
    have hjz : (((is ++ is)[i] : Nat) : Int) < (((bs.map Value.bool).toArray).size : Int) := by simp only [List.size_toArray, List.length_map]; (with_reducible exact o237 ‹_›)
    k_steps
    rename_i h9 tk9 F9 N9 q9 v9 hv9
    rw [Int.toNat_natCast] at hv9
    have ev : v9 = .bool (bs.getD ((is ++ is)[i]) false) := by
      simp [List.getElem?_eq_getElem hjb] at hv9
      rw [List.getD_eq_getElem?_getD, List.getElem?_eq_getElem hjb]
      exact hv9.symm
    subst ev
    refine EltEnd.intro (tnew := []) F9 N9 (fun p hp => nomatch hp) fun tk' htk' => ⟨rfl, ?_⟩
    rw [j1, List.take_succ_eq_append_getElem hi2, List.push_toArray, List.map_append]
    rfl
  · intro D' C h8 tk8 m8 ys nD tl hD hC F8 N8 hap hJ htk
    try dsimp only at hD hC F8 N8 htk ⊢
    refine compPost_store F8 N8 hC F7 N7 (by with_unfolding_all rfl) (by with_unfolding_all rfl) ?_
    intro h9 F9 N9 hn9
    obtain ⟨rfl, j1⟩ := hJ
    have hys : ys = (((is.map fun i => bs.getD i false) ++ (is.map fun i => bs.getD i false)).map Value.bool).toArray := by
      have e1 : (is ++ is).take W7.size = is ++ is := List.take_of_length_le (by rw [List.length_append]; (with_reducible exact o350 ‹_› ‹_›))
      rw [j1, e1, List.map_append, List.map_append, List.map_map]
      rfl
    subst hys
    clear j1 F8 N8 hap
    simp only [List.nil_append] at N9
    have hcnt : bs.count true = (is.map fun i => bs.getD i false).count true := by
      rw [(hp.map _).count_eq]
      congr 1
      refine List.ext_getElem (by simp [hb]) fun i h1 h2 => ?_
      simp [List.getD_eq_getElem?_getD, List.getElem?_eq_getElem h1]
    have hll : (is.map fun i => bs.getD i false).length = n := by rw [List.length_map]; exact hisl
    generalize (is.map fun i => bs.getD i false) = l at *
    try dsimp only
    k_steps
    refine Stop.mk (count_trues (Fr.lst F9 hd') ?_)
    k_steps
    rename_i h10 tk10 F10 N10 q10 h11 F11 N11
    refine Stop.mk ?_
    have ep : slicePick ((l ++ l).map Value.bool).toArray none (some (half : Int)) none = (((l ++ l).take half).map Value.bool).toArray := by
      rw [pick_upto, List.map_take]
    rw [ep] at N11
    refine count_trues (News.isList N11 (.head _)) ?_
    rw [hcnt] at F11
    k_steps
    · rename_i c12 h12 tk12 F12 N12 q12 h13 F13 N13
      have ep2 : slicePick ((l ++ l).map Value.bool).toArray (some (r : Int)) (some ((r : Int) + half)) none = ((((l ++ l).drop r).take half).map Value.bool).toArray := by
        have := pick_mid ((l ++ l).map Value.bool).toArray r (r + half) (by (with_reducible exact o128))
        rw [show ((r + half : Nat) : Int) = (r : Int) + half from by (with_reducible exact o259), show r + half - r = half from by (with_reducible exact o322)] at this
        rw [this, List.map_take, List.map_drop]
      rw [ep2] at N13
      refine Stop.mk (count_trues (News.isList N13 (.head _)) ?_)
      k_steps
      have hE : ((((((l ++ l).drop r).take half).count true : Nat) : Int) == ((l.count true : Nat) : Int) - ((l.count true : Nat) : Int) / 2) = true := by
        rw [b2]
        unfold wishOf
        rw [if_pos (by (with_reducible exact o491 ‹_›))]
        simp
        try (with_reducible exact o120)
      rw [hE]
      refine ret h13 _ ps5 ex (ext_back x1' F13) (N13.get (by first | k_extra "mem" | simp)) tab5 (fun p hp => ⟨N13.get (by first | k_extra "mem" | simp [hp]), ?_⟩)
      have z1 : g.get? p.1 = none := N13.fresh (show (p.1, p.2) ∈ _ by first | k_extra "mem" | simp [hp])
      have z2 := n116 p hp
      cases e : s.heap.get? p.1 with
      | none => rfl
      | some o =>
        rw [x1' _ _ e (by first | k_extra "mem" | simpa using z2)] at z1
        cases z1
    · rename_i c12 h13 F13 N13
      have ep2 : slicePick ((l ++ l).map Value.bool).toArray (some (r : Int)) (some ((r : Int) + half)) none = ((((l ++ l).drop r).take half).map Value.bool).toArray := by
        have := pick_mid ((l ++ l).map Value.bool).toArray r (r + half) (by (with_reducible exact o128))
        rw [show ((r + half : Nat) : Int) = (r : Int) + half from by (with_reducible exact o259), show r + half - r = half from by (with_reducible exact o322)] at this
        rw [this, List.map_take, List.map_drop]
      rw [ep2] at N13
      refine Stop.mk (count_trues (News.isList N13 (.head _)) ?_)
      k_steps
      have hE : ((((((l ++ l).drop r).take half).count true : Nat) : Int) == ((l.count true : Nat) : Int) / 2) = true := by
        rw [b2]
        unfold wishOf
        rw [if_neg (by omega)]
        simp
        try omega
      rw [hE]
      refine ret h13 _ ps5 ex (ext_back x1' F13) (N13.get (by first | k_extra "mem" | simp)) tab5 (fun p hp => ⟨N13.get (by first | k_extra "mem" | simp [hp]), ?_⟩)
      have z1 : g.get? p.1 = none := N13.fresh (show (p.1, p.2) ∈ _ by first | k_extra "mem" | simp [hp])
      have z2 := n116 p hp
      cases e : s.heap.get? p.1 with
      | none => rfl
      | some o =>
        rw [x1' _ _ e (by first | k_extra "mem" | simpa using z2)] at z1
        cases z1

end
end
noncomputable def cnt (f : Nat → Bool) (x : Nat) : Nat := (List.range x).countP f
theorem cnt_succ (f : Nat → Bool) (x : Nat) : cnt f (x + 1) = cnt f x + (if f x = true then 1 else 0) := by
  unfold cnt
  rw [List.range_succ, List.countP_append, List.countP_cons, List.countP_nil]
  (with_reducible exact o327)
theorem below_half1 (f : Nat → Bool) (x : Nat) : ∀ n, below (half1 f n) (x : Int) = cnt f (min x n)
  | 0 => by simp [below, half1, cnt]
  | n + 1 => by
    have ih := below_half1 f x n
    unfold below at ih ⊢
    rw [half1_succ]
    by_cases h : f n = true
    · rw [if_pos h, List.countP_append, ih, List.countP_cons, List.countP_nil]
      by_cases hx : n < x
      · rw [Nat.min_eq_right (by (with_reducible exact o50 ‹_›)), Nat.min_eq_right (by (with_reducible exact o101 ‹_›)), cnt_succ, if_pos h, decide_eq_true (by (with_reducible exact o237 ‹_›)), if_pos rfl]
      · rw [Nat.min_eq_left (by (with_reducible exact o19 ‹_›)), Nat.min_eq_left (by (with_reducible exact o46 ‹_›)), decide_eq_false (by (with_reducible exact fun _ => o49 ‹_› ‹_›)), if_neg (by decide)]
        (with_reducible exact o243)
    · rw [if_neg h, ih]
      by_cases hx : n < x
      · rw [Nat.min_eq_right (by (with_reducible exact o50 ‹_›)), Nat.min_eq_right (by (with_reducible exact o101 ‹_›)), cnt_succ, if_neg h, Nat.add_zero]
      · rw [Nat.min_eq_left (by (with_reducible exact o19 ‹_›)), Nat.min_eq_left (by (with_reducible exact o46 ‹_›))]
theorem below_shift (l : List Nat) (n x : Nat) : below (l.map (· + n)) (x : Int) = below l ((x - n : Nat) : Int) := by
  unfold below
  rw [List.countP_map]
  congr 1
  funext m
  exact decide_eq_decide.mpr (by show ((m + n : Nat) : Int) < x ↔ _; (with_reducible exact o480))
theorem below_marks (f : Nat → Bool) (n x : Nat) : below (marksOf f n n) (x : Int) = cnt f (min x n) + cnt f (min (x - n) n) := by
  have e : below (marksOf f n n) (x : Int) = below (half1 f n) (x : Int) + below ((half1 f n).map (· + n)) (x : Int) := by unfold marksOf below; rw [List.countP_append]
  rw [e, below_shift, below_half1, below_half1]
theorem take_count (f : Nat → Bool) (n x : Nat) : (((List.range n).map f).take x).count true = cnt f (min x n) := by
  rw [← List.map_take, List.take_range]
  unfold cnt List.count
  rw [List.countP_map]
  congr 1
  funext m
  cases h : f m <;> simp [h]
theorem pre_count (f : Nat → Bool) (n x : Nat) : ((((List.range n).map f) ++ ((List.range n).map f)).take x).count true = cnt f (min x n) + cnt f (min (x - n) n) := by
  rw [List.take_append, List.count_append, take_count, List.length_map, List.length_range, take_count]
theorem fair_law {f : Nat → Bool} {n half : Nat} (hn : n = 2 * half) (h0 : 0 < half) {l : List Bool} (hl : l = (List.range n).map f) {r : Nat} (h : PlaceIs (marksOf f n n) half r) :
    r ≤ half ∧ (((l ++ l).drop r).take half).count true = wishOf l half := by
  have hP : ∀ x : Nat, below (marksOf f n n) (x : Int) = ((l ++ l).take x).count true := fun x => by rw [below_marks, hl, pre_count]
  have hll : l.length = n := by rw [hl]; simp
  have hstep : ∀ k, ((l ++ l).take k).count true ≤ ((l ++ l).take (k + 1)).count true ∧ ((l ++ l).take (k + 1)).count true ≤ ((l ++ l).take k).count true + 1 := fun k => by
    have e : (l ++ l).take (k + 1) = (l ++ l).take k ++ ((l ++ l).drop k).take 1 := List.take_add
    rw [e, List.count_append]
    have : (((l ++ l).drop k).take 1).count true ≤ 1 := Nat.le_trans List.count_le_length (by rw [List.length_take]; (with_reducible exact o114))
    (with_reducible exact o467 ‹_›)
  have hz : ((l ++ l).take 0).count true = 0 := by simp
  have hW : ((l ++ l).take n).count true = l.count true := by rw [← hll, List.take_left]
  have hlen : (marksOf f n n).length = 2 * l.count true := by
    unfold marksOf half1
    rw [List.length_append, List.length_map, ← List.countP_eq_length_filter, hl]
    have : (List.range n).countP f = ((List.range n).map f).count true := by
      have := take_count f n n
      rw [List.take_of_length_le (by simp), Nat.min_self] at this
      exact this.symm
    (with_reducible exact o481 ‹_›)
  have hseg : ∀ k, (((l ++ l).drop k).take half).count true + ((l ++ l).take k).count true = ((l ++ l).take (k + half)).count true := fun k => by
    have e : (l ++ l).take (k + half) = (l ++ l).take k ++ ((l ++ l).drop k).take half := List.take_add
    rw [e, List.count_append]
    (with_reducible exact o107)
  have hS : ∀ k : Nat, shareOf (marksOf f n n) half k = ((((l ++ l).drop k).take half).count true : Int) := fun k => by
    unfold shareOf
    have := hP (k + half)
    have e : ((k : Int) + half) = ((k + half : Nat) : Int) := by (with_reducible exact o12)
    rw [e, hP, hP]
    have := hseg k
    (with_reducible exact o213 ‹_›)
  have hS1 : ∀ k, (((l ++ l).drop (k + 1)).take half).count true ≤ (((l ++ l).drop k).take half).count true + 1 ∧ (((l ++ l).drop k).take half).count true ≤ (((l ++ l).drop (k + 1)).take half).count true + 1 := fun k => by
    have a1 := hseg k
    have a2 := hseg (k + 1)
    have a3 := hstep k
    have a4 := hstep (k + half)
    rw [show k + 1 + half = k + half + 1 from by (with_reducible exact o511)] at a2
    omega
  have hS0 : (((l ++ l).drop 0).take half).count true = ((l ++ l).take half).count true := by rw [List.drop_zero]
  have hSh : (((l ++ l).drop half).take half).count true + ((l ++ l).take half).count true = l.count true := by
    have := hseg half
    rw [show half + half = n from by (with_reducible exact o273 ‹_›), hW] at this
    exact this
  obtain ⟨p1, p2⟩ := h
  rw [hP, hlen] at p1 p2
  have e4 : 2 * l.count true / 4 = l.count true / 2 := by (with_reducible exact o219)
  have e2 : 2 * l.count true / 2 = l.count true := by (with_reducible exact o318)
  rw [e4] at p1 p2
  rw [e2] at p2
  simp only [hS] at p1 p2
  unfold wishOf
  generalize l.count true = W at *
  generalize hA : ((l ++ l).take half).count true = A at *
  generalize hg : (fun k => (((l ++ l).drop k).take half).count true) = S at *
  have hSk : ∀ k, (((l ++ l).drop k).take half).count true = S k := fun k => by rw [← hg]
  simp only [hSk] at hS1 hS0 hSh p1 p2 ⊢
  by_cases hc : A ≤ W / 2
  · obtain ⟨q1, q2, q3⟩ := p1 hc
    rw [if_neg (by omega)]
    refine ⟨q1, ?_⟩
    simp only [decide_eq_true_eq, decide_eq_false_iff_not] at q2 q3
    rcases q3 with q3 | q3
    · subst q3
      have := (hS1 (r - 1)).1
      rw [show r - 1 + 1 = r from by (with_reducible exact o221 ‹_›)] at this
      rcases q2 with q2 | q2 <;> (first | with_reducible exact o361 ‹_› ‹_› ‹_› ‹_› | with_reducible exact (o313 ‹_› ‹_›).elim)
    · rcases q2 with q2 | q2
      · subst q2; (with_reducible exact o312 ‹_› ‹_› ‹_›)
      · by_cases r0 : r = 0
        · subst r0; (with_reducible exact o312 ‹_› ‹_› ‹_›)
        · have := (hS1 (r - 1)).1
          rw [show r - 1 + 1 = r from by (with_reducible exact o404 ‹_›)] at this
          (with_reducible exact o289 ‹_› ‹_› ‹_›)
  · obtain ⟨q1, q2, q3⟩ := p2 hc
    rw [if_pos (by (with_reducible exact o110 ‹_›))]
    refine ⟨q1, ?_⟩
    simp only [decide_eq_true_eq, decide_eq_false_iff_not] at q2 q3
    rcases q3 with q3 | q3
    · subst q3
      have := (hS1 (r - 1)).2
      rw [show r - 1 + 1 = r from by (with_reducible exact o221 ‹_›)] at this
      rcases q2 with q2 | q2 <;> (first | with_reducible exact o320 ‹_› ‹_› ‹_› ‹_› | with_reducible exact (o313 ‹_› ‹_›).elim)
    · rcases q2 with q2 | q2
      · subst q2; (with_reducible exact o39 ‹_› ‹_› ‹_›)
      · by_cases r0 : r = 0
        · subst r0; (with_reducible exact o39 ‹_› ‹_› ‹_›)
        · have := (hS1 (r - 1)).2
          rw [show r - 1 + 1 = r from by (with_reducible exact o404 ‹_›)] at this
          (with_reducible exact o514 ‹_› ‹_› ‹_›)
/-- a list of refs to things of tl, the i-th as P tells -/
noncomputable def RefsIn (ys : Array Value) (n : Nat) (tl : List (Addr × Obj)) (P : Nat → Obj → Prop) : Prop := ys.size = n ∧ ∀ i, i < n → ∃ a o, ys[i]? = some (.ref a) ∧ (a, o) ∈ tl ∧ P i o
theorem RefsIn.nil {tl : List (Addr × Obj)} {P : Nat → Obj → Prop} : RefsIn #[] 0 tl P := ⟨rfl, fun i hi => nomatch hi⟩
theorem RefsIn.push {ys : Array Value} {n : Nat} {tl : List (Addr × Obj)} {P P' : Nat → Obj → Prop} {a : Addr} {o : Obj} (h : RefsIn ys n tl P) (hP : ∀ i o, i < n → P i o → P' i o) (q : P' n o) : RefsIn (ys.push (.ref a)) (n + 1) ((a, o) :: tl) P' := by
  refine ⟨by rw [Array.size_push, h.1], fun i hi => ?_⟩
  by_cases c : i < n
  · obtain ⟨b, ob, e1, e2, e3⟩ := h.2 i c
    exact ⟨b, ob, by rw [Array.getElem?_push_lt (by rw [h.1]; exact c), ← e1]; exact (Array.getElem?_eq_getElem (by rw [h.1]; exact c)).symm, .tail _ e2, hP i ob c e3⟩
  · obtain rfl : i = n := by omega
    exact ⟨a, o, by rw [← h.1, Array.getElem?_push_size], .head _, q⟩
theorem gotL {h₀ h h' : Heap} {L D : Addr} {m : Str → Option Value} {news tl : List (Addr × Obj)} {o : Obj} (F : Fr h₀ L h m) (N : News h₀ L h news) (x : Ext [] h h') (f : h.get? D = none) (g : h'.get? D = some o) (ht : ∀ p ∈ tl, h'.get? p.1 = some p.2 ∧ h.get? p.1 = none) :
    Fr h₀ L h' m ∧ News h₀ L h' ((D, o) :: (tl ++ news)) := by
  obtain ⟨F', N', _⟩ := got F N x f g
  refine ⟨F', fun p hp => ?_⟩
  rcases List.mem_cons.mp hp with rfl | hp
  · exact N' _ (.head _)
  · rcases List.mem_append.mp hp with hp | hp
    · have N2 := news_app (news := []) F (fun p hp => nomatch hp) ht
      exact N2 p hp
    · exact N' p (.tail _ hp)
theorem News.sub {h₀ h : Heap} {L : Addr} {news news' : List (Addr × Obj)} (N : News h₀ L h news) (hs : ∀ p ∈ news', p ∈ news) : News h₀ L h news' := fun p hp => N p (hs p hp)
theorem RefsIn.sub {ys : Array Value} {n : Nat} {tl tl' : List (Addr × Obj)} {P : Nat → Obj → Prop} (h : RefsIn ys n tl P) (hs : ∀ p ∈ tl, p ∈ tl') : RefsIn ys n tl' P :=
  ⟨h.1, fun i hi => let ⟨a, o, e1, e2, e3⟩ := h.2 i hi; ⟨a, o, e1, hs _ e2, e3⟩⟩
theorem storeC' {M : Model} {A : Around} {E : Value → Shared → Prop} {env : Env} {s : Shared} {x : Str} {v : Value} {Q : Unit → Shared → Prop} {h₀ : Heap} {L c : Addr} {m : Str → Option Value} {news : List (Addr × Obj)} {o : Obj} {v₀ : Option Value} (F : Fr h₀ L s.heap m) (N : News h₀ L s.heap news) (hm : (c, o) ∈ news) (hd : o.data = .cell v₀)
    (news' : Obj → List (Addr × Obj)) (hn : ∀ o', ∀ p ∈ news' o', p = (c, o') ∨ (p ∈ news ∧ p.1 ≠ c)) (h : ∀ h' o', Fr h₀ L h' m → News h₀ L h' (news' o') → o'.data = .cell (some v) → Q () { s with heap := h' })
    (hc : env.cells.lookup x = some c := by rfl) (hk : env.scope.kind = .function := by rfl) (hx : env.kindOf x = some .cell := by rfl) : wpAny M A (storeName env x v) Q E s := by
  have hmem := N (c, o) hm
  refine wpAny_storeName_cell hk hx hc ⟨o, hmem.1, hd⟩ fun h' hv hs => ?_
  obtain ⟨o', ho', hd'⟩ := hv
  refine h h' o' ⟨F.ns.sameBut hs (Ne.symm hmem.2.1), fun b ob e => (hs.2 b (fun q => ?_)).trans (F.keep b ob e), F.above⟩ (fun p hp => ?_) hd'
  · rw [q, hmem.2.2] at e; cases e
  · rcases hn o' p hp with rfl | ⟨hp, hne⟩
    · exact ⟨ho', hmem.2⟩
    · exact ⟨(hs.2 _ hne).trans (N p hp).1, (N p hp).2⟩
/-- a bead's tuple -/
noncomputable def PB (H S V : Nat → Nat) (i : Nat) (o : Obj) : Prop := ∃ t1 t2 t3, o = tupO #[.int (H i : Int) t1, .int (S i : Int) t2, .int (V i : Int) t3]
theorem beads_refs {ys : Array Value} {bs : List Bead} {tl : List (Addr × Obj)} (h : BeadsIn ys bs tl) (ok : ∀ b ∈ bs, b.ok) : ∃ H S V : Nat → Nat, (∀ i, i < bs.length → H i < 64 ∧ 1 ≤ S i ∧ S i ≤ 4 ∧ 1 ≤ V i ∧ V i ≤ 4) ∧ RefsIn ys bs.length tl (PB H S V) := by
  refine ⟨fun i => (bs.getD i ⟨0, 0, 0⟩).h, fun i => (bs.getD i ⟨0, 0, 0⟩).s, fun i => (bs.getD i ⟨0, 0, 0⟩).v, fun i hi => ?_, h.1, fun i hi => ?_⟩
  · have e : bs.getD i ⟨0, 0, 0⟩ = bs[i] := by rw [List.getD_eq_getElem?_getD, List.getElem?_eq_getElem hi]; rfl
    dsimp only
    rw [e]
    exact ok _ (List.getElem_mem hi)
  · have e : bs.getD i ⟨0, 0, 0⟩ = bs[i] := by rw [List.getD_eq_getElem?_getD, List.getElem?_eq_getElem hi]; rfl
    obtain ⟨a, t1, t2, t3, e1, e2⟩ := h.2 i _ (List.getElem?_eq_getElem hi)
    exact ⟨a, _, e1, e2, t1, t2, t3, by dsimp only; rw [e]⟩
theorem beads_cols {n : Nat} {H S V : Nat → Nat} (ok : ∀ i, i < n → H i < 64 ∧ 1 ≤ S i ∧ S i ≤ 4 ∧ 1 ≤ V i ∧ V i ≤ 4) : ∃ R G B : Nat → Int, ∀ i, i < n → BF (H i) (S i) (V i) (R i) (G i) (B i) := by
  have : ∀ i, ∃ c : Int × Int × Int, i < n → BF (H i) (S i) (V i) c.1 c.2.1 c.2.2 := fun i => by
    by_cases hi : i < n
    · obtain ⟨h1, h2, h3, h4, h5⟩ := ok i hi
      obtain ⟨r, g, b, q⟩ := bead_facts h1 h2 h3 h4 h5
      exact ⟨(r, g, b), fun _ => q⟩
    · exact ⟨(0, 0, 0), fun q => absurd q hi⟩
  exact ⟨fun i => (Classical.choose (this i)).1, fun i => (Classical.choose (this i)).2.1, fun i => (Classical.choose (this i)).2.2, fun i hi => Classical.choose_spec (this i) hi⟩
section
variable {prog : Program} {w : World} {A : Around} {E : Value → Shared → Prop} {s : Shared} {a : Nat} {t u : Tok} {Q : Value → Shared → Prop}
theorem div64 (hh : A.handled = none) (ha : a < 1000000) (h : Q (.float (Dz ((16 * a : Nat) : Int)) s.toks) { s with toks := s.toks + 1 }) : wpAny (model prog w) A (binaryOp .Div (.int (a : Int) t) (.int 64 u)) Q E s := by
  refine Flt.div_ii_fits hh (by rw [Int.natAbs_natCast]; exact Nat.lt_of_lt_of_le ha (by decide +kernel)) (fun e => by cases e) (fun _ _ => ?_)
  rw [decide_eq_false (by (with_reducible exact fun _ => o35 ‹_›)), decide_eq_false (by (with_reducible exact fun _ => o239 ‹_›)), Int.natAbs_natCast, show (64 : Int).natAbs = 64 from rfl, show ((false != false) = false) from rfl, ofFrac_D (m := 16 * a) (by decide) (by (with_reducible exact o389 ‹_›)) (by (with_reducible exact o196))]
  exact h
theorem div4 (hh : A.handled = none) (ha : a < 1000000) (h : Q (.float (Dz ((256 * a : Nat) : Int)) s.toks) { s with toks := s.toks + 1 }) : wpAny (model prog w) A (binaryOp .Div (.int (a : Int) t) (.int 4 u)) Q E s := by
  refine Flt.div_ii_fits hh (by rw [Int.natAbs_natCast]; exact Nat.lt_of_lt_of_le ha (by decide +kernel)) (fun e => by cases e) (fun _ _ => ?_)
  rw [decide_eq_false (by (with_reducible exact fun _ => o35 ‹_›)), decide_eq_false (by (with_reducible exact fun _ => o452 ‹_›)), Int.natAbs_natCast, show (4 : Int).natAbs = 4 from rfl, show ((false != false) = false) from rfl, ofFrac_D (m := 256 * a) (by decide) (by (with_reducible exact o447 ‹_›)) (by (with_reducible exact o440))]
  exact h
end
/-- a tuple of three floats, with tokens -/
noncomputable def PT (x y z : Nat → Int) (i : Nat) (o : Obj) : Prop := ∃ k l m, k ≠ 0 ∧ l ≠ 0 ∧ m ≠ 0 ∧ o = tupO #[.float (Dz (x i)) k, .float (Dz (y i)) l, .float (Dz (z i)) m]
theorem fr64 {a : Nat} (ha : a < 1000000) : Float64.ofFrac (decide ((a : Int) < 0) != decide ((64 : Int) < 0)) (a : Int).natAbs (Int.natAbs 64) = Dz ((16 * a : Nat) : Int) := by
  rw [decide_eq_false (by (with_reducible exact fun _ => o35 ‹_›)), decide_eq_false (by (with_reducible exact fun _ => o239 ‹_›)), Int.natAbs_natCast, show (64 : Int).natAbs = 64 from rfl, show ((false != false) = false) from rfl, ofFrac_D (m := 16 * a) (by decide) (by (with_reducible exact o389 ‹_›)) (by (with_reducible exact o196))]
theorem fr4 {a : Nat} (ha : a < 1000000) : Float64.ofFrac (decide ((a : Int) < 0) != decide ((4 : Int) < 0)) (a : Int).natAbs (Int.natAbs 4) = Dz ((256 * a : Nat) : Int) := by
  rw [decide_eq_false (by (with_reducible exact fun _ => o35 ‹_›)), decide_eq_false (by (with_reducible exact fun _ => o452 ‹_›)), Int.natAbs_natCast, show (4 : Int).natAbs = 4 from rfl, show ((false != false) = false) from rfl, ofFrac_D (m := 256 * a) (by decide) (by (with_reducible exact o447 ‹_›)) (by (with_reducible exact o440))]
theorem News.norm {h₀ h : Heap} {L : Addr} {e x y z : Addr × Obj} {tl T : List (Addr × Obj)} (N : News h₀ L h (e :: (tl ++ x :: y :: z :: T))) : News h₀ L h (x :: y :: z :: (e :: (tl ++ T))) := by
  refine News.sub N fun p hp => ?_
  simp only [List.mem_cons, List.mem_append] at hp ⊢
  rcases hp with hp | hp | hp | hp | hp | hp <;> simp [hp]
/-- the tokens of i things: told apart, none 0, all made before tk -/
structure TokJ (τ : Nat → Nat) (i tk : Nat) : Prop where
  lt : ∀ j, j < i → 0 < τ j ∧ τ j < tk
  inj : ∀ j l, j < i → l < i → τ j = τ l → j = l
theorem TokJ.zero (τ : Nat → Nat) (tk : Nat) : TokJ τ 0 tk := ⟨fun j hj => absurd hj (Nat.not_lt_zero _), fun j l hj => absurd hj (Nat.not_lt_zero _)⟩
theorem TokJ.up {τ : Nat → Nat} {i tk tk' : Nat} (h : TokJ τ i tk) (q : tk ≤ tk') : TokJ τ i tk' := ⟨fun j hj => ⟨(h.lt j hj).1, Nat.lt_of_lt_of_le (h.lt j hj).2 q⟩, h.inj⟩
noncomputable abbrev tokSet (τ : Nat → Nat) (i k : Nat) : Nat → Nat := fun j => if j = i then k else τ j
theorem TokJ.push {τ : Nat → Nat} {i tk k tk' : Nat} (h : TokJ τ i tk) (h0 : 0 < k) (h1 : tk ≤ k) (h2 : k < tk') : TokJ (tokSet τ i k) (i + 1) tk' := by
  refine ⟨fun j hj => ?_, fun j l hj hl e => ?_⟩
  · by_cases c : j = i
    · simp only [tokSet, if_pos c]; (with_reducible exact o127 ‹_› ‹_›)
    · simp only [tokSet, if_neg c]
      have := h.lt j (by (with_reducible exact o2 ‹_› ‹_›))
      (with_reducible exact o292 ‹_› ‹_› ‹_›)
  · by_cases c : j = i <;> by_cases d : l = i
    · (with_reducible exact o130 ‹_› ‹_›)
    · simp only [tokSet, if_pos c, if_neg d] at e
      have := h.lt l (by (with_reducible exact o2 ‹_› ‹_›))
      (with_reducible exact (o26 ‹_› ‹_› ‹_›).elim)
    · simp only [tokSet, if_pos d, if_neg c] at e
      have := h.lt j (by (with_reducible exact o2 ‹_› ‹_›))
      (with_reducible exact (o502 ‹_› ‹_› ‹_›).elim)
    · simp only [tokSet, if_neg d, if_neg c] at e
      exact h.inj j l (by (with_reducible exact o2 ‹_› ‹_›)) (by (with_reducible exact o2 ‹_› ‹_›)) e
/-- what rgb_to_hsv tells -/
noncomputable def PNm (τ : Nat → Nat) (x y z : Nat → Int) (i : Nat) (o : Obj) : Prop := ∃ l m, l ≠ 0 ∧ m ≠ 0 ∧ o = tupO #[.float (Dz (x i)) (τ i), .float (Dz (y i)) l, .float (Dz (z i)) m]
theorem PNm.set {τ : Nat → Nat} {x y z : Nat → Int} {i j k : Nat} {o : Obj} (h : PNm τ x y z j o) (hj : j < i) : PNm (tokSet τ i k) x y z j o := by
  unfold PNm at *
  rw [show tokSet τ i k j = τ j from if_neg (by omega)]
  exact h
/-- what rgb_to_hls tells -/
noncomputable def PL (τ : Nat → Nat) (x y : Nat → Int) (i : Nat) (o : Obj) : Prop := ∃ l m z, o = tupO #[.float (Dz (x i)) (τ i), .float (Dz (y i)) l, .float z m]
theorem PL.set {τ : Nat → Nat} {x y : Nat → Int} {i j k : Nat} {o : Obj} (h : PL τ x y j o) (hj : j < i) : PL (tokSet τ i k) x y j o := by
  unfold PL at *
  rw [show tokSet τ i k j = τ j from if_neg (by omega)]
  exact h
theorem hues_of {hs : Array Value} {n : Nat} {K : Nat → Nat} {τ : Nat → Nat} {tk : Nat} (h1 : hs.size = n) (h2 : ∀ i, i < n → hs[i]? = some (.float (Dz ((16 * K i : Nat) : Int)) (τ i))) (h3 : TokJ τ n tk) (h4 : ∀ i, i < n → K i < 64) : Hues hs n (fun i => Dz ((16 * K i : Nat) : Int)) K := by
  have heq : ∀ i j, i < n → j < n → (Float64.cmp (Dz ((16 * K i : Nat) : Int)) (Dz ((16 * K j : Nat) : Int)) == some Ordering.eq) = decide (K i = K j) := fun i j hi hj => by
    have a1 := h4 i hi
    have a2 := h4 j hj
    rw [eq_D (by (with_reducible exact o90 ‹_›)) (by (with_reducible exact o90 ‹_›))]
    exact decide_eq_decide.mpr (by (with_reducible exact o484))
  refine ⟨h1, fun i hi => ⟨τ i, Nat.ne_of_gt (h3.lt i hi).1, h2 i hi, fun j hj e => ?_⟩, heq, fun i j hi hj => ?_, fun i j hi hj e => ?_⟩
  · rw [h2 j hj] at e
    simp only [Option.some.injEq, Value.float.injEq] at e
    rw [h3.inj _ _ hj hi e.2]
  · have a1 := h4 i hi
    have a2 := h4 j hj
    rw [lt_D (by (with_reducible exact o90 ‹_›)) (by (with_reducible exact o90 ‹_›))]
    exact decide_eq_decide.mpr (by (with_reducible exact o93))
  · have a1 := heq i j hi hj
    have a2 := heq j j hj hj
    have e' : Dz ((16 * K i : Nat) : Int) = Dz ((16 * K j : Nat) : Int) := e
    rw [e', a2] at a1
    simp at a1
    exact a1
/-- two floats of one value, told alike -/
theorem eqAt_flt {A : Around} {s : Shared} {z : Int} {t u : Nat} (hz : z.natAbs < 2 ^ 40) (h0 : t ≠ 0) (h1 : u ≠ 0) (nb : NoneBooked s.heap) : SeqAt.EqAt A s (.float (Dz z) t) (.float (Dz z) u) true := fun prog w E Q h =>
  eqBool_flt h0 h1 nb true (by rw [eq_D hz hz]; simp) (fun _ => rfl) (fun _ => rfl) h
theorem eqAt_tup3 {A : Around} {s : Shared} {a b : Addr} {x y z : Int} {k l m k' l' m' : Nat} (hne : a ≠ b) (ha : s.heap.get? a = some (tupO #[.float (Dz x) k, .float (Dz y) l, .float (Dz z) m])) (hb : s.heap.get? b = some (tupO #[.float (Dz x) k', .float (Dz y) l', .float (Dz z) m']))
    (hu : A.units < cLine) (nb : NoneBooked s.heap) (hx : x.natAbs < 2 ^ 40) (hy : y.natAbs < 2 ^ 40) (hz : z.natAbs < 2 ^ 40) (k0 : k ≠ 0) (l0 : l ≠ 0) (m0 : m ≠ 0) (k1 : k' ≠ 0) (l1 : l' ≠ 0) (m1 : m' ≠ 0) : SeqAt.EqAt A s (.ref a) (.ref b) true := by
  have := SeqAt.RcAt.tuples (A := A) (s := s) (l := a) (b := b) (items := #[.float (Dz x) k, .float (Dz y) l, .float (Dz z) m]) (items2 := #[.float (Dz x) k', .float (Dz y) l', .float (Dz z) m']) (e := fun _ => true) ⟨_, ha, rfl, _, rfl⟩ ⟨_, hb, rfl, _, rfl⟩ hu (fun j h1 h2 => by
    have hj : j = 0 ∨ j = 1 ∨ j = 2 := by simp at h1; (with_reducible exact o194 ‹_›)
    rcases hj with rfl | rfl | rfl
    · exact eqAt_flt hx k0 k1 nb
    · exact eqAt_flt hy l0 l1 nb
    · exact eqAt_flt hz m0 m1 nb)
  exact SeqAt.EqAt.of_refs hne this
theorem nc_norm {h : Heap} {T tl : List (Addr × Obj)} {D c d : Addr} {o oc od : Obj} (h1 : h.get? c = some oc) (h2 : h.get? d = some od) (hD : h.get? D = none) (ht : ∀ p ∈ tl, h.get? p.1 = none) (nc : ∀ p ∈ T, p.1 ≠ c ∧ p.1 ≠ d) : ∀ p ∈ (D, o) :: (tl ++ T), p.1 ≠ c ∧ p.1 ≠ d := by
  intro p hp
  rcases List.mem_cons.mp hp with rfl | hp
  · exact ⟨fun e => (by rw [show D = c from e, h1] at hD; cases hD), fun e => (by rw [show D = d from e, h2] at hD; cases hD)⟩
  · rcases List.mem_append.mp hp with hp | hp
    · have := ht p hp
      exact ⟨fun e => (by rw [e, h1] at this; cases this), fun e => (by rw [e, h2] at this; cases this)⟩
    · exact nc p hp
theorem push_lt {ys : Array Value} {i j : Nat} {v : Value} (h : ys.size = i) (hj : j < i) : (ys.push v)[j]? = ys[j]? := by
  rw [Array.getElem?_push_lt (by (with_reducible exact o45 ‹_› ‹_›))]
  exact (Array.getElem?_eq_getElem (by (with_reducible exact o45 ‹_› ‹_›))).symm
theorem push_eq {ys : Array Value} {i : Nat} {v : Value} (h : ys.size = i) : (ys.push v)[i]? = some v := by
  subst h
  exact Array.getElem?_push_size
section
variable {w : World} {A : Around} {E : Value → Shared → Prop} {s : Shared}
theorem ne_rows {l b : Addr} {r1 r2 : Array Value} {is : List Nat} {Q : Value → Shared → Prop} {prog : Program} (h1 : RowIs r1 is) (h2 : RowIs r2 is) (hl : s.heap.IsList l r1) (hb : s.heap.IsList b r2) (hu : A.units < cLine) (h : Q (.bool false) s) : wpAny (model prog w) A (compareOp .NotEq (.ref l) (.ref b)) Q E s := by
  refine ne_same hl hb (by rw [h1.1, h2.1]) hu (fun j j1 j2 => ?_) h
  have hj : j < is.length := by rw [← h1.1]; exact j1
  obtain ⟨t, e1⟩ := h1.at_ hj
  obtain ⟨u, e2⟩ := h2.at_ hj
  have ea : r1[j] = .int ((is[j] : Nat) : Int) t := by have := Array.getElem?_eq_getElem j1; rw [e1] at this; exact (Option.some.inj this).symm
  have eb : r2[j] = .int ((is[j] : Nat) : Int) u := by have := Array.getElem?_eq_getElem j2; rw [e2] at this; exact (Option.some.inj this).symm
  rw [ea, eb]
  have := SeqAt.EqAt.int_int (A := A.in1) (s := s) ((is[j] : Nat) : Int) t ((is[j] : Nat) : Int) u
  rw [beq_self_eq_true] at this
  exact this
theorem ask_lex {prog : Program} {vs : List Value} {n : Nat} {H : Nat → Nat} (hv : ∀ i, i < n → ∃ a t1 t2, vs.getD i .none = .ref a ∧ s.heap.get? a = some (tupO #[.int (H i : Int) t1, .int (i : Int) t2])) {i j : Nat} {C : Bool → Shared → Prop} (hi : i < n) (hj : j < n)
    (h : C (decide (lexLt H i j)) s) : kas_ask prog w A (tuples' true) vs i j C s := by
  obtain ⟨a, t1, t2, e1, g1⟩ := hv i hi
  obtain ⟨b, u1, u2, e2, g2⟩ := hv j hj
  unfold kas_ask
  rw [e1, e2]
  refine kat_lt g1 rfl g2 rfl ?_
  show KatLex prog w A true (decide (2 < 2)) C [(Value.int (H i : Int) t1, Value.int (H j : Int) u1), (Value.int (i : Int) t2, Value.int (j : Int) u2)] 0 s
  refine kat_cons (wpAny_eqBool_int ?_)
  by_cases c : H i = H j
  · rw [show ((H i : Int) == (H j : Int)) = true from by simp [c]]
    refine kat_yes (kat_cons (wpAny_eqBool_int ?_))
    by_cases d : i = j
    · subst d
      rw [beq_self_eq_true]
      refine kat_yes (kat_nil ?_)
      rw [decide_eq_false (by unfold lexLt; (with_reducible exact fun _ => o374 ‹_›))] at h
      exact h
    · rw [show ((i : Int) == (j : Int)) = false from by simp; (with_reducible exact fun _ => o254 ‹_› ‹_›)]
      refine kat_no (kat_one _ _ (lt_int ?_))
      show C (decide ((i : Int) < (j : Int))) s
      have e : decide (lexLt H i j) = decide ((i : Int) < (j : Int)) := decide_eq_decide.mpr (by unfold lexLt; (with_reducible exact o262 ‹_›))
      rw [← e]
      exact h
  · rw [show ((H i : Int) == (H j : Int)) = false from by simp; (with_reducible exact fun _ => o254 ‹_› ‹_›)]
    refine kat_no (oneLt_int ?_)
    have e : decide (lexLt H i j) = decide ((H i : Int) < (H j : Int)) := decide_eq_decide.mpr (by unfold lexLt; (with_reducible exact o357 ‹_›))
    rw [← e]
    exact h
end
theorem katTups_of {h : Heap} : ∀ {vs : List Value}, (∀ v ∈ vs, ∃ a x t1 y t2, v = .ref a ∧ h.get? a = some (tupO #[.int x t1, .int y t2])) → ∃ fs, KatTups h vs fs ∧ fs.length = vs.length ∧ ∀ v ∈ fs, ∃ k t, v = Value.int k t
  | [], _ => ⟨[], trivial, rfl, fun v hv => nomatch hv⟩
  | v :: vs, hv => by
    obtain ⟨a, x, t1, y, t2, rfl, g⟩ := hv v (.head _)
    obtain ⟨fs, k1, k2, k3⟩ := katTups_of (vs := vs) fun u hu => hv u (.tail _ hu)
    refine ⟨.int x t1 :: fs, KatTups.cons g rfl rfl rfl k1, by rw [List.length_cons, List.length_cons, k2], fun u hu => ?_⟩
    rcases List.mem_cons.mp hu with rfl | hu
    · exact ⟨x, t1, rfl⟩
    · exact k3 u hu
theorem sorted_pairs {w : World} {A : Around} {E : Value → Shared → Prop} {s : Shared} {prog : Program} {h₀ : Heap} {L l : Addr} {m : Str → Option Value} {news : List (Addr × Obj)} {vs : List Value} {n : Nat} {H : Nat → Nat} {Q : Value → Shared → Prop} (F : Fr h₀ L s.heap m) (N : News h₀ L s.heap news) (hl : s.heap.IsList l vs.toArray)
    (hn : vs.length = n) (h2 : 2 ≤ n) (h64 : n < 64) (hv : ∀ i, i < n → ∃ a t1 t2, vs[i]? = some (.ref a) ∧ (a, tupO #[.int (H i : Int) t1, .int (i : Int) t2]) ∈ news)
    (ret : ∀ (D c : Nat) (h' : Heap) (p : Array Nat), Fr h₀ L h' m → News h₀ L h' ((D, listOf (p.toList.map fun i => vs.getD i Value.none).toArray c) :: news) → Wheel H n p.toList → Q (.ref D) { s with heap := h' }) :
    wpAny (model prog w) A (call (.builtin "sorted") [.ref l]) Q E s := by
  refine kat_sorted F N hl (by (with_reducible exact o51 ‹_› ‹_›)) (by (with_reducible exact o363 ‹_› ‹_›)) fun D e1 h' F' N' l1 => ?_
  obtain ⟨fs, k1, k2, k3⟩ := katTups_of (h := h') (vs := vs) fun v hm => by
    obtain ⟨i, hi, rfl⟩ := List.mem_iff_getElem.mp hm
    obtain ⟨a, t1, t2, e, q⟩ := hv i (by (with_reducible exact o354 ‹_› ‹_›))
    rw [List.getElem?_eq_getElem hi] at e
    exact ⟨a, _, t1, _, t2, Option.some.inj e, N'.get (.tail _ q)⟩
  refine kat_kind (s := { s with heap := h' }) (T := .type "int") k1 (by (with_reducible exact o37 ‹_› ‹_› ‹_›)) (fun v hv => ?_) rfl ?_
  · obtain ⟨k, t, rfl⟩ := k3 v hv
    exact Looks.of_pure rfl
  rw [show ((Value.type "int" != Value.type "tuple")) = true from by decide]
  refine OkT.wp (n := n) (lt := fun i j => decide (lexLt H i j)) (Inv := fun s' => s' = { s with heap := h' }) (P := fun q => GP n q ∧ SP (fun i j => decide (lexLt H i j)) q n) (fun i j C s' hi hj hs hc => ?_) (fun p s' hp hs => ?_) _ _ ?_ rfl
  · subst hs
    refine ask_lex (n := n) (H := H) (fun k hk => ?_) hi hj (hc _ rfl)
    obtain ⟨a, t1, t2, e, q⟩ := hv k hk
    exact ⟨a, t1, t2, by rw [List.getD_eq_getElem?_getD, e]; rfl, N'.get (.tail _ q)⟩
  · subst hs
    refine KasFin.intro F' N' (.head fun p hp => Nat.ne_of_lt (l1 p hp)) fun h'' c F'' N'' => ?_
    exact ret D c h'' p F'' N'' (wheel_of_sp hp.1 hp.2)
  · rw [hn]
    exact sort_ok (sto_lex H) h2
theorem pickF {n : Nat} {P : Nat → Int → Prop} (h : ∀ i, i < n → ∃ l, P i l) : ∃ f : Nat → Int, ∀ i, i < n → P i (f i) := by
  have : ∀ i, ∃ l, i < n → P i l := fun i => by
    by_cases hi : i < n
    · obtain ⟨l, q⟩ := h i hi
      exact ⟨l, fun _ => q⟩
    · exact ⟨0, fun q => absurd q hi⟩
  exact ⟨fun i => Classical.choose (this i), fun i hi => Classical.choose_spec (this i) hi⟩
theorem cmp_flt {w : World} {its : Array Value} {z : Nat → Int} {c : Int} {x : UInt64} {t : Tok} (hx : x = Dz c) (hc : c.natAbs < 2 ^ 40) (h : ∀ i v, its[i]? = some v → ∃ u, v = .float (Dz (z i)) u ∧ (z i).natAbs < 2 ^ 40) : CmpAt w its (.float x t) (fun i => decide (z i < c)) := by
  subst hx
  intro i v hv A Q E s hq
  obtain ⟨u, rfl, hz⟩ := h i v hv
  refine cmp_ofLt (AutoFloatOps.lt_0 ?_)
  rw [lt_D hz hc]
  exact hq
/-- where the wheel is cut, by hues in 64ths -/
theorem cut_wheel {r : Nat → Nat} {n c : Nat} {is : List Nat} (W : Wheel r n is) (h : Cut (fun i => decide (r (is.getD i 0) < 32)) n c) :
    (∀ a ∈ is.take c, r a < 32) ∧ (∀ a ∈ is.drop c, 32 ≤ r a) ∧ c = (List.range n).countP fun k => decide (r k < 32) := by
  have hl : is.length = n := by rw [W.1.length_eq, List.length_range]
  obtain ⟨h1, h2, h3⟩ := h
  have mono : ∀ i j, i ≤ j → j < n → r (is.getD i 0) ≤ r (is.getD j 0) := fun i j hij hj => by
    rcases Nat.lt_or_ge i j with q | q
    · have := List.pairwise_iff_getElem.mp W.2 i j (by (with_reducible exact o191 ‹_› ‹_› ‹_›)) (by (with_reducible exact o45 ‹_› ‹_›)) q
      rw [List.getD_eq_getElem?_getD, List.getD_eq_getElem?_getD, List.getElem?_eq_getElem (by (with_reducible exact o191 ‹_› ‹_› ‹_›)), List.getElem?_eq_getElem (by (with_reducible exact o45 ‹_› ‹_›))]
      simp only [Option.getD_some]
      unfold lexLt at this
      omega
    · obtain rfl : i = j := by (with_reducible exact o66 ‹_› ‹_›)
      exact Nat.le_refl _
  have t1 : ∀ a ∈ is.take c, r a < 32 := fun a ha => by
    obtain ⟨i, hi, rfl⟩ := List.mem_iff_getElem.mp ha
    rw [List.length_take] at hi
    have e : (is.take c)[i]'(by rw [List.length_take]; exact hi) = is.getD i 0 := by
      rw [List.getElem_take, List.getD_eq_getElem?_getD, List.getElem?_eq_getElem (by (with_reducible exact o348 ‹_›))]; rfl
    rw [e]
    rcases h2 with h2 | h2
    · (with_reducible exact (o314 ‹_› ‹_›).elim)
    · simp only [decide_eq_true_eq] at h2
      have := mono i (c - 1) (by (with_reducible exact o316 ‹_›)) (by (with_reducible exact o278 ‹_› ‹_›))
      (with_reducible exact o267 ‹_› ‹_›)
  have t2 : ∀ a ∈ is.drop c, 32 ≤ r a := fun a ha => by
    obtain ⟨i, hi, rfl⟩ := List.mem_iff_getElem.mp ha
    rw [List.length_drop] at hi
    have e : (is.drop c)[i]'(by rw [List.length_drop]; exact hi) = is.getD (c + i) 0 := by
      rw [List.getElem_drop, List.getD_eq_getElem?_getD, List.getElem?_eq_getElem (by (with_reducible exact o122 ‹_›))]; rfl
    rw [e]
    rcases h3 with h3 | h3
    · omega
    · simp only [decide_eq_false_iff_not] at h3
      have := mono c (c + i) (by (with_reducible exact o128)) (by (with_reducible exact o123 ‹_› ‹_›))
      (with_reducible exact o260 ‹_› ‹_›)
  refine ⟨t1, t2, ?_⟩
  rw [← W.1.countP_eq]
  have e : is.countP (fun k => decide (r k < 32)) = (is.take c).countP (fun k => decide (r k < 32)) + (is.drop c).countP (fun k => decide (r k < 32)) := by rw [← List.countP_append, List.take_append_drop]
  rw [e, List.countP_eq_length.mpr (fun a ha => decide_eq_true (t1 a ha)), List.countP_eq_zero.mpr (fun a ha => by have := t2 a ha; simp; omega), List.length_take]
  (with_reducible exact o439 ‹_› ‹_›)
/-- the wheel half a turn on -/
theorem wheel_turn {r : Nat → Nat} {n c : Nat} {is : List Nat} (W : Wheel r n is) (hr : ∀ i, i < n → r i < 64) (h1 : ∀ a ∈ is.take c, r a < 32) (h2 : ∀ a ∈ is.drop c, 32 ≤ r a) : Wheel (fun i => (r i + 32) % 64) n (is.drop c ++ is.take c) := by
  have hm : ∀ a ∈ is, r a < 64 := fun a ha => hr a (List.mem_range.mp (W.1.mem_iff.mp ha))
  have hd : ∀ a ∈ is.drop c, r a < 64 := fun a ha => hm a (List.mem_of_mem_drop ha)
  refine ⟨?_, ?_⟩
  · refine List.perm_append_comm.trans ?_
    rw [List.take_append_drop]
    exact W.1
  · rw [List.pairwise_append]
    refine ⟨?_, ?_, fun a ha b hb => ?_⟩
    · refine List.Pairwise.imp_of_mem (fun {a b} ha hb q => ?_) (W.2.sublist (List.drop_sublist _ _))
      have a1 := h2 a ha
      have a2 := h2 b hb
      have a3 := hd a ha
      have a4 := hd b hb
      unfold lexLt at *
      dsimp only
      omega
    · refine List.Pairwise.imp_of_mem (fun {a b} ha hb q => ?_) (W.2.sublist (List.take_sublist _ _))
      have a1 := h1 a ha
      have a2 := h1 b hb
      unfold lexLt at *
      dsimp only
      omega
    · have a1 := h2 a ha
      have a2 := h1 b hb
      have a3 := hd a ha
      unfold lexLt
      dsimp only
      omega
theorem RowIs.drop {a : Array Value} {is : List Nat} (h : RowIs a is) (c : Nat) : RowIs (a.toList.drop c).toArray (is.drop c) := by
  refine ⟨by simp [h.1], fun q i hq => ?_⟩
  rw [List.getElem?_drop] at hq
  rw [List.getElem?_toArray, List.getElem?_drop, Array.getElem?_toList]
  exact h.2 _ i hq
theorem RowIs.take {a : Array Value} {is : List Nat} (h : RowIs a is) (c : Nat) : RowIs (a.toList.take c).toArray (is.take c) := by
  refine ⟨by simp [h.1], fun q i hq => ?_⟩
  have hc : q < c := by
    by_cases hc : q < c
    · exact hc
    · rw [List.getElem?_eq_none (by rw [List.length_take]; (with_reducible exact o379 ‹_›))] at hq
      cases hq
  rw [List.getElem?_take_of_lt hc] at hq
  rw [List.getElem?_toArray, List.getElem?_take_of_lt hc, Array.getElem?_toList]
  exact h.2 _ i hq
theorem fairN {w : World} {A : Around} {E : Value → Shared → Prop} {Q : Value → Shared → Prop} {s : Shared} {h₀ : Heap} {L : Addr} {m : Str → Option Value} {mean : ExcName → Option Value} {mg mb : Str → Option Value} {c1 c2 : Addr × Obj} {ps : Array Value} {T1 xs : List (Addr × Obj)}
    {ra wa da nr nd n half : Nat} {rw : Array Value} {is : List Nat} {bs : List Bool} (X : (Mine.hd.heap_39 w.params).In h₀) (T : Top tp tlo mean mg mb h₀) (F : Fr h₀ L s.heap m) (N : News h₀ L s.heap (c1 :: c2 :: (116, tabObj ps) :: T1)) (h1 : c1.1 ≠ 116) (h2 : c2.1 ≠ 116) (nc : ∀ p ∈ T1, p.1 ≠ 116)
    (mr : (ra, listOf rw nr) ∈ T1) (md : (da, listOf (bs.map Value.bool).toArray nd) ∈ T1) (hw : s.heap.IsList wa (bs.map Value.bool).toArray) (hwa : wa ≠ 116) (R : RowIs rw is) (hp : is.Perm (List.range n)) (hn : n = 2 * half) (h0 : 0 < half) (h8 : half ≤ 32) (hb : bs.length = n) (hxs : ∀ p ∈ xs, p ∈ T1) (htab : TabOk xs ps)
    (ret : ∀ (h' : Heap) (tk : Nat) (ps' : Array Value) (ex : List (Addr × Obj)), Fr h₀ L h' m → News h₀ L h' (c1 :: c2 :: (116, tabObj ps') :: (ex ++ T1)) → TabOk (ex ++ xs) ps' → (∀ p ∈ ex ++ T1, p.1 ≠ 116) → s.toks ≤ tk → Q (.bool true) { s with heap := h', toks := tk })
    (hh : A.handled = none) (hd : A.depth ≤ 400) (hu : A.units ≤ 400) : wpAny (model PySem.Challenge.rw_pg0206_01.row.prog w) A (call (.ref 126) [.ref ra, .ref wa, .ref da]) Q E s := by
  have g116 : s.heap.get? 116 = some (tabObj ps) := N.get (.tail _ (.tail _ (.head _)))
  have b116 : h₀.get? 116 = none := N.fresh (show (116, tabObj ps) ∈ _ from .tail _ (.tail _ (.head _)))
  have hL116 : L ≠ 116 := (N _ (.tail _ (.tail _ (.head _)))).2.1.symm
  have hisl : is.length = n := by rw [hp.length_eq, List.length_range]
  have hl : (is.map fun i => bs.getD i false) = (List.range n).map fun k => bs.getD (is.getD k 0) false := by
    refine List.ext_getElem (by simp [hisl]) fun i j1 j2 => ?_
    have hi : i < is.length := by simpa using j1
    simp [List.getD_eq_getElem?_getD, List.getElem?_eq_getElem hi]
  refine toksle (lift (n := 400) (fair (xs := xs) X T F.keep (News.isList N (.tail _ (.tail _ (.tail _ mr)))) R hp hn h0 h8 hw (N.get (.tail _ (.tail _ (.tail _ md)))) hb g116 b116 (nc _ mr) hwa (nc _ md) htab
    (fun p hp => ⟨N.get (.tail _ (.tail _ (.tail _ (hxs p hp)))), nc p (hxs p hp)⟩) (fun r hr => fair_law hn h0 hl hr) fun h' tk ps' ex x g t e q => ?_) hh hd hu)
  have e116 : ∀ p ∈ ex, p.1 ≠ 116 := fun p hp c => by
    have := (e p hp).2
    rw [c, g116] at this
    cases this
  refine ret h' tk ps' ex (Fr.ext F x (by simpa using hL116) (by simpa using b116)) (fun p hp => ?_) t (fun p hp => ?_) q
  · have old : ∀ p ∈ c1 :: c2 :: (116, tabObj ps) :: T1, p.1 ≠ 116 → h'.get? p.1 = some p.2 ∧ p.1 ≠ L ∧ h₀.get? p.1 = none := fun p hp hne => ⟨x _ _ (N p hp).1 (by simpa using hne), (N p hp).2⟩
    rcases List.mem_cons.mp hp with rfl | hp
    · exact old _ (.head _) h1
    rcases List.mem_cons.mp hp with rfl | hp
    · exact old _ (.tail _ (.head _)) h2
    rcases List.mem_cons.mp hp with rfl | hp
    · exact ⟨g, hL116.symm, b116⟩
    rcases List.mem_append.mp hp with hp | hp
    · exact news_app (news := []) F (fun p hp => nomatch hp) e p hp
    · exact old p (.tail _ (.tail _ (.tail _ hp))) (nc p hp)
  · rcases List.mem_append.mp hp with hp | hp
    · exact e116 p hp
    · exact nc p hp
theorem light_int {V S : Nat} (h : S ≤ 4) : decide ((16 : Int) < (V : Int) * (8 - (S : Int))) = decide (16 < V * (8 - S)) := by
  have e : (V : Int) * (8 - (S : Int)) = ((V * (8 - S) : Nat) : Int) := by
    rw [Int.natCast_mul, Int.natCast_sub (by (with_reducible exact o88 ‹_›))]
    rfl
  rw [e]
  exact decide_eq_decide.mpr (by (with_reducible exact o492))
/-- a list that told truths fill -/
noncomputable def BoolsTo (ys : Array Value) (i : Nat) (f : Nat → Bool) : Prop := ys = (((List.range i).map f).map Value.bool).toArray
theorem BoolsTo.push {ys : Array Value} {i : Nat} {f : Nat → Bool} {b : Bool} (h : BoolsTo ys i f) (hb : b = f i) : BoolsTo (ys.push (.bool b)) (i + 1) f := by
  unfold BoolsTo at *
  rw [h, List.range_succ, List.map_append, List.map_append, List.push_toArray, hb]
  rfl
theorem BoolsTo.size {ys : Array Value} {i : Nat} {f : Nat → Bool} (h : BoolsTo ys i f) : ys.size = i := by rw [h]; simp
theorem gt_D {a b : Int} (ha : a.natAbs < 2 ^ 40) (hb : b.natAbs < 2 ^ 40) : (Float64.cmp (Dz a) (Dz b) == some .gt) = decide (b < a) := by
  rw [cmp_D ha hb]
  rcases Int.lt_trichotomy a b with h | h | h
  · rw [Int.compare_eq_lt.mpr h, decide_eq_false (by omega)]; rfl
  · subst h; simp
  · rw [Int.compare_eq_gt.mpr h]; simp [h]
section
variable {prog : Program} {w : World} {A : Around} {E : Value → Shared → Prop} {s : Shared} {a : Int} {t u : Tok} {Q : Value → Shared → Prop}
theorem gt_flt (ha : a.natAbs < 2 ^ 40) (h : Q (.bool (decide (512 < a))) s) : wpAny (model prog w) A (compareOp .Gt (.float (Dz a) t) (.float 4602678819172646912 u)) Q E s := by
  rw [lh_D]
  refine cmp_ofGt (AutoFloatOps.gt_0 ?_)
  rw [gt_D ha (by decide)]
  exact h
theorem lt_flt (ha : a.natAbs < 2 ^ 40) (h : Q (.bool (decide (a < 512))) s) : wpAny (model prog w) A (compareOp .Lt (.float (Dz a) t) (.float 4602678819172646912 u)) Q E s := by
  rw [lh_D]
  refine cmp_ofLt (AutoFloatOps.lt_0 ?_)
  rw [lt_D ha (by decide)]
  exact h
end
section
variable {prog : Program} {w : World} {A : Around} {s : Shared} {gC : Heap} {I : Addr} {its : Array Value} {n : Nat} {T : List (Addr × Obj)} {elt target : PySem.Expr} {scope : Scope} {cl : List (Str × Addr)} {env : Env} {J : Nat → Array Value → List (Addr × Obj) → Nat → Prop}
/-- one turn, for a known value -/
@[reducible] noncomputable def TurnV (prog : Program) (w : World) (A : Around) (s : Shared) (gC : Heap) (I : Addr) (elt target : PySem.Expr) (scope : Scope) (cl : List (Str × Addr)) (env : Env) (J : Nat → Array Value → List (Addr × Obj) → Nat → Prop) (i : Nat) (v : Value) : Prop :=
  ∀ (C D : Addr) (h₁ : Heap) (tk₁ : Nat) (ys : Array Value) (nD : Nat) (tl : List (Addr × Obj)) (oI : Obj) (m₁ : Str → Option Value), s.heap.get? C = none → Fr gC C h₁ m₁ → News gC C h₁ ((D, listOf ys nD) :: (I, oI) :: tl) → J i ys tl tk₁ → s.toks ≤ tk₁ →
      wpAny (model prog w) A (assign target (compEnvC scope cl C env) v) (fun _ s₂ => wpAny (model prog w) A (eval elt (compEnvC scope cl C env)) (EltEnd gC C D I ys nD oI tl s (J (i + 1))) (fun _ _ => False) s₂) (fun _ _ => False) { s with heap := h₁, toks := tk₁ }
theorem TurnC.refs {P' : Nat → Obj → Prop} (R : RefsIn its n T P') (g : ∀ p ∈ T, gC.get? p.1 = some p.2)
    (h : ∀ (i : Nat) (a : Addr) (o : Obj), i < n → P' i o → gC.get? a = some o → TurnV prog w A s gC I elt target scope cl env J i (.ref a)) :
    TurnC prog w A s gC I its.size (fun i v => its[i]? = some v) elt target [] scope cl env J := by
  refine TurnC.plain fun i v C D h₁ tk₁ ys nD tl oI m₁ hi hP => ?_
  rw [R.1] at hi
  obtain ⟨a, o, e1, e2, e3⟩ := R.2 i hi
  rw [e1] at hP
  cases hP
  exact h i a o hi e3 (g _ e2) C D h₁ tk₁ ys nD tl oI m₁
theorem TurnC.ofB {H S V : Nat → Nat} (R : RefsIn its n T (PB H S V)) (g : ∀ p ∈ T, gC.get? p.1 = some p.2)
    (h : ∀ (i : Nat) (a : Addr) (t1 t2 t3 : Nat), i < n → gC.get? a = some (tupO #[.int (H i : Int) t1, .int (S i : Int) t2, .int (V i : Int) t3]) → TurnV prog w A s gC I elt target scope cl env J i (.ref a)) :
    TurnC prog w A s gC I its.size (fun i v => its[i]? = some v) elt target [] scope cl env J :=
  TurnC.refs R g fun i a _ hi ⟨t1, t2, t3, e⟩ eg => h i a t1 t2 t3 hi (e ▸ eg)
theorem TurnC.ofT {x y z : Nat → Int} (R : RefsIn its n T (PT x y z)) (g : ∀ p ∈ T, gC.get? p.1 = some p.2)
    (h : ∀ (i : Nat) (a : Addr) (t1 t2 t3 : Nat), i < n → t1 ≠ 0 → t2 ≠ 0 → t3 ≠ 0 → gC.get? a = some (tupO #[.float (Dz (x i)) t1, .float (Dz (y i)) t2, .float (Dz (z i)) t3]) → TurnV prog w A s gC I elt target scope cl env J i (.ref a)) :
    TurnC prog w A s gC I its.size (fun i v => its[i]? = some v) elt target [] scope cl env J :=
  TurnC.refs R g fun i a _ hi ⟨t1, t2, t3, u1, u2, u3, e⟩ eg => h i a t1 t2 t3 hi u1 u2 u3 (e ▸ eg)
theorem TurnC.ofN {τ : Nat → Nat} {x y z : Nat → Int} (R : RefsIn its n T (PNm τ x y z)) (g : ∀ p ∈ T, gC.get? p.1 = some p.2)
    (h : ∀ (i : Nat) (a : Addr) (t1 t2 : Nat), i < n → t1 ≠ 0 → t2 ≠ 0 → gC.get? a = some (tupO #[.float (Dz (x i)) (τ i), .float (Dz (y i)) t1, .float (Dz (z i)) t2]) → TurnV prog w A s gC I elt target scope cl env J i (.ref a)) :
    TurnC prog w A s gC I its.size (fun i v => its[i]? = some v) elt target [] scope cl env J :=
  TurnC.refs R g fun i a _ hi ⟨t1, t2, u1, u2, e⟩ eg => h i a t1 t2 hi u1 u2 (e ▸ eg)
theorem TurnC.ofL {τ : Nat → Nat} {x y : Nat → Int} (R : RefsIn its n T (PL τ x y)) (g : ∀ p ∈ T, gC.get? p.1 = some p.2)
    (h : ∀ (i : Nat) (a : Addr) (t1 t2 : Nat) (z : UInt64), i < n → gC.get? a = some (tupO #[.float (Dz (x i)) (τ i), .float (Dz (y i)) t1, .float z t2]) → TurnV prog w A s gC I elt target scope cl env J i (.ref a)) :
    TurnC prog w A s gC I its.size (fun i v => its[i]? = some v) elt target [] scope cl env J :=
  TurnC.refs R g fun i a _ hi ⟨t1, t2, z, e⟩ eg => h i a t1 t2 z hi (e ▸ eg)
end
theorem gotC {h₀ h h' : Heap} {L D : Addr} {m : Str → Option Value} {news : List (Addr × Obj)} {o : Obj} {G : Prop} (F : Fr h₀ L h m) (N : News h₀ L h news) (x : Ext [] h h') (f : h.get? D = none) (g : h'.get? D = some o)
    (k : Fr h₀ L h' m → News h₀ L h' ((D, o) :: news) → G) : G := k (got F N x f g).1 (got F N x f g).2.1
theorem nameIt {α : Type} (x : α) {G : Prop} (k : ∀ T : α, T = x → G) : G := k x rfl
section
theorem lay_La_0 : True := by
  w_top off
  k_with_none
  k_with "eval Name" => (k_here; k_dflt (refine' nameE_C ?q9k1 ?_ ?q9k2 ?q9b ?q9c ?q9d; (case q9b => rfl); (case q9c => rfl); (case q9d => decide); (case q9k2 => rfl); (case q9k1 => first | with_reducible assumption | exact CellAt.keep (by with_reducible assumption) (by with_reducible assumption)); k_whole))
  k_with "eval Name" => (k_here; k_dflt (refine' nameE_B ?q9F ?q9X ?q9T ?q9e ?q9v ?q9n ?_ ?q9a ?q9a2 ?q9b ?q9c ?q9d; (case q9b => rfl); (case q9c => rfl); (case q9F => with_reducible assumption); (case q9X => with_reducible assumption); (case q9T => k_asm); (case q9a => rfl); (case q9a2 => rfl); (case q9d => decide); (case q9e => k_is); (case q9v => boot_fast); (case q9n => decide); k_whole))
  k_with "eval Name" => (k_here; k_dflt (refine' nameE_K ?q9F ?q9X ?q9T ?q9e ?_ ?q9a ?q9b ?q9c ?q9d; (case q9b => rfl); (case q9c => rfl); (case q9F => with_reducible assumption); (case q9X => with_reducible assumption); (case q9T => k_asm); (case q9a => rfl); (case q9d => decide); (case q9e => k_is); k_whole))
  k_with "eval Name" => (k_here; k_dflt (refine' nameE_L ?q9k1 ?q9k2 ?_ ?q9a ?q9b ?q9c ?q9d; (case q9c => rfl); (case q9k1 => with_reducible assumption); (case q9k2 => first | exact rfl | assumption); (case q9a => rfl); (case q9b => rfl); (case q9d => decide); k_whole))
  k_with "call builtin:len" => (k_here; (with_reducible show wpAny _ _ (call (Value.builtin "len") [Value.ref _]) _ _ _); k_dflt (refine' len_list ?q9k1 ?q9k2 ?_; (case q9k1 => first | with_reducible assumption | exact Fr.lst (by with_reducible assumption) (by with_reducible assumption) | exact News.isList (by with_reducible assumption) (by k_mem)); (case q9k2 => first | with_reducible assumption | omega); k_whole))
  k_with "subscriptTail" => (k_here; (with_reducible show wpAny _ _ (subscriptTail _ _ (Value.ref _) (Value.int _ _)) _ _ _); k_dflt (refine' item_at ?q9k1 ?q9k2 ?q9k3 ?q9k4 ?_; (case q9k1 => first | with_reducible assumption | exact Fr.lst (by with_reducible assumption) (by with_reducible assumption) | exact News.isList (by with_reducible assumption) (by k_mem)); (case q9k2 => omega); (case q9k3 => omega); (case q9k4 => first | with_reducible assumption | omega); k_whole); intro _ _)
  k_with "compareOp Lt" => (k_here; k_dflt (refine' CmpAt.use ?q9k1 ?q9k2 ?_; (case q9k1 => with_reducible assumption); (case q9k2 => assumption); k_whole))
  k_with "exec While Compare cons nil" => (k_here; refine Stop.to ?_)
  k_with "storeName" => (k_here; k_dflt (refine' stE ?q9F ?q9N ?_ ?q9a ?q9b ?q9c; (case q9b => rfl); (case q9F => with_reducible assumption); (case q9N => with_reducible assumption); (case q9a => rfl); (case q9c => rfl); k_whole); intro h' tk' F' N' q'; (try dsimp only at F' q'); (try dsimp only); revert h' tk' F' N' q'; intro _ _ _ _ _; (try k_sweep))
  k_with "binaryOp FloorDiv int int" => (k_here; refine' div_lit ?q9a ?q9b ?_; (case q9a => decide); (case q9b => decide); k_whole)
  k_with "binaryOp Mod int int" => (k_here; refine' mod_lit ?q9a ?q9b ?_; (case q9a => decide); (case q9b => decide); k_whole)
  k_with "call builtin:max" => (k_here; refine' max3 ?q9a ?q9b ?_ ?q9c; (case q9a => with_reducible assumption); (case q9b => with_reducible assumption); (case q9c => rfl); k_whole; intro h' tk' tk2' F' N' e' q'; (try dsimp only at q'); (try dsimp only); revert h' tk' tk2' F' N' e' q'; intro _ _ _ _ _ _ _; (try k_sweep))
  k_with "call builtin:min" => (k_here; refine' min3 ?q9a ?q9b ?_ ?q9c; (case q9a => with_reducible assumption); (case q9b => with_reducible assumption); (case q9c => rfl); k_whole; intro h' tk' tk2' F' N' e' q'; (try dsimp only at q'); (try dsimp only); revert h' tk' tk2' F' N' e' q'; intro _ _ _ _ _ _ _; (try k_sweep))
  k_with "execs cons" => (k_here; (with_reducible refine execs_seq ?_))
  k_with "execs nil" => (k_here; (with_reducible refine wpAny_execs_nil ?_); (try dsimp only))
  k_with "call ref" => (k_here; refine Stop.to ?_)
  k_with "exec For Name Call cons nil" => (k_here; refine Stop.to ?_)
  k_with "exec Assign cons ListComp cons" => (k_here; refine Stop.to ?_)
  k_with "exec Assign cons ListComp" => (k_here; refine Stop.to ?_)
  k_with "eval ListComp" => (k_here; refine Stop.to ?_)
  k_with "subscriptTail List Slice ref ref" => (k_here; k_dflt (refine kba_turn (value' := PySem.Expr.Name (PySem.Str.ofString "_") ⟨0, 0, 0, 0⟩) (fun _ => rfl) ?_))
  k_with "subscriptTail Name Slice ref ref" => (k_here; k_dflt (refine' kmk_slice ?q9F ?q9N ?q9l ?q9p ?q9q ?_ ?q9s ?q9t ?q9z; (case q9F => with_reducible assumption); (case q9N => with_reducible assumption); (case q9l => first | with_reducible assumption | exact News.isList (by with_reducible assumption) (by k_mem) | exact Fr.lst (by with_reducible assumption) (by with_reducible assumption)); (case q9p => first | exact IsPart.none | exact IsPart.int _ _); (case q9q => first | exact IsPart.none | exact IsPart.int _ _); (case q9s => with_unfolding_all rfl); (case q9t => (intro _; with_unfolding_all rfl)); (case q9z => first | with_reducible assumption | (rw [sizeLine_eq]; simp only [List.size_toArray, List.length_cons, List.length_nil]; omega) | (rw [sizeLine_eq]; omega))); intro D' h' F' N' l1; (try dsimp only); revert D' h' F' N' l1; intro _ _ _ _ _; (try k_sweep))
  k_with "binaryOp Add ref ref" => (k_here; k_dflt (refine' add_arrays ?q9F ?q9N ?q9l ?q9b ?_ ?q9z; (case q9F => with_reducible assumption); (case q9N => with_reducible assumption); (case q9l => first | with_reducible assumption | exact News.isList (by with_reducible assumption) (by k_mem) | exact Fr.lst (by with_reducible assumption) (by with_reducible assumption)); (case q9b => first | with_reducible assumption | exact News.isList (by with_reducible assumption) (by k_mem) | exact Fr.lst (by with_reducible assumption) (by with_reducible assumption)); (case q9z => first | with_reducible assumption | (rw [sizeLine_eq]; omega))); intro h' F' N'; (try dsimp only); revert h' F' N'; intro _ _ _; (try k_sweep))
  k_with "mem" => (first | exact List.Mem.head _ | with_reducible assumption | exact List.not_mem_nil | exact nm1 (by assumption) | exact nm1 (Ne.symm (by assumption)) | exact nm2 (by assumption) (by assumption) | (refine' List.mem_append_left _ ?_; k_extra "mem") | (refine' List.mem_append_right _ ?_; k_extra "mem") | (refine' List.Mem.tail _ ?_; k_extra "mem"))
  k_with "subscriptTail" => (k_here; refine Stop.to ?_)
  k_with "call builtin:sorted" => (k_here; refine Stop.to ?_)
  k_with "compareOp NotEq ref ref" => (k_here; refine Stop.to ?_)
  trivial
inductive LawEnd (s₁ : PySem.Shared) (g0 : Heap) (L : Addr) : Flow → PySem.Shared → Prop
  | mk {h : Heap} {tk : Nat} {m} (F : Fr g0 L h m) (G : GrownAt 116 h) : LawEnd s₁ g0 L (.ret (.bool true)) { s₁ with heap := h, toks := tk }
theorem law_holds : PySem.Challenge.rw_pg0206_01.Holds := by
  refine Mine.hd ?_
  k_go0
  all_goals try k_fold
  rename_i w s₀ s₁ mg mb G Y fa o pm cd doc ho hcd hg X0a V T0a B TE TW ns hs hlay0 hL1 hr1 hl2 w6 w5 sc vs w2 hL ra w1 r0 hI hrz hc1 hc2 hD h₁ tk₁ o2 o1 d2 d1 Y0 X T K F N l0
  have C0 : CodeHd (ghostOf s₁.heap [(120, 116)]) 120 116 := codeHd
  clear codeHd
  have hvs : vs.length ≤ 63 := by have := hI.length; (with_reducible exact o158 ‹_› ‹_›)
  generalize hg0 : ghostOf s₁.heap [(120, 116)] = g0 at *
  generalize s₁.heap.objs.size = L at *
  dsimp only at F d1 d2 N ⊢
  refine wpAny_mono (Q := LawEnd s₁ g0 L) (E := fun _ _ => False) ?walk ?close fun _ _ h => h.elim
  case close =>
    clear F N d1 d2 Y0
    rintro _ _ ⟨F9, G9⟩
    refine ⟨?_, G9, True.intro⟩
    try dsimp only
    k_steps
  k_steps
  refine Stop.mk ?_
  refine toksle (lift (lb (s := { s₁ with heap := h₁, toks := tk₁ }) X T F.keep (Fr.lst F lifted) hI (by (with_reducible exact o29 ‹_›)) fun h2 tk2 D nn bsA bs tl0 x2 f2 g2 t2 b2 b3 b4 q2 => ?_) rfl (Nat.le_of_ble_eq_true rfl) (Nat.le_of_ble_eq_true rfl))
  refine and2 (gotL F N x2 f2 g2 (fun p hp => ⟨(t2 p hp).1, (t2 p hp).2.1⟩)) fun F2 N2 => ?_
  have N_1 : h₁.get? (L + 1) = some o1 := N.get (by first | k_extra "mem" | simp)
  have N_2 : h₁.get? (L + 1 + 1) = some o2 := N.get (.head _)
  have N_3 : h₁.get? 116 = some (tabObj #[]) := N.get (.tail _ (.tail _ (.head _)))
  clear F N
  generalize (bindL _ _ _) = m0 at F2
  have nb0 : NoneBooked g0 := noneBooked_of X T
  try dsimp only
  k_steps
  have nc : ∀ p ∈ (D, listOf bsA nn) :: tl0, p.1 ≠ L + 1 + 1 ∧ p.1 ≠ 116 := by
    have := nc_norm (o := listOf bsA nn) (T := []) (tl := tl0) N_2 N_3 f2 (fun p hp => (t2 p hp).2.1) (fun p hp => nomatch hp)
    rw [List.append_nil] at this
    exact this
  have n116 : ∀ p ∈ tl0, p.1 ≠ L + 1 := fun p hp e => by
    have := (t2 p hp).2.1
    rw [e, N_1] at this
    cases this
  have nD1 : D ≠ L + 1 := fun e => by rw [e, N_1] at f2; cases f2
  refine storeC' (c := L + 1) (o := o1) F2 N2 (by first | k_extra "mem" | simp) d1 (fun o' => (L + 1, o') :: (L + 1 + 1, o2) :: (116, tabObj #[]) :: (D, listOf bsA nn) :: tl0) (fun o' p hp => ?_) ?_
  · rcases List.mem_cons.mp hp with rfl | hp
    · exact .inl rfl
    · refine .inr ⟨?_, ?_⟩
      · rcases List.mem_cons.mp hp with rfl | hp
        · first | k_extra "mem" | simp
        rcases List.mem_cons.mp hp with rfl | hp
        · first | k_extra "mem" | simp
        rcases List.mem_cons.mp hp with rfl | hp
        · first | k_extra "mem" | simp
        · first | k_extra "mem" | simp [hp]
      · rcases List.mem_cons.mp hp with rfl | hp
        · exact Nat.succ_ne_self _
        rcases List.mem_cons.mp hp with rfl | hp
        · exact Nat.ne_of_lt (Nat.lt_succ_of_lt l0)
        rcases List.mem_cons.mp hp with rfl | hp
        · exact nD1
        · exact n116 p hp
  intro h3 oB F3 N3 dB
  clear N2 n116 nD1 N_1 N_2 N_3 d1 x2 f2 g2 t2
  refine ex3 (beads_refs b2 b3) ?_
  intro H S V hX
  refine and2 hX ?_
  clear hX
  intro hok rB
  refine ex3 (beads_cols hok) ?_
  intro R Gr Bl hbf
  refine ex1 b4 ?_
  clear b4
  intro half hX
  refine and3 hX ?_
  clear hX
  intro hn h4 h8
  have ⟨T1, hT1⟩ : ∃ T1, T1 = (D, listOf bsA nn) :: tl0 := ⟨_, rfl⟩
  have mB : (D, listOf bsA nn) ∈ T1 := by rw [hT1]; exact .head _
  have rB := rB.sub (tl' := T1) (fun p hp => by rw [hT1]; exact .tail _ hp)
  rw [← hT1] at N3 nc
  clear hT1 b2 b3
  generalize bs.length = n at *
  try dsimp only
  k_steps
  refine Stop.mk (comp_assign0 (cl := []) (by with_unfolding_all rfl) (by with_unfolding_all rfl) rfl (by decide) ?_)
  k_steps
  have hlB : h3.IsList D bsA := News.isList N3 (.tail _ (.tail _ (.tail _ mB)))
  refine Stop.mk (wpAny_pyIter_list hlB ?_)
  refine comp_go (It := fun i o => o.cls = .type "list_iterator" ∧ o.data = .fields #[.ref D, .int i 0]) rfl (Src.list rfl hlB) (by rw [sizeLine_eq, rB.1]; (with_reducible exact o30 ‹_› ‹_›)) ⟨rfl, rfl⟩
    (fun i ys tl tk => RefsIn ys i tl (PT R Gr Bl)) (fun _ _ => RefsIn.nil) (fun _ _ _ _ _ h _ => h) (fun _ _ _ _ h => Nat.le_of_eq h.1) (by decide) rfl OwnT.tuple ?_ ?_
  · refine TurnC.ofB rB (fun p hp => N3.get (.tail _ (.tail _ (.tail _ hp)))) ?_
    intro i a t1 t2 t3 hi eG C D' h4 tk4 ys nD tl oI m4 hC F4 N4 hJ htk
    try dsimp only at hC F4 N4 htk ⊢
    k_fold
    have X4 : (Mine.hd.heap_39 w.params).In h3 := X.keeps F3.keep
    have T4 := T.keeps F3.keep
    have iT : IsTup h4 a #[.int (H i : Int) t1, .int (S i : Int) t2, .int (V i : Int) t3] := ⟨_, F4.keep _ _ eG, rfl, _, rfl⟩
    refine and5 (hok i hi) fun k1 k2 k3 k5 k6 => ?_
    k_steps
    refine Stop.mk ?_
    rename_i h5a h5b tk5 q5 h6 tk6 q6 h7 tk7 F7 N7 q7 cE z6 z5 z4 z3 z2 z1
    have bf := hbf i hi
    rw [fr64 (by (with_reducible exact o419 ‹_›)), fr4 (by (with_reducible exact o28 ‹_›)), fr4 (by (with_reducible exact o28 ‹_›))]
    refine toksle (lift (hr (s := { s₁ with heap := h7, toks := tk7 + 1 + 1 + 1 + 1 + 1 + 1 }) X4 T4 F7.keep ?p1 ?p2 ?p3 ?p4 bf.okh fun h8 tk8 D8 x y z k l m x8 f8 g8 e8 t8 q8 => ?p5) rfl ?p6 ?p7)
    case p1 => exact Nat.succ_pos _
    case p2 => (with_reducible exact fun _ => o20 ‹_›)
    case p3 => (with_reducible exact fun _ => o20 ‹_›)
    case p4 => (with_reducible exact fun _ => o20 ‹_›)
    case p6 => exact Nat.le_of_ble_eq_true rfl
    case p7 => exact Nat.le_of_ble_eq_true rfl
    rw [bf.col] at e8
    cases e8
    refine gotC F7 N7 x8 f8 g8 fun F8 N8 => ?_
    exact EltEnd.intro (tnew := [_]) F8 N8 (fun p hp => by rcases List.mem_cons.mp hp with rfl | hp; rfl; cases hp) fun tk' htk' => RefsIn.push hJ (fun _ _ _ h => h) ⟨k, l, m, t8.1, t8.2.1, t8.2.2, rfl⟩
  intro D5 C hx tkx mx ys5 nD5 tl5 hD hC Fx Nx hap hJ htk
  try dsimp only at hD hC Fx Nx htk ⊢
  refine compPost_store Fx Nx hC F3 N3 (by with_unfolding_all rfl) (by with_unfolding_all rfl) ?_
  intro h5 F5 Ny hny
  refine nameIt ((D5, listOf ys5 nD5) :: (tl5 ++ T1)) fun T2 hT => ?_
  have hs1 : ∀ p ∈ T1, p ∈ T2 := fun p hp => by rw [hT]; exact .tail _ (List.mem_append_right _ hp)
  have hs2 : ∀ p ∈ (tl5 : List (Addr × Obj)), p ∈ T2 := fun p hp => by rw [hT]; exact .tail _ (List.mem_append_left _ hp)
  have N5 := News.norm (tl := tl5) Ny
  rw [← hT] at N5
  replace mB := hs1 _ mB
  replace rB := rB.sub hs1
  have mC : (D5, listOf ys5 nD5) ∈ T2 := by rw [hT]; exact .head _
  rw [rB.1] at hJ
  have rC := RefsIn.sub hJ hs2
  replace nc : ∀ p ∈ T2, p.1 ≠ L + 1 + 1 ∧ p.1 ≠ 116 := by
    rw [hT]
    exact nc_norm (N3.get (.tail _ (.head _))) (N3.get (.tail _ (.tail _ (.head _)))) hD (fun p hp => Nx.fresh (.tail _ hp)) nc
  clear hT hs1 hs2 Ny hny Fx Nx hap hJ hD hC F3 N3
  clear hlB
  try dsimp only
  k_steps
  refine Stop.mk (comp_assign0 (cl := []) (by with_unfolding_all rfl) (by with_unfolding_all rfl) rfl (by decide) ?_)
  k_steps
  have hlC : h5.IsList D5 ys5 := News.isList N5 (.tail _ (.tail _ (.tail _ mC)))
  refine Stop.mk (wpAny_pyIter_list hlC ?_)
  refine comp_go (It := fun i o => o.cls = .type "list_iterator" ∧ o.data = .fields #[.ref D5, .int i 0]) rfl (Src.list rfl hlC) (by rw [sizeLine_eq, rC.1]; (with_reducible exact o30 ‹_› ‹_›)) ⟨rfl, rfl⟩
    (fun i ys tl tk => ∃ τ, TokJ τ i tk ∧ RefsIn ys i tl (PNm τ (fun i => ((16 * H i : Nat) : Int)) (fun i => ((256 * S i : Nat) : Int)) (fun i => ((256 * V i : Nat) : Int)))) (fun _ _ => ⟨fun _ => 0, TokJ.zero _ _, RefsIn.nil⟩) (fun _ _ _ _ _ h q => let ⟨τ, h1, h2⟩ := h; ⟨τ, h1.up q, h2⟩) (fun _ _ _ _ h => let ⟨_, _, h2⟩ := h; Nat.le_of_eq h2.1) (by decide) rfl OwnT.tuple ?_ ?_
  · refine TurnC.ofT rC (fun p hp => N5.get (.tail _ (.tail _ (.tail _ hp)))) ?_
    intro i a t1 t2 t3 hi u1 u2 u3 eG C D' h4 tk4 ys nD tl oI m4 hC F4 N4 hX htk
    try dsimp only at hC F4 N4 htk ⊢
    k_fold
    refine ex1 hX ?_
    clear hX
    intro τ hX
    refine and2 hX ?_
    clear hX
    intro jt hJ
    have X4 : (Mine.hd.heap_39 w.params).In h5 := X.keeps F5.keep
    have T4 := T.keeps F5.keep
    have iT : IsTup h4 a #[.float (Dz (R i)) t1, .float (Dz (Gr i)) t2, .float (Dz (Bl i)) t3] := ⟨_, F4.keep _ _ eG, rfl, _, rfl⟩
    k_steps
    refine Stop.mk ?_
    rename_i h5a h5b tk5 q5 h6 tk6 q6 h7 tk7 F7 N7 q7 cE
    have bf := hbf i hi
    have p1 : 0 < tk7 := by (with_reducible exact o81 ‹_›)
    refine toksle (lift (n := 900) (Mine.rv (s := { s₁ with heap := h7, toks := tk7 }) X4 T4 F7.keep p1 u1 u2 u3 bf.okc fun h8 tk8 D8 x y z k l m x8 f8 g8 e8 t8 q8 => ?_) rfl (Nat.le_of_ble_eq_true rfl) (Nat.le_of_ble_eq_true rfl))
    rw [bf.hue, bf.sat, bf.val] at e8
    cases e8
    refine gotC F7 N7 x8 f8 g8 fun F8 N8 => ?_
    have t9 : tk7 ≤ k ∧ k < tk8 := t8.1
    exact EltEnd.intro (tnew := [_]) F8 N8 (fun p hp => by rcases List.mem_cons.mp hp with rfl | hp; rfl; cases hp) fun tk' htk' => ⟨tokSet τ i k, (jt.push (by (with_reducible exact o276 ‹_› ‹_›)) (by (with_reducible exact o494 ‹_› ‹_› ‹_› ‹_›)) t9.2).up htk', RefsIn.push hJ (fun j o hj q => q.set hj) ⟨l, m, t8.2.1, t8.2.2, by rw [show tokSet τ i k i = k from if_pos rfl]⟩⟩
  intro D6 C hx tkx mx ys6 nD6 tl6 hD hC Fx Nx hap hJ htk
  try dsimp only at hD hC Fx Nx htk ⊢
  refine compPost_store Fx Nx hC F5 N5 (by with_unfolding_all rfl) (by with_unfolding_all rfl) ?_
  intro h6 F6 Ny hny
  refine nameIt ((D6, listOf ys6 nD6) :: (tl6 ++ T2)) fun T3 hT => ?_
  have hs1 : ∀ p ∈ T2, p ∈ T3 := fun p hp => by rw [hT]; exact .tail _ (List.mem_append_right _ hp)
  have hs2 : ∀ p ∈ (tl6 : List (Addr × Obj)), p ∈ T3 := fun p hp => by rw [hT]; exact .tail _ (List.mem_append_left _ hp)
  have N6 := News.norm (tl := tl6) Ny
  rw [← hT] at N6
  replace mB := hs1 _ mB
  replace mC := hs1 _ mC
  replace rB := rB.sub hs1
  replace rC := rC.sub hs1
  have mN : (D6, listOf ys6 nD6) ∈ T3 := by rw [hT]; exact .head _
  rw [rC.1] at hJ
  refine ex1 hJ ?_
  clear hJ
  intro τ hX
  refine and2 hX ?_
  clear hX
  intro jt hJ
  have rN := RefsIn.sub hJ hs2
  replace nc : ∀ p ∈ T3, p.1 ≠ L + 1 + 1 ∧ p.1 ≠ 116 := by
    rw [hT]
    exact nc_norm (N5.get (.tail _ (.head _))) (N5.get (.tail _ (.tail _ (.head _)))) hD (fun p hp => Nx.fresh (.tail _ hp)) nc
  clear hT hs1 hs2 Ny hny Fx Nx hap hJ hD hC F5 N5
  clear hlC
  try dsimp only
  k_steps
  refine Stop.mk (comp_eval0 (cl := []) (by with_unfolding_all rfl) rfl (by decide) ?_)
  k_steps
  have hlB : h6.IsList D bsA := News.isList N6 (.tail _ (.tail _ (.tail _ mB)))
  refine Stop.mk (wpAny_pyIter_list hlB ?_)
  refine comp_go (It := fun i o => o.cls = .type "list_iterator" ∧ o.data = .fields #[.ref D, .int i 0]) rfl (Src.list rfl hlB) (by rw [sizeLine_eq, rB.1]; (with_reducible exact o30 ‹_› ‹_›)) ⟨rfl, rfl⟩
    (fun i ys tl tk => RefsIn ys i tl (PT (fun i => ((16 * H i : Nat) : Int)) (fun i => ((256 * S i : Nat) : Int)) (fun i => ((256 * V i : Nat) : Int)))) (fun _ _ => RefsIn.nil) (fun _ _ _ _ _ h _ => h) (fun _ _ _ _ h => Nat.le_of_eq h.1) (by decide) rfl OwnT.tuple ?_ ?_
  · refine TurnC.ofB rB (fun p hp => N6.get (.tail _ (.tail _ (.tail _ hp)))) ?_
    intro i a t1 t2 t3 hi eG C D' h4 tk4 ys nD tl oI m4 hC F4 N4 hJ htk
    try dsimp only at hC F4 N4 htk ⊢
    k_fold
    have X4 : (Mine.hd.heap_39 w.params).In h6 := X.keeps F6.keep
    have T4 := T.keeps F6.keep
    have iT : IsTup h4 a #[.int (H i : Int) t1, .int (S i : Int) t2, .int (V i : Int) t3] := ⟨_, F4.keep _ _ eG, rfl, _, rfl⟩
    refine and5 (hok i hi) fun k1 k2 k3 k5 k6 => ?_
    k_steps
    rename_i h5a h5b tk5 q5 h6a tk6 q6 h7a tk7 q7 z6 z5 z4 z3 z2 z1 D8 h8 F8 N8 l8
    rw [fr64 (by (with_reducible exact o419 ‹_›)), fr4 (by (with_reducible exact o28 ‹_›)), fr4 (by (with_reducible exact o28 ‹_›))] at N8
    exact EltEnd.intro (tnew := [_]) F8 N8 (fun p hp => by rcases List.mem_cons.mp hp with rfl | hp; rfl; cases hp) fun tk' htk' => RefsIn.push hJ (fun _ _ _ h => h) ⟨_, _, _, Nat.succ_ne_zero _, Nat.succ_ne_zero _, Nat.succ_ne_zero _, rfl⟩
  intro D7 C hx tkx mx ys7 nD7 tl7 hD hC Fx Nx hap hJ htk
  try dsimp only at hD hC Fx Nx htk ⊢
  refine compPost_none Fx Nx ?_ hC
  intro h7 x7 g7 f7 t7
  have F7 : Fr g0 L h7 _ := Fr.ext (W := []) F6 (Ext.of_stays x7) (by first | k_extra "mem" | simp) (by first | k_extra "mem" | simp)
  have N7 := News.ext (W := []) N6 (Ext.of_stays x7) (by first | k_extra "mem" | simp)
  rw [rB.1] at hJ
  have nb7 : NoneBooked h7 := NoneBooked.keeps' nb0 fun b o e => F7.keep b o e
  try dsimp only
  k_steps
  refine Stop.mk (ne_same (News.isList N7 (.tail _ (.tail _ (.tail _ mN)))) ⟨_, g7, rfl, _, rfl⟩ (by rw [rN.1, hJ.1]) (Nat.le_of_ble_eq_true rfl) (fun j h1 h2 => ?_) ?_)
  · have hj : j < n := by rw [rN.1] at h1; exact h1
    obtain ⟨a, o, e1, e2, l, m, u1, u2, rfl⟩ := rN.2 j hj
    obtain ⟨b, o', e3, e4, k', l', m', v1, v2, v3, rfl⟩ := hJ.2 j hj
    have ea : ys6[j] = .ref a := by have := Array.getElem?_eq_getElem h1; rw [e1] at this; exact (Option.some.inj this).symm
    have eb : ys7[j] = .ref b := by have := Array.getElem?_eq_getElem h2; rw [e3] at this; exact (Option.some.inj this).symm
    rw [ea, eb]
    refine and5 (hok j hj) fun k1 k2 k3 k5 k6 => ?_
    have w1 : ((16 * H j : Nat) : Int).natAbs < 2 ^ 40 := by (with_reducible exact o90 ‹_›)
    have w2 : ((256 * S j : Nat) : Int).natAbs < 2 ^ 40 := by (with_reducible exact o286 ‹_›)
    have w3 : ((256 * V j : Nat) : Int).natAbs < 2 ^ 40 := by (with_reducible exact o286 ‹_›)
    refine eqAt_tup3 (fun e => ?_) (N7.get (.tail _ (.tail _ (.tail _ e2)))) (t7 _ e4).1 (Nat.le_of_ble_eq_true rfl) nb7 w1 w2 w3 (Nat.ne_of_gt (jt.lt j hj).1) u1 u2 v1 v2 v3
    have z1 := (t7 _ e4).2
    rw [← e, N6.get (.tail _ (.tail _ (.tail _ e2)))] at z1
    cases z1
  clear hJ t7 hap g7 f7 x7 Fx Nx hC hD hlB F6 N6 nb7
  k_steps
  refine Stop.mk (wpAny_Assign_Name ?_ ?_)
  rotate_left
  · with_unfolding_all rfl
  refine comp_eval0 (cl := []) (by with_unfolding_all rfl) rfl (by decide) ?_
  k_steps
  have hlN : h7.IsList D6 ys6 := News.isList N7 (.tail _ (.tail _ (.tail _ mN)))
  refine Stop.mk (wpAny_pyIter_list hlN ?_)
  refine comp_go (It := fun i o => o.cls = .type "list_iterator" ∧ o.data = .fields #[.ref D6, .int i 0]) rfl (Src.list rfl hlN) (by rw [sizeLine_eq, rN.1]; (with_reducible exact o30 ‹_› ‹_›)) ⟨rfl, rfl⟩
    (fun i ys tl tk => tl = [] ∧ ys.size = i ∧ ∀ j, j < i → ys[j]? = some (.float (Dz ((16 * H j : Nat) : Int)) (τ j))) (fun _ _ => ⟨rfl, rfl, fun j hj => absurd hj (Nat.not_lt_zero _)⟩) (fun _ _ _ _ _ h _ => h) (fun _ _ _ _ h => Nat.le_of_eq h.2.1) (by decide) rfl OwnT.name ?_ ?_
  · refine TurnC.ofN rN (fun p hp => N7.get (.tail _ (.tail _ (.tail _ hp)))) ?_
    intro i a t1 t2 hi u1 u2 eG C D' h4 tk4 ys nD tl oI m4 hC F4 N4 hX htk
    try dsimp only at hC F4 N4 htk ⊢
    k_fold
    refine and3 hX ?_
    clear hX
    intro eX j1 j2
    subst eX
    have X4 : (Mine.hd.heap_39 w.params).In h7 := X.keeps F7.keep
    have T4 := T.keeps F7.keep
    k_steps
    rename_i h5a tk5 F5a N5a q5
    have iT : IsTup h5a a #[.float (Dz ((16 * H i : Nat) : Int)) (τ i), .float (Dz ((256 * S i : Nat) : Int)) t1, .float (Dz ((256 * V i : Nat) : Int)) t2] := ⟨_, F5a.keep _ _ eG, rfl, _, rfl⟩
    refine Stop.mk (item_tuple iT (by decide) (by decide) (j := 0) rfl rfl ?_)
    refine EltEnd.intro (tnew := []) F5a N5a (fun p hp => nomatch hp) fun tk' htk' => ⟨rfl, by rw [Array.size_push, j1], fun j hj => ?_⟩
    by_cases hji : j < i
    · rw [push_lt j1 hji]
      exact j2 j hji
    · obtain rfl : j = i := by (with_reducible exact o132 ‹_› ‹_›)
      exact push_eq j1
  intro D8 C hx tkx mx ys8 nD8 tl8 hD hC Fx Nx hap hJ htk
  try dsimp only at hD hC Fx Nx htk ⊢
  refine compPost_none Fx Nx ?_ hC
  intro h8a x8 g8 f8 t8
  refine gotC F7 N7 (Ext.of_stays x8) f8 g8 fun F8a N8a => ?_
  rw [rN.1] at hJ
  refine and3 hJ ?_
  clear hJ
  intro e0X jh1 jh2
  subst e0X
  refine nameIt ((D8, listOf ys8 nD8) :: ([] ++ T3)) fun T4 hT => ?_
  have hs1 : ∀ p ∈ T3, p ∈ T4 := fun p hp => by rw [hT]; exact .tail _ hp
  have mH : (D8, listOf ys8 nD8) ∈ T4 := by rw [hT]; exact .head _
  replace mB := hs1 _ mB
  replace mC := hs1 _ mC
  replace mN := hs1 _ mN
  replace rB := rB.sub hs1
  replace rC := rC.sub hs1
  replace rN := rN.sub hs1
  replace nc : ∀ p ∈ T4, p.1 ≠ L + 1 + 1 ∧ p.1 ≠ 116 := by
    rw [hT]
    exact nc_norm (N7.get (.tail _ (.head _))) (N7.get (.tail _ (.tail _ (.head _)))) hD (fun p hp => nomatch hp) nc
  try dsimp only
  refine storeC' (c := L + 1 + 1) (o := o2) F8a N8a (.tail _ (.tail _ (.head _))) d2 (fun o' => (L + 1, oB) :: (L + 1 + 1, o') :: (116, tabObj #[]) :: T4) (fun o' p hp => ?_) ?_
  · rcases List.mem_cons.mp hp with rfl | hp
    · exact .inr ⟨.tail _ (.head _), Nat.ne_of_lt (Nat.lt_succ_self _)⟩
    rcases List.mem_cons.mp hp with rfl | hp
    · exact .inl rfl
    rcases List.mem_cons.mp hp with rfl | hp
    · exact .inr ⟨.tail _ (.tail _ (.tail _ (.head _))), Nat.ne_of_lt (Nat.lt_succ_of_lt (Nat.lt_succ_of_lt l0))⟩
    · refine .inr ⟨?_, (nc p hp).1⟩
      rw [hT] at hp
      rcases List.mem_cons.mp hp with rfl | hp
      · exact .head _
      · exact .tail _ (.tail _ (.tail _ (.tail _ hp)))
  intro h8 oH F8 N8 dH
  clear hT hs1 x8 g8 f8 t8 F8a N8a Fx Nx hap hD hC F7 N7 hlN d2
  have hhu := hues_of jh1 jh2 jt (fun i hi => (hok i hi).1)
  try dsimp only
  k_steps
  refine Stop.mk ?_
  refine toksle (lift (n := 600) (Mine.ls (s := { s₁ with heap := h8, toks := tkx }) X T F8.keep (News.isList N8 (.tail _ (.tail _ (.tail _ mH)))) hhu (by (with_reducible exact o145 ‹_› ‹_›)) fun h9 tk9 D9 nn9 rw9 ys9 x9 f9 g9 hs9 inj9 R9 q9 => ?_) rfl (Nat.le_of_ble_eq_true rfl) (Nat.le_of_ble_eq_true rfl))
  refine gotC F8 N8 x9 f9 g9 fun F9 N9a => ?_
  have W9 := heap_wheel (r := H) hs9 inj9
  generalize ((drainF (ltQ ys9 H) n (hfF (ltQ ys9 H) (n / 2) ys9)).map (ixOf ys9)) = is at R9 W9
  refine nameIt ((D9, listOf rw9 nn9) :: ([] ++ T4)) fun T5 hT => ?_
  have hs1 : ∀ p ∈ T4, p ∈ T5 := fun p hp => by rw [hT]; exact .tail _ (List.mem_append_right _ hp)
  have hs2 : ∀ p ∈ ([] : List (Addr × Obj)), p ∈ T5 := fun p hp => by rw [hT]; exact .tail _ (List.mem_append_left _ hp)
  have N9 := News.norm (tl := []) N9a
  rw [← hT] at N9
  replace mB := hs1 _ mB
  replace mC := hs1 _ mC
  replace mN := hs1 _ mN
  replace mH := hs1 _ mH
  replace rB := rB.sub hs1
  replace rC := rC.sub hs1
  replace rN := rN.sub hs1
  have mR : (D9, listOf rw9 nn9) ∈ T5 := by rw [hT]; exact .head _
  replace nc : ∀ p ∈ T5, p.1 ≠ L + 1 + 1 ∧ p.1 ≠ 116 := by
    rw [hT]
    exact nc_norm (N8.get (.tail _ (.head _))) (N8.get (.tail _ (.tail _ (.head _)))) f9 (fun p hp => nomatch hp) nc
  clear hT hs1 hs2 N9a x9 f9 g9 hs9 inj9 F8 N8 hhu
  try dsimp only
  k_steps
  rename_i h10 tk10 F10 N10 q10
  refine Stop.mk (comp_eval0 (cl := []) (by with_unfolding_all rfl) rfl (by decide) ?_)
  have hlB : h10.IsList D bsA := News.isList N10 (.tail _ (.tail _ (.tail _ mB)))
  have hzB : (bsA.size : Int) < 2 ^ 63 := by rw [rB.1]; (with_reducible exact o412 ‹_› ‹_›)
  k_steps
  refine Stop.mk (comp_eval0 (cl := [(Str.ofString "beads", L + 1)]) (by with_unfolding_all rfl) rfl (by decide) ?_)
  k_steps
  rename_i h11 tk11 t11 u11 v11 r11 F11 N11 k11
  rw [rB.1] at r11
  refine Stop.mk (pyIter_range r11 (by (with_reducible exact o300 ‹_› ‹_›)) ?_)
  have c11 : CellAt h11 (L + 1) (.ref D) := CellAt.news N11 (.head _) dB
  have hlB11 : h11.IsList D bsA := News.isList N11 (.tail _ (.tail _ (.tail _ mB)))
  refine comp_go (n := n) (oI := ritO 0 (n : Int) 1) (It := fun i o => o = ritO (i : Int) ((n : Int) - (i : Int)) 1) rfl (Src.range rfl) (by rw [sizeLine_eq]; (with_reducible exact o30 ‹_› ‹_›)) (by show ritO 0 (n : Int) 1 = ritO 0 ((n : Int) - 0) 1; rw [Int.sub_zero])
    (fun i ys tl tk => RefsIn ys i tl (fun i o => ∃ t1 t2, o = tupO #[.int (H i : Int) t1, .int (i : Int) t2])) (fun _ _ => RefsIn.nil) (fun _ _ _ _ _ h _ => h) (fun _ _ _ _ h => Nat.le_of_eq h.1) (by decide) rfl OwnT.name ?_ ?_
  · refine TurnC.plain ?_
    rintro i v C D' h4 tk4 ys nD tl oI m4 hi ⟨ti, rfl⟩ hC F4 N4 hJ htk
    try dsimp only at hC F4 N4 htk ⊢
    k_fold
    have X4 : (Mine.hd.heap_39 w.params).In h11 := X.keeps F11.keep
    have T4 := T.keeps F11.keep
    obtain ⟨a, o, e1, e2, t1, t2, t3, rfl⟩ := rB.2 i hi
    k_steps
    rename_i h5a tk5 F5a N5a q5
    refine Stop.mk (item_known e1 (Fr.lst F5a hlB11) hzB ?_)
    k_steps
    have iT : IsTup h5a a #[.int (H i : Int) t1, .int (S i : Int) t2, .int (V i : Int) t3] := ⟨_, F5a.keep _ _ (N11.get (.tail _ (.tail _ (.tail _ e2)))), rfl, _, rfl⟩
    refine Stop.mk (kba_turn (value' := PySem.Expr.Name (PySem.Str.ofString "_") ⟨0, 0, 0, 0⟩) (fun _ => rfl) (item_tuple iT (by decide) (by decide) (j := 0) rfl rfl ?_))
    k_steps
    rename_i D8a h8 F8 N8 l8
    exact EltEnd.intro (tnew := [_]) F8 N8 (fun p hp => by rcases List.mem_cons.mp hp with rfl | hp; rfl; cases hp) fun tk' htk' => RefsIn.push hJ (fun _ _ _ h => h) ⟨_, _, rfl⟩
  intro D12 C hx tkx mx ys12 nD12 tl12 hD hC Fx Nx hap hJ htk
  try dsimp only at hD hC Fx Nx htk ⊢
  refine compPost_none Fx Nx ?_ hC
  intro h12 x12 g12 f12 t12
  refine and2 (gotL F11 N11 (Ext.of_stays x12) f12 g12 t12) fun F12 N12 => ?_
  clear Fx Nx hap hD hC hlB hlB11 c11 x12 g12 f12 t12 F11 N11 r11 k11
  try dsimp only
  k_steps
  refine Stop.mk (sorted_pairs (vs := ys12.toList) (n := n) (H := H) F12 N12 (by rw [Array.toArray_toList]; exact News.isList N12 (.head _)) (by rw [Array.length_toList]; exact hJ.1) (by (with_reducible exact o91 ‹_› ‹_›)) (by (with_reducible exact o369 ‹_› ‹_›)) (fun i hi => ?_) ?_)
  · obtain ⟨a, o, e1, e2, t1, t2, rfl⟩ := hJ.2 i hi
    exact ⟨a, t1, t2, by rw [Array.getElem?_toList]; exact e1, .tail _ (List.mem_append_left _ e2)⟩
  intro D13 c13 h13 p13 F13 N13 W13
  have hp13 : p13.toList = is := wheel_one W13 W9
  rw [hp13] at N13
  clear F12 N12 W13 hp13
  have hisl : is.length = n := by rw [W9.1.length_eq, List.length_range]
  have hl13 := News.isList N13 (.head _)
  have hz13 : ((is.map fun i => ys12.toList.getD i Value.none).toArray).size = n := by rw [List.size_toArray, List.length_map]; exact hisl
  try dsimp only
  k_steps
  refine Stop.mk (wpAny_pyIter_list hl13 ?_)
  refine comp_go (It := fun i o => o.cls = .type "list_iterator" ∧ o.data = .fields #[.ref D13, .int i 0]) rfl (Src.list rfl hl13) (by rw [sizeLine_eq, hz13]; (with_reducible exact o30 ‹_› ‹_›)) ⟨rfl, rfl⟩
    (fun i ys tl tk => tl = [] ∧ RowIs ys (is.take i)) (fun _ _ => ⟨rfl, rfl, fun k i e => nomatch e⟩) (fun _ _ _ _ _ h _ => h) (fun _ _ _ _ h => by rw [h.2.1, List.length_take]; (with_reducible exact o250)) (by decide) rfl OwnT.tuple ?_ ?_
  · refine TurnC.plain ?_
    intro i v C D' h4 tk4 ys nD tl oI m4 hi hP hC F4 N4 hX htk
    try dsimp only at hC F4 N4 htk ⊢
    k_fold
    refine and2 hX ?_
    clear hX
    intro eX j1
    subst eX
    rw [hz13] at hi
    have hi2 : i < is.length := by rw [hisl]; exact hi
    have hin : is[i] < n := List.mem_range.mp (W9.1.mem_iff.mp (List.getElem_mem hi2))
    obtain ⟨a, o, e1, e2, t1, t2, rfl⟩ := hJ.2 _ hin
    have ev : v = .ref a := by
      rw [List.getElem?_toArray, List.getElem?_map, List.getElem?_eq_getElem hi2] at hP
      simp only [Option.map_some, Option.some.injEq] at hP
      rw [← hP, List.getD_eq_getElem?_getD, Array.getElem?_toList, e1]
      rfl
    subst ev
    have X4 : (Mine.hd.heap_39 w.params).In h13 := X.keeps F13.keep
    have T4 := T.keeps F13.keep
    have iT : IsTup h4 a #[.int (H is[i] : Int) t1, .int ((is[i] : Nat) : Int) t2] := ⟨_, F4.keep _ _ (N13.get (.tail _ (.tail _ (List.mem_append_left _ e2)))), rfl, _, rfl⟩
    k_steps
    rename_i h5a h5b tk5 q5 h6 tk6 F6 N6 q6
    refine EltEnd.intro (tnew := []) F6 N6 (fun p hp => nomatch hp) fun tk' htk' => ⟨rfl, ?_⟩
    rw [List.take_succ_eq_append_getElem hi2]
    exact RowIs.push j1
  intro D14 C hx tkx mx ys14 nD14 tl14 hD hC Fx Nx hap hK htk
  try dsimp only at hD hC Fx Nx htk ⊢
  refine compPost_none Fx Nx ?_ hC
  intro h14 x14 g14 f14 t14
  have F14 : Fr g0 L h14 _ := Fr.ext (W := []) F13 (Ext.of_stays x14) (by first | k_extra "mem" | simp) (by first | k_extra "mem" | simp)
  have N14 := News.ext (W := []) (News.sub (news' := (L + 1, oB) :: (L + 1 + 1, oH) :: (116, tabObj #[]) :: T5) N13 fun p hp => .tail _ (.tail _ (List.mem_append_right _ hp))) (Ext.of_stays x14) (by first | k_extra "mem" | simp)
  rw [hz13, List.take_of_length_le (by (with_reducible exact o18 ‹_›))] at hK
  clear F13 N13 hl13 Fx Nx hap hD hC
  try dsimp only
  k_steps
  refine Stop.mk (ne_rows R9 hK.2 (News.isList N14 (.tail _ (.tail _ (.tail _ mR)))) ⟨_, g14, rfl, _, rfl⟩ (Nat.le_of_ble_eq_true rfl) ?_)
  clear hK x14 g14 f14 t14 hJ hz13
  k_steps
  refine ex1 (pickF (n := n) (P := fun i l => lightF (Dz (1024 - R i)) (Dz (1024 - Gr i)) (Dz (1024 - Bl i)) = Dz l ∧ l.natAbs < 2 ^ 40 ∧ decide (l < 512) = decide (16 < V i * (8 - S i))) (fun i hi => (hbf i hi).lin)) ?_
  intro LN hLN
  refine ex1 (pickF (n := n) (P := fun i l => lightF (Dz (R i)) (Dz (Gr i)) (Dz (Bl i)) = Dz l ∧ l.natAbs < 2 ^ 40 ∧ decide (512 < l) = decide (16 < V i * (8 - S i))) (fun i hi => (hbf i hi).lit)) ?_
  intro LL hLL
  refine Stop.mk (comp_assign0 (cl := []) (by with_unfolding_all rfl) (by with_unfolding_all rfl) rfl (by decide) ?_)
  k_steps
  have hlC : h14.IsList D5 ys5 := News.isList N14 (.tail _ (.tail _ (.tail _ mC)))
  refine Stop.mk (wpAny_pyIter_list hlC ?_)
  refine comp_go (It := fun i o => o.cls = .type "list_iterator" ∧ o.data = .fields #[.ref D5, .int i 0]) rfl (Src.list rfl hlC) (by rw [sizeLine_eq, rC.1]; (with_reducible exact o30 ‹_› ‹_›)) ⟨rfl, rfl⟩
    (fun i ys tl tk => ∃ τ, TokJ τ i tk ∧ RefsIn ys i tl (PL τ (fun i => ((16 * ((H i + 32) % 64) : Nat) : Int)) LN)) (fun _ _ => ⟨fun _ => 0, TokJ.zero _ _, RefsIn.nil⟩) (fun _ _ _ _ _ h q => let ⟨τ, h1, h2⟩ := h; ⟨τ, h1.up q, h2⟩) (fun _ _ _ _ h => let ⟨_, _, h2⟩ := h; Nat.le_of_eq h2.1) (by decide) rfl OwnT.tuple ?_ ?_
  · refine TurnC.ofT rC (fun p hp => N14.get (.tail _ (.tail _ (.tail _ hp)))) ?_
    intro i a t1 t2 t3 hi u1 u2 u3 eG C D' h4 tk4 ys nD tl oI m4 hC F4 N4 hX htk
    try dsimp only at hC F4 N4 htk ⊢
    k_fold
    refine ex1 hX ?_
    clear hX
    intro τ hX
    refine and2 hX ?_
    clear hX
    intro jt hJ
    have X4 : (Mine.hd.heap_39 w.params).In h14 := X.keeps F14.keep
    have T4 := T.keeps F14.keep
    have iT : IsTup h4 a #[.float (Dz (R i)) t1, .float (Dz (Gr i)) t2, .float (Dz (Bl i)) t3] := ⟨_, F4.keep _ _ eG, rfl, _, rfl⟩
    k_steps
    refine Stop.mk ?_
    rename_i h5a h5b tk5 q5 h6 tk6 q6 h7 tk7 F7 N7 q7 cE
    have bf := hbf i hi
    rw [bf.nr, bf.ng, bf.nb]
    have p1 : 0 < tk7 + 1 + 1 + 1 + 1 + 1 + 1 := Nat.succ_pos _
    have p2 : ∀ k : Nat, k + 1 ≠ 0 := fun _ => Nat.succ_ne_zero _
    refine toksle (lift (n := 900) (Mine.rl (s := { s₁ with heap := h7, toks := tk7 + 1 + 1 + 1 + 1 + 1 + 1 }) X4 T4 F7.keep p1 (p2 _) (p2 _) (p2 _) bf.okn fun h8 tk8 D8a x y z k l m x8 f8 g8 e8 t8 q8 => ?_) rfl (Nat.le_of_ble_eq_true rfl) (Nat.le_of_ble_eq_true rfl))
    rw [bf.hun, (hLN i hi).1] at e8
    cases e8
    refine gotC F7 N7 x8 f8 g8 fun F8 N8 => ?_
    have t9 : tk7 + 1 + 1 + 1 + 1 + 1 + 1 ≤ k ∧ k < tk8 := t8.1
    exact EltEnd.intro (tnew := [_]) F8 N8 (fun p hp => by rcases List.mem_cons.mp hp with rfl | hp; rfl; cases hp) fun tk' htk' => ⟨tokSet τ i k, (jt.push (by (with_reducible exact o276 ‹_› ‹_›)) (by (with_reducible exact o378 ‹_› ‹_› ‹_› ‹_›)) t9.2).up htk', RefsIn.push hJ (fun j o hj q => q.set hj) ⟨l, m, z, by rw [show tokSet τ i k i = k from if_pos rfl]⟩⟩
  intro D15 C hx tkx mx ys15 nD15 tl15 hD hC Fx Nx hap hJ htk
  try dsimp only at hD hC Fx Nx htk ⊢
  refine compPost_store Fx Nx hC F14 N14 (by with_unfolding_all rfl) (by with_unfolding_all rfl) ?_
  intro h15 F15 Ny hny
  refine nameIt ((D15, listOf ys15 nD15) :: (tl15 ++ T5)) fun T6 hT => ?_
  have hs1 : ∀ p ∈ T5, p ∈ T6 := fun p hp => by rw [hT]; exact .tail _ (List.mem_append_right _ hp)
  have hs2 : ∀ p ∈ (tl15 : List (Addr × Obj)), p ∈ T6 := fun p hp => by rw [hT]; exact .tail _ (List.mem_append_left _ hp)
  have N15 := News.norm (tl := tl15) Ny
  rw [← hT] at N15
  replace mB := hs1 _ mB
  replace mC := hs1 _ mC
  replace mN := hs1 _ mN
  replace mH := hs1 _ mH
  replace mR := hs1 _ mR
  replace rB := rB.sub hs1
  replace rC := rC.sub hs1
  replace rN := rN.sub hs1
  have mT : (D15, listOf ys15 nD15) ∈ T6 := by rw [hT]; exact .head _
  rw [rC.1] at hJ
  refine ex1 hJ ?_
  clear hJ
  intro τ2 hX
  refine and2 hX ?_
  clear hX
  intro jt2 hJ
  have rT := RefsIn.sub hJ hs2
  replace nc : ∀ p ∈ T6, p.1 ≠ L + 1 + 1 ∧ p.1 ≠ 116 := by
    rw [hT]
    exact nc_norm (N14.get (.tail _ (.head _))) (N14.get (.tail _ (.tail _ (.head _)))) hD (fun p hp => Nx.fresh (.tail _ hp)) nc
  clear hT hs1 hs2 Ny hny Fx Nx hap hJ hD hC F14 N14
  clear hlC
  try dsimp only
  k_steps
  refine Stop.mk (comp_eval0 (cl := []) (by with_unfolding_all rfl) rfl (by decide) ?_)
  k_steps
  have hlT : h15.IsList D15 ys15 := News.isList N15 (.tail _ (.tail _ (.tail _ mT)))
  refine Stop.mk (wpAny_pyIter_list hlT ?_)
  refine comp_go (It := fun i o => o.cls = .type "list_iterator" ∧ o.data = .fields #[.ref D15, .int i 0]) rfl (Src.list rfl hlT) (by rw [sizeLine_eq, rT.1]; (with_reducible exact o30 ‹_› ‹_›)) ⟨rfl, rfl⟩
    (fun i ys tl tk => tl = [] ∧ ys.size = i ∧ ∀ j, j < i → ys[j]? = some (.float (Dz ((16 * ((H j + 32) % 64) : Nat) : Int)) (τ2 j))) (fun _ _ => ⟨rfl, rfl, fun j hj => absurd hj (Nat.not_lt_zero _)⟩) (fun _ _ _ _ _ h _ => h) (fun _ _ _ _ h => Nat.le_of_eq h.2.1) (by decide) rfl OwnT.name ?_ ?_
  · refine TurnC.ofL rT (fun p hp => N15.get (.tail _ (.tail _ (.tail _ hp)))) ?_
    intro i a t1 t2 z hi eG C D' h4 tk4 ys nD tl oI m4 hC F4 N4 hX htk
    try dsimp only at hC F4 N4 htk ⊢
    k_fold
    refine and3 hX ?_
    clear hX
    intro eX j1 j2
    subst eX
    have X4 : (Mine.hd.heap_39 w.params).In h15 := X.keeps F15.keep
    have T4 := T.keeps F15.keep
    k_steps
    rename_i h5a tk5 F5a N5a q5
    have iT : IsTup h5a a #[.float (Dz ((16 * ((H i + 32) % 64) : Nat) : Int)) (τ2 i), .float (Dz (LN i)) t1, .float z t2] := ⟨_, F5a.keep _ _ eG, rfl, _, rfl⟩
    refine Stop.mk (item_tuple iT (by decide) (by decide) (j := 0) rfl rfl ?_)
    refine EltEnd.intro (tnew := []) F5a N5a (fun p hp => nomatch hp) fun tk' htk' => ⟨rfl, by rw [Array.size_push, j1], fun j hj => ?_⟩
    by_cases hji : j < i
    · rw [push_lt j1 hji]
      exact j2 j hji
    · obtain rfl : j = i := by (with_reducible exact o132 ‹_› ‹_›)
      exact push_eq j1
  intro D16 C hx tkx mx ys16 nD16 tl16 hD hC Fx Nx hap hJ htk
  try dsimp only at hD hC Fx Nx htk ⊢
  refine compPost_none Fx Nx ?_ hC
  intro h16 x16 g16 f16 t16
  refine gotC F15 N15 (Ext.of_stays x16) f16 g16 fun F16 N16a => ?_
  have N16 := News.sub (news' := (L + 1, oB) :: (L + 1 + 1, oH) :: (116, tabObj #[]) :: T6) N16a fun p hp => .tail _ hp
  rw [rT.1] at hJ
  refine and3 hJ ?_
  clear hJ
  intro e0X jb1 jb2
  subst e0X
  have hhb := hues_of (K := fun i => (H i + 32) % 64) jb1 jb2 jt2 (fun i hi => Nat.mod_lt _ (by decide))
  clear Fx Nx hap hD hC hlT F15 N15 x16 f16 t16
  try dsimp only
  k_steps
  refine Stop.mk ?_
  refine toksle (lift (n := 600) (Mine.ls (s := { s₁ with heap := h16, toks := tkx }) X T F16.keep ⟨_, g16, rfl, _, rfl⟩ hhb (by (with_reducible exact o145 ‹_› ‹_›)) fun h17 tk17 D17 nn17 rw17 ys17 x17 f17 g17 hs17 inj17 R17 q17 => ?_) rfl (Nat.le_of_ble_eq_true rfl) (Nat.le_of_ble_eq_true rfl))
  refine gotC F16 N16 x17 f17 g17 fun F17 N17a => ?_
  have W17 := heap_wheel (r := fun i => (H i + 32) % 64) hs17 inj17
  generalize ((drainF (ltQ ys17 fun i => (H i + 32) % 64) n (hfF (ltQ ys17 fun i => (H i + 32) % 64) (n / 2) ys17)).map (ixOf ys17)) = js at R17 W17
  refine nameIt ((D17, listOf rw17 nn17) :: ([] ++ T6)) fun T7 hT => ?_
  have hs1 : ∀ p ∈ T6, p ∈ T7 := fun p hp => by rw [hT]; exact .tail _ (List.mem_append_right _ hp)
  have hs2 : ∀ p ∈ ([] : List (Addr × Obj)), p ∈ T7 := fun p hp => by rw [hT]; exact .tail _ (List.mem_append_left _ hp)
  have N17 := News.norm (tl := []) N17a
  rw [← hT] at N17
  replace mB := hs1 _ mB
  replace mC := hs1 _ mC
  replace mN := hs1 _ mN
  replace mH := hs1 _ mH
  replace mR := hs1 _ mR
  replace mT := hs1 _ mT
  replace rB := rB.sub hs1
  replace rC := rC.sub hs1
  replace rN := rN.sub hs1
  replace rT := rT.sub hs1
  have mK : (D17, listOf rw17 nn17) ∈ T7 := by rw [hT]; exact .head _
  replace nc : ∀ p ∈ T7, p.1 ≠ L + 1 + 1 ∧ p.1 ≠ 116 := by
    rw [hT]
    exact nc_norm (N16.get (.tail _ (.head _))) (N16.get (.tail _ (.tail _ (.head _)))) f17 (fun p hp => nomatch hp) nc
  clear hT hs1 hs2 N17a x17 f17 g17 hs17 inj17 F16 N16 N16a hhb g16 jb1 jb2
  try dsimp only
  k_steps
  rename_i h18 tk18 F18 N18 q18
  refine Stop.mk (comp_eval0 (cl := [(Str.ofString "hues", L + 1 + 1)]) (by with_unfolding_all rfl) rfl (by decide) ?_)
  k_steps
  have hlR : h18.IsList D9 rw9 := News.isList N18 (.tail _ (.tail _ (.tail _ mR)))
  have hlH : h18.IsList D8 ys8 := News.isList N18 (.tail _ (.tail _ (.tail _ mH)))
  have cH : CellAt h18 (L + 1 + 1) (.ref D8) := CellAt.news N18 (.tail _ (.head _)) dH
  have hzR : rw9.size = n := by rw [R9.1]; exact hisl
  have hzH : (ys8.size : Int) < 2 ^ 63 := by rw [jh1]; (with_reducible exact o412 ‹_› ‹_›)
  refine Stop.mk (wpAny_pyIter_list hlR ?_)
  refine comp_go (It := fun i o => o.cls = .type "list_iterator" ∧ o.data = .fields #[.ref D9, .int i 0]) rfl (Src.list rfl hlR) (by rw [sizeLine_eq, hzR]; (with_reducible exact o30 ‹_› ‹_›)) ⟨rfl, rfl⟩
    (fun i ys tl tk => tl = [] ∧ ys.size = i ∧ ∀ j, j < i → ∃ t, ys[j]? = some (.float (Dz ((16 * H (is.getD j 0) : Nat) : Int)) t)) (fun _ _ => ⟨rfl, rfl, fun j hj => absurd hj (Nat.not_lt_zero _)⟩) (fun _ _ _ _ _ h _ => h) (fun _ _ _ _ h => Nat.le_of_eq h.2.1) (by decide) rfl OwnT.name ?_ ?_
  · refine TurnC.plain ?_
    intro i v C D' h4 tk4 ys nD tl oI m4 hi hP hC F4 N4 hX htk
    try dsimp only at hC F4 N4 htk ⊢
    k_fold
    refine and3 hX ?_
    clear hX
    intro eX j1 j2
    subst eX
    rw [hzR] at hi
    have hi2 : i < is.length := by rw [hisl]; exact hi
    have hin : is[i] < n := List.mem_range.mp (W9.1.mem_iff.mp (List.getElem_mem hi2))
    obtain ⟨t, e1⟩ := R9.at_ hi2
    rw [e1] at hP
    cases hP
    have X4 : (Mine.hd.heap_39 w.params).In h18 := X.keeps F18.keep
    have T4 := T.keeps F18.keep
    have egd : is.getD i 0 = is[i] := by rw [List.getD_eq_getElem?_getD, List.getElem?_eq_getElem hi2]; rfl
    k_steps
    rename_i h5a tk5 F5a N5a q5
    refine Stop.mk (item_known (jh2 _ hin) (Fr.lst F5a hlH) hzH ?_)
    refine EltEnd.intro (tnew := []) F5a N5a (fun p hp => nomatch hp) fun tk' htk' => ⟨rfl, by rw [Array.size_push, j1], fun j hj => ?_⟩
    by_cases hji : j < i
    · rw [push_lt j1 hji]
      exact j2 j hji
    · obtain rfl : j = i := by (with_reducible exact o132 ‹_› ‹_›)
      rw [egd]
      exact ⟨_, push_eq j1⟩
  intro D19 C hx tkx mx ys19 nD19 tl19 hD hC Fx Nx hap hJ htk
  try dsimp only at hD hC Fx Nx htk ⊢
  refine compPost_none Fx Nx ?_ hC
  intro h19 x19 g19 f19 t19
  have F19 : Fr g0 L h19 _ := Fr.ext (W := []) F18 (Ext.of_stays x19) (by first | k_extra "mem" | simp) (by first | k_extra "mem" | simp)
  have N19 := News.ext (W := []) N18 (Ext.of_stays x19) (by first | k_extra "mem" | simp)
  rw [hzR] at hJ
  refine and3 hJ ?_
  clear hJ
  intro e0X jc1 jc2
  subst e0X
  clear Fx Nx hap hD hC hlR hlH cH x19 f19 t19
  try dsimp only
  k_steps
  refine Stop.mk ?_
  refine blN (its := ys19) (p := fun i => decide (((16 * H (is.getD i 0) : Nat) : Int) < 512)) X T F19 N19 ⟨_, g19, rfl, _, rfl⟩ (by rw [jc1]; (with_reducible exact o220 ‹_› ‹_›)) (cmp_flt (z := fun i => ((16 * H (is.getD i 0) : Nat) : Int)) lh_D (by decide) fun i v hv => ?_) ?_ rfl (Nat.le_of_ble_eq_true rfl) (Nat.le_of_ble_eq_true rfl)
  · have hi : i < n := by rw [← jc1]; exact (Array.getElem?_eq_some_iff.mp hv).1
    obtain ⟨t, e⟩ := jc2 i hi
    rw [hv] at e
    have hin : is.getD i 0 < n := by
      have hi2 : i < is.length := by rw [hisl]; exact hi
      have egd : is.getD i 0 = is[i] := by rw [List.getD_eq_getElem?_getD, List.getElem?_eq_getElem hi2]; rfl
      rw [egd]
      exact List.mem_range.mp (W9.1.mem_iff.mp (List.getElem_mem hi2))
    have := (hok _ hin).1
    exact ⟨t, Option.some.inj e, by (with_reducible exact o90 ‹_›)⟩
  intro h20 tk20 tk21 cut x20 F20 N20 q20 cu20
  have cu21 : Cut (fun i => decide (H (is.getD i 0) < 32)) n cut := by
    rw [jc1] at cu20
    have e : (fun i => decide (((16 * H (is.getD i 0) : Nat) : Int) < 512)) = (fun i => decide (H (is.getD i 0) < 32)) := by
      funext i
      exact decide_eq_decide.mpr (by (with_reducible exact o353))
    rw [e] at cu20
    exact cu20
  refine and3 (cut_wheel W9 cu21) ?_
  intro w1 w2 w3
  have hjs : js = is.drop cut ++ is.take cut := wheel_one W17 (wheel_turn W9 (fun i hi => (hok i hi).1) w1 w2)
  clear cu20 cu21 w1 w2 F19 N19 g19 jc1 jc2 x20 F18 N18
  try dsimp only
  k_steps
  rename_i h22 tk22 F22 N22 q22
  refine Stop.mk (comp_eval0 (cl := []) (by with_unfolding_all rfl) rfl (by decide) ?_)
  k_steps
  have hlB : h22.IsList D bsA := News.isList N22 (.tail _ (.tail _ (.tail _ mB)))
  refine Stop.mk (wpAny_pyIter_list hlB ?_)
  refine comp_go (It := fun i o => o.cls = .type "list_iterator" ∧ o.data = .fields #[.ref D, .int i 0]) rfl (Src.list rfl hlB) (by rw [sizeLine_eq, rB.1]; (with_reducible exact o30 ‹_› ‹_›)) ⟨rfl, rfl⟩
    (fun i ys tl tk => tl = [] ∧ ys.size = (List.range i).countP (fun k => decide (H k < 32))) (fun _ _ => ⟨rfl, rfl⟩) (fun _ _ _ _ _ h _ => h) (fun i _ _ _ h => by rw [h.2]; exact Nat.le_trans List.countP_le_length (by rw [List.length_range]; (with_reducible exact o85))) (by decide) rfl OwnT.tuple ?_ ?_
  · rintro i v C D' h4 tk4 ys nD tl oI m4 hi hP hC F4 N4 ⟨rfl, j1⟩ htk
    try dsimp only at hC F4 N4 htk ⊢
    k_fold
    rw [rB.1] at hi
    obtain ⟨a, o, e1, e2, t1, t2, t3, rfl⟩ := rB.2 i hi
    rw [e1] at hP
    cases hP
    have X4 : (Mine.hd.heap_39 w.params).In h22 := X.keeps F22.keep
    have T4 := T.keeps F22.keep
    have iT : IsTup h4 a #[.int (H i : Int) t1, .int (S i : Int) t2, .int (V i : Int) t3] := ⟨_, F4.keep _ _ (N22.get (.tail _ (.tail _ (.tail _ e2)))), rfl, _, rfl⟩
    have ec : (List.range (i + 1)).countP (fun k => decide (H k < 32)) = (List.range i).countP (fun k => decide (H k < 32)) + (if H i < 32 then 1 else 0) := by
      rw [List.range_succ, List.countP_append, List.countP_cons, List.countP_nil]
      by_cases c : H i < 32 <;> simp [c]
    k_steps
    · rename_i h5a h5b tk5 q5 h6 tk6 q6 h7 tk7 F7 N7 q7 c7
      exact EltEnd.intro (tnew := []) F7 N7 (fun p hp => nomatch hp) fun tk' htk' => ⟨rfl, by rw [Array.size_push, j1, ec, if_pos (by (with_reducible exact o371 ‹_›))]⟩
    · rename_i h5a h5b tk5 q5 h6 tk6 q6 h7 tk7 F7 N7 q7 c7
      exact SkipEnd.intro F7 N7 ⟨rfl, by rw [j1, ec, if_neg (by omega)]; rfl⟩
  intro D23 C hx tkx mx ys23 nD23 tl23 hD hC Fx Nx hap hJ htk
  try dsimp only at hD hC Fx Nx htk ⊢
  refine compPost_none Fx Nx ?_ hC
  intro h23 x23 g23 f23 t23
  refine gotC F22 N22 (Ext.of_stays x23) f23 g23 fun F23 N23 => ?_
  rw [rB.1] at hJ
  have e23 : ys23.size = cut := by rw [hJ.2, w3]
  have hcn : cut ≤ n := by rw [w3]; exact Nat.le_trans List.countP_le_length (by rw [List.length_range]; (with_reducible exact o85))
  have hz23 : (ys23.size : Int) < 2 ^ 63 := by omega
  clear Fx Nx hap hD hC hlB x23 g23 f23 t23 hJ F22 N22
  try dsimp only
  k_steps
  · exact absurd (congrArg (fun z : Nat => (z : Int)) e23.symm) ‹_›
  rename_i a23
  have N24 := News.sub (news' := (L + 1, oB) :: (L + 1 + 1, oH) :: (116, tabObj #[]) :: T7) N23 fun p hp => .tail _ hp
  have hz9 : rw9.size ≤ sizeLine := by rw [sizeLine_eq, hzR]; (with_reducible exact o30 ‹_› ‹_›)
  refine Stop.mk (kmk_slice F23 N24 (News.isList N24 (.tail _ (.tail _ (.tail _ mR)))) (IsPart.int _ _) IsPart.none ?_ (by with_unfolding_all rfl) (by intro _; with_unfolding_all rfl) hz9)
  intro D25 h25 F25 N25 l25
  rw [pick_from] at N25
  have R25 := R9.drop cut
  generalize (rw9.toList.drop cut).toArray = W25 at N25 R25
  clear F23 N23 N24 a23 e23 hz23
  try dsimp only
  k_steps
  refine Stop.mk (kmk_slice F25 N25 (News.isList N25 (.tail _ (.tail _ (.tail _ (.tail _ mR))))) IsPart.none (IsPart.int _ _) ?_ (by with_unfolding_all rfl) (by intro _; with_unfolding_all rfl) hz9)
  intro D26 h26 F26 N26 l26
  rw [pick_upto] at N26
  have R26 := R9.take cut
  generalize (rw9.toList.take cut).toArray = W26 at N26 R26
  have hz26 : W25.size + W26.size ≤ sizeLine := by
    rw [R25.1, R26.1, List.length_drop, List.length_take, sizeLine_eq]
    (with_reducible exact o343 ‹_› ‹_› ‹_›)
  clear F25 N25
  try dsimp only
  k_steps
  rename_i h27 F27 N27
  rw [hjs] at R17
  refine Stop.mk (ne_rows R17 (RowIs.app R25 R26) (News.isList N27 (.tail _ (.tail _ (.tail _ (.tail _ (.tail _ (.tail _ mK))))))) (News.isList N27 (.head _)) (Nat.le_of_ble_eq_true rfl) ?_)
  have N28 := News.sub (news' := (L + 1, oB) :: (L + 1 + 1, oH) :: (116, tabObj #[]) :: T7) N27 fun p hp => .tail _ (.tail _ (.tail _ hp))
  clear N27 R25 R26 hz26
  try dsimp only
  k_steps
  refine Stop.mk (comp_assign0 (cl := []) (by with_unfolding_all rfl) (by with_unfolding_all rfl) rfl (by decide) ?_)
  k_steps
  have hlB : h27.IsList D bsA := News.isList N28 (.tail _ (.tail _ (.tail _ mB)))
  refine Stop.mk (wpAny_pyIter_list hlB ?_)
  refine comp_go (It := fun i o => o.cls = .type "list_iterator" ∧ o.data = .fields #[.ref D, .int i 0]) rfl (Src.list rfl hlB) (by rw [sizeLine_eq, rB.1]; (with_reducible exact o30 ‹_› ‹_›)) ⟨rfl, rfl⟩
    (fun i ys tl tk => tl = [] ∧ BoolsTo ys i (fun k => decide (16 < V k * (8 - S k)))) (fun _ _ => ⟨rfl, rfl⟩) (fun _ _ _ _ _ h _ => h) (fun _ _ _ _ h => Nat.le_of_eq h.2.size) (by decide) rfl OwnT.tuple ?_ ?_
  · refine TurnC.ofB rB (fun p hp => N28.get (.tail _ (.tail _ (.tail _ hp)))) ?_
    intro i a t1 t2 t3 hi eG C D' h4 tk4 ys nD tl oI m4 hC F4 N4 hX htk
    try dsimp only at hC F4 N4 htk ⊢
    k_fold
    refine and2 hX ?_
    clear hX
    intro eX j1
    subst eX
    have X4 : (Mine.hd.heap_39 w.params).In h27 := X.keeps F27.keep
    have T4 := T.keeps F27.keep
    have iT : IsTup h4 a #[.int (H i : Int) t1, .int (S i : Int) t2, .int (V i : Int) t3] := ⟨_, F4.keep _ _ eG, rfl, _, rfl⟩
    have kS := (hok i hi).2.2.1
    k_steps
    rename_i h5a h5b tk5 q5 h6 tk6 q6 h7 tk7 F7 N7 q7
    exact EltEnd.intro (tnew := []) F7 N7 (fun p hp => nomatch hp) fun tk' htk' => ⟨rfl, BoolsTo.push j1 (light_int kS)⟩
  intro D29 C hx tkx mx ys29 nD29 tl29 hD hC Fx Nx hap hJ htk
  try dsimp only at hD hC Fx Nx htk ⊢
  refine compPost_store Fx Nx hC F27 N28 (by with_unfolding_all rfl) (by with_unfolding_all rfl) ?_
  intro h29 F29 Ny hny
  refine nameIt ((D29, listOf ys29 nD29) :: (tl29 ++ T7)) fun T8 hT => ?_
  have hs1 : ∀ p ∈ T7, p ∈ T8 := fun p hp => by rw [hT]; exact .tail _ (List.mem_append_right _ hp)
  have hs2 : ∀ p ∈ (tl29 : List (Addr × Obj)), p ∈ T8 := fun p hp => by rw [hT]; exact .tail _ (List.mem_append_left _ hp)
  have N29 := News.norm (tl := tl29) Ny
  rw [← hT] at N29
  replace mB := hs1 _ mB
  replace mC := hs1 _ mC
  replace mN := hs1 _ mN
  replace mH := hs1 _ mH
  replace mR := hs1 _ mR
  replace mT := hs1 _ mT
  replace mK := hs1 _ mK
  replace rB := rB.sub hs1
  replace rC := rC.sub hs1
  replace rN := rN.sub hs1
  replace rT := rT.sub hs1
  have mL : (D29, listOf ys29 nD29) ∈ T8 := by rw [hT]; exact .head _
  rw [rB.1] at hJ
  refine and2 hJ ?_
  clear hJ
  intro hJ rL
  replace nc : ∀ p ∈ T8, p.1 ≠ L + 1 + 1 ∧ p.1 ≠ 116 := by
    rw [hT]
    exact nc_norm (N28.get (.tail _ (.head _))) (N28.get (.tail _ (.tail _ (.head _)))) hD (fun p hp => Nx.fresh (.tail _ hp)) nc
  clear hT hs1 hs2 Ny hny Fx Nx hap hJ hD hC F27 N28
  clear hlB
  try dsimp only
  k_steps
  refine Stop.mk (comp_assign0 (cl := []) (by with_unfolding_all rfl) (by with_unfolding_all rfl) rfl (by decide) ?_)
  k_steps
  have hlB : h29.IsList D bsA := News.isList N29 (.tail _ (.tail _ (.tail _ mB)))
  refine Stop.mk (wpAny_pyIter_list hlB ?_)
  refine comp_go (It := fun i o => o.cls = .type "list_iterator" ∧ o.data = .fields #[.ref D, .int i 0]) rfl (Src.list rfl hlB) (by rw [sizeLine_eq, rB.1]; (with_reducible exact o30 ‹_› ‹_›)) ⟨rfl, rfl⟩
    (fun i ys tl tk => tl = [] ∧ BoolsTo ys i (fun k => decide (2 < S k))) (fun _ _ => ⟨rfl, rfl⟩) (fun _ _ _ _ _ h _ => h) (fun _ _ _ _ h => Nat.le_of_eq h.2.size) (by decide) rfl OwnT.tuple ?_ ?_
  · refine TurnC.ofB rB (fun p hp => N29.get (.tail _ (.tail _ (.tail _ hp)))) ?_
    intro i a t1 t2 t3 hi eG C D' h4 tk4 ys nD tl oI m4 hC F4 N4 hX htk
    try dsimp only at hC F4 N4 htk ⊢
    k_fold
    refine and2 hX ?_
    clear hX
    intro eX j1
    subst eX
    have X4 : (Mine.hd.heap_39 w.params).In h29 := X.keeps F29.keep
    have T4 := T.keeps F29.keep
    have iT : IsTup h4 a #[.int (H i : Int) t1, .int (S i : Int) t2, .int (V i : Int) t3] := ⟨_, F4.keep _ _ eG, rfl, _, rfl⟩
    have kS := (hok i hi).2.2.1
    k_steps
    rename_i h5a h5b tk5 q5 h6 tk6 q6 h7 tk7 F7 N7 q7
    exact EltEnd.intro (tnew := []) F7 N7 (fun p hp => nomatch hp) fun tk' htk' => ⟨rfl, BoolsTo.push j1 (decide_eq_decide.mpr (by (with_reducible exact o131)))⟩
  intro D30 C hx tkx mx ys30 nD30 tl30 hD hC Fx Nx hap hJ htk
  try dsimp only at hD hC Fx Nx htk ⊢
  refine compPost_store Fx Nx hC F29 N29 (by with_unfolding_all rfl) (by with_unfolding_all rfl) ?_
  intro h30 F30 Ny hny
  refine nameIt ((D30, listOf ys30 nD30) :: (tl30 ++ T8)) fun T9 hT => ?_
  have hs1 : ∀ p ∈ T8, p ∈ T9 := fun p hp => by rw [hT]; exact .tail _ (List.mem_append_right _ hp)
  have hs2 : ∀ p ∈ (tl30 : List (Addr × Obj)), p ∈ T9 := fun p hp => by rw [hT]; exact .tail _ (List.mem_append_left _ hp)
  have N30 := News.norm (tl := tl30) Ny
  rw [← hT] at N30
  replace mB := hs1 _ mB
  replace mC := hs1 _ mC
  replace mN := hs1 _ mN
  replace mH := hs1 _ mH
  replace mR := hs1 _ mR
  replace mT := hs1 _ mT
  replace mK := hs1 _ mK
  replace mL := hs1 _ mL
  replace rB := rB.sub hs1
  replace rC := rC.sub hs1
  replace rN := rN.sub hs1
  replace rT := rT.sub hs1
  have mS : (D30, listOf ys30 nD30) ∈ T9 := by rw [hT]; exact .head _
  rw [rB.1] at hJ
  refine and2 hJ ?_
  clear hJ
  intro hJ rS
  replace nc : ∀ p ∈ T9, p.1 ≠ L + 1 + 1 ∧ p.1 ≠ 116 := by
    rw [hT]
    exact nc_norm (N29.get (.tail _ (.head _))) (N29.get (.tail _ (.tail _ (.head _)))) hD (fun p hp => Nx.fresh (.tail _ hp)) nc
  clear hT hs1 hs2 Ny hny Fx Nx hap hJ hD hC F29 N29
  clear hlB
  try dsimp only
  k_steps
  refine Stop.mk (comp_eval0 (cl := []) (by with_unfolding_all rfl) rfl (by decide) ?_)
  k_steps
  have hlC : h30.IsList D5 ys5 := News.isList N30 (.tail _ (.tail _ (.tail _ mC)))
  refine Stop.mk (wpAny_pyIter_list hlC ?_)
  refine comp_go (It := fun i o => o.cls = .type "list_iterator" ∧ o.data = .fields #[.ref D5, .int i 0]) rfl (Src.list rfl hlC) (by rw [sizeLine_eq, rC.1]; (with_reducible exact o30 ‹_› ‹_›)) ⟨rfl, rfl⟩
    (fun i ys tl tk => BoolsTo ys i (fun k => decide (16 < V k * (8 - S k)))) (fun _ _ => rfl) (fun _ _ _ _ _ h _ => h) (fun _ _ _ _ h => Nat.le_of_eq h.size) (by decide) rfl OwnT.tuple ?_ ?_
  · refine TurnC.ofT rC (fun p hp => N30.get (.tail _ (.tail _ (.tail _ hp)))) ?_
    intro i a t1 t2 t3 hi u1 u2 u3 eG C D' h4 tk4 ys nD tl oI m4 hC F4 N4 hJ htk
    try dsimp only at hC F4 N4 htk ⊢
    k_fold
    have X4 : (Mine.hd.heap_39 w.params).In h30 := X.keeps F30.keep
    have T4 := T.keeps F30.keep
    have iT : IsTup h4 a #[.float (Dz (R i)) t1, .float (Dz (Gr i)) t2, .float (Dz (Bl i)) t3] := ⟨_, F4.keep _ _ eG, rfl, _, rfl⟩
    k_steps
    refine Stop.mk ?_
    rename_i h5a h5b tk5 q5 h6 tk6 q6 h7 tk7 F7 N7 q7 cE
    have bf := hbf i hi
    have p1 : 0 < tk7 := by (with_reducible exact o81 ‹_›)
    refine toksle (lift (n := 900) (Mine.rl (s := { s₁ with heap := h7, toks := tk7 }) X4 T4 F7.keep p1 u1 u2 u3 bf.okc fun h8 tk8 D8a x y z k l m x8 f8 g8 e8 t8 q8 => ?_) rfl (Nat.le_of_ble_eq_true rfl) (Nat.le_of_ble_eq_true rfl))
    rw [bf.hue, (hLL i hi).1] at e8
    cases e8
    refine gotC F7 N7 x8 f8 g8 fun F8 N8 => ?_
    clear F7 N7
    try dsimp only
    k_steps
    refine Stop.mk (kba_turn (value' := PySem.Expr.Name (PySem.Str.ofString "_") ⟨0, 0, 0, 0⟩) (fun _ => rfl) (item_tuple ⟨_, g8, rfl, _, rfl⟩ (by decide) (by decide) (j := 1) rfl rfl ?_))
    try dsimp only
    k_steps
    refine gt_flt (a := LL i) (hLL i hi).2.1 ?_
    rw [(hLL i hi).2.2]
    exact EltEnd.intro (tnew := [_]) F8 N8 (fun p hp => by rcases List.mem_cons.mp hp with rfl | hp; rfl; cases hp) fun tk' htk' => hJ.push rfl
  intro D31 C hx tkx mx ys31 nD31 tl31 hD hC Fx Nx hap hJ htk
  try dsimp only at hD hC Fx Nx htk ⊢
  refine compPost_none Fx Nx ?_ hC
  intro h31 x31 g31 f31 t31
  have F31 : Fr g0 L h31 _ := Fr.ext (W := []) F30 (Ext.of_stays x31) (by first | k_extra "mem" | simp) (by first | k_extra "mem" | simp)
  have N31 := News.ext (W := []) N30 (Ext.of_stays x31) (by first | k_extra "mem" | simp)
  rw [rC.1] at hJ
  clear Fx Nx hap hD hC hlC x31
  try dsimp only
  k_steps
  have n31 : D31 ≠ 116 := fun e => by
    rw [e, N30.get (.tail _ (.tail _ (.head _)))] at f31
    cases f31
  have e29 := rL
  unfold BoolsTo at e29
  rw [e29] at mL
  have e31 := hJ
  unfold BoolsTo at e31
  rw [e31] at g31
  refine Stop.mk ?_
  refine fairN (s := { s₁ with heap := h31, toks := tkx }) (xs := []) (n := n) (half := half) (bs := (List.range n).map fun k => decide (16 < V k * (8 - S k))) X T F31 N31 (Nat.ne_of_gt (Nat.lt_succ_of_lt l0)) (Nat.ne_of_gt (Nat.lt_succ_of_lt (Nat.lt_succ_of_lt l0))) (fun p hp => (nc p hp).2) mR mL ⟨_, g31, rfl, _, rfl⟩ n31 R9 W9.1 hn (by (with_reducible exact o129 ‹_›)) (by (with_reducible exact o159 ‹_›)) (by first | k_extra "mem" | simp) (fun p hp => nomatch hp) TabOk.empty ?_ rfl (Nat.le_of_ble_eq_true rfl) (Nat.le_of_ble_eq_true rfl)
  intro h32 tk32 ps1 ex1 F32 N32 tb1 nc1 q32
  refine nameIt (ex1 ++ T9) fun T10 hT => ?_
  have hs1 : ∀ p ∈ T9, p ∈ T10 := fun p hp => by rw [hT]; exact List.mem_append_right _ hp
  have hs2 : ∀ p ∈ ex1, p ∈ T10 := fun p hp => by rw [hT]; exact List.mem_append_left _ hp
  rw [← hT] at N32 nc1
  replace mR := hs1 _ mR
  replace mT := hs1 _ mT
  replace mK := hs1 _ mK
  replace mN := hs1 _ mN
  replace mL := hs1 _ mL
  replace mS := hs1 _ mS
  replace rN := rN.sub hs1
  replace rT := rT.sub hs1
  have hx1 : ∀ p ∈ ex1 ++ [], p ∈ T10 := fun p hp => hs2 p (by simpa using hp)
  clear hT hs1 hs2 mB mC mH rB rC nc hJ e31 g31 f31 t31 n31 F31 N31 F30 N30
  generalize ex1 ++ [] = xs1 at tb1 hx1
  try dsimp only
  k_steps
  refine Stop.mk (comp_eval0 (cl := []) (by with_unfolding_all rfl) rfl (by decide) ?_)
  k_steps
  have hlN : h32.IsList D6 ys6 := News.isList N32 (.tail _ (.tail _ (.tail _ mN)))
  refine Stop.mk (wpAny_pyIter_list hlN ?_)
  refine comp_go (It := fun i o => o.cls = .type "list_iterator" ∧ o.data = .fields #[.ref D6, .int i 0]) rfl (Src.list rfl hlN) (by rw [sizeLine_eq, rN.1]; (with_reducible exact o30 ‹_› ‹_›)) ⟨rfl, rfl⟩
    (fun i ys tl tk => BoolsTo ys i (fun k => decide (2 < S k))) (fun _ _ => rfl) (fun _ _ _ _ _ h _ => h) (fun _ _ _ _ h => Nat.le_of_eq h.size) (by decide) rfl OwnT.name ?_ ?_
  · refine TurnC.ofN rN (fun p hp => N32.get (.tail _ (.tail _ (.tail _ hp)))) ?_
    intro i a t1 t2 hi u1 u2 eG C D' h4 tk4 ys nD tl oI m4 hC F4 N4 hJ htk
    try dsimp only at hC F4 N4 htk ⊢
    k_fold
    have X4 : (Mine.hd.heap_39 w.params).In h32 := X.keeps F32.keep
    have T4 := T.keeps F32.keep
    refine and5 (hok i hi) fun k1 k2 k3 k5 k6 => ?_
    k_steps
    rename_i h5a tk5 F5a N5a q5
    have iT : IsTup h5a a #[.float (Dz ((16 * H i : Nat) : Int)) (τ i), .float (Dz ((256 * S i : Nat) : Int)) t1, .float (Dz ((256 * V i : Nat) : Int)) t2] := ⟨_, F5a.keep _ _ eG, rfl, _, rfl⟩
    refine Stop.mk (item_tuple iT (by decide) (by decide) (j := 1) rfl rfl ?_)
    try dsimp only
    k_steps
    refine gt_flt (a := ((256 * S i : Nat) : Int)) (by (with_reducible exact o286 ‹_›)) ?_
    exact EltEnd.intro (tnew := []) F5a N5a (fun p hp => nomatch hp) fun tk' htk' => hJ.push (decide_eq_decide.mpr (by (with_reducible exact o402)))
  intro D33 C hx tkx mx ys33 nD33 tl33 hD hC Fx Nx hap hJ htk
  try dsimp only at hD hC Fx Nx htk ⊢
  refine compPost_none Fx Nx ?_ hC
  intro h33 x33 g33 f33 t33
  have F33 : Fr g0 L h33 _ := Fr.ext (W := []) F32 (Ext.of_stays x33) (by first | k_extra "mem" | simp) (by first | k_extra "mem" | simp)
  have N33 := News.ext (W := []) N32 (Ext.of_stays x33) (by first | k_extra "mem" | simp)
  rw [rN.1] at hJ
  clear Fx Nx hap hD hC hlN x33
  try dsimp only
  k_steps
  have n33 : D33 ≠ 116 := fun e => by
    rw [e, N32.get (.tail _ (.tail _ (.head _)))] at f33
    cases f33
  have e30 := rS
  unfold BoolsTo at e30
  rw [e30] at mS
  have e33 := hJ
  unfold BoolsTo at e33
  rw [e33] at g33
  refine Stop.mk ?_
  refine fairN (s := { s₁ with heap := h33, toks := tkx }) (xs := xs1) (n := n) (half := half) (bs := (List.range n).map fun k => decide (2 < S k)) X T F33 N33 (Nat.ne_of_gt (Nat.lt_succ_of_lt l0)) (Nat.ne_of_gt (Nat.lt_succ_of_lt (Nat.lt_succ_of_lt l0))) nc1 mR mS ⟨_, g33, rfl, _, rfl⟩ n33 R9 W9.1 hn (by (with_reducible exact o129 ‹_›)) (by (with_reducible exact o159 ‹_›)) (by first | k_extra "mem" | simp) hx1 tb1 ?_ rfl (Nat.le_of_ble_eq_true rfl) (Nat.le_of_ble_eq_true rfl)
  intro h34 tk34 ps2 ex2 F34 N34 tb2 nc2 q34
  refine nameIt (ex2 ++ T10) fun T11 hT => ?_
  have hs1 : ∀ p ∈ T10, p ∈ T11 := fun p hp => by rw [hT]; exact List.mem_append_right _ hp
  have hs2 : ∀ p ∈ ex2, p ∈ T11 := fun p hp => by rw [hT]; exact List.mem_append_left _ hp
  rw [← hT] at N34 nc2
  replace mT := hs1 _ mT
  replace mK := hs1 _ mK
  replace mL := hs1 _ mL
  replace rT := rT.sub hs1
  have hx2 : ∀ p ∈ ex2 ++ xs1, p ∈ T11 := fun p hp => by
    rcases List.mem_append.mp hp with hp | hp
    · exact hs2 p hp
    · exact hs1 p (hx1 p hp)
  clear hT hs1 hs2 mR mN mS rN nc1 hx1 hJ e33 g33 f33 t33 n33 F33 N33 F32 N32
  generalize ex2 ++ xs1 = xs2 at tb2 hx2
  try dsimp only
  k_steps
  refine Stop.mk (comp_eval0 (cl := []) (by with_unfolding_all rfl) rfl (by decide) ?_)
  k_steps
  have hlT : h34.IsList D15 ys15 := News.isList N34 (.tail _ (.tail _ (.tail _ mT)))
  refine Stop.mk (wpAny_pyIter_list hlT ?_)
  refine comp_go (It := fun i o => o.cls = .type "list_iterator" ∧ o.data = .fields #[.ref D15, .int i 0]) rfl (Src.list rfl hlT) (by rw [sizeLine_eq, rT.1]; (with_reducible exact o30 ‹_› ‹_›)) ⟨rfl, rfl⟩
    (fun i ys tl tk => BoolsTo ys i (fun k => decide (16 < V k * (8 - S k)))) (fun _ _ => rfl) (fun _ _ _ _ _ h _ => h) (fun _ _ _ _ h => Nat.le_of_eq h.size) (by decide) rfl OwnT.name ?_ ?_
  · refine TurnC.ofL rT (fun p hp => N34.get (.tail _ (.tail _ (.tail _ hp)))) ?_
    intro i a t1 t2 z hi eG C D' h4 tk4 ys nD tl oI m4 hC F4 N4 hJ htk
    try dsimp only at hC F4 N4 htk ⊢
    k_fold
    have X4 : (Mine.hd.heap_39 w.params).In h34 := X.keeps F34.keep
    have T4 := T.keeps F34.keep
    k_steps
    rename_i h5a tk5 F5a N5a q5
    have iT : IsTup h5a a #[.float (Dz ((16 * ((H i + 32) % 64) : Nat) : Int)) (τ2 i), .float (Dz (LN i)) t1, .float z t2] := ⟨_, F5a.keep _ _ eG, rfl, _, rfl⟩
    refine Stop.mk (item_tuple iT (by decide) (by decide) (j := 1) rfl rfl ?_)
    try dsimp only
    k_steps
    refine lt_flt (a := LN i) (hLN i hi).2.1 ?_
    rw [(hLN i hi).2.2]
    exact EltEnd.intro (tnew := []) F5a N5a (fun p hp => nomatch hp) fun tk' htk' => hJ.push rfl
  intro D35 C hx tkx mx ys35 nD35 tl35 hD hC Fx Nx hap hJ htk
  try dsimp only at hD hC Fx Nx htk ⊢
  refine compPost_none Fx Nx ?_ hC
  intro h35 x35 g35 f35 t35
  have F35 : Fr g0 L h35 _ := Fr.ext (W := []) F34 (Ext.of_stays x35) (by first | k_extra "mem" | simp) (by first | k_extra "mem" | simp)
  have N35 := News.ext (W := []) N34 (Ext.of_stays x35) (by first | k_extra "mem" | simp)
  rw [rT.1] at hJ
  clear Fx Nx hap hD hC hlT x35
  try dsimp only
  k_steps
  have n35 : D35 ≠ 116 := fun e => by
    rw [e, N34.get (.tail _ (.tail _ (.head _)))] at f35
    cases f35
  have e35 := hJ
  unfold BoolsTo at e35
  rw [e35] at g35
  refine Stop.mk ?_
  refine fairN (s := { s₁ with heap := h35, toks := tkx }) (xs := xs2) (n := n) (half := half) (bs := (List.range n).map fun k => decide (16 < V k * (8 - S k))) X T F35 N35 (Nat.ne_of_gt (Nat.lt_succ_of_lt l0)) (Nat.ne_of_gt (Nat.lt_succ_of_lt (Nat.lt_succ_of_lt l0))) nc2 mK mL ⟨_, g35, rfl, _, rfl⟩ n35 R17 (hjs ▸ W17.1) hn (by (with_reducible exact o129 ‹_›)) (by (with_reducible exact o159 ‹_›)) (by first | k_extra "mem" | simp) hx2 tb2 ?_ rfl (Nat.le_of_ble_eq_true rfl) (Nat.le_of_ble_eq_true rfl)
  intro h36 tk36 ps3 ex3 F36 N36 tb3 nc3 q36
  try dsimp only
  k_steps
  exact .mk F36 (GrownAt.of (by k_asm) (by k_mem))
end
end Mine
set_option maxRecDepth 100000 in
set_option maxHeartbeats 8000000 in
theorem PySem.Challenge.cw_pg0206_01_holds : PySem.Challenge.rw_pg0206_01.Holds :=
  Mine.law_holds
