/- Contracts of the checked operations of longs. -/
import Derived.Test.YtgdjaiincahggaaWalks
namespace Go.Proofs.Ytgdjaiincahggaa
open Go.RowKit

def okB (n : Int) : Bool := decide (-9223372036854775808 ≤ n ∧ n ≤ 9223372036854775807)
def mulV (a b : Int) : Int := wrap64 (a * b)
def addV (a b : Int) : Int := wrap64 (a + b)
def negV (a : Int) : Int := if a = -9223372036854775808 then 0 else -a
def negB (a : Int) : Bool := decide (a ≠ -9223372036854775808)
def In64 (a : Int) : Prop := -9223372036854775808 ≤ a ∧ a ≤ 9223372036854775807

theorem okB_true {n : Int} (h : -9223372036854775808 ≤ n ∧ n ≤ 9223372036854775807) : okB n = true := decide_eq_true h
theorem okB_false {n : Int} (h : ¬ (-9223372036854775808 ≤ n ∧ n ≤ 9223372036854775807)) : okB n = false := decide_eq_false h

theorem wrap64_zero : wrap64 0 = 0 := by unfold wrap64; omega
theorem add_no {a b : Int} (h : (!decide (a < wrap64 (a + b)) == decide (0 < b)) = true) : okB (a + b) = false := by
  apply okB_false
  intro hk
  rw [IntWalk.wrap64_in _ hk] at h
  by_cases hp : 0 < b
  · have h1 : a < a + b := by omega
    simp [hp, h1] at h
  · have h1 : ¬ a < a + b := by omega
    simp [hp, h1] at h
theorem add_yes {a b : Int} (ha : In64 a) (hb : In64 b) (h : (!decide (a < wrap64 (a + b)) == decide (0 < b)) = false) : okB (a + b) = true := by
  unfold In64 at ha hb
  apply okB_true
  by_cases hp : 0 < b
  · have h1 : a < wrap64 (a + b) := by simp [hp] at h; exact h
    unfold wrap64 at h1; omega
  · have h1 : ¬ a < wrap64 (a + b) := by simp [hp] at h; omega
    unfold wrap64 at h1; omega

theorem wrap64_k (n : Int) : ∃ k : Int, wrap64 n = n + 18446744073709551616 * k ∧ In64 (wrap64 n) := by
  refine ⟨-((n + 9223372036854775808) / 18446744073709551616), ?_, ?_⟩
  · unfold wrap64; omega
  · unfold wrap64 In64; omega

theorem sgn_mul {a b : Int} (h0 : a ≠ 0) (h1 : b ≠ 0) : (decide (a * b < 0)) = (!decide (a < 0) == decide (b < 0)) := by
  by_cases ha : a < 0
  · by_cases hb : b < 0
    · have : 0 < a * b := Int.mul_pos_of_neg_of_neg ha hb
      simp [ha, hb]; omega
    · have : a * b < 0 := Int.mul_neg_of_neg_of_pos ha (by omega)
      simp [ha, hb, this]
  · by_cases hb : b < 0
    · have : a * b < 0 := Int.mul_neg_of_pos_of_neg (by omega) hb
      simp [ha, hb, this]
    · have : 0 < a * b := Int.mul_pos (by omega) (by omega)
      simp [ha, hb]; omega

theorem mul_no1 {a b : Int} (h0 : a ≠ 0) (h1 : b ≠ 0) (h : (!decide (wrap64 (a * b) < 0) == !decide (a < 0) == decide (b < 0)) = true) : okB (a * b) = false := by
  apply okB_false
  intro hk
  rw [IntWalk.wrap64_in _ hk, sgn_mul h0 h1] at h
  simp at h
theorem mul_no2 {a b : Int} (hb : In64 b) (h0 : a ≠ 0) (h : (wrap64 ((wrap64 (a * b)).tdiv a) != b) = true) : okB (a * b) = false := by
  apply okB_false
  intro hk
  rw [IntWalk.wrap64_in _ hk, Int.mul_tdiv_cancel_left _ h0, IntWalk.wrap64_in _ hb] at h
  simp at h
theorem natAbs_tdiv_lt (r a : Int) (h0 : a ≠ 0) : (r - a * r.tdiv a).natAbs < a.natAbs := by
  have h1 := Int.tmod_add_mul_tdiv r a
  have h2 : r - a * r.tdiv a = r.tmod a := by omega
  rw [h2, Int.natAbs_tmod]
  exact Nat.mod_lt _ (by omega)
theorem mul_yes {a b : Int} (ha : In64 a) (hb : In64 b) (h0 : a ≠ 0) (hs : (!decide (wrap64 (a * b) < 0) == !decide (a < 0) == decide (b < 0)) = false)
    (h : (wrap64 ((wrap64 (a * b)).tdiv a) != b) = false) : okB (a * b) = true := by
  obtain ⟨k, hk, hr⟩ := wrap64_k (a * b)
  generalize hR : wrap64 (a * b) = r at *
  have hq : wrap64 (r.tdiv a) = b := by simpa using h
  have hlt := natAbs_tdiv_lt r a h0
  unfold In64 at ha hb hr
  have hsm : -9223372036854775808 ≤ r.tdiv a ∧ r.tdiv a ≤ 9223372036854775808 := by
    have := Int.natAbs_tdiv_le_natAbs r a
    omega
  by_cases hx : r.tdiv a = 9223372036854775808
  · -- r is the least int, a is -1: then the sign shows the overflow
    rw [hx] at hq hlt
    have hb' : b = -9223372036854775808 := by rw [← hq]; unfold wrap64; omega
    exfalso
    have e : r = -9223372036854775808 := by
      have := Int.natAbs_tdiv_le_natAbs r a
      rw [hx] at this
      omega
    have ea : a = -1 := by
      rw [e] at hlt
      omega
    subst ea
    rw [e, hb'] at hs
    simp at hs
  · rw [IntWalk.wrap64_in _ (by omega)] at hq
    rw [hq] at hlt
    have hk0 : k = 0 := by
      have : r - a * b = 18446744073709551616 * k := by omega
      rw [this] at hlt
      omega
    subst hk0
    apply okB_true
    omega

theorem cadd_any (a b : Int) (w : World) (ha : In64 a) (hb : In64 b) :
    Calls Try.prog 17 #[.int .i64 a, .int .i64 b] w fun e w' => e = .returned (.tuple #[.int .i64 (addV a b), .bool (okB (a + b))]) ∧ w = w' := by
  have ha' := Lib.hid ha
  have hb' := Lib.hid hb
  clear ha hb
  go_enter Try.func17, Try.ntmps17
  go_wp2
  all_goals go_ret2
  · have h : (!decide (a < wrap64 (a + b)) == decide (0 < b)) = true := by assumption
    rw [add_no h]; exact ⟨rfl, rfl⟩
  · have h : (!decide (a < wrap64 (a + b)) == decide (0 < b)) = false := by assumption
    rw [add_yes ha'.out hb'.out h]; exact ⟨rfl, rfl⟩
theorem cneg_any (a : Int) (w : World) (ha : In64 a) :
    Calls Try.prog 16 #[.int .i64 a] w fun e w' => e = .returned (.tuple #[.int .i64 (negV a), .bool (negB a)]) ∧ w = w' := by
  have ha' := Lib.hid ha
  clear ha
  go_enter Try.func16, Try.ntmps16
  go_wp2
  all_goals go_ret2
  · have h : (a == -9223372036854775808) = true := by assumption
    have h1 : a = -9223372036854775808 := by simpa using h
    rw [negV, negB, if_pos h1, decide_eq_false (by simp [h1])]; exact ⟨rfl, rfl⟩
  · have h : (a == -9223372036854775808) = false := by assumption
    have h1 : a ≠ -9223372036854775808 := by simpa using h
    have h2 := ha'.out
    unfold In64 at h2
    rw [negV, negB, if_neg h1, decide_eq_true h1, IntWalk.wrap64_in (-a) (by omega)]; exact ⟨rfl, rfl⟩
theorem cmul_any (a b : Int) (w : World) (ha : In64 a) (hb : In64 b) :
    Calls Try.prog 15 #[.int .i64 a, .int .i64 b] w fun e w' => e = .returned (.tuple #[.int .i64 (mulV a b), .bool (okB (a * b))]) ∧ w = w' := by
  have ha' := Lib.hid ha
  have hb' := Lib.hid hb
  clear ha hb
  go_enter Try.func15, Try.ntmps15
  go_wp2
  all_goals go_ret2
  · have h : a = 0 := by assumption
    subst h
    have : okB (0 * b) = true := by rw [Int.zero_mul]; rfl
    rw [this, mulV, Int.zero_mul, wrap64_zero]; exact ⟨rfl, rfl⟩
  · have h1 : ¬ a = 0 := by assumption
    have h : (a == 0) = true ∨ (b == 0) = true := by assumption
    have hb0 : b = 0 := by rcases h with h | h <;> simp_all
    subst hb0
    have : okB (a * 0) = true := by rw [Int.mul_zero]; rfl
    rw [this, mulV, Int.mul_zero, wrap64_zero]; exact ⟨rfl, rfl⟩
  · have h1 : ¬ a = 0 := by assumption
    have h : (a == 0) = false ∧ (b == 0) = false := by assumption
    have h2 : b ≠ 0 := by simpa using h.2
    have h3 : (!decide (wrap64 (a * b) < 0) == !decide (a < 0) == decide (b < 0)) = true := by assumption
    rw [mul_no1 h1 h2 h3]; exact ⟨rfl, rfl⟩
  · have h1 : ¬ a = 0 := by assumption
    have h4 : (wrap64 ((wrap64 (a * b)).tdiv a) != b) = true := by assumption
    rw [mul_no2 hb'.out h1 h4]; exact ⟨rfl, rfl⟩
  · have h1 : ¬ a = 0 := by assumption
    have h3 : (!decide (wrap64 (a * b) < 0) == !decide (a < 0) == decide (b < 0)) = false := by assumption
    have h4 : (wrap64 ((wrap64 (a * b)).tdiv a) != b) = false := by assumption
    rw [mul_yes ha'.out hb'.out h1 h3 h4]; exact ⟨rfl, rfl⟩

theorem zzAdd_any (a b : Int) (w : World) (ha : In64 a) (hb : In64 b) :
    Calls Try.prog 13 #[.int .i64 a, .int .i64 b] w fun e w' => e = .returned (.tuple #[.int .i64 (addV a b), .bool (okB (a + b))]) ∧ w = w' := by
  go_enter Try.func13, Try.ntmps13
  go_wp2_with fail
  refine (cadd_any _ _ _ ha hb).mono ?_; rintro e w' ⟨rfl, rfl⟩
  go_wp2_with fail
  go_ret2
  exact ⟨rfl, rfl⟩
theorem zzMul_any (a b : Int) (w : World) (ha : In64 a) (hb : In64 b) :
    Calls Try.prog 11 #[.int .i64 a, .int .i64 b] w fun e w' => e = .returned (.tuple #[.int .i64 (mulV a b), .bool (okB (a * b))]) ∧ w = w' := by
  go_enter Try.func11, Try.ntmps11
  go_wp2_with fail
  refine (cmul_any _ _ _ ha hb).mono ?_; rintro e w' ⟨rfl, rfl⟩
  go_wp2_with fail
  go_ret2
  exact ⟨rfl, rfl⟩
theorem zzNeg_any (a : Int) (w : World) (ha : In64 a) :
    Calls Try.prog 12 #[.int .i64 a] w fun e w' => e = .returned (.tuple #[.int .i64 (negV a), .bool (negB a)]) ∧ w = w' := by
  go_enter Try.func12, Try.ntmps12
  go_wp2_with fail
  refine (cneg_any _ _ ha).mono ?_; rintro e w' ⟨rfl, rfl⟩
  go_wp2_with fail
  go_ret2
  exact ⟨rfl, rfl⟩
theorem addLongs_any (a b : Int) (w : World) (ha : In64 a) (hb : In64 b) :
    Calls Try.prog 8 #[.int .i64 a, .int .i64 b] w fun e w' => e = .returned (.tuple #[.int .i64 (addV a b), .bool (okB (a + b))]) ∧ w = w' := by
  go_enter Try.func8, Try.ntmps8
  go_wp2_with fail
  refine (zzAdd_any _ _ _ ha hb).mono ?_; rintro e w' ⟨rfl, rfl⟩
  go_wp2_with fail
  go_ret2
  exact ⟨rfl, rfl⟩
theorem mulLongs_any (a b : Int) (w : World) (ha : In64 a) (hb : In64 b) :
    Calls Try.prog 6 #[.int .i64 a, .int .i64 b] w fun e w' => e = .returned (.tuple #[.int .i64 (mulV a b), .bool (okB (a * b))]) ∧ w = w' := by
  go_enter Try.func6, Try.ntmps6
  go_wp2_with fail
  refine (zzMul_any _ _ _ ha hb).mono ?_; rintro e w' ⟨rfl, rfl⟩
  go_wp2_with fail
  go_ret2
  exact ⟨rfl, rfl⟩
theorem negLong_any (a : Int) (w : World) (ha : In64 a) :
    Calls Try.prog 7 #[.int .i64 a] w fun e w' => e = .returned (.tuple #[.int .i64 (negV a), .bool (negB a)]) ∧ w = w' := by
  go_enter Try.func7, Try.ntmps7
  go_wp2_with fail
  refine (zzNeg_any _ _ ha).mono ?_; rintro e w' ⟨rfl, rfl⟩
  go_wp2_with fail
  go_ret2
  exact ⟨rfl, rfl⟩

theorem mulV_comm (a b : Int) : mulV b a = mulV a b := by unfold mulV; rw [Int.mul_comm]
theorem mulV_one {a : Int} (ha : In64 a) : mulV a 1 = a := by unfold mulV; rw [Int.mul_one, IntWalk.wrap64_in _ ha]
theorem okB_one {a : Int} (ha : In64 a) : okB (a * 1) = true := by rw [Int.mul_one]; exact okB_true ha
theorem mulV_zero (a : Int) : mulV 0 a = 0 := by unfold mulV; rw [Int.zero_mul, wrap64_zero]
theorem okB_zero (a : Int) : okB (0 * a) = true := by rw [Int.zero_mul]; rfl
theorem okB_neg {a : Int} (ha : In64 a) : okB (a * -1) = negB a := by
  unfold okB negB In64 at *
  rw [decide_eq_decide]
  omega
theorem mulV_neg {a : Int} (ha : In64 a) (h : negB a = true) : mulV a (-1) = negV a := by
  unfold negB at h
  have h := of_decide_eq_true h
  unfold mulV negV In64 at *
  rw [if_neg h, IntWalk.wrap64_in _ (by omega)]
  omega
theorem addV_ok {n : Int} {a : Int} (b : Int) (h : okB (a * b) = true) (hn : n = mulV a b) : n + a = a * (b + 1) := by
  subst hn
  unfold okB at h
  have h := of_decide_eq_true h
  rw [mulV, IntWalk.wrap64_in _ h, Int.mul_add, Int.mul_one]
theorem in64_wrap (n : Int) : In64 (wrap64 n) := by unfold In64 wrap64; omega
theorem in64_mulV (a b : Int) : In64 (mulV a b) := in64_wrap _
theorem in64_addV (a b : Int) : In64 (addV a b) := in64_wrap _

end Go.Proofs.Ytgdjaiincahggaa
