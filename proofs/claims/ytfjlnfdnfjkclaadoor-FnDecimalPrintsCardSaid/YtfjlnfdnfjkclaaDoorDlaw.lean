/- The text of a decimal and what it is read as: plain lists, no program. -/
import Derived.Test.YtfjlnfdnfjkclaaDoorNum
import Derived.Lib.ParseIntB
namespace Go.Proofs.YtfjlnfdnfjkclaaDoor

def four (r : Nat) : List UInt8 := [UInt8.ofNat (48 + r / 1000 % 10), UInt8.ofNat (48 + r / 100 % 10), UInt8.ofNat (48 + r / 10 % 10), UInt8.ofNat (48 + r % 10)]
theorem four_dec (r : Nat) (h : r < 10000) : ∃ k, k + (dec r).length = 4 ∧ four r = List.replicate k 48 ++ dec r := by
  have z : UInt8.ofNat (48 + 0 % 10) = 48 := rfl
  by_cases h0 : r = 0
  · subst h0; exact ⟨3, rfl, rfl⟩
  have e1 : dec r = digs (r / 10) ++ [UInt8.ofNat (48 + r % 10)] := by rw [dec, if_neg h0, digs_pos (by omega)]
  by_cases h1 : r < 10
  · refine ⟨3, ?_, ?_⟩
    · rw [e1, show r / 10 = 0 by omega, digs_zero]; rfl
    · rw [e1, four, show r / 10 = 0 by omega, show r / 100 = 0 by omega, show r / 1000 = 0 by omega, digs_zero, z]; rfl
  by_cases h2 : r < 100
  · have e2 : digs (r / 10) = [UInt8.ofNat (48 + r / 10 % 10)] := by rw [digs_pos (by omega), show r / 10 / 10 = 0 by omega, digs_zero]; rfl
    refine ⟨2, ?_, ?_⟩
    · rw [e1, e2]; rfl
    · rw [e1, e2, four, show r / 100 = 0 by omega, show r / 1000 = 0 by omega, z]; rfl
  by_cases h3 : r < 1000
  · have e2 : digs (r / 10) = [UInt8.ofNat (48 + r / 100 % 10), UInt8.ofNat (48 + r / 10 % 10)] := by
      rw [digs_pos (by omega), show r / 10 / 10 = r / 100 by omega, digs_pos (by omega), show r / 100 / 10 = 0 by omega, digs_zero]; rfl
    refine ⟨1, ?_, ?_⟩
    · rw [e1, e2]; rfl
    · rw [e1, e2, four, show r / 1000 = 0 by omega, z]; rfl
  · have e2 : digs (r / 10) = [UInt8.ofNat (48 + r / 1000 % 10), UInt8.ofNat (48 + r / 100 % 10), UInt8.ofNat (48 + r / 10 % 10)] := by
      rw [digs_pos (by omega), show r / 10 / 10 = r / 100 by omega, digs_pos (by omega), show r / 100 / 10 = r / 1000 by omega, digs_pos (by omega), show r / 1000 / 10 = 0 by omega, digs_zero]; rfl
    refine ⟨0, ?_, ?_⟩
    · rw [e1, e2]; rfl
    · rw [e1, e2, four]; rfl

/-- How many digits are left behind the point: 1 to 4. -/
def places (r : Nat) : Nat := if r % 10 ≠ 0 then 4 else if r / 10 % 10 ≠ 0 then 3 else if r / 100 % 10 ≠ 0 then 2 else 1
theorem places_fit (r : Nat) : 1 ≤ places r ∧ places r ≤ 4 := by unfold places; split <;> (try split) <;> (try split) <;> omega
def frac (r : Nat) : List UInt8 := (four r).take (places r)
theorem frac_len (r : Nat) : (frac r).length = places r := by
  have := places_fit r
  rw [frac, List.length_take]; simp [four]; omega
theorem frac_all (r : Nat) : ∀ c ∈ frac r, isDigit c := by
  intro c hc
  have hc := List.mem_of_mem_take hc
  simp only [four, List.mem_cons, List.not_mem_nil, or_false] at hc
  rcases hc with rfl | rfl | rfl | rfl <;> (unfold isDigit; rw [digit_mk]; omega)
theorem horner_frac (r : Nat) (h : r < 10000) : horner 0 (frac r) * 10 ^ (4 - places r) = r ∧ horner 0 (frac r) ≤ 9999 := by
  unfold frac places four
  split
  · simp only [List.take, horner, List.foldl_cons, List.foldl_nil, digit_mk]; omega
  split
  · simp only [List.take, horner, List.foldl_cons, List.foldl_nil, digit_mk]; omega
  split
  · simp only [List.take, horner, List.foldl_cons, List.foldl_nil, digit_mk]; omega
  · simp only [List.take, horner, List.foldl_cons, List.foldl_nil, digit_mk]; omega

theorem parseM_all (M : Nat) (hM : M ≤ 18446744073709551615) : ∀ (l : List UInt8) (acc : Nat), (∀ c ∈ l, isDigit c) → horner acc l ≤ M → Lib.parseUintM M acc l = .ok (horner acc l) := by
  intro l
  induction l with
  | nil => intro acc _ _; rfl
  | cons c l ih =>
    intro acc hd hh
    have hc := hd c List.mem_cons_self
    have e : horner acc (c :: l) = horner (acc * 10 + (c.toNat - 48)) l := rfl
    have hm := horner_mono l (acc * 10 + (c.toNat - 48))
    rw [e] at hh ⊢
    rw [Lib.parseUintM, if_pos (show 48 ≤ c.toNat ∧ c.toNat ≤ 57 from hc), if_neg (by omega), if_neg (by omega)]
    exact ih _ (fun x hx => hd x (List.mem_cons_of_mem _ hx)) hh

def sgn (n : Int) : List UInt8 := if n < 0 then [45] else []
theorem parse_int (n : Int) (q : Nat) (hq : q ≤ 922337203685477) : Lib.parseIntB 64 (sgn n ++ dec q) = .ok (if n < 0 then -(q : Int) else q) := by
  have hu : Lib.parseUintB 64 (dec q) = .ok q := by
    have h := parseM_all (2 ^ 64 - 1) (by decide) (dec q) 0 (dec_all q) (by rw [horner_dec]; omega)
    rw [horner_dec] at h
    rw [Lib.parseUintB, if_neg (dec_ne q), h]
  by_cases hn : n < 0
  · have e : sgn n ++ dec q = 45 :: dec q := by rw [sgn, if_pos hn]; rfl
    rw [e, Lib.parseIntB]
    have e45 : (45 : UInt8).toNat = 45 := rfl
    simp only [e45, or_true, if_true, hu, not_true, false_and, if_false]
    rw [if_neg (by omega), if_pos hn]
  · have e : sgn n ++ dec q = dec q := by rw [sgn, if_neg hn]; rfl
    rw [e]
    obtain ⟨c, l, h⟩ := List.exists_cons_of_ne_nil (dec_ne q)
    have hc := dec_all q c (by rw [h]; exact List.mem_cons_self ..)
    unfold isDigit at hc
    rw [h] at hu ⊢
    rw [Lib.parseIntB]
    rw [if_neg (show ¬ (c.toNat = 43 ∨ c.toNat = 45) by omega), hu]
    have h45 : ¬ c.toNat = 45 := by omega
    simp only [h45, not_false_eq_true, true_and, false_and, if_false]
    rw [if_neg (by omega), if_neg hn]
theorem parse_frac (r : Nat) (h : r < 10000) : Lib.parseUintB 16 (frac r) = .ok (horner 0 (frac r)) := by
  have h1 := (horner_frac r h).2
  have hp := places_fit r
  have hne : frac r ≠ [] := by intro h0; have := frac_len r; rw [h0] at this; simp at this; omega
  rw [Lib.parseUintB, if_neg hne, parseM_all (2 ^ 16 - 1) (by decide) _ 0 (frac_all r) (by omega)]

/-- The text of a decimal. -/
def decT (n : Int) : List UInt8 := sgn n ++ dec (n.natAbs / 10000) ++ [46] ++ frac (n.natAbs % 10000)
end Go.Proofs.YtfjlnfdnfjkclaaDoor
