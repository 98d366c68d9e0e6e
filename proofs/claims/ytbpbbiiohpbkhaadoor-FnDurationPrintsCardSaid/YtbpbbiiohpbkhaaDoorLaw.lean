/- Runs of the reader over digits and units: plain lists. -/
import Derived.Test.YtbpbbiiohpbkhaaDoorParse
namespace Go.Proofs.YtbpbbiiohpbkhaaDoor

theorem okRun_digits {m : Nat} {rest : List UInt8} {u : Nat} {t T : Int} (hu : u < 5) : ∀ (ds : List UInt8) (v : Nat) (h : Bool), (ds ≠ [] ∨ h = true) → (∀ c ∈ ds, isDigit c) → ((horner v ds : Nat) : Int) ≤ MaxI →
    okRun m rest u t (horner v ds : Nat) true T → okRun (ds.length + m) (ds ++ rest) u t (v : Int) h T := by
  intro ds
  induction ds with
  | nil =>
    intro v h hne _ _ hr
    have hh : h = true := by rcases hne with h1 | h1; exact absurd rfl h1; exact h1
    subst hh
    simpa [horner] using hr
  | cons c ds ih =>
    intro v h _ hd hm hr
    have hc := hd c (List.mem_cons_self ..)
    unfold isDigit at hc
    have e1 : (((v * 10 + (c.toNat - 48) : Nat)) : Int) = (v : Int) * 10 + ((c.toNat : Int) - 48) := by omega
    have hstep : horner v (c :: ds) = horner (v * 10 + (c.toNat - 48)) ds := rfl
    rw [hstep] at hm hr
    have hle := horner_mono ds (v * 10 + (c.toNat - 48))
    have := ih (v * 10 + (c.toNat - 48)) true (.inr rfl) (fun x hx => hd x (List.mem_cons_of_mem _ hx)) hm hr
    rw [e1] at this
    have e2 : (c :: ds).length + m = (ds.length + m) + 1 := by simp; omega
    rw [e2, List.cons_append]
    refine .inl ⟨c, ds ++ rest, rfl, hc, hu, ?_, this⟩
    unfold MaxI at *
    omega

theorem okRun_unit {m : Nat} {rest : List UInt8} {u k : Nat} {t v T : Int} (hk : k < 5) (hu : u ≤ k) (h2 : k = 2 → rest.head? ≠ some 115) (hv : v ≤ MaxI / uMs k) (ht : t ≤ MaxI - v * uMs k)
    (hr : okRun m rest (k + 1) (t + v * uMs k) 0 false T) : okRun (m + 1) (uName k ++ rest) u t v true T :=
  .inr ⟨k, rest, rfl, h2, hu, hk, rfl, hv, ht, hr⟩

theorem uMs_pos (k : Nat) : 1 ≤ uMs k := by unfold uMs; split <;> omega
theorem okRun_part {m : Nat} {rest : List UInt8} {u k n : Nat} {t T : Int} (hk : k < 5) (hu : u ≤ k) (h2 : k = 2 → rest.head? ≠ some 115) (ht0 : 0 ≤ t) (ht : t + n * uMs k ≤ MaxI)
    (hr : okRun m rest (k + 1) (t + n * uMs k) 0 false T) : okRun ((dec n).length + (m + 1)) (dec n ++ (uName k ++ rest)) u t 0 false T := by
  have hp := uMs_pos k
  have hnn : (0 : Int) ≤ n := by omega
  have h0 : (n : Int) * 1 ≤ n * uMs k := Int.mul_le_mul_of_nonneg_left hp hnn
  have hn1 : (n : Int) ≤ MaxI := by omega
  have hn : (n : Int) ≤ MaxI / uMs k := by
    rw [Int.le_ediv_iff_mul_le (by omega)]
    omega
  have hd := okRun_digits (m := m + 1) (rest := uName k ++ rest) (u := u) (t := t) (T := T) (by omega) (dec n) 0 false (.inl (dec_ne n)) (dec_all n) (by rw [horner_dec]; exact hn1)
  rw [horner_dec] at hd
  exact hd (okRun_unit hk hu h2 hn (by omega) hr)

theorem okRun_one (n k : Nat) (hk : k < 5) (h : n * uMs k ≤ MaxI) : okRun ((dec n).length + (0 + 1)) (dec n ++ uName k) 0 0 0 false (n * uMs k) := by
  have := okRun_part (m := 0) (rest := []) (u := 0) (n := n) (t := 0) (T := n * uMs k) hk (Nat.zero_le _) (by simp) (by omega) (by omega) ⟨rfl, rfl, by omega⟩
  simpa using this
theorem dec_head (n : Nat) (r : List UInt8) : (dec n ++ r).head? ≠ some 45 := by
  have hne := dec_ne n
  obtain ⟨c, l, h⟩ := List.exists_cons_of_ne_nil hne
  have hc := dec_all n c (by rw [h]; exact List.mem_cons_self ..)
  rw [h]
  simp
  rintro rfl
  unfold isDigit at hc
  have : (45 : UInt8).toNat = 45 := rfl
  omega
end Go.Proofs.YtbpbbiiohpbkhaaDoor
