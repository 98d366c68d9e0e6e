/- The text of a duration is read back: plain lists. -/
import Derived.Test.YtbpbbiiohpbkhaaDoorLaw
import Derived.Test.YtbpbbiiohpbkhaaDoorText
namespace Go.Proofs.YtbpbbiiohpbkhaaDoor

theorem dec_head_digit (n : Nat) (r : List UInt8) : ∀ c, (dec n ++ r).head? = some c → isDigit c := by
  obtain ⟨c, l, h⟩ := List.exists_cons_of_ne_nil (dec_ne n)
  have hc := dec_all n c (by rw [h]; exact List.mem_cons_self ..)
  rw [h]
  intro x hx
  simp at hx
  subst hx; exact hc
theorem part_step {k q : Nat} {rest : List UInt8} {S : Int} (hk : k < 5)
    (hh : ∀ c, rest.head? = some c → isDigit c)
    (ih : ∀ u t, u ≤ k + 1 → 0 ≤ t → t + S ≤ MaxI → ∃ m, okRun m rest u t 0 false (t + S)) (hS : 0 ≤ S) :
    (∀ c, (partT k q ++ rest).head? = some c → isDigit c) ∧
    ∀ u t, u ≤ k → 0 ≤ t → t + (q * uMs k + S) ≤ MaxI → ∃ m, okRun m (partT k q ++ rest) u t 0 false (t + (q * uMs k + S)) := by
  have hp := uMs_pos k
  by_cases hq : 0 < q
  · have e : partT k q = dec q ++ uName k := by rw [partT, if_pos hq]
    rw [e, List.append_assoc]
    refine ⟨dec_head_digit q _, ?_⟩
    intro u t hu ht0 ht
    have hnn : (0 : Int) ≤ q * uMs k := Int.mul_nonneg (by omega) (by omega)
    obtain ⟨m, hm⟩ := ih (k + 1) (t + q * uMs k) (Nat.le_refl _) (by omega) (by omega)
    have e2 : t + (q * uMs k + S) = t + q * uMs k + S := by omega
    rw [e2]
    refine ⟨_, okRun_part hk hu ?_ ht0 (by omega) hm⟩
    intro _ h115
    have := hh 115 h115
    unfold isDigit at this
    have e115 : (115 : UInt8).toNat = 115 := rfl
    omega
  · have hq0 : q = 0 := by omega
    subst hq0
    have e : partT k 0 = [] := by rw [partT, if_neg (by omega)]
    rw [e, List.nil_append]
    refine ⟨hh, ?_⟩
    intro u t hu ht0 ht
    obtain ⟨m, hm⟩ := ih u t (by omega) ht0 (by simpa using ht)
    exact ⟨m, by simpa using hm⟩

theorem body_ok (N : Nat) (hN : (N : Int) ≤ MaxI) : ∃ m, okRun m (bodyT N) 0 0 0 false N := by
  obtain ⟨r1, h1⟩ : ∃ r, N % 86400000 = r := ⟨_, rfl⟩
  obtain ⟨r2, h2⟩ : ∃ r, r1 % 3600000 = r := ⟨_, rfl⟩
  obtain ⟨r3, h3⟩ : ∃ r, r2 % 60000 = r := ⟨_, rfl⟩
  obtain ⟨r4, h4⟩ : ∃ r, r3 % 1000 = r := ⟨_, rfl⟩
  have s5 : ∀ u t, u ≤ 5 → (0 : Int) ≤ t → t + 0 ≤ MaxI → ∃ m, okRun m [] u t 0 false (t + 0) := fun u t _ _ _ => ⟨0, rfl, rfl, by omega⟩
  obtain ⟨a4, s4⟩ := part_step (k := 4) (q := r4) (rest := []) (S := 0) (by omega) (by simp) s5 (by omega)
  obtain ⟨a3, s3⟩ := part_step (k := 3) (q := r3 / 1000) (by omega) a4 s4 (by simp only [uMs]; omega)
  obtain ⟨a2, s2⟩ := part_step (k := 2) (q := r2 / 60000) (by omega) a3 s3 (by simp only [uMs]; omega)
  obtain ⟨a1, s1⟩ := part_step (k := 1) (q := r1 / 3600000) (by omega) a2 s2 (by simp only [uMs]; omega)
  obtain ⟨a0, s0⟩ := part_step (k := 0) (q := N / 86400000) (by omega) a1 s1 (by simp only [uMs]; omega)
  have hsum : ((N / 86400000 : Nat) : Int) * uMs 0 + (((r1 / 3600000 : Nat) : Int) * uMs 1 + (((r2 / 60000 : Nat) : Int) * uMs 2 + (((r3 / 1000 : Nat) : Int) * uMs 3 + ((r4 : Int) * uMs 4 + 0)))) = N := by
    simp only [uMs]; omega
  obtain ⟨m, hm⟩ := s0 0 0 (Nat.zero_le _) (by omega) (by rw [hsum]; omega)
  rw [hsum] at hm
  refine ⟨m, ?_⟩
  have e : bodyT N = partT 0 (N / 86400000) ++ (partT 1 (r1 / 3600000) ++ (partT 2 (r2 / 60000) ++ (partT 3 (r3 / 1000) ++ (partT 4 r4 ++ [])))) := by
    rw [bodyT, h1, h2, h3, h4]; simp
  rw [e]
  simpa using hm

theorem body_head (N : Nat) : (bodyT N).head? ≠ some 45 := by
  have key : ∀ k q (rest : List UInt8), (∀ c, rest.head? = some c → isDigit c) → ∀ c, (partT k q ++ rest).head? = some c → isDigit c := by
    intro k q rest h
    unfold partT
    split
    · rw [List.append_assoc]; exact dec_head_digit q _
    · simpa using h
  have h := key 0 (N / 86400000) _ (key 1 (N % 86400000 / 3600000) _ (key 2 (N % 86400000 % 3600000 / 60000) _ (key 3 (N % 86400000 % 3600000 % 60000 / 1000) _ (key 4 (N % 86400000 % 3600000 % 60000 % 1000) [] (by simp)))))
  intro h45
  have e : bodyT N = partT 0 (N / 86400000) ++ (partT 1 (N % 86400000 / 3600000) ++ (partT 2 (N % 86400000 % 3600000 / 60000) ++ (partT 3 (N % 86400000 % 3600000 % 60000 / 1000) ++ (partT 4 (N % 86400000 % 3600000 % 60000 % 1000) ++ [])))) := by
    rw [bodyT]; simp
  rw [e] at h45
  have := h 45 h45
  unfold isDigit at this
  have e45 : (45 : UInt8).toNat = 45 := rfl
  omega
theorem body_len (N : Nat) (hN : N ≤ 9223372036854775807) : (bodyT N).length ≤ 110 := by
  have h0 := partT_len 0 (N / 86400000) (by omega)
  have h1 := partT_len 1 (N % 86400000 / 3600000) (by omega)
  have h2 := partT_len 2 (N % 86400000 % 3600000 / 60000) (by omega)
  have h3 := partT_len 3 (N % 86400000 % 3600000 % 60000 / 1000) (by omega)
  have h4 := partT_len 4 (N % 86400000 % 3600000 % 60000 % 1000) (by omega)
  unfold bodyT
  simp only [List.length_append]
  omega
theorem okRun_nonempty {m : Nat} {l : List UInt8} {T : Int} (h : okRun m l 0 0 0 false T) (hT : T ≠ 0) : 2 ≤ l.length := by
  cases m with
  | zero => obtain ⟨_, _, h3⟩ := h; exact absurd h3.symm hT
  | succ m =>
    rcases h with ⟨c, r, rfl, _, _, _, hr⟩ | ⟨_, _, _, _, _, _, hf, _⟩
    · cases m with
      | zero => obtain ⟨_, h2, _⟩ := hr; cases h2
      | succ m =>
        rcases hr with ⟨c2, r2, rfl, _⟩ | ⟨k, r2, rfl, _⟩
        · simp
        · have : 1 ≤ (uName k).length := by unfold uName; split <;> simp
          simp; omega
    · cases hf
end Go.Proofs.YtbpbbiiohpbkhaaDoor
