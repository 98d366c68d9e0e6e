/- Decimal digits, in plain numbers: no program. -/
namespace Go.Proofs.YtfjlnfdnfjkclaaDoor
/-- The decimal digits of a number, none for nought. -/
def digs (n : Nat) : List UInt8 := if _h : n = 0 then [] else digs (n / 10) ++ [UInt8.ofNat (48 + n % 10)]
termination_by n
decreasing_by omega
theorem digs_zero : digs 0 = [] := by rw [digs]; simp
theorem digs_pos {n : Nat} (h : 0 < n) : digs n = digs (n / 10) ++ [UInt8.ofNat (48 + n % 10)] := by rw [digs]; rw [dif_neg (by omega)]
def dec (n : Nat) : List UInt8 := if n = 0 then [48] else digs n
theorem digs_len (k : Nat) : ∀ n, n < 10 ^ k → (digs n).length ≤ k := by
  induction k with
  | zero => intro n h; have : n = 0 := by omega
            subst this; rw [digs_zero]; simp
  | succ k ih =>
    intro n h
    by_cases h0 : n = 0
    · subst h0; rw [digs_zero]; simp
    · rw [digs_pos (by omega), List.length_append]
      have := ih (n / 10) (by rw [Nat.pow_succ] at h; omega)
      simp; omega
theorem dec_len (n : Nat) (h : n < 18446744073709551616) : (dec n).length ≤ 20 := by
  unfold dec
  split
  · simp
  · exact digs_len 20 n (by omega)
/-- What the digits from the left on make of a value. -/
def horner (v : Nat) (l : List UInt8) : Nat := l.foldl (fun a c => a * 10 + (c.toNat - 48)) v
def isDigit (c : UInt8) : Prop := 48 ≤ c.toNat ∧ c.toNat ≤ 57
theorem digit_mk (n : Nat) : (UInt8.ofNat (48 + n % 10)).toNat = 48 + n % 10 := by
  simp [UInt8.toNat_ofNat]; omega
theorem digs_all (n : Nat) : ∀ c ∈ digs n, isDigit c := by
  induction n using Nat.strongRecOn with
  | _ n ih =>
    by_cases h0 : n = 0
    · subst h0; rw [digs_zero]; simp
    · rw [digs_pos (by omega)]
      intro c hc
      rcases List.mem_append.1 hc with h | h
      · exact ih (n / 10) (by omega) c h
      · rw [List.mem_singleton] at h; subst h
        unfold isDigit; rw [digit_mk]; omega
theorem dec_all (n : Nat) : ∀ c ∈ dec n, isDigit c := by
  unfold dec
  split
  · intro c hc; simp at hc; subst hc; unfold isDigit; decide
  · exact digs_all n
theorem horner_digs (n : Nat) : horner 0 (digs n) = n := by
  induction n using Nat.strongRecOn with
  | _ n ih =>
    by_cases h0 : n = 0
    · subst h0; rw [digs_zero]; rfl
    · rw [digs_pos (by omega)]
      unfold horner
      rw [List.foldl_append]
      have := ih (n / 10) (by omega)
      unfold horner at this
      rw [this]
      simp only [List.foldl_cons, List.foldl_nil, digit_mk]
      omega
theorem horner_dec (n : Nat) : horner 0 (dec n) = n := by
  unfold dec
  split
  · rename_i h; subst h; rfl
  · exact horner_digs n
theorem digs_ne {n : Nat} (h : 0 < n) : digs n ≠ [] := by rw [digs_pos h]; simp
theorem dec_ne (n : Nat) : dec n ≠ [] := by
  unfold dec
  split
  · simp
  · exact digs_ne (by omega)
theorem horner_mono (l : List UInt8) : ∀ v, v ≤ horner v l := by
  induction l with
  | nil => intro v; exact Nat.le_refl _
  | cons c l ih =>
    intro v
    have := ih (v * 10 + (c.toNat - 48))
    simp only [horner, List.foldl_cons] at this ⊢
    omega
end Go.Proofs.YtfjlnfdnfjkclaaDoor
