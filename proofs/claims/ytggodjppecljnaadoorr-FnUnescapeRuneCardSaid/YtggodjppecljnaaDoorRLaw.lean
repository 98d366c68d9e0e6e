/- What unq makes of a number in braces, in plain Lean. -/
import Derived.Test.YtggodjppecljnaaDoorRUm
import Derived.Test.YtggodjppecljnaaDoorRHexS
namespace Go.Proofs.YtggodjppecljnaaDoorR
open Go.RowKit

def valH (D : List UInt8) (v : Nat) : Nat := D.foldl (fun v d => 16 * v + (dig d.toNat).toNat) v
/-- The letters of hexadecimal digits. -/
def HexD (D : List UInt8) : Prop := ∀ d ∈ D, d.toNat < 128 ∧ isHex d.toNat = true ∧ d.toNat ≠ 125

theorem hexes_run (D : List UInt8) : HexD D → ∀ f cnt v, D.length < f →
    hexes f (D ++ [125]) cnt v = if cnt + D.length = 0 ∨ 6 < cnt + D.length ∨ Lib.validRune (valH D v) = false then none else some (valH D v, []) := by
  induction D with
  | nil =>
    intro _ f cnt v hf
    obtain ⟨g, rfl⟩ : ∃ g, f = g + 1 := ⟨f - 1, by simp at hf; omega⟩
    have h : nx ([] ++ [125]) = some (125, 1) := nx_ascii 125 [] (by decide)
    simp only [hexes, h]
    rfl
  | cons d D ih =>
    intro hD f cnt v hf
    obtain ⟨g, rfl⟩ : ∃ g, f = g + 1 := ⟨f - 1, by simp at hf; omega⟩
    obtain ⟨h1, h2, h3⟩ := hD d (by simp)
    have h : nx ((d :: D) ++ [125]) = some (d.toNat, 1) := nx_ascii d _ h1
    simp only [hexes, h]
    rw [if_neg h3, if_neg (by simp [h2])]
    have e : ((d :: D) ++ [125]).drop 1 = D ++ [125] := rfl
    rw [e, ih (fun x hx => hD x (by simp [hx])) g _ _ (by simp at hf; omega)]
    have e2 : cnt + 1 + D.length = cnt + (d :: D).length := by simp; omega
    rw [e2]
    rfl

theorem unq_brace (star : Bool) (D : List UInt8) (hD : HexD D) (h1 : 1 ≤ D.length) (h6 : D.length ≤ 6) :
    unq star ((92 :: 117 :: 123 :: (D ++ [125])).length + 1) [] (92 :: 117 :: 123 :: (D ++ [125])) =
      if Lib.validRune (valH D 0) = false then none else some (Lib.encodeRune (valH D 0), []) := by
  have n1 : nx (92 :: 117 :: 123 :: (D ++ [125])) = some (92, 1) := nx_ascii 92 _ (by decide)
  have n2 : nx (117 :: 123 :: (D ++ [125])) = some (117, 1) := nx_ascii 117 _ (by decide)
  have n3 : nx (123 :: (D ++ [125])) = some (123, 1) := nx_ascii 123 _ (by decide)
  have hr := hexes_run D hD ((123 :: (D ++ [125])).length) 0 0 (by simp; omega)
  have hu : uni (123 :: (D ++ [125])) = if Lib.validRune (valH D 0) = false then none else some (valH D 0, []) := by
    simp only [uni, n3, if_true]
    rw [show (123 :: (D ++ [125])).drop 1 = D ++ [125] from rfl, hr]
    have a : ¬ (0 + D.length = 0) := by omega
    have b : ¬ (6 < 0 + D.length) := by omega
    simp only [a, b, false_or]
  have he : esc star 117 (123 :: (D ++ [125])) = uni (123 :: (D ++ [125])) := rfl
  have hs : ¬ (star = true ∧ (92 : Nat) = 42) := by simp
  rw [unq]
  simp only [n1, hs, List.drop_succ_cons, List.drop_zero, n2, he, hu, if_true, if_false, reduceCtorEq]
  cases hv : Lib.validRune (valH D 0) with
  | false => simp
  | true => simp [unq]

theorem let16_fit (up : Bool) : ∀ k, k < 16 → (let16 up k).toNat < 128 ∧ isHex (let16 up k).toNat = true ∧ (let16 up k).toNat ≠ 125 ∧ dig (let16 up k).toNat = k := by
  intro k hk
  rcases (by omega : k = 0 ∨ k = 1 ∨ k = 2 ∨ k = 3 ∨ k = 4 ∨ k = 5 ∨ k = 6 ∨ k = 7 ∨ k = 8 ∨ k = 9 ∨ k = 10 ∨ k = 11 ∨ k = 12 ∨ k = 13 ∨ k = 14 ∨ k = 15) with h | h | h | h | h | h | h | h | h | h | h | h | h | h | h | h
  all_goals
    subst h
    cases up <;> exact ⟨by decide, by rfl, by decide, by rfl⟩

theorem valH_append (A B : List UInt8) (v : Nat) : valH (A ++ B) v = valH B (valH A v) := by
  simp [valH]
theorem HexD.append {A B : List UInt8} (a : HexD A) (b : HexD B) : HexD (A ++ B) := by
  intro d hd
  rcases List.mem_append.1 hd with h | h
  · exact a d h
  · exact b d h
theorem HexD.cons {up : Bool} {k : Nat} (hk : k < 16) {A : List UInt8} (a : HexD A) : HexD (let16 up k :: A) := by
  intro d hd
  rcases List.mem_cons.1 hd with rfl | h
  · obtain ⟨h1, h2, h3, -⟩ := let16_fit up k hk
    exact ⟨h1, h2, h3⟩
  · exact a d h

/-- What hexF puts in front of acc: letters, of this value. -/
theorem hexF_run (up : Bool) (wd : Nat) : ∀ (f n : Nat) (acc : List UInt8), n < 16 ^ f → HexD acc → HexD (hexF up wd f n acc) ∧ valH (hexF up wd f n acc) 0 = valH acc n := by
  intro f
  induction f with
  | zero =>
    intro n acc hn ha
    obtain rfl : n = 0 := by simpa using hn
    exact ⟨ha, rfl⟩
  | succ f ih =>
    intro n acc hn ha
    rw [Nat.pow_succ] at hn
    by_cases hc : 0 < n ∨ acc.length < wd
    · rw [hexF, if_pos hc]
      have hk : n % 16 < 16 := Nat.mod_lt _ (by decide)
      obtain ⟨a, b⟩ := ih (n / 16) (let16 up (n % 16) :: acc) (by omega) (HexD.cons hk ha)
      refine ⟨a, b.trans ?_⟩
      obtain ⟨-, -, -, h4⟩ := let16_fit up (n % 16) hk
      show valH acc (16 * (n / 16) + (dig (let16 up (n % 16)).toNat).toNat) = _
      rw [h4]
      congr 1
      simp
      omega
    · rw [hexF, if_neg hc]
      obtain rfl : n = 0 := by omega
      exact ⟨ha, rfl⟩

theorem hexF_le (up : Bool) (wd L : Nat) (hw : wd ≤ L) : ∀ (f n m : Nat) (acc : List UInt8), n < 16 ^ m → acc.length + m ≤ L → (hexF up wd f n acc).length ≤ L := by
  intro f
  induction f with
  | zero => intro n m acc _ h; rw [hexF]; omega
  | succ f ih =>
    intro n m acc hn h
    by_cases hc : 0 < n ∨ acc.length < wd
    · rw [hexF, if_pos hc]
      by_cases h0 : n = 0
      · subst h0
        exact ih _ 0 _ (by simp) (by simp; omega)
      · obtain ⟨q, rfl⟩ : ∃ q, m = q + 1 := by
          cases m with
          | zero => simp at hn; omega
          | succ q => exact ⟨q, rfl⟩
        rw [Nat.pow_succ] at hn
        exact ih _ q _ (by omega) (by simp; omega)
    · rw [hexF, if_neg hc]; omega

theorem hexF_ge (up : Bool) (wd : Nat) : ∀ (f n : Nat) (acc : List UInt8), wd ≤ acc.length + f → wd ≤ (hexF up wd f n acc).length := by
  intro f
  induction f with
  | zero => intro n acc h; exact h
  | succ f ih =>
    intro n acc h
    by_cases hc : 0 < n ∨ acc.length < wd
    · rw [hexF, if_pos hc]
      exact ih _ _ (by simp; omega)
    · rw [hexF, if_neg hc]; omega

theorem valH_zero (A : List UInt8) : valH (48 :: A) 0 = valH A 0 := rfl
theorem HexD.zero {A : List UInt8} (a : HexD A) : HexD (48 :: A) := HexD.cons (up := true) (k := 0) (by decide) a

theorem valH_more (A : List UInt8) : ∀ v, valH A v = 16 ^ A.length * v + valH A 0 := by
  induction A with
  | nil => intro v; simp [valH]
  | cons d A ih =>
    intro v
    show valH A (16 * v + _) = _ + valH A (16 * 0 + _)
    rw [ih, ih (16 * 0 + _), List.length_cons, Nat.pow_succ, Nat.mul_add, Nat.mul_zero, Nat.zero_add, Nat.add_assoc, Nat.mul_assoc]

/-- The digits that the law writes of n, before the zeros. -/
def lowD (n : Nat) : List UInt8 := if n ≤ 65535 then hexL false 1 n else hexL true 1 (n / 65536) ++ hexL false 4 (n % 65536)

theorem lowD_fit (n : Nat) (hn : n < 16777216) : HexD (lowD n) ∧ valH (lowD n) 0 = n ∧ 1 ≤ (lowD n).length ∧ (lowD n).length ≤ 6 := by
  unfold lowD hexL
  have nilD : HexD [] := fun d hd => by cases hd
  split
  · obtain ⟨a, b⟩ := hexF_run false 1 5 n [] (by simp; omega) nilD
    exact ⟨a, b, hexF_ge false 1 5 n [] (by simp), hexF_le false 1 6 (by decide) 5 n 5 [] (by simp; omega) (by simp)⟩
  · obtain ⟨a, b⟩ := hexF_run true 1 5 (n / 65536) [] (by simp; omega) nilD
    obtain ⟨c, d⟩ := hexF_run false 4 5 (n % 65536) [] (by simp; omega) nilD
    have l1 := hexF_ge true 1 5 (n / 65536) [] (by simp)
    have l2 := hexF_le true 1 2 (by decide) 5 (n / 65536) 2 [] (by simp; omega) (by simp)
    have l3 := hexF_ge false 4 5 (n % 65536) [] (by simp)
    have l4 := hexF_le false 4 4 (by decide) 5 (n % 65536) 4 [] (by simp; omega) (by simp)
    refine ⟨a.append c, ?_, by rw [List.length_append]; omega, by rw [List.length_append]; omega⟩
    rw [valH_append, b, valH_more, d, show (hexF false 4 5 (n % 65536) []).length = 4 by omega]
    show 16 ^ 4 * n.div 65536 + n % 65536 = n
    have : 16 ^ 4 = 65536 := rfl
    rw [this]
    exact Nat.div_add_mod n 65536
end Go.Proofs.YtggodjppecljnaaDoorR
