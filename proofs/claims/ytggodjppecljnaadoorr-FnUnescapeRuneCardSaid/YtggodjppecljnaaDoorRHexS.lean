/- hex: the digits of a number, in plain Lean and walked. -/
import Derived.Test.YtggodjppecljnaaDoorRHex
namespace Go.Proofs.YtggodjppecljnaaDoorR
open Go.RowKit

/-- A hexadecimal letter. -/
def let16 (up : Bool) (k : Nat) : UInt8 := (if k < 10 then 48 + k else if up then 55 + k else 87 + k).toUInt8
def letters (up : Bool) : ByteArray := if up then ⟨#[48, 49, 50, 51, 52, 53, 54, 55, 56, 57, 65, 66, 67, 68, 69, 70]⟩ else ⟨#[48, 49, 50, 51, 52, 53, 54, 55, 56, 57, 97, 98, 99, 100, 101, 102]⟩
def hexF (up : Bool) (wd : Nat) : Nat → Nat → List UInt8 → List UInt8
  | 0, _, acc => acc
  | f + 1, n, acc => if 0 < n ∨ acc.length < wd then hexF up wd f (n / 16) (let16 up (n % 16) :: acc) else acc
def hexL (up : Bool) (wd n : Nat) : List UInt8 := hexF up wd 5 n []

theorem letters_at (up : Bool) : ∀ k, k < 16 → (letters up).extract k (k + 1) = bs [let16 up k] := by
  intro k hk
  rcases (by omega : k = 0 ∨ k = 1 ∨ k = 2 ∨ k = 3 ∨ k = 4 ∨ k = 5 ∨ k = 6 ∨ k = 7 ∨ k = 8 ∨ k = 9 ∨ k = 10 ∨ k = 11 ∨ k = 12 ∨ k = 13 ∨ k = 14 ∨ k = 15) with h | h | h | h | h | h | h | h | h | h | h | h | h | h | h | h
  all_goals
    subst h
    cases up <;> rfl

set_option maxRecDepth 100000 in
theorem hex_any (up : Bool) (n wd : Nat) (w : World) (hn : n ≤ 65535) (hw : wd ≤ 4) :
    Calls Tryd.prog 4 #[.int .u16 n, .int .i64 wd, .bool up] w fun e w' => e = .returned (.string (bs (hexL up wd n))) ∧ Ext w w' := by
  obtain ⟨o, ho⟩ : ∃ o, hexL up wd n = o := ⟨_, rfl⟩
  rw [ho]
  have Ho := Lib.hid ho
  clear ho
  cases up with
  | false =>
    have HL : ∀ k : Nat, k < 16 → (⟨#[48, 49, 50, 51, 52, 53, 54, 55, 56, 57, 97, 98, 99, 100, 101, 102]⟩ : ByteArray).extract k (k + 1) = bs [let16 false k] := letters_at false
    go_enter Tryd.func4, Tryd.ntmps4
    go_wp2_with fail
    go_loopg [0, 8] 5 (fun g a s wr => ∃ (m : Nat) (acc : List UInt8), a = .int .u16 m ∧ s = .string (bs acc) ∧ m < 16 ^ (g - 1) ∧ m ≤ 65535 ∧ acc.length + g = 5 ∧ 1 ≤ g ∧ Hid (hexF false wd g m acc = o) ∧ Ext w wr)
    case atStart => exact ⟨n, [], rfl, rfl, by simp; omega, hn, rfl, by decide, Ho, Ext.refl w⟩
    case round =>
      obtain ⟨m, acc, rfl, rfl, hm, hm2, hg, hg1, HO, hext⟩ := hrel
      obtain ⟨g, rfl⟩ : ∃ g, gk = g + 1 := ⟨gk - 1, by omega⟩
      rw [Nat.add_sub_cancel] at hm
      have ho := HO.out
      simp only [hexF] at ho
      by_cases hc : 0 < m ∨ acc.length < wd
      · rw [if_pos hc] at ho
        have hg2 : 1 ≤ g := by
          rcases Nat.eq_zero_or_pos g with h | h
          · subst h; simp at hm; omega
          · exact h
        have hm3 : m / 16 < 16 ^ (g - 1) := by
          obtain ⟨q, rfl⟩ : ∃ q, g = q + 1 := ⟨g - 1, by omega⟩
          rw [Nat.pow_succ] at hm
          simp
          omega
        have HOO := Lib.hid ho
        have hk := HL (m % 16) (Nat.mod_lt _ (by decide))
        obtain ⟨k, hkk⟩ : ∃ k, m % 16 = k := ⟨_, rfl⟩
        have hk16 : k < 16 := by omega
        have hkm : (m : Int) % 16 = (k : Nat) := by omega
        rw [hkk] at hk HOO
        have hsz : (bs [let16 false k]).size + (bs acc).size ≤ 9223372036854775807 := by rw [bs_size, bs_size]; simp; omega
        clear ho
        by_cases hm0 : 0 < m
        · go_wp2_with fail
          go_roundg g
          case measure => omega
          case rel => exact ⟨m / 16, let16 false k :: acc, by go_num, by rw [bs_append]; rfl, hm3, by omega, by simp; omega, hg2, HOO, hext⟩
        · have hsh : ((bs acc).size : Int) < wd := by rw [bs_size]; omega
          obtain rfl : m = 0 := by omega
          obtain rfl : k = 0 := by omega
          have hk0 : (bs [let16 false 0]) = bs [48] := rfl
          rw [hk0] at hk hsz
          clear hkm hkk hk16 hm hm2
          go_wp2_with fail
          go_roundg g
          case measure => omega
          case rel => exact ⟨0, let16 false 0 :: acc, by go_num, by rw [bs_append]; rfl, hm3, by omega, by simp; omega, hg2, HOO, hext⟩
      · rw [if_neg hc] at ho
        subst ho
        have h1 : m = 0 := by omega
        have h2 : ¬ ((bs acc).size : Int) < wd := by rw [bs_size]; omega
        subst h1
        go_wp2_with fail
        go_ret
        exact ⟨rfl, hext⟩
  | true =>
    have HL : ∀ k : Nat, k < 16 → (⟨#[48, 49, 50, 51, 52, 53, 54, 55, 56, 57, 65, 66, 67, 68, 69, 70]⟩ : ByteArray).extract k (k + 1) = bs [let16 true k] := letters_at true
    go_enter Tryd.func4, Tryd.ntmps4
    go_wp2_with fail
    go_loopg [0, 8] 5 (fun g a s wr => ∃ (m : Nat) (acc : List UInt8), a = .int .u16 m ∧ s = .string (bs acc) ∧ m < 16 ^ (g - 1) ∧ m ≤ 65535 ∧ acc.length + g = 5 ∧ 1 ≤ g ∧ Hid (hexF true wd g m acc = o) ∧ Ext w wr)
    case atStart => exact ⟨n, [], rfl, rfl, by simp; omega, hn, rfl, by decide, Ho, Ext.refl w⟩
    case round =>
      obtain ⟨m, acc, rfl, rfl, hm, hm2, hg, hg1, HO, hext⟩ := hrel
      obtain ⟨g, rfl⟩ : ∃ g, gk = g + 1 := ⟨gk - 1, by omega⟩
      rw [Nat.add_sub_cancel] at hm
      have ho := HO.out
      simp only [hexF] at ho
      by_cases hc : 0 < m ∨ acc.length < wd
      · rw [if_pos hc] at ho
        have hg2 : 1 ≤ g := by
          rcases Nat.eq_zero_or_pos g with h | h
          · subst h; simp at hm; omega
          · exact h
        have hm3 : m / 16 < 16 ^ (g - 1) := by
          obtain ⟨q, rfl⟩ : ∃ q, g = q + 1 := ⟨g - 1, by omega⟩
          rw [Nat.pow_succ] at hm
          simp
          omega
        have HOO := Lib.hid ho
        have hk := HL (m % 16) (Nat.mod_lt _ (by decide))
        obtain ⟨k, hkk⟩ : ∃ k, m % 16 = k := ⟨_, rfl⟩
        have hk16 : k < 16 := by omega
        have hkm : (m : Int) % 16 = (k : Nat) := by omega
        rw [hkk] at hk HOO
        have hsz : (bs [let16 true k]).size + (bs acc).size ≤ 9223372036854775807 := by rw [bs_size, bs_size]; simp; omega
        clear ho
        by_cases hm0 : 0 < m
        · go_wp2_with fail
          go_roundg g
          case measure => omega
          case rel => exact ⟨m / 16, let16 true k :: acc, by go_num, by rw [bs_append]; rfl, hm3, by omega, by simp; omega, hg2, HOO, hext⟩
        · have hsh : ((bs acc).size : Int) < wd := by rw [bs_size]; omega
          obtain rfl : m = 0 := by omega
          obtain rfl : k = 0 := by omega
          have hk0 : (bs [let16 true 0]) = bs [48] := rfl
          rw [hk0] at hk hsz
          clear hkm hkk hk16 hm hm2
          go_wp2_with fail
          go_roundg g
          case measure => omega
          case rel => exact ⟨0, let16 true 0 :: acc, by go_num, by rw [bs_append]; rfl, hm3, by omega, by simp; omega, hg2, HOO, hext⟩
      · rw [if_neg hc] at ho
        subst ho
        have h1 : m = 0 := by omega
        have h2 : ¬ ((bs acc).size : Int) < wd := by rw [bs_size]; omega
        subst h1
        go_wp2_with fail
        go_ret
        exact ⟨rfl, hext⟩
end Go.Proofs.YtggodjppecljnaaDoorR
