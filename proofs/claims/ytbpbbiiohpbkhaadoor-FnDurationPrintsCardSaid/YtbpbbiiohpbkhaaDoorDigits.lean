/- The contract of digits. -/
import Derived.Test.YtbpbbiiohpbkhaaDoorBase
import Derived.Test.YtbpbbiiohpbkhaaDoorNum
import Derived.Laws.IdiomStrings
namespace Go.Proofs.YtbpbbiiohpbkhaaDoor
open Go.RowKit

theorem one_byte (w : World) (m : Nat) : (convert 40 9 (.slice (some ⟨w.heap.size, 0, none⟩) 1 1)).run Tryd.prog (w.alloc (.cells #[.int .u8 (48 + (m : Int) % 10)] 5)) = .ok (.string (bs [UInt8.ofNat (48 + m % 10)])) (w.alloc (.cells #[.int .u8 (48 + (m : Int) % 10)] 5)) := by
  have h := run_convert_bytes_back (P := Tryd.prog) (w.alloc (.cells #[.int .u8 (48 + (m : Int) % 10)] 5)) 40 9 5 ⟨w.heap.size, 0, none⟩ 1 [UInt8.ofNat (48 + m % 10)] Tryd.underlying40 Tryd.underlying5 Tryd.underlying9 (fun j hj => by
    have : j = 0 := by simpa using hj
    subst this
    have e : ((UInt8.ofNat (48 + m % 10)).toNat : Int) = 48 + (m : Int) % 10 := by rw [digit_mk]; omega
    simp only [List.getElem_cons_zero]
    rw [e]
    simp [Addr.add])
  exact h

theorem digits_any (N : Nat) (w : World) (hN : N < 18446744073709551616) :
    Calls Tryd.prog 7 #[.int .u64 (N : Int), .int .i64 1] w fun e w' => e = .returned (.string (bs (dec N))) ∧ Ext w w' := by
  go_enter Tryd.func7, Tryd.ntmps7
  go_wp2
  go_loopg [0, 5] (N + 1) (fun g n t wr => ∃ (m : Nat) (tt : List UInt8), n = .int .u64 (m : Int) ∧ t = .string (bs tt) ∧ m ≤ N ∧ Hid ((m = N ∧ tt = [] ∧ g = N + 1) ∨ (tt ≠ [] ∧ dec N = digs m ++ tt ∧ g = m)) ∧ (bs tt).size ≤ 20 ∧ Ext w wr)
  case atStart => exact ⟨N, [], rfl, rfl, Nat.le_refl _, Lib.hid (.inl ⟨rfl, rfl, rfl⟩), by rw [bs_size]; simp, Ext.refl _⟩
  case round =>
    obtain ⟨m, tt, rfl, rfl, hm, H, hts, hext⟩ := hrel
    obtain ⟨ch, hch⟩ : ∃ ch, UInt8.ofNat (48 + m % 10) = ch := ⟨_, rfl⟩
    have hc0 := one_byte wr m
    rw [hch] at hc0
    have Hc := Lib.hid hc0
    have Hch := Lib.hid hch
    clear hc0 hch
    by_cases hm0 : 0 < m
    · have hm0' : (0 : Int) < (m : Int) := by omega
      have hc := Hc.out
      have hstep : dec N = digs (m / 10) ++ ([ch] ++ tt) := by
        rcases H.out with ⟨rfl, rfl, _⟩ | ⟨_, h, _⟩
        · rw [dec, if_neg (by omega), digs_pos hm0, Hch.out]; simp
        · rw [h, digs_pos hm0, Hch.out]; simp
      have Hstep := Lib.hid hstep
      have hg : m / 10 < gk := by rcases H.out with ⟨_, _, h⟩ | ⟨_, _, h⟩ <;> omega
      have hlen : ([ch] ++ tt).length ≤ 20 := by
        have h1 := dec_len N hN
        rw [hstep, List.length_append] at h1
        omega
      have Hlen := Lib.hid hlen
      have hone : (bs [ch]).size ≤ 1 := by rw [bs_size]; simp
      clear hstep hlen H
      go_wp2_with fail
      go_roundg (m / 10)
      case measure => exact hg
      case rel =>
        refine ⟨m / 10, [ch] ++ tt, by go_num, by rw [bs_append], by omega, Lib.hid (.inr ⟨by simp, Hstep.out, rfl⟩), by rw [bs_size]; exact Hlen.out, hext.alloc _⟩
    · have hm0' : ¬ (0 : Int) < (m : Int) := by omega
      obtain rfl : m = 0 := by omega
      by_cases ht : tt = []
      · subst ht
        have hN0 : N = 0 := by
          rcases H.out with ⟨h, _, _⟩ | ⟨h, _, _⟩
          · exact h.symm
          · exact absurd rfl h
        have hz : ((bs []).size : Int) < 1 := by rw [bs_size]; simp
        have hch48 : (48 : UInt8) = ch := by rw [← Hch.out]; rfl
        have hstep : dec N = digs 0 ++ ([ch] ++ []) := by
          rw [hN0, digs_zero, ← hch48]; rfl
        have Hstep := Lib.hid hstep
        have hg : 0 < gk := by
          rcases H.out with ⟨_, _, h⟩ | ⟨h, _, _⟩
          · omega
          · exact absurd rfl h
        have hc := Hc.out
        have e48 : (48 + ((0 : Nat) : Int) % 10) = 48 := by omega
        rw [e48] at hc
        have hone : (bs [ch]).size ≤ 1 := by rw [bs_size]; simp
        have htz : (bs []).size ≤ 1 := by rw [bs_size]; simp
        clear hstep H hN0 hch48 e48
        go_wp2_with fail
        go_roundg 0
        case measure => exact hg
        case rel =>
          refine ⟨0, [ch] ++ [], by go_num, by rw [bs_append], by omega, Lib.hid (.inr ⟨by simp, Hstep.out, rfl⟩), by rw [bs_size]; simp, hext.alloc _⟩
      · have hz : ¬ ((bs tt).size : Int) < 1 := by rw [bs_size]; have := List.length_pos_iff.2 ht; omega
        have hfin : dec N = tt := by
          rcases H.out with ⟨_, h, _⟩ | ⟨_, h, _⟩
          · exact absurd h ht
          · rw [h, digs_zero]; rfl
        have Hfin := Lib.hid hfin
        clear hfin H
        go_wp2_with fail
        go_ret
        exact ⟨by rw [Hfin.out]; rfl, hext⟩
end Go.Proofs.YtbpbbiiohpbkhaaDoor
