/- The contract of matchChunk. -/
import Derived.Test.YtkgkejihdfgpkaaBase
import Derived.Test.YtkgkejihdfgpkaaMath
namespace Go.Proofs.Ytkgkejihdfgpkaa
open Go.RowKit

def chunkVal (c s : List UInt8) : Value :=
  match PatM.strip c s with
  | some t => .tuple #[.string (bs t), .bool true]
  | none => .tuple #[.string (bs []), .bool false]

theorem u8_ne {a b : UInt8} (h : ((a.toNat : Int) != (b.toNat : Int)) = true) : a ≠ b := by
  rintro rfl; simp at h
theorem u8_eq {a b : UInt8} (h : ((a.toNat : Int) != (b.toNat : Int)) = false) : a = b := by
  have h1 : (a.toNat : Int) = (b.toNat : Int) := by simpa using h
  exact UInt8.toNat_inj.1 (by omega)

theorem chunk_any (c s : List UInt8) (w : World) (hc : (bs c).size ≤ maxLen) (hs : (bs s).size ≤ maxLen) :
    Calls Try.prog 12 #[.string (bs c), .string (bs s)] w fun e w' => e = .returned (chunkVal c s) ∧ ∃ n, w' = w.drewN n := by
  unfold maxLen at hc hs
  go_enter Try.func12, Try.ntmps12
  go_wp2
  go_loopw [0, 1] (fun a b wr => ∃ (c' s' : List UInt8) (n : Nat), a = .string (bs c') ∧ b = .string (bs s') ∧ (bs c').size ≤ 9223372036854775807 ∧ (bs s').size ≤ 9223372036854775807 ∧ Hid (chunkVal c s = chunkVal c' s') ∧ wr = w.drewN n) (fun a _ _ => match a with | .string c' => c'.size | _ => 0)
  case atStart => exact ⟨c, s, 0, rfl, rfl, hc, hs, Lib.hid rfl, rfl⟩
  case round =>
    obtain ⟨c', s', n, rfl, rfl, hc', hs', H, rfl⟩ := hrel
    cases c' with
    | nil =>
      have h0 : ¬ 0 < (bs []).size := by rw [bs_size]; simp
      go_wp2
      go_ret2
      exact ⟨by rw [H.out]; rfl, n, rfl⟩
    | cons a c' =>
      have h0 : 0 < (bs (a :: c')).size := by rw [bs_size]; simp
      cases s' with
      | nil =>
        have h1 : (((bs []).size : Int) == 0) = true := by rw [bs_size]; rfl
        go_wp2
        go_ret2
        exact ⟨by rw [H.out]; rfl, n, rfl⟩
      | cons b s' =>
        have h1 : 0 < (bs (b :: s')).size := by rw [bs_size]; simp
        have h2 : (((bs (b :: s')).size : Int) == 0) = false := by rw [bs_size]; simp; omega
        go_wp2
        go_quiet (fail)
        go_wp2
        · have h : (((bs (a :: c'))[0].toNat : Int) != ((bs (b :: s'))[0].toNat : Int)) = true := by assumption
          have hne : a ≠ b := u8_ne h
          go_ret2
          refine ⟨?_, n + nq, (World.drewN_drewN _ _ _).symm ▸ rfl⟩
          rw [H.out]
          simp [chunkVal, PatM.strip, hne, bs]
        · have h : (((bs (a :: c'))[0].toNat : Int) != ((bs (b :: s'))[0].toNat : Int)) = false := by assumption
          have he : a = b := u8_eq h
          subst he
          go_roundw
          case rel =>
            refine ⟨c', s', _, by rw [bs_tail]; rfl, by rw [bs_tail]; rfl, ?_, ?_, ?_, rfl⟩
            · rw [bs_size] at *; simp at hc'; omega
            · rw [bs_size] at *; simp at hs'; omega
            · exact Lib.hid (by have := H.out; rw [this]; simp [chunkVal, PatM.strip])
          case measure => simp [bs_size]
theorem chunk_some (c : List UInt8) (s : ByteArray) (t : List UInt8) (w : World) (hc : (bs c).size ≤ maxLen) (hs : s.size ≤ maxLen) (h : PatM.strip c s.data.toList = some t) :
    Calls Try.prog 12 #[.string (bs c), .string s] w fun e w' => e = .returned (.tuple #[.string (bs t), .bool true]) ∧ ∃ n, w' = w.drewN n := by
  have h1 := chunk_any c s.data.toList w hc hs
  have h2 : chunkVal c s.data.toList = .tuple #[.string (bs t), .bool true] := by simp [chunkVal, h]
  rw [h2] at h1
  exact h1
theorem chunk_none (c : List UInt8) (s : ByteArray) (w : World) (hc : (bs c).size ≤ maxLen) (hs : s.size ≤ maxLen) (h : PatM.strip c s.data.toList = none) :
    Calls Try.prog 12 #[.string (bs c), .string s] w fun e w' => e = .returned (.tuple #[.string (bs []), .bool false]) ∧ ∃ n, w' = w.drewN n := by
  have h1 := chunk_any c s.data.toList w hc hs
  have h2 : chunkVal c s.data.toList = .tuple #[.string (bs []), .bool false] := by simp [chunkVal, h]
  rw [h2] at h1
  exact h1
theorem bs_drop (l : List UInt8) (k : Nat) : ((bs l).extract k (bs l).size).data.toList = l.drop k := by
  rw [Lib.extract_data, bs_toList, bs_size]
  exact List.take_of_length_le (by simp)
end Go.Proofs.Ytkgkejihdfgpkaa
