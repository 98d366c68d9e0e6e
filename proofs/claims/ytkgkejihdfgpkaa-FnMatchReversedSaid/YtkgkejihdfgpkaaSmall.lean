/- The contract of smallPattern. -/
import Derived.Test.YtkgkejihdfgpkaaFits
namespace Go.Proofs.Ytkgkejihdfgpkaa
open Go.RowKit

def allSmall (ss : List (List UInt8)) : Bool := ss.all fun s => decide (s.length ≤ 20)
def smallB (ss : List (List UInt8)) : Bool := allSmall ss && (decide (1 ≤ ss.length) && decide (ss.length ≤ 12))

theorem small_any (v : Value) (ss : List (List UInt8)) (w : World) (hr : SRow w v ss) :
    Calls Try.prog 7 #[v] w fun e w' => e = .returned (.bool (smallB ss)) ∧ w = w' := by
  rcases hr with ⟨ao, cap, rfl, rfl⟩ | ⟨b, off, cap, rfl, hm, hc⟩
  · go_enter Try.func7, Try.ntmps7
    go_wp2
    go_loop [3] (fun i => i = .int .i64 0) (fun _ => 0)
    case atStart => rfl
    case round =>
      obtain rfl := hrel
      go_wp2
      go_ret
      exact ⟨rfl, rfl⟩
  · unfold maxLen at hm
    go_enter Try.func7, Try.ntmps7
    go_wp2
    go_loop [3] (fun i => ∃ k : Nat, k ≤ ss.length ∧ i = .int .i64 k ∧ Hid (allSmall ss = ((ss.drop k).all fun s => decide (s.length ≤ 20)))) (fun i => ss.length - (intOf i).toNat)
    case atStart => exact ⟨0, Nat.zero_le _, rfl, Lib.hid (by simp [allSmall])⟩
    case round =>
      obtain ⟨k, hk, rfl, H⟩ := hrel
      by_cases hlt : k < ss.length
      · have hcell := (hc k hlt).1
        have hstep : ((ss.drop k).all fun s => decide (s.length ≤ 20)) = (decide (ss[k].length ≤ 20) && (ss.drop (k + 1)).all fun s => decide (s.length ≤ 20)) := by
          rw [List.drop_eq_getElem_cons hlt]; rfl
        have Hs := Lib.hid hstep
        have hsz := bs_size ss[k]
        have Hsz := Lib.hid hsz
        have hle := (hc k hlt).2
        unfold maxLen at hle
        clear hstep hsz
        by_cases hf : (bs ss[k]).size ≤ 20
        · have hf2 : ¬ 20 < (bs ss[k]).size := by omega
          go_wp2
          go_round
          case rel => exact ⟨k + 1, by omega, by go_num, Lib.hid (by rw [H.out, Hs.out, decide_eq_true (by rw [← Hsz.out]; exact hf)]; simp)⟩
          case measure => simp [intOf]; omega
        · have hf2 : 20 < (bs ss[k]).size := by omega
          go_wp2
          go_ret
          exact ⟨by rw [smallB, H.out, Hs.out, decide_eq_false (by rw [← Hsz.out]; exact hf)]; rfl, rfl⟩
      · have hd : ss.drop k = [] := List.drop_eq_nil_of_le (by omega)
        have hA : allSmall ss = true := by rw [H.out, hd]; rfl
        have HA := Lib.hid hA
        clear hA hd
        by_cases h1 : 1 ≤ ss.length
        · have h1' : (1 : Int) ≤ (ss.length : Int) := by omega
          by_cases h2 : ss.length ≤ 12
          · have h2' : (ss.length : Int) ≤ 12 := by omega
            go_wp2
            go_ret
            exact ⟨by rw [smallB, HA.out, decide_eq_true h1, decide_eq_true h2]; rfl, rfl⟩
          · have h2' : ¬ (ss.length : Int) ≤ 12 := by omega
            go_wp2
            go_ret
            exact ⟨by rw [smallB, HA.out, decide_eq_true h1, decide_eq_false h2]; rfl, rfl⟩
        · have h1' : ¬ (1 : Int) ≤ (ss.length : Int) := by omega
          go_wp2
          go_ret
          exact ⟨by rw [smallB, HA.out, decide_eq_false h1]; rfl, rfl⟩
end Go.Proofs.Ytkgkejihdfgpkaa
