/- The contract of zzFits9. -/
import Derived.Test.YtkgkejihdfgpkaaBase
namespace Go.Proofs.Ytkgkejihdfgpkaa
open Go.RowKit

/-- A slice of strings, nil or not, that holds these texts. -/
def SRow (w : World) (v : Value) (ss : List (List UInt8)) : Prop :=
  (∃ ao cap, v = .slice ao 0 cap ∧ ss = []) ∨
  ∃ b off cap, v = .slice (some ⟨b, off, none⟩) ss.length cap ∧ ss.length ≤ maxLen ∧ ∀ i (h : i < ss.length), w.cell? ⟨b, off + i, none⟩ = some (.string (bs ss[i])) ∧ (bs ss[i]).size ≤ maxLen
theorem SRow.ext {w w' : World} {v : Value} {ss : List (List UInt8)} (h : SRow w v ss) (e : Ext w w') : SRow w' v ss := by
  rcases h with h | ⟨b, off, cap, hv, hm, hc⟩
  · exact .inl h
  · refine .inr ⟨b, off, cap, hv, hm, fun i hi => ⟨?_, (hc i hi).2⟩⟩
    have h1 := (hc i hi).1
    rw [Below.cell e (World.block_lt_of_cell? w _ h1)]
    exact h1

def fits9 (ss : List (List UInt8)) : Bool := decide (ss.length ≤ 2147483647) && ss.all fun s => decide (s.length ≤ 2147483647)

theorem fits9_any (v : Value) (ss : List (List UInt8)) (w : World) (hr : SRow w v ss) :
    Calls Try.prog 5 #[v] w fun e w' => e = .returned (.bool (fits9 ss)) ∧ w = w' := by
  rcases hr with ⟨ao, cap, rfl, rfl⟩ | ⟨b, off, cap, rfl, hm, hc⟩
  · go_enter Try.func5, Try.ntmps5
    go_wp2
    go_loop [10] (fun i => i = .int .i64 0) (fun _ => 0)
    case atStart => rfl
    case round =>
      obtain rfl := hrel
      go_wp2
      go_ret
      exact ⟨rfl, rfl⟩
  · unfold maxLen at hm
    by_cases hb : ss.length ≤ 2147483647
    · have hb2 : decide (2147483647 < (ss.length : Int)) = false := by simp; omega
      go_enter Try.func5, Try.ntmps5
      go_wp2
      go_loop [10] (fun i => ∃ k : Nat, k ≤ ss.length ∧ i = .int .i64 k ∧ Hid (fits9 ss = ((ss.drop k).all fun s => decide (s.length ≤ 2147483647)))) (fun i => ss.length - (intOf i).toNat)
      case atStart => exact ⟨0, Nat.zero_le _, rfl, Lib.hid (by simp [fits9, hb])⟩
      case round =>
        obtain ⟨k, hk, rfl, H⟩ := hrel
        by_cases hlt : k < ss.length
        · have hcell := (hc k hlt).1
          have hstep : ((ss.drop k).all fun s => decide (s.length ≤ 2147483647)) = (decide (ss[k].length ≤ 2147483647) && (ss.drop (k + 1)).all fun s => decide (s.length ≤ 2147483647)) := by
            rw [List.drop_eq_getElem_cons hlt]; rfl
          have Hs := Lib.hid hstep
          have hsz := bs_size ss[k]
          have Hsz := Lib.hid hsz
          have hle := (hc k hlt).2
          unfold maxLen at hle
          clear hstep hsz
          by_cases hf : (bs ss[k]).size ≤ 2147483647
          · have hf2 : ¬ 2147483647 < (bs ss[k]).size := by omega
            go_wp2
            go_round
            case rel => exact ⟨k + 1, by omega, by go_num, Lib.hid (by rw [H.out, Hs.out, decide_eq_true (by rw [← Hsz.out]; exact hf)]; simp)⟩
            case measure => simp [intOf]; omega
          · have hf2 : 2147483647 < (bs ss[k]).size := by omega
            go_wp2
            go_ret
            exact ⟨by rw [H.out, Hs.out, decide_eq_false (by rw [← Hsz.out]; exact hf)]; rfl, rfl⟩
        · have hlt' : ¬ k < ss.length := hlt
          go_wp2
          go_ret
          have hd : ss.drop k = [] := List.drop_eq_nil_of_le (by omega)
          exact ⟨by rw [H.out, hd]; rfl, rfl⟩
    · have hb1 : 2147483647 < ss.length := by omega
      go_enter Try.func5, Try.ntmps5
      go_wp2
      go_ret
      exact ⟨by simp [fits9, hb], rfl⟩
end Go.Proofs.Ytkgkejihdfgpkaa
