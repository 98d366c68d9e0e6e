/- The contract of impl.Match. -/
import Derived.Test.YtkgkejihdfgpkaaPat
import Derived.Test.YtkgkejihdfgpkaaMatch
namespace Go.Proofs.Ytkgkejihdfgpkaa
open Go.RowKit

theorem tailC_len (ps : List (List UInt8)) : (PatM.tailC ps).length ≤ ps.length := by
  induction ps with
  | nil => simp [PatM.tailC]
  | cons p r ih =>
    cases r with
    | nil => simp [PatM.tailC]
    | cons q t =>
      simp only [PatM.tailC]
      split
      · simp only [List.length_cons] at ih ⊢; omega
      · simp only [List.length_cons] at ih ⊢; omega
theorem compsOf_len (ps : List (List UInt8)) : (PatM.compsOf ps).length ≤ ps.length := by
  cases ps with
  | nil => simp [PatM.compsOf]
  | cons p r =>
    have := tailC_len r
    simp only [PatM.compsOf]
    split
    · simp only [List.length_cons]; omega
    · simp only [List.length_cons]; omega
theorem tailC_mem (ps : List (List UInt8)) : ∀ c ∈ PatM.tailC ps, c.2 ∈ ps := by
  induction ps with
  | nil => simp [PatM.tailC]
  | cons p r ih =>
    cases r with
    | nil => simp [PatM.tailC]
    | cons q t =>
      simp only [PatM.tailC]
      intro c hc
      split at hc
      · exact List.mem_cons_of_mem _ (ih c hc)
      · rcases List.mem_cons.1 hc with h | h
        · subst h; exact List.mem_cons_self ..
        · exact List.mem_cons_of_mem _ (ih c h)
theorem compsOf_mem (ps : List (List UInt8)) : ∀ c ∈ PatM.compsOf ps, c.2 ∈ ps := by
  cases ps with
  | nil => simp [PatM.compsOf]
  | cons p r =>
    intro c hc
    simp only [PatM.compsOf] at hc
    split at hc
    · exact List.mem_cons_of_mem _ (tailC_mem r c hc)
    · rcases List.mem_cons.1 hc with h | h
      · subst h; exact List.mem_cons_self ..
      · exact List.mem_cons_of_mem _ (tailC_mem r c h)

theorem implMatch_any (v : Value) (ss : List (List UInt8)) (s : List UInt8) (w : World) (hr : SRow w v ss) (hn : ss.length ≤ 1000) (hl : ∀ s ∈ ss, s.length ≤ 2147483647) (hs : s.length ≤ maxLen) :
    Calls Try.prog 6 #[v, .string (bs s)] w fun e w' => e = .returned (.bool (PatM.matchC (PatM.compsOf ss) s)) ∧ Ext w w' := by
  have Hl := Lib.hid hl
  clear hl
  have hcl := compsOf_len ss
  have hcm : ∀ c ∈ PatM.compsOf ss, c.2.length ≤ maxLen := fun c hc => by
    have := Hl.out _ (compsOf_mem ss c hc)
    unfold maxLen; omega
  have Hcm := Lib.hid hcm
  clear hcm
  have Hr := Lib.hid hr
  clear hr
  rcases Hr.out with ⟨ao, cap, rfl, rfl⟩ | ⟨b, off, cap, rfl, _, _⟩
  all_goals
    go_enter Try.func6, Try.ntmps6
    go_wp2_with fail
    refine (pattern_any _ _ _ Hr.out hn Hl.out).mono ?_
    rintro e w1 ⟨v', n, rfl, hn', hown, hext⟩
    have Hn' := Lib.hid hn'
    clear hn'
    go_wp2_with fail
    refine (match_any v' n _ s _ (VRow2.of_own hown) (by rw [Hn'.out]; omega) Hcm.out hs).mono ?_
    rintro e w2 ⟨rfl, hext2⟩
    go_wp2_with fail
    go_ret
    exact ⟨rfl, hext.trans hext2⟩
end Go.Proofs.Ytkgkejihdfgpkaa
