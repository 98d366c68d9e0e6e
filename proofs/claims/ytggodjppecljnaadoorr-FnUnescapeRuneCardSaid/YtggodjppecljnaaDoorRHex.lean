/- The contracts of Unquote's small functions. -/
import Derived.Test.YtggodjppecljnaaDoorRDec
namespace Go.Proofs.YtggodjppecljnaaDoorR
open Go.RowKit

/-- The letter in lower case. -/
def lowC (c : Int) : Int := bits .or .i32 32 c
def isDec (c : Int) : Bool := decide (48 ≤ c) && decide (c ≤ 57)
def isHex (c : Int) : Bool := isDec c || (decide (97 ≤ lowC c) && decide (lowC c ≤ 102))
def dig (c : Int) : Int := if isDec c then c - 48 else if (decide (97 ≤ lowC c) && decide (lowC c ≤ 102)) then lowC c - 97 + 10 else 16

theorem lower_any (c : Int) (w : World) :
    Calls Tryd.prog 24 #[.int .i32 c] w fun e w' => e = .returned (.int .i32 (lowC c)) ∧ Ext w w' := by
  go_enter Tryd.func24, Tryd.ntmps24
  go_wp2
  go_ret
  exact ⟨rfl, Ext.refl _⟩

theorem isDec_any (c : Int) (w : World) :
    Calls Tryd.prog 23 #[.int .i32 c] w fun e w' => e = .returned (.bool (isDec c)) ∧ Ext w w' := by
  by_cases h1 : 48 ≤ c
  all_goals
    go_enter Tryd.func23, Tryd.ntmps23
    go_wp2
    go_ret
    exact ⟨by first | (simp [isDec, h1]; done) | (simp [isDec]; omega), Ext.refl _⟩

theorem errNew_any (s : ByteArray) (w : World) :
    Calls Tryd.prog 13 #[.string s] w fun e w' => (∃ a, e = .returned (.iface 50 (.pointer (some a)))) ∧ Ext w w' := by
  go_enter Tryd.func13, Tryd.ntmps13
  go_wp2
  go_ret
  exact ⟨⟨_, rfl⟩, (Ext.refl _).alloc _⟩

theorem isHex_any (c : Int) (w : World) :
    Calls Tryd.prog 17 #[.int .i32 c] w fun e w' => e = .returned (.bool (isHex c)) ∧ Ext w w' := by
  obtain ⟨d, hd⟩ : ∃ d, isDec c = d := ⟨_, rfl⟩
  obtain ⟨m, hm⟩ : ∃ m, lowC c = m := ⟨_, rfl⟩
  rw [isHex, hd, hm]
  have H := fun wx => hd ▸ isDec_any c wx
  have L := fun wx => hm ▸ lower_any c wx
  clear hd hm
  go_enter Tryd.func17, Tryd.ntmps17
  go_wp2_with fail
  refine (H _).mono ?_
  rintro e w1 ⟨rfl, x1⟩
  cases d
  · go_wp2_with fail
    refine (L _).mono ?_
    rintro e w2 ⟨rfl, x2⟩
    by_cases h1 : 97 ≤ m
    · go_wp2_with fail
      refine (L _).mono ?_
      rintro e w3 ⟨rfl, x3⟩
      go_wp2_with fail
      go_ret
      exact ⟨by simp [h1], (x1.trans x2).trans x3⟩
    · go_wp2_with fail
      go_ret
      exact ⟨by simp; omega, x1.trans x2⟩
  · go_wp2_with fail
    go_ret
    exact ⟨rfl, x1⟩

theorem dig_any (c : Int) (w : World) :
    Calls Tryd.prog 18 #[.int .i32 c] w fun e w' => e = .returned (.int .i64 (dig c)) ∧ Ext w w' := by
  obtain ⟨m, hm⟩ : ∃ m, lowC c = m := ⟨_, rfl⟩
  have L := fun wx => hm ▸ lower_any c wx
  rw [dig, hm]
  clear hm
  by_cases hd : isDec c = true
  · simp only [hd, if_true]
    simp [isDec] at hd
    obtain ⟨h1, h2⟩ := hd
    go_enter Tryd.func18, Tryd.ntmps18
    go_wp2
    go_ret
    exact ⟨rfl, Ext.refl _⟩
  · simp only [hd]
    by_cases hm : 97 ≤ m ∧ m ≤ 102
    · obtain ⟨k1, k2⟩ := hm
      simp only [decide_eq_true k1, decide_eq_true k2, Bool.false_eq_true, if_false, Bool.and_true, if_true]
      by_cases h1 : 48 ≤ c
      all_goals
        have h2 : 48 ≤ c → 57 < c := by simpa [isDec] using hd
        go_enter Tryd.func18, Tryd.ntmps18
        go_wp2_with fail
        refine (L _).mono ?_
        rintro e w1 ⟨rfl, x1⟩
        go_wp2_with fail
        refine (L _).mono ?_
        rintro e w2 ⟨rfl, x2⟩
        go_wp2_with fail
        refine (L _).mono ?_
        rintro e w3 ⟨rfl, x3⟩
        go_wp2_with fail
        go_ret
        exact ⟨rfl, (x1.trans x2).trans x3⟩
    · have hm' : (decide (97 ≤ m) && decide (m ≤ 102)) = false := by simp; omega
      simp only [hm', Bool.false_eq_true, if_false]
      by_cases h1 : 48 ≤ c
      all_goals
        have h2 : 48 ≤ c → 57 < c := by simpa [isDec] using hd
        by_cases k1 : 97 ≤ m
        all_goals
          go_enter Tryd.func18, Tryd.ntmps18
          go_wp2_with fail
          refine (L _).mono ?_
          rintro e w1 ⟨rfl, x1⟩
          first
          | (go_wp2_with fail
             refine (L _).mono ?_
             rintro e w2 ⟨rfl, x2⟩
             go_wp2_with fail
             go_ret
             exact ⟨rfl, x1.trans x2⟩)
          | (go_wp2_with fail
             go_ret
             exact ⟨rfl, x1⟩)
end Go.Proofs.YtggodjppecljnaaDoorR
