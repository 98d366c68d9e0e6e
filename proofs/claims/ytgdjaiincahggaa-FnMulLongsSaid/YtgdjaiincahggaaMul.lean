/- The walk of FnMulLongs. -/
import Derived.Test.YtgdjaiincahggaaLongs
import Derived.OpenShut
namespace Go.Proofs.Ytgdjaiincahggaa
open Go.RowKit
theorem in64_next {b : Int} (hb : In64 b) (h : (b == 9223372036854775807) = false) : wrap64 (b + 1) = b + 1 ∧ In64 (b + 1) := by
  have h1 : b ≠ 9223372036854775807 := by simpa using h
  unfold In64 at *
  exact ⟨IntWalk.wrap64_in _ (by omega), by omega⟩
theorem fnMulLongs_walk (a b : Int) (w : World) (ha1 : (Lit.int .i64 a).wf = true) (hb1 : (Lit.int .i64 b).wf = true) :
    Calls Try.prog 4 #[.int .i64 a, .int .i64 b] w fun e w' => e = .returned (.bool true) ∧ Ext w w' := by
  have h1 : In64 1 := by unfold In64; omega
  have h0 : In64 0 := by unfold In64; omega
  have hm : In64 (-1) := by unfold In64; omega
  have ha0 : In64 a := Go.bounds_i64 ha1
  have hb0 : In64 b := Go.bounds_i64 hb1
  clear ha1 hb1
  have ha := Lib.hid ha0
  have hb := Lib.hid hb0
  clear ha0 hb0
  go_enter Try.func4, Try.ntmps4
  go_wp2_with fail
  refine (mulLongs_any _ _ _ ha.out hb.out).mono ?_; rintro e w' ⟨rfl, rfl⟩
  go_wp2_with fail
  refine (mulLongs_any _ _ _ hb.out ha.out).mono ?_; rintro e w' ⟨rfl, rfl⟩
  rw [Int.mul_comm b a, mulV_comm a b]
  go_wp2_with fail
  refine (mulLongs_any _ _ _ ha.out h1).mono ?_; rintro e w' ⟨rfl, rfl⟩
  rw [mulV_one ha.out, okB_one ha.out]
  go_wp2_with fail
  refine (mulLongs_any _ _ _ h0 ha.out).mono ?_; rintro e w' ⟨rfl, rfl⟩
  rw [mulV_zero, okB_zero]
  go_wp2_with fail
  refine (mulLongs_any _ _ _ ha.out hm).mono ?_; rintro e w' ⟨rfl, rfl⟩
  rw [okB_neg ha.out]
  go_wp2_with fail
  refine (negLong_any _ _ ha.out).mono ?_; rintro e w' ⟨rfl, rfl⟩
  have hneg : (if negB a then mulV a (-1) else 0) = (if negB a then negV a else 0) := by
    split
    · rename_i hn; exact mulV_neg ha.out hn
    · rfl
  have Hneg := Lib.hid hneg
  clear hneg
  cases hok : okB (a * b) with
  | false =>
    cases hn : negB a with
    | false =>
      clear hok hn Hneg
      go_wp2_with fail
      go_ret
      exact ⟨rfl, Ext.refl _⟩
    | true =>
      have Hq := Hneg.out
      rw [hn, if_pos rfl, if_pos rfl] at Hq
      rw [Hq]
      clear hok hn Hneg Hq
      go_wp2_with fail
      go_ret
      exact ⟨rfl, Ext.refl _⟩
  | true =>
    have Hok := Lib.hid hok
    clear hok
    cases hq : (b == 9223372036854775807) with
    | true =>
      cases hn : negB a with
      | false =>
        clear hn Hneg
        go_wp2_with fail
        go_ret
        exact ⟨rfl, Ext.refl _⟩
      | true =>
        have Hq := Hneg.out
        rw [hn, if_pos rfl, if_pos rfl] at Hq
        rw [Hq]
        clear hn Hneg Hq
        go_wp2_with fail
        go_ret
        exact ⟨rfl, Ext.refl _⟩
    | false =>
      obtain ⟨hw, hb1⟩ := in64_next hb.out hq
      have hsum := addV_ok b Hok.out rfl
      have hsum2 : addV (mulV a b) a = mulV a (b + 1) := by unfold addV; rw [hsum]; rfl
      have Hw := Lib.hid hw
      have Hb1 := Lib.hid hb1
      have Hsum := Lib.hid hsum
      have Hsum2 := Lib.hid hsum2
      clear hw hb1 hsum hsum2
      have fin : (okB (a * (b + 1)) == okB (a * (b + 1)) && (!okB (a * (b + 1)) || mulV a (b + 1) == mulV a (b + 1))) = true := by simp
      cases hn : negB a with
      | false =>
        clear hn Hneg
        go_wp2_with fail
        refine (addLongs_any _ _ _ (in64_mulV _ _) ha.out).mono ?_; rintro e w' ⟨rfl, rfl⟩
        rw [Hsum.out, Hsum2.out]
        go_wp2_with fail
        rw [Hw.out]
        refine (mulLongs_any _ _ _ ha.out Hb1.out).mono ?_; rintro e w' ⟨rfl, rfl⟩
        go_wp2_with fail
        all_goals go_ret
        all_goals exact ⟨rfl, Ext.refl _⟩
      | true =>
        have Hq := Hneg.out
        rw [hn, if_pos rfl, if_pos rfl] at Hq
        rw [Hq]
        clear hn Hneg Hq
        go_wp2_with fail
        refine (addLongs_any _ _ _ (in64_mulV _ _) ha.out).mono ?_; rintro e w' ⟨rfl, rfl⟩
        rw [Hsum.out, Hsum2.out]
        go_wp2_with fail
        rw [Hw.out]
        refine (mulLongs_any _ _ _ ha.out Hb1.out).mono ?_; rintro e w' ⟨rfl, rfl⟩
        go_wp2_with fail
        all_goals go_ret
        all_goals exact ⟨rfl, Ext.refl _⟩
end Go.Proofs.Ytgdjaiincahggaa
