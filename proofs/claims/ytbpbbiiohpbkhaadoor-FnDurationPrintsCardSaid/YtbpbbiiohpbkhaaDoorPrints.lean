/- The walk of FnDurationPrints. -/
import Derived.Test.YtbpbbiiohpbkhaaDoorUnits
import Derived.Test.YtbpbbiiohpbkhaaDoorParseN
import Derived.Test.YtbpbbiiohpbkhaaDoorBack
import Derived.LaidMore
import Derived.LaidSub
import Derived.OpenShut
namespace Go.Proofs.YtbpbbiiohpbkhaaDoor
open Go.RowKit

theorem gPow : Tryd.prog.globalNamed "internal/strconv.uint64pow10" = some 2 := by kernel_rfl
theorem tPow : (Tryd.prog.globals[2]?).map (·.type) = some 66 := by kernel_rfl
theorem tab_of_laid {W : World} (h : laidMetH Tryd.prog [("math/bits.deBruijn32tab", Rows.laid_math_bits_deBruijn32tab), ("math/bits.deBruijn64tab", Rows.laid_math_bits_deBruijn64tab), ("internal/strconv.uint64pow10", Rows.laid_internal_strconv_uint64pow10), ("pub-claviger/pub/cedargo/inner.ErrDuration", Rows.laid_pub_claviger_pub_cedargo_inner_ErrDuration), ("bytes.ErrTooLarge", Rows.laid_bytes_ErrTooLarge)] W) : Tab W := by
  rw [MakeChecks.laidMetH_plain _ _ _ (by kernel_rfl)] at h
  have h2 := laidMet.filter (fun x => x.1 == "internal/strconv.uint64pow10") h
  have e : ([("math/bits.deBruijn32tab", Rows.laid_math_bits_deBruijn32tab), ("math/bits.deBruijn64tab", Rows.laid_math_bits_deBruijn64tab), ("internal/strconv.uint64pow10", Rows.laid_internal_strconv_uint64pow10), ("pub-claviger/pub/cedargo/inner.ErrDuration", Rows.laid_pub_claviger_pub_cedargo_inner_ErrDuration), ("bytes.ErrTooLarge", Rows.laid_bytes_ErrTooLarge)] : List (String × DataW Unit)).filter (fun x => x.1 == "internal/strconv.uint64pow10") = [("internal/strconv.uint64pow10", Lib.tabData .u64 Lib.pow10Tab)] := by kernel_rfl
  rw [e] at h2
  exact Lib.tabIs_of_head gPow tPow Tryd.underlying66 Tryd.underlying22 (by kernel_rfl) (by kernel_rfl) h2

theorem implParse_neg (n : Nat) (s s' : List UInt8) (T : Int) (w : World) (hs : (bs s).size ≤ 1000) (h2 : 2 ≤ (bs s).size) (hr : okRun n s' 0 0 0 false T) (hneg : s = 45 :: s') (hT : T ≤ 9223372036854775807) :
    Calls Tryd.prog 6 #[.string (bs s)] w fun e w' => e = .returned (.tuple #[.int .i64 (-T), .bool true]) ∧ Ext w w' := by
  have Hc := Lib.hid (fun wx => parse_neg n s s' T wx hs h2 hr hneg hT)
  clear hr hneg h2 hs hT
  go_enter Tryd.func6, Tryd.ntmps6
  go_wp2_with fail
  refine (Hc.out _).mono ?_
  rintro e w1 ⟨rfl, hx⟩
  go_wp2_with fail
  go_region_with (go_at_call 10; refine (zzMillis_any _ _).mono ?_; rintro e w2 ⟨rfl, hx2⟩)
  all_goals
    go_wp2_with fail
    go_ret2
    exact ⟨rfl, ((hx.alloc _).drew).trans hx2⟩

/-- The text of a duration is read back. -/
theorem parse_text (n : Int) (w : World) (h0 : -9223372036854775808 < n) (h1 : n ≤ 9223372036854775807) :
    Calls Tryd.prog 6 #[.string (bs (durT n))] w fun e w' => e = .returned (.tuple #[.int .i64 n, .bool true]) ∧ Ext w w' := by
  by_cases hz : n = 0
  · subst hz
    have e : durT 0 = dec 0 ++ uName 4 := by rw [durT, if_pos rfl]; rfl
    rw [e]
    have := okRun_one 0 4 (by omega) (by simp [MaxI])
    have h := implParse_ok _ _ _ w (by rw [bs_size]; simp [dec, uName]) (by rw [bs_size]; simp [dec, uName]) this (dec_head 0 _) (by simp)
    simpa using h
  · obtain ⟨m, hm⟩ := body_ok n.natAbs (by unfold MaxI; omega)
    have hl := body_len n.natAbs (by omega)
    have h2 := okRun_nonempty hm (by omega)
    by_cases hneg : n < 0
    · have e : durT n = 45 :: bodyT n.natAbs := by rw [durT, if_neg hz, if_pos hneg]; rfl
      have h := implParse_neg m (durT n) (bodyT n.natAbs) n.natAbs w (by rw [bs_size, e]; simp; omega) (by rw [bs_size, e]; simp; omega) hm e (by omega)
      have en : -(n.natAbs : Int) = n := by omega
      rw [en] at h
      exact h
    · have e : durT n = bodyT n.natAbs := by rw [durT, if_neg hz, if_neg hneg]; rfl
      have h := implParse_ok m (durT n) n.natAbs w (by rw [bs_size, e]; omega) (by rw [bs_size, e]; omega) (by rw [e]; exact hm) (by rw [e]; exact body_head _) (by omega)
      have en : (n.natAbs : Int) = n := by omega
      rw [en] at h
      exact h

theorem newDuration_any (n : Int) (w : World) :
    Calls Tryd.prog 11 #[.int .i64 n] w fun e w' => e = .returned (.agg #[.int .i64 n]) ∧ Ext w w' := by
  go_enter Tryd.func11, Tryd.ntmps11
  go_wp2
  exact bodyPost_ret (v := .agg #[.int .i64 n]) (by simp [results, Tryd.results11, go_sem]) rfl ⟨rfl, (Ext.refl _).alloc _⟩
theorem durationText_any (n : Int) (w : World) (h0 : -9223372036854775808 < n) (h1 : n ≤ 9223372036854775807) (ht : Tab w) :
    Calls Tryd.prog 8 #[.int .i64 n] w fun e w' => e = .returned (.string (bs (durT n))) ∧ Ext w w' := by
  have Ht := Lib.hid ht
  clear ht
  go_enter Tryd.func8, Tryd.ntmps8
  go_wp2_with fail
  refine (newDuration_any _ _).mono ?_
  rintro e w1 ⟨rfl, hx1⟩
  go_wp2_with fail
  refine (durString_any n _ h0 h1 (tab_ext Ht.out hx1)).mono ?_
  rintro e w2 ⟨rfl, hx2⟩
  go_wp2_with fail
  go_ret
  exact ⟨rfl, hx1.trans hx2⟩

theorem fnDurationPrints_walk (a0 : Int) (w : World) (w0 : (Lit.int .i64 a0).wf = true) (ht : Tab w) :
    Calls Tryd.prog 4 #[.int .i64 a0] w fun e w' => e = .returned (.bool true) ∧ Ext w w' := by
  have b0 := Go.bounds_i64 w0
  have Ht := Lib.hid ht
  clear ht w0
  by_cases hl : a0 = -9223372036854775808
  · have hb : (a0 == -9223372036854775808) = true := by rw [hl]; rfl
    have Hl := Lib.hid hl
    clear hl b0
    go_enter Tryd.func4, Tryd.ntmps4
    go_wp2_with fail
    go_ret
    exact ⟨rfl, Ext.refl _⟩
  · have hb : (a0 == -9223372036854775808) = false := by rw [beq_eq_false_iff_ne]; exact hl
    have h0 : -9223372036854775808 < a0 := by omega
    clear hl
    have hd := fun wx => durationText_any a0 wx h0 b0.2
    have hp := fun wx => parse_text a0 wx h0 b0.2
    have Hd := Lib.hid hd
    have Hp := Lib.hid hp
    clear hd hp h0 b0
    go_enter Tryd.func4, Tryd.ntmps4
    go_wp2_with fail
    refine (Hd.out _ Ht.out).mono ?_
    rintro e w1 ⟨rfl, hx1⟩
    go_wp2_with fail
    refine (Hp.out _).mono ?_
    rintro e w2 ⟨rfl, hx2⟩
    go_wp2_with fail
    go_ret
    exact ⟨rfl, hx1.trans hx2⟩
end Go.Proofs.YtbpbbiiohpbkhaaDoor
