/- The walk of FnDecimalPrints, and the tables out of the condition on the listed variables. -/
import Derived.Test.YtfjlnfdnfjkclaaDoorBack
import Derived.Test.YtfjlnfdnfjkclaaDoorRows
import Derived.Lib.LaidU8
import Derived.LaidMore
import Derived.LaidSub
import Derived.OpenShut
namespace Go.Proofs.YtfjlnfdnfjkclaaDoor
open Go.RowKit Go.Sort

theorem tenths_any (n : Int) (w : World) : Calls Tryd.prog 7 #[.agg #[.int .i64 n]] w fun e w' => e = .returned (.int .i64 n) ∧ Ext w w' := by
  go_enter Tryd.func7, Tryd.ntmps7
  go_wp2_with fail
  go_ret
  exact ⟨rfl, (Ext.refl _).alloc _⟩
theorem implParse_any (n : Int) (w : World) (h0 : -9223372036854775808 ≤ n) (h1 : n ≤ 9223372036854775807) (hP : PTabs w) :
    Calls Tryd.prog 4 #[.string (bs (decT n))] w fun e w' => e = .returned (.tuple #[.int .i64 n, .bool true]) ∧ Ext w w' := by
  have H := fun wx hx => parse_text n wx h0 h1 (PTabs.ext hP hx)
  clear hP
  go_enter Tryd.func4, Tryd.ntmps4
  go_wp2_with fail
  refine (H _ (Ext.refl _)).mono ?_
  rintro e w2 ⟨rfl, x2⟩
  go_wp2_with fail
  go_region_with (go_at_call 7; refine (tenths_any n _).mono ?_; rintro e w3 ⟨rfl, x3⟩)
  all_goals
    go_wp2_with fail
    go_ret2
    exact ⟨rfl, ((x2.alloc _).drew).trans x3⟩
theorem fnDecimalPrints_walk (a0 : Int) (w : World) (w0 : (Lit.int .i64 a0).wf = true) (ht : Tab w ∧ PTabs w) :
    Calls Tryd.prog 3 #[.int .i64 a0] w fun e w' => e = .returned (.bool true) ∧ Ext w w' := by
  have b0 := Go.bounds_i64 w0
  have H1 := implText_any a0 w b0.1 b0.2 ht.1
  have H2 := fun wx hx => implParse_any a0 wx b0.1 b0.2 (PTabs.ext ht.2 hx)
  clear b0 w0 ht
  go_enter Tryd.func3, Tryd.ntmps3
  go_wp2_with fail
  refine H1.mono ?_
  rintro e w2 ⟨rfl, x2⟩
  go_wp2_with fail
  refine (H2 _ x2).mono ?_
  rintro e w3 ⟨rfl, x3⟩
  go_wp2_with fail
  go_ret
  exact ⟨rfl, x2.trans x3⟩

section
variable {H : Type} {enc : TypeId × Value → H} {P : Program} {w : World} {base : Nat} {sp : Nat → Bool} {held : Bool}
theorem trod_f64 {fuel : Nat} {t : TypeId} {cs : List Value} {b : Nat} {p : List MemPlace} (ht : P.underlying t = some (.float .f64)) (h : DataW.trod enc P w base sp held fuel t cs = some (.lit (.float .f64 b), p)) : cs = [.float .f64 b] := by
  cases fuel with
  | zero => simp [DataW.trod] at h
  | succ n =>
    unfold DataW.trod at h
    rw [ht] at h
    split at h <;> simp_all
end
theorem cell_f64 {w : World} {n : String} {g N : Nat} {t e : TypeId} {ds : List (DataW Unit)} (h : Lib.VarReads Tryd.prog w n (.agg ds)) (hg : Tryd.prog.globalNamed n = some g) (ht : (Tryd.prog.globals[g]?).map (·.type) = some t)
    (hu : Tryd.prog.underlying t = some (.array N e)) (he : Tryd.prog.underlying e = some (.float .f64)) (hc : Tryd.prog.cellsOf e = 1) (i b : Nat) (hi : i < N) (hd : ds[i]? = some (.lit (.float .f64 b))) : w.cell? ⟨g, i, none⟩ = some (.float .f64 b) := by
  obtain ⟨g', t', cs, fuel, p, h1, h2, h3, h4⟩ := h
  obtain rfl := Option.some.inj (hg.symm.trans h1)
  obtain rfl := Option.some.inj (ht.symm.trans h2)
  obtain ⟨f', d, q, hdi, hr⟩ := Lib.array_elem hu h4 i hi
  obtain rfl := Option.some.inj (hd.symm.trans hdi)
  rw [hc] at hr
  have hcs := trod_f64 he hr
  rw [World.var?_cell hg h3 i, ← Array.getElem?_toList]
  have := congrArg (·[0]?) hcs
  simpa [List.getElem?_take, List.getElem?_drop] using this

abbrev laidAll : List (String × DataW Unit) := [("math/bits.deBruijn32tab", Rows.laid_math_bits_deBruijn32tab), ("math/bits.deBruijn64tab", Rows.laid_math_bits_deBruijn64tab), ("internal/strconv.uint64pow10", Rows.laid_internal_strconv_uint64pow10), ("math.pow10tab", Rows.laid_math_pow10tab), ("math.pow10postab32", Rows.laid_math_pow10postab32), ("math.pow10negtab32", Rows.laid_math_pow10negtab32), ("pub-claviger/pub/cedargo/inner.ErrDecimal", Rows.laid_pub_claviger_pub_cedargo_inner_ErrDecimal), ("strconv.ErrRange", Rows.laid_strconv_ErrRange), ("strconv.ErrSyntax", Rows.laid_strconv_ErrSyntax)]
theorem gPow : Tryd.prog.globalNamed "internal/strconv.uint64pow10" = some 7 := by kernel_rfl
theorem tPow : (Tryd.prog.globals[7]?).map (·.type) = some 71 := by kernel_rfl
theorem tab_of_laid {W : World} (h : laidMetH Tryd.prog laidAll W) : Tab W ∧ PTabs W := by
  rw [MakeChecks.laidMetH_plain _ _ _ (by kernel_rfl)] at h
  have h3 := Lib.laidMet.reads h (n := "math.pow10tab") (d := Rows.laid_math_pow10tab) (by simp)
  have h4 := Lib.laidMet.reads h (n := "math.pow10postab32") (d := Rows.laid_math_pow10postab32) (by simp)
  have h2 := laidMet.filter (fun x => x.1 == "internal/strconv.uint64pow10") h
  have e : laidAll.filter (fun x => x.1 == "internal/strconv.uint64pow10") = [("internal/strconv.uint64pow10", Lib.tabData .u64 Lib.pow10Tab)] := by kernel_rfl
  rw [e] at h2
  refine ⟨Lib.tabIs_of_head gPow tPow Tryd.underlying71 Tryd.underlying38 (by kernel_rfl) (by kernel_rfl) h2, ?_, ?_, ?_, ?_, ?_⟩
  · exact cell_f64 h4 (g := 2) (t := 48) (e := 42) (by kernel_rfl) (by kernel_rfl) Tryd.underlying48 Tryd.underlying42 (by kernel_rfl) 0 _ (by decide) rfl
  · exact cell_f64 h3 (g := 3) (t := 50) (e := 42) (by kernel_rfl) (by kernel_rfl) Tryd.underlying50 Tryd.underlying42 (by kernel_rfl) 0 _ (by decide) rfl
  · exact cell_f64 h3 (g := 3) (t := 50) (e := 42) (by kernel_rfl) (by kernel_rfl) Tryd.underlying50 Tryd.underlying42 (by kernel_rfl) 1 _ (by decide) rfl
  · exact cell_f64 h3 (g := 3) (t := 50) (e := 42) (by kernel_rfl) (by kernel_rfl) Tryd.underlying50 Tryd.underlying42 (by kernel_rfl) 2 _ (by decide) rfl
  · exact cell_f64 h3 (g := 3) (t := 50) (e := 42) (by kernel_rfl) (by kernel_rfl) Tryd.underlying50 Tryd.underlying42 (by kernel_rfl) 3 _ (by decide) rfl
end Go.Proofs.YtfjlnfdnfjkclaaDoor
