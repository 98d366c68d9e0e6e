/- The text of a decimal is read back: ParseDecimal. -/
import Derived.Test.YtfjlnfdnfjkclaaDoorStr
import Derived.IntWalk
namespace Go.Proofs.YtfjlnfdnfjkclaaDoor
open Go.RowKit Go.Sort

theorem bs_toList2 (l : List UInt8) : (bs l).toList = l := by rw [Lib.toList_data]; rfl
theorem extract_one (L : List UInt8) (j : Nat) (h : j < L.length) : (bs L).extract j (j + 1) = bs [L[j]] := by
  apply ByteArray.ext
  apply Array.toList_inj.1
  rw [Lib.extract_data, bs_toList, bs_toList, Nat.add_sub_cancel_left, List.drop_eq_getElem_cons h]; rfl
theorem extract_pre (A B : List UInt8) : (bs (A ++ B)).extract 0 A.length = bs A := by
  apply ByteArray.ext
  apply Array.toList_inj.1
  rw [Lib.extract_data, bs_toList, bs_toList]; simp
theorem extract_post (A B : List UInt8) : (bs (A ++ 46 :: B)).extract (A.length + 1) (bs (A ++ 46 :: B)).size = bs B := by
  apply ByteArray.ext
  apply Array.toList_inj.1
  rw [Lib.extract_data, bs_toList, bs_toList, bs_size, List.take_of_length_le (by simp; omega)]
  rw [show A ++ 46 :: B = (A ++ [46]) ++ B by simp, List.drop_left' (by simp)]

theorem at_lt (A F : List UInt8) (j : Nat) (hc : j < A.length) (hA : ∀ c ∈ A, c ≠ 46) : ∃ c, c ≠ 46 ∧ (bs (A ++ 46 :: F)).extract j (j + 1) = bs [c] := by
  refine ⟨A[j], hA _ (List.getElem_mem _), ?_⟩
  rw [extract_one _ _ (by simp; omega)]
  simp [hc]
theorem at_eq (A F : List UInt8) : (bs (A ++ 46 :: F)).extract A.length (A.length + 1) = ⟨#[46]⟩ := by
  rw [extract_one _ _ (by simp)]
  simp [bs]
theorem idx_any (A F : List UInt8) (w : World) (hA : ∀ c ∈ A, c ≠ 46) (hl : A.length + F.length ≤ 100) :
    Calls Tryd.prog 10 #[.string (bs (A ++ 46 :: F)), .string ⟨#[46]⟩] w fun e w' => e = .returned (.int .i64 A.length) ∧ Ext w w' := by
  have hsz : (bs (A ++ 46 :: F)).size = A.length + 1 + F.length := by rw [bs_size]; simp; omega
  go_enter Tryd.func10, Tryd.ntmps10
  go_wp2_with fail
  go_loopg [5] (A.length + 1) (fun g i wr => ∃ j : Nat, i = .int .i64 j ∧ j + g = A.length + 1 ∧ 1 ≤ g ∧ Ext w wr)
  case atStart => exact ⟨0, rfl, by omega, by omega, Ext.refl _⟩
  case round =>
    obtain ⟨j, rfl, hj, hg, hext⟩ := hrel
    have hjl : j < (A ++ 46 :: F).length := by simp; omega
    have c1 : (j : Int) + 1 ≤ ((bs (A ++ 46 :: F)).size : Int) := by rw [hsz]; omega
    have c2 : j + 1 ≤ (bs (A ++ 46 :: F)).size := by rw [hsz]; omega
    have c3 : j ≤ (bs (A ++ 46 :: F)).size := by rw [hsz]; omega
    by_cases hc : j < A.length
    · obtain ⟨c, h46, hex⟩ := at_lt A F j hc hA
      have hb : (bs [c]).toList = [c] := bs_toList2 [c]
      have hb2 : (⟨#[46]⟩ : ByteArray).toList = [46] := bs_toList2 [46]
      have hb3 : (c == 46) = false := by simp [h46]
      clear hsz hjl hA
      go_wp2_with fail
      go_roundg (gk - 1)
      case measure => omega
      case rel => exact ⟨j + 1, by go_num, by omega, by omega, hext⟩
    · have hja : j = A.length := by omega
      subst hja
      have hex := at_eq A F
      clear hsz hjl hA hc
      go_wp2_with fail
      go_ret
      exact ⟨rfl, hext⟩

theorem newDecimal_any (a b : Int) (w : World) (ha1 : a ≤ 922337203685477) (ha2 : -922337203685477 ≤ a) (hb1 : -9999 ≤ b) (hb2 : b ≤ 9999) (h1 : a = 922337203685477 → b ≤ 5807) (h2 : a = -922337203685477 → -5808 ≤ b) :
    Calls Tryd.prog 14 #[.int .i64 a, .int .i16 b] w fun e w' => e = .returned (.tuple #[.agg #[.int .i64 (a * 10000 + b)], .nilIface]) ∧ Ext w w' := by
  have m1 : IntKind.i64.wrap (a * 10000) = a * 10000 := by rw [IntKind.wrap_i64]; omega
  have m2 : IntKind.i64.wrap (a * 10000 + b) = a * 10000 + b := by
    have : a = 922337203685477 ∨ a = -922337203685477 ∨ (a < 922337203685477 ∧ -922337203685477 < a) := by omega
    rw [IntKind.wrap_i64]
    rcases this with h | h | h
    · have := h1 h; omega
    · have := h2 h; omega
    · omega
  have m3 : IntKind.i64.wrap b = b := by rw [IntKind.wrap_i64]; omega
  have c1 : ¬ (a > 922337203685477) := by omega
  have c2 : ¬ (a < -922337203685477) := by omega
  by_cases e1 : a = 922337203685477
  · have c3 : ¬ (b > 5807) := by have := h1 e1; omega
    subst e1
    clear h1 h2
    go_enter Tryd.func14, Tryd.ntmps14
    go_wp2_with fail
    refine bodyPost_ret (v := .tuple #[.agg #[.int .i64 _], .nilIface]) (by simp [results, Tryd.results14, go_sem]) rfl ⟨rfl, ?_⟩; exact (Ext.refl w).alloc _
  · by_cases e2 : a = -922337203685477
    · have c3 : ¬ (b < -5808) := by have := h2 e2; omega
      subst e2
      clear h1 h2
      go_enter Tryd.func14, Tryd.ntmps14
      go_wp2_with fail
      refine bodyPost_ret (v := .tuple #[.agg #[.int .i64 _], .nilIface]) (by simp [results, Tryd.results14, go_sem]) rfl ⟨rfl, ?_⟩; exact (Ext.refl w).alloc _
    · have e3 : (a == 922337203685477) = false := by simp [e1]
      have e4 : (a == -922337203685477) = false := by simp [e2]
      clear h1 h2
      go_enter Tryd.func14, Tryd.ntmps14
      go_wp2_with fail
      refine bodyPost_ret (v := .tuple #[.agg #[.int .i64 _], .nilIface]) (by simp [results, Tryd.results14, go_sem]) rfl ⟨rfl, ?_⟩; exact (Ext.refl w).alloc _

set_option maxRecDepth 100000 in
set_option maxHeartbeats 1000000 in
theorem parse_any (S F : List UInt8) (v : Int) (u k r : Nat) (neg : Bool) (w : World) (hP : PTabs w) (hdot : ∀ c ∈ S, c ≠ 46) (hS1 : 1 ≤ S.length) (hS2 : S.length ≤ 30) (hk : k ≤ 3) (hF : F.length + k = 4)
    (hv : Lib.parseIntB 64 S = .ok v) (hu : Lib.parseUintB 16 F = .ok u) (hu2 : u ≤ 9999) (hur : u * 10 ^ k = r) (hr : r ≤ 9999) (hneg : ∀ h : 0 < (bs (S ++ 46 :: F)).size, (((bs (S ++ 46 :: F))[0].toNat : Int) == 45) = neg)
    (hv1 : v ≤ 922337203685477) (hv2 : -922337203685477 ≤ v) (h1 : v = 922337203685477 → (if neg then -(r : Int) else r) ≤ 5807) (h2 : v = -922337203685477 → -5808 ≤ (if neg then -(r : Int) else r)) :
    Calls Tryd.prog 6 #[.string (bs (S ++ 46 :: F))] w fun e w' => e = .returned (.tuple #[.agg #[.int .i64 (v * 10000 + (if neg then -(r : Int) else r))], .nilIface]) ∧ Ext w w' := by
  have hsz : (bs (S ++ 46 :: F)).size = S.length + 1 + F.length := by rw [bs_size]; simp; omega
  have H1 := fun wx => idx_any S F wx hdot (by omega)
  have H2 := fun wx => parseInt_any S v wx (by omega) hv
  have H3 := fun wx => parseUint_any F u wx (by omega) hu
  have H4 := fun wx hx => pow10_any k wx hk (PTabs.ext hP hx)
  obtain ⟨p10, hp10⟩ : ∃ p : Nat, p = 10 ^ k := ⟨_, rfl⟩
  have R := pow_i16 k hk
  simp only [← hp10] at R
  rw [← hp10] at hur
  have H5 := fun wx => newDecimal_any v (if neg then -(r : Int) else r) wx hv1 hv2 (by split <;> omega) (by split <;> omega) h1 h2
  have x1 := extract_pre S (46 :: F)
  have x2 := extract_post S F
  have hFs : (bs F).size = F.length := bs_size F
  have l1 : ¬ ((S.length : Int) < 0) := by omega
  have l2 : S.length ≤ (bs (S ++ 46 :: F)).size := by rw [hsz]; omega
  have l3 : S.length + 1 ≤ (bs (S ++ 46 :: F)).size := by rw [hsz]; omega
  have l4 : ¬ ((F.length : Int) > 4) := by omega
  have l5 : (4 : Int) - (F.length : Int) = (k : Int) := by omega
  have l6 : 0 < (bs (S ++ 46 :: F)).size := by rw [hsz]; omega
  have hb0 := hneg l6
  have u1 : IntKind.i16.wrap (u : Int) = u := IntWalk.i16_in _ (by omega)
  have u2 : (u : Int) * (p10 : Int) = r := by rw [← hur]; exact (Int.natCast_mul _ _).symm
  have u3 : IntKind.i16.wrap (r : Int) = r := IntWalk.i16_in _ (by omega)
  have u4 : IntKind.i16.wrap (-(r : Int)) = -r := IntWalk.i16_in _ (by omega)
  clear hp10
  have l7 : ((S.length + 1 : Nat) : Int) ≤ ((bs (S ++ 46 :: F)).size : Int) := by omega
  have l8 : ((S.length : Int) + 1) ≤ ((bs (S ++ 46 :: F)).size : Int) := by omega
  clear hsz hdot hS1 hv hu hu2 hur hr hv1 hv2 h1 h2 hneg hk
  generalize bs (S ++ 46 :: F) = T at *
  go_enter Tryd.func6, Tryd.ntmps6
  go_wp2_with fail
  refine (H1 _).mono ?_
  rintro e w2 ⟨rfl, y2⟩
  go_wp2_with fail
  refine (H2 _).mono ?_
  rintro e w3 ⟨rfl, y3⟩
  go_wp2_with fail
  refine (H3 _).mono ?_
  rintro e w4 ⟨rfl, y4⟩
  go_wp2_with fail
  have z4 : Ext w w4 := ((((Ext.refl w).alloc _).trans y2).trans y3).trans y4
  refine (H4 _ z4).mono ?_
  rintro e w5 ⟨rfl, y5⟩
  clear H1 H2 H3 H4 hP x1 x2 hFs l1 l2 l3 l4 l5 l7 l8 hS2
  cases neg
  all_goals
    simp only [Bool.false_eq_true, if_false, if_true] at H5
    simp only []
    iterate 60 (first | go_values | go_skip | go_guarded | go_step | go_upon | skip)
    refine (H5 _).mono ?_
    rintro e w6 ⟨rfl, y6⟩
    have z := (((y2.trans y3).trans y4).trans y5).trans y6
    have z6 : Ext w w6 := (z4.trans y5).trans y6
    have cx : w6.cell? ⟨w.heap.size, 0, none⟩ = some (.int .i64 0) := cell_ext (by simp) z
    have fx : w6.frozen? ⟨w.heap.size, 0, none⟩ = false := (Below.frozen z (by simp)).trans (by simp)
    simp only []
    iterate 20 (first | go_values | go_skip | go_guarded | go_step | go_upon | skip)
    refine bodyPost_ret (v := .tuple #[.agg #[.int .i64 _], .nilIface]) (by simp [results, Tryd.results6, go_sem, cx]; rfl) rfl ⟨by simp, ?_⟩
    exact z6.setCell (Nat.le_refl _) _

theorem implText_any (n : Int) (w : World) (h0 : -9223372036854775808 ≤ n) (h1 : n ≤ 9223372036854775807) (ht : Tab w) :
    Calls Tryd.prog 5 #[.int .i64 n] w fun e w' => e = .returned (.string (bs (decT n))) ∧ Ext w w' := by
  have H : ∀ wx, Ext w wx → Calls Tryd.prog 9 #[.agg #[.int .i64 n]] wx fun e w' => e = .returned (.string (bs (decT n))) ∧ Ext wx w' := by
    intro wx hx
    by_cases hn : n < 0
    · have hq : -(n.tdiv 10000) = (n.natAbs / 10000 : Nat) := by
        have : n = -(n.natAbs : Int) := by omega
        rw [this, Int.neg_tdiv, Int.natAbs_neg, Int.natAbs_natCast, Int.neg_neg]
        exact Int.ofNat_tdiv _ _
      have h := decString_neg n (n.natAbs / 10000) (n.natAbs % 10000) wx hn h0 hq (by omega) (by omega) (by omega) (tab_ext ht hx)
      have e : decT n = (45 :: dec (n.natAbs / 10000) ++ [46]) ++ frac (n.natAbs % 10000) := by rw [decT, sgn, if_pos hn]; simp
      rw [e]; exact h
    · have e1 : n = (n.natAbs : Int) := by omega
      have hq : n.tdiv 10000 = (n.natAbs / 10000 : Nat) := by
        rw [e1, Int.natAbs_natCast]; exact Int.ofNat_tdiv _ _
      have hr : n.tmod 10000 = (n.natAbs % 10000 : Nat) := by
        rw [e1, Int.natAbs_natCast]; exact Int.ofNat_tmod _ _
      have h := decString_pos n (n.natAbs / 10000) (n.natAbs % 10000) wx hn h1 hq hr (by omega) (by omega) (tab_ext ht hx)
      have e : decT n = (dec (n.natAbs / 10000) ++ [46]) ++ frac (n.natAbs % 10000) := by rw [decT, sgn, if_neg hn]; simp
      rw [e]; exact h
  have H0 : ∀ wx, Calls Tryd.prog 8 #[.int .i64 n] wx fun e w' => e = .returned (.agg #[.int .i64 n]) ∧ Ext wx w' := by
    intro wx
    go_enter Tryd.func8, Tryd.ntmps8
    go_wp2_with fail
    exact bodyPost_ret (v := .agg #[.int .i64 n]) (by simp [results, Tryd.results8, go_sem]) rfl ⟨rfl, (Ext.refl _).alloc _⟩
  go_enter Tryd.func5, Tryd.ntmps5
  go_wp2_with fail
  refine (H0 _).mono ?_
  rintro e w2 ⟨rfl, x2⟩
  go_wp2_with fail
  refine (H _ x2).mono ?_
  rintro e w3 ⟨rfl, x3⟩
  go_wp2_with fail
  go_ret
  exact ⟨rfl, x2.trans x3⟩

theorem parse_text (n : Int) (w : World) (h0 : -9223372036854775808 ≤ n) (h1 : n ≤ 9223372036854775807) (hP : PTabs w) :
    Calls Tryd.prog 6 #[.string (bs (decT n))] w fun e w' => e = .returned (.tuple #[.agg #[.int .i64 n], .nilIface]) ∧ Ext w w' := by
  obtain ⟨q, hq⟩ : ∃ q, q = n.natAbs / 10000 := ⟨_, rfl⟩
  obtain ⟨r, hr⟩ : ∃ r, r = n.natAbs % 10000 := ⟨_, rfl⟩
  have hr4 : r < 10000 := by omega
  have hq4 : q ≤ 922337203685477 := by omega
  have hpl := places_fit r
  have e : decT n = (sgn n ++ dec q) ++ 46 :: frac r := by rw [decT, hq, hr]; simp
  rw [e]
  have hd := dec_all q
  have hdl := dec_len q (by omega)
  have hne : 1 ≤ (dec q).length := List.length_pos_iff.2 (dec_ne q)
  have hsl : (sgn n).length ≤ 1 := by unfold sgn; split <;> simp
  obtain ⟨f1, f2⟩ := horner_frac r hr4
  have h := parse_any (sgn n ++ dec q) (frac r) (if n < 0 then -(q : Int) else q) (horner 0 (frac r)) (4 - places r) r (decide (n < 0)) w hP ?_ ?_ ?_ (by omega) (by rw [frac_len]; omega) (parse_int n q hq4) (parse_frac r hr4) f2 f1 (by omega) ?_ (by split <;> omega) (by split <;> omega) ?_ ?_
  · have en : (if n < 0 then -(q : Int) else q) * 10000 + (if (decide (n < 0)) = true then -(r : Int) else r) = n := by
      by_cases hn : n < 0
      · simp only [hn, decide_true, if_true]; omega
      · simp only [hn, decide_false, if_false, Bool.false_eq_true]; omega
    rw [en] at h
    exact h
  · intro c hc
    rcases List.mem_append.1 hc with hc | hc
    · unfold sgn at hc; split at hc
      · simp at hc; subst hc; decide
      · cases hc
    · have := hd c hc
      unfold isDigit at this
      intro h46; subst h46
      have : (46 : UInt8).toNat = 46 := rfl
      omega
  · simp; omega
  · simp; omega
  · intro h6
    by_cases hn : n < 0
    · have es : (sgn n ++ dec q) ++ 46 :: frac r = 45 :: (dec q ++ 46 :: frac r) := by rw [sgn, if_pos hn]; rfl
      simp only [es, hn, decide_true]
      rfl
    · obtain ⟨c, l, hcl⟩ := List.exists_cons_of_ne_nil (dec_ne q)
      have hc := hd c (by rw [hcl]; exact List.mem_cons_self ..)
      have es : (sgn n ++ dec q) ++ 46 :: frac r = c :: (l ++ 46 :: frac r) := by rw [sgn, if_neg hn, hcl]; rfl
      simp only [es, hn, decide_false]
      show (((c.toNat : Nat) : Int) == 45) = false
      unfold isDigit at hc
      simp; omega
  · by_cases hn : n < 0
    · simp only [hn, decide_true, if_true]; omega
    · simp only [hn, decide_false, if_false, Bool.false_eq_true]; omega
  · by_cases hn : n < 0
    · simp only [hn, decide_true, if_true]; omega
    · simp only [hn, decide_false, if_false, Bool.false_eq_true]; omega
end Go.Proofs.YtfjlnfdnfjkclaaDoor
