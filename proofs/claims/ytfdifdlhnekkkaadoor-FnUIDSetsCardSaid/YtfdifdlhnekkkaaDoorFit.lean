/- What the law itself calls: sizes, Index, Contains. -/
import Derived.Test.YtfdifdlhnekkkaaDoorUids
import Derived.Deep.QuietTactic
import Derived.BigQuiet
namespace Go.Proofs.YtfdifdlhnekkkaaDoor
open Go.RowKit Go.Maps Go.WideMaps

theorem fits2_any (u : UID) (w : World) : Calls Tryd.prog 10 #[.agg #[.string u.1, .string u.2]] w fun e w' => ∃ b : Bool, e = .returned (.bool b) ∧ Ext w w' := by
  by_cases h1 : (u.1.size : Int) > 2147483647
  · go_enter Tryd.func10, Tryd.ntmps10
    go_wp2_with fail
    go_ret
    first | exact ⟨_, rfl, (Ext.refl _).alloc _⟩ | exact ⟨.inl rfl, (Ext.refl _).alloc _⟩ | exact ⟨.inr rfl, (Ext.refl _).alloc _⟩ | exact .inl ⟨rfl, (Ext.refl _).alloc _⟩ | exact .inr ⟨rfl, (Ext.refl _).alloc _⟩ | exact (Ext.refl _).alloc _
  · by_cases h2 : (u.2.size : Int) > 2147483647
    · go_enter Tryd.func10, Tryd.ntmps10
      go_wp2_with fail
      go_ret
      first | exact ⟨_, rfl, (Ext.refl _).alloc _⟩ | exact ⟨.inl rfl, (Ext.refl _).alloc _⟩ | exact ⟨.inr rfl, (Ext.refl _).alloc _⟩ | exact .inl ⟨rfl, (Ext.refl _).alloc _⟩ | exact .inr ⟨rfl, (Ext.refl _).alloc _⟩ | exact (Ext.refl _).alloc _
    · go_enter Tryd.func10, Tryd.ntmps10
      go_wp2_with fail
      go_ret
      first | exact ⟨_, rfl, (Ext.refl _).alloc _⟩ | exact ⟨.inl rfl, (Ext.refl _).alloc _⟩ | exact ⟨.inr rfl, (Ext.refl _).alloc _⟩ | exact .inl ⟨rfl, (Ext.refl _).alloc _⟩ | exact .inr ⟨rfl, (Ext.refl _).alloc _⟩ | exact (Ext.refl _).alloc _
theorem bytes_eq {a b : ByteArray} (h : a.toList = b.toList) : a = b := by
  rw [Lib.toList_data, Lib.toList_data] at h
  exact ByteArray.ext (Array.toList_inj.1 h)
theorem uid_eq {u x : UID} (h1 : u.1.toList = x.1.toList) (h2 : u.2.toList = x.2.toList) : u = x := Prod.ext (bytes_eq h1) (bytes_eq h2)
theorem row_cells {w : World} {v : Value} {U : List UID} (hr : URow w v U) : ∃ a cap, v = .slice a U.length cap ∧ U.length ≤ maxLen ∧ (U = [] ∨ ∃ b off, a = some ⟨b, off, none⟩ ∧ ∀ i (h : i < U.length), w.cell? ⟨b, off + i * 2, none⟩ = some (.string U[i].1) ∧ w.cell? ⟨b, off + i * 2 + 1, none⟩ = some (.string U[i].2)) := by
  rcases hr with ⟨a, cap, rfl, rfl⟩ | ⟨b, off, cap, rfl, hm, hc⟩
  · exact ⟨a, cap, rfl, Nat.zero_le _, .inl rfl⟩
  · exact ⟨_, cap, rfl, hm, .inr ⟨b, off, rfl, hc⟩⟩
set_option maxRecDepth 100000 in
theorem fits7_any (v : Value) (U : List UID) (w : World) (hr : URow w v U) :
    Calls Tryd.prog 4 #[v] w fun e w' => ∃ b : Bool, e = .returned (.bool b) ∧ Ext w w' := by
  obtain ⟨a, cap, rfl, hm, hcells⟩ := row_cells hr
  clear hr
  unfold maxLen at hm
  by_cases hbig : (U.length : Int) > 2147483647
  · go_enter Tryd.func4, Tryd.ntmps4
    go_wp2_with fail
    go_ret
    first | exact ⟨_, rfl, Ext.refl _⟩ | exact ⟨.inl rfl, Ext.refl _⟩ | exact ⟨.inr rfl, Ext.refl _⟩ | exact .inl ⟨rfl, Ext.refl _⟩ | exact .inr ⟨rfl, Ext.refl _⟩ | exact Ext.refl _
  · go_enter Tryd.func4, Tryd.ntmps4
    go_wp2_with fail
    go_loopg [10] (U.length + 1) (fun g i wr => ∃ j : Nat, i = .int .i64 j ∧ j + g = U.length + 1 ∧ 1 ≤ g ∧ Ext w wr)
    case atStart => exact ⟨0, rfl, by omega, by omega, Ext.refl _⟩
    case round =>
      obtain ⟨j, rfl, hjg, hg1, hext⟩ := hrel
      by_cases hj : j < U.length
      · rcases hcells with rfl | ⟨b, off, rfl, hcc⟩
        · cases hj
        have hj' : (j : Int) < (U.length : Int) := by omega
        have c0 := cell_ext (hcc j hj).1 hext
        have c1 := cell_ext (hcc j hj).2 hext
        generalize U[j] = u at *
        have hu := fun wx => fits2_any u wx
        go_wp2_with fail
        refine (hu _).mono ?_
        rintro e w2 ⟨bb, rfl, x2⟩
        have z2 : Ext w w2 := (hext.alloc _).trans x2
        clear hu
        cases bb
        · go_wp2_with fail
          go_ret
          first | exact ⟨_, rfl, z2⟩ | exact ⟨.inl rfl, z2⟩ | exact ⟨.inr rfl, z2⟩ | exact .inl ⟨rfl, z2⟩ | exact .inr ⟨rfl, z2⟩ | exact z2
        · go_wp2_with fail
          go_roundg (gk - 1)
          case measure => omega
          case rel => exact ⟨j + 1, by go_num, by omega, by omega, z2⟩
      · have hju : j = U.length := by omega
        subst hju
        have hj' : ¬ ((U.length : Int) < (U.length : Int)) := by omega
        go_wp2_with fail
        go_ret
        first | exact ⟨_, rfl, hext⟩ | exact ⟨.inl rfl, hext⟩ | exact ⟨.inr rfl, hext⟩ | exact .inl ⟨rfl, hext⟩ | exact .inr ⟨rfl, hext⟩ | exact hext
theorem weight_any (u : UID) (n : Int) (w : World) (h0 : 0 ≤ n) (h1 : n ≤ 3000) :
    Calls Tryd.prog 11 #[.agg #[.string u.1, .string u.2], .int .i64 n] w fun e w' => ∃ r : Int, e = .returned (.int .i64 r) ∧ r ≤ 3000 ∧ Ext w w' := by
  by_cases g1 : (u.1.size : Int) > n
  · go_enter Tryd.func11, Tryd.ntmps11
    go_wp2_with fail
    go_ret
    exact ⟨_, rfl, by omega, (Ext.refl _).alloc _⟩
  · by_cases g2 : (u.2.size : Int) > n
    · go_enter Tryd.func11, Tryd.ntmps11
      go_wp2_with fail
      go_ret
      exact ⟨_, rfl, by omega, (Ext.refl _).alloc _⟩
    · go_enter Tryd.func11, Tryd.ntmps11
      go_wp2_with fail
      go_ret
      exact ⟨_, rfl, by omega, (Ext.refl _).alloc _⟩

set_option maxRecDepth 100000 in
theorem few_any (v : Value) (U : List UID) (w : World) (hr : URow w v U) :
    Calls Tryd.prog 5 #[v] w fun e w' => ∃ b : Bool, e = .returned (.bool b) ∧ (b = true → U.length ≤ 200) ∧ Ext w w' := by
  obtain ⟨a, cap, rfl, hm, hcells⟩ := row_cells hr
  clear hr
  unfold maxLen at hm
  go_enter Tryd.func5, Tryd.ntmps5
  go_wp2_with fail
  go_loopg [3, 4] (202) (fun g l i wr => ∃ (j : Nat) (n : Int), l = .int .i64 n ∧ i = .int .i64 j ∧ n ≤ 3000 ∧ j + g = 202 ∧ j ≤ U.length ∧ 1 ≤ g ∧ Ext w wr)
  case atStart => exact ⟨0, 3000, rfl, rfl, by omega, by omega, by omega, by omega, Ext.refl _⟩
  case round =>
    obtain ⟨j, n, rfl, rfl, hn, hjg, hju, hg1, hext⟩ := hrel
    by_cases hj : j < U.length ∧ j ≤ 200 ∧ 0 ≤ n
    · obtain ⟨hj1, hj2, hn0⟩ := hj
      rcases hcells with rfl | ⟨b, off, rfl, hcc⟩
      · cases hj1
      have hj' : (j : Int) < (U.length : Int) := by omega
      have hj3 : (j : Int) ≤ 200 := by omega
      have c0 := cell_ext (hcc j hj1).1 hext
      have c1 := cell_ext (hcc j hj1).2 hext
      generalize U[j] = u at *
      have hu := fun wx => weight_any u n wx hn0 hn
      go_wp2_with fail
      refine (hu _).mono ?_
      rintro e w2 ⟨r, rfl, hr, x2⟩
      have z2 : Ext w w2 := hext.trans x2
      clear hu
      go_wp2_with fail
      go_roundg (gk - 1)
      case measure => omega
      case rel => exact ⟨j + 1, r, rfl, by go_num, hr, by omega, by omega, by omega, z2⟩
    · by_cases q1 : (j : Int) < (U.length : Int)
      · by_cases q2 : (j : Int) ≤ 200
        · have q3 : ¬ (n ≥ 0) := by omega
          by_cases q4 : (U.length : Int) ≤ 200
          · go_wp2_with fail
            go_ret
            first | exact .inl ⟨rfl, hext⟩ | exact .inr ⟨rfl, by omega, hext⟩
          · go_wp2_with fail
            go_ret
            first | exact .inl ⟨rfl, hext⟩ | exact .inr ⟨rfl, by omega, hext⟩
        · have q4 : ¬ (U.length : Int) ≤ 200 := by omega
          go_wp2_with fail
          go_ret
          first | exact .inl ⟨rfl, hext⟩ | exact .inr ⟨rfl, by omega, hext⟩
      · by_cases q4 : (U.length : Int) ≤ 200
        · by_cases q3 : n ≥ 0
          · go_wp2_with fail
            go_ret
            first | exact .inl ⟨rfl, hext⟩ | exact .inr ⟨rfl, by omega, hext⟩
          · go_wp2_with fail
            go_ret
            first | exact .inl ⟨rfl, hext⟩ | exact .inr ⟨rfl, by omega, hext⟩
        · go_wp2_with fail
          go_ret
          first | exact .inl ⟨rfl, hext⟩ | exact .inr ⟨rfl, by omega, hext⟩

set_option maxRecDepth 100000 in
theorem index_any (v : Value) (U : List UID) (u : UID) (w : World) (hr : URow w v U) :
    Calls Tryd.prog 12 #[v, .agg #[.string u.1, .string u.2]] w fun e w' => ∃ r : Int, e = .returned (.int .i64 r) ∧ (0 ≤ r ↔ u ∈ U) ∧ Ext w w' := by
  obtain ⟨a, cap, rfl, hm, hcells⟩ := row_cells hr
  clear hr
  unfold maxLen at hm
  go_enter Tryd.func12, Tryd.ntmps12
  go_wp2_with fail
  go_loopg [8] (U.length + 1) (fun g i wr => ∃ j : Nat, i = .int .i64 j ∧ j + g = U.length + 1 ∧ 1 ≤ g ∧ ¬ u ∈ U.take j ∧ Ext (w.alloc (.cells #[.string u.1, .string u.2] 26)) wr)
  case atStart => exact ⟨0, rfl, by omega, by omega, by simp, Ext.refl _⟩
  case round =>
    obtain ⟨j, rfl, hjg, hg1, hnot, hext⟩ := hrel
    have z : Ext w wr := ((Ext.refl w).alloc _).trans hext
    have d0 : wr.cell? ⟨w.heap.size, 0, none⟩ = some (.string u.1) := cell_ext (by simp) hext
    have d1 : wr.cell? ⟨w.heap.size, 1, none⟩ = some (.string u.2) := cell_ext (by simp) hext
    by_cases hj : j < U.length
    · rcases hcells with rfl | ⟨b, off, rfl, hcc⟩
      · cases hj
      have hj' : (j : Int) < (U.length : Int) := by omega
      have c0 := cell_ext (hcc j hj).1 z
      have c1 := cell_ext (hcc j hj).2 z
      have htk : U.take (j + 1) = U.take j ++ [U[j]] := List.take_succ_eq_append_getElem hj
      generalize hx : U[j] = x at *
      by_cases e1 : u.1.toList = x.1.toList
      · by_cases e2 : u.2.toList = x.2.toList
        · have hux : u = x := uid_eq e1 e2
          have hin : u ∈ U := by rw [hux, ← hx]; exact List.getElem_mem _
          clear hux
          go_wp2_with fail
          go_quiet (fail)
          go_wp2_with fail
          go_ret
          first | exact ⟨_, rfl, by simp [hin], z.drewN _⟩ | exact ⟨by simp [hin], z.drewN _⟩
        · have hux : ¬ u = x := fun h => e2 (by rw [h])
          go_wp2_with fail
          go_quiet (fail)
          go_wp2_with fail
          go_roundg (gk - 1)
          case measure => omega
          case rel => exact ⟨j + 1, by go_num, by omega, by omega, by rw [htk]; simp [hnot, hux], hext.drewN _⟩
      · have hux : ¬ u = x := fun h => e1 (by rw [h])
        go_wp2_with fail
        go_quiet (fail)
        go_wp2_with fail
        go_roundg (gk - 1)
        case measure => omega
        case rel => exact ⟨j + 1, by go_num, by omega, by omega, by rw [htk]; simp [hnot, hux], hext.drewN _⟩
    · have hju : j = U.length := by omega
      subst hju
      have hj' : ¬ ((U.length : Int) < (U.length : Int)) := by omega
      rw [List.take_length] at hnot
      go_wp2_with fail
      go_ret
      exact ⟨-1, rfl, by decide, z⟩

open Classical in
theorem contains_any (v : Value) (U : List UID) (u : UID) (w : World) (hr : URow w v U) :
    Calls Tryd.prog 6 #[v, .agg #[.string u.1, .string u.2]] w fun e w' => e = .returned (.bool (decide (u ∈ U))) ∧ Ext w w' := by
  have H := fun wx hx => index_any v U u wx (hr.ext hx)
  clear hr
  go_enter Tryd.func6, Tryd.ntmps6
  go_wp2_with fail
  refine (H _ ((Ext.refl w).alloc _)).mono ?_
  rintro e w2 ⟨r, rfl, hr, x2⟩
  have z : Ext w w2 := ((Ext.refl w).alloc _).trans x2
  clear H
  by_cases h0 : r ≥ 0
  · have hd : decide (u ∈ U) = true := by simp only [decide_eq_true_eq]; exact hr.1 h0
    clear hr
    go_wp2_with fail
    go_ret
    exact ⟨by rw [hd]; rfl, z⟩
  · have hd : decide (u ∈ U) = false := by simp only [decide_eq_false_iff_not]; exact fun h => h0 (hr.2 h)
    clear hr
    go_wp2_with fail
    go_ret
    exact ⟨by rw [hd]; simp; omega, z⟩
end Go.Proofs.YtfdifdlhnekkkaaDoor
