/- The walk of FnUIDSets. -/
import Derived.Test.YtfdifdlhnekkkaaDoorLaw
import Derived.Deep.RegionWith
namespace Go.Proofs.YtfdifdlhnekkkaaDoor
open Go.RowKit Go.Maps Go.WideMaps

theorem URow.pre {w : World} {b off cap : Nat} {U : List UID} (j : Nat) (hj : j ≤ U.length) (hm : U.length ≤ maxLen) (hc : ∀ i (h : i < U.length), w.cell? ⟨b, off + i * 2, none⟩ = some (.string U[i].1) ∧ w.cell? ⟨b, off + i * 2 + 1, none⟩ = some (.string U[i].2)) :
    URow w (.slice (some ⟨b, off, none⟩) j cap) (U.take j) := by
  have hl : (U.take j).length = j := by rw [List.length_take]; omega
  refine .inr ⟨b, off, cap, by rw [hl], by rw [hl]; omega, fun i hi => ?_⟩
  have hi2 : i < U.length := by omega
  have := hc i hi2
  rw [List.getElem_take]
  exact this

set_option maxRecDepth 100000 in
set_option maxHeartbeats 4000000 in
open Classical in
theorem uidSets_walk (va vb : Value) (A B : List UID) (w : World) (ha : URow w va A) (hb : URow w vb B) (hA : ∀ u ∈ A, Ok u) (hB : ∀ u ∈ B, Ok u) (hcap : ∀ b off n cap, va = .slice (some ⟨b, off, none⟩) n cap → n ≤ cap ∧ cap ≤ maxLen) :
    Calls Tryd.prog 3 #[va, vb] w fun e w' => e = .returned (.bool true) ∧ Ext w w' := by
  have F1 := fits7_any va A w ha
  have F2 := fun wx hx => fits7_any vb B wx (hb.ext hx)
  have G1 := fun wx hx => few_any va A wx (ha.ext hx)
  have G2 := fun wx hx => few_any vb B wx (hb.ext hx)
  have HN := fun wx hx (l : A.length ≤ 200) => uidsLen_any va A wx (ha.ext hx) hA (by omega)
  have HE := fun wx hx (l : A.length ≤ 200) (l2 : B.length ≤ 200) => uidsEqual_any va vb A B wx (ha.ext hx) (hb.ext hx) hA hB (by omega) (by omega)
  have HM := fun wx hx (l : A.length ≤ 200) (l2 : B.length ≤ 200) => uidsMeet_any va vb A B wx (ha.ext hx) (hb.ext hx) hA hB (by omega) (by omega)
  have CB := fun u wx hx => contains_any vb B u wx (hb.ext hx)
  have CA := fun u wx hx => contains_any va A u wx (ha.ext hx)
  have eqI := equal_iff hA hB
  have meI := meet_iff hA hB
  obtain ⟨aa, acap, rfl, hma, hca⟩ := row_cells ha
  obtain ⟨ab, bcap, rfl, hmb, hcb⟩ := row_cells hb
  have F1 := Lib.hid F1
  have F2 := Lib.hid F2
  have G1 := Lib.hid G1
  have G2 := Lib.hid G2
  have HN := Lib.hid HN
  have HE := Lib.hid HE
  have HM := Lib.hid HM
  have CA := Lib.hid CA
  have CB := Lib.hid CB
  have eqI := Lib.hid eqI
  have meI := Lib.hid meI
  have hA := Lib.hid hA
  have hcap := Lib.hid hcap
  have ha := Lib.hid ha
  have hb := Lib.hid hb
  have hma := Lib.hid hma
  have hmb := Lib.hid hmb
  have hca := Lib.hid hca
  have hcb := Lib.hid hcb
  have hB := Lib.hid hB
  go_enter Tryd.func3, Tryd.ntmps3
  go_wp2_with fail
  refine F1.out.mono ?_
  rintro e w1 ⟨b1, rfl, x1⟩
  cases b1
  · go_wp2_with fail
    go_ret
    exact ⟨rfl, x1⟩
  go_wp2_with fail
  refine (F2.out _ x1).mono ?_
  rintro e w2 ⟨b2, rfl, x2⟩
  have y2 := x1.trans x2
  cases b2
  · go_wp2_with fail
    go_ret
    exact ⟨rfl, y2⟩
  go_wp2_with fail
  refine (G1.out _ y2).mono ?_
  rintro e w3 ⟨b3, rfl, l3, x3⟩
  have y3 := y2.trans x3
  cases b3
  · clear l3
    go_wp2_with fail
    go_ret
    exact ⟨rfl, y3⟩
  have hl3 := Lib.hid (l3 rfl)
  clear l3
  go_wp2_with fail
  refine (G2.out _ y3).mono ?_
  rintro e w4 ⟨b4, rfl, l4, x4⟩
  have y4 := y3.trans x4
  cases b4
  · clear l4
    go_wp2_with fail
    go_ret
    exact ⟨rfl, y4⟩
  have hl4 := Lib.hid (l4 rfl)
  clear l4
  clear F1 F2 G1 G2 x1 x2 x3 x4 y2 y3
  go_wp2_with fail
  go_loopg [5, 6, 7, 8] (A.length + 1) (fun g e m c i wr => ∃ (eb mb : Bool) (j : Nat), e = .bool eb ∧ m = .bool mb ∧ c = .int .i64 (dd (A.take j)).length ∧ i = .int .i64 j ∧ j + g = A.length + 1 ∧ 1 ≤ g ∧ Hid ((eb = true ↔ ∀ u ∈ A.take j, u ∈ B) ∧ (mb = true ↔ ∃ u ∈ A.take j, u ∈ B)) ∧ Ext w wr)
  case atStart => exact ⟨true, false, 0, rfl, rfl, by simp [dd], rfl, by omega, by omega, Lib.hid ⟨by simp, by simp⟩, y4⟩
  case round =>
    obtain ⟨eb, mb, j, rfl, rfl, rfl, rfl, hjg, hg1, HI, hext⟩ := hrel
    by_cases hj : j < A.length
    · rcases hca.out with rfl | ⟨b, off, rfl, hcc⟩
      · cases hj
      obtain ⟨k1, k2⟩ := hcap.out b off A.length acap rfl
      unfold maxLen at k2
      have hj' : (j : Int) < (A.length : Int) := by omega
      have k3 : (j : Int) ≤ (acap : Int) := by omega
      have k4 : j ≤ acap := by omega
      have c0 := cell_ext (hcc j hj).1 hext
      have c1 := cell_ext (hcc j hj).2 hext
      have hpre := URow.pre (cap := acap) j (by omega) hma.out hcc
      have hmany := many_step hA.out j hj
      have hlm : (dd (A.take j)).length ≤ j := by
        have h1 := len_le (l1 := dd (A.take j)) (l2 := (A.take j).map kk) (dd_nodup _) (fun x hx => by obtain ⟨u, hu, rfl⟩ := dd_mem.1 hx; exact List.mem_map_of_mem hu)
        simp at h1; omega
      have htk : A.take (j + 1) = A.take j ++ [A[j]] := List.take_succ_eq_append_getElem hj
      have hl3o := hl3.out
      have HC := fun wx hx => contains_any _ (A.take j) A[j] wx (hpre.ext hx)
      have HB := fun wx hx => CB.out A[j] wx hx
      clear hpre hcc
      generalize A[j] = u at *
      have hall : (∀ v ∈ A.take (j + 1), v ∈ B) ↔ (∀ v ∈ A.take j, v ∈ B) ∧ u ∈ B := by rw [htk]; simp [or_imp, forall_and]
      have hex : (∃ v ∈ A.take (j + 1), v ∈ B) ↔ (∃ v ∈ A.take j, v ∈ B) ∨ u ∈ B := by
        rw [htk]
        constructor
        · rintro ⟨v, hv, hvb⟩
          rcases List.mem_append.1 hv with h | h
          · exact .inl ⟨v, h, hvb⟩
          · simp at h; subst h; exact .inr hvb
        · rintro (⟨v, hv, hvb⟩ | h)
          · exact ⟨v, List.mem_append_left _ hv, hvb⟩
          · exact ⟨u, by simp, h⟩
      rw [← HI.out.1] at hall
      rw [← HI.out.2] at hex
      have hall := Lib.hid hall
      have hex := Lib.hid hex
      clear htk HI k1 k2
      generalize (dd (A.take j)).length = nm at *
      by_cases hb1 : u ∈ B
      · have d1 : decide (u ∈ B) = true := by simp [hb1]
        by_cases hd : u ∈ A.take j
        · have d2 : decide (u ∈ A.take j) = true := by simp [hd]
          rw [if_pos hd] at hmany
          have hmany := Lib.hid hmany
          simp only [d1] at HB
          simp only [d2] at HC
          have hb1 := Lib.hid hb1
          have HB := Lib.hid HB
          have HC := Lib.hid HC
          clear hd d1 d2
          cases eb <;> cases mb
          all_goals
            go_wp2_with fail
            refine (HB.out _ hext).mono ?_
            rintro e w5 ⟨rfl, x5⟩
            have y5 := hext.trans x5
            have c05 := cell_ext c0 x5
            have c15 := cell_ext c1 x5
            go_wp2_with fail
            go_region_with (go_at_call 6; refine (HC.out _ (by first | exact y5.drew | exact y5)).mono ?_; rintro e w6 ⟨rfl, x6⟩; have c06 := cell_ext (w := w5.drew) c05 x6; have c16 := cell_ext (w := w5.drew) c15 x6)
            all_goals
              go_wp2_with fail
              go_roundg (gk - 1)
              case measure => omega
              case rel => exact ⟨_, _, j + 1, rfl, rfl, by rw [hmany.out]; first | rfl | go_num, by go_num, by omega, by omega, Lib.hid ⟨by rw [hall.out]; simp [hb1.out], by rw [hex.out]; simp [hb1.out]⟩, y5.drew.trans x6⟩
        · have d2 : decide (u ∈ A.take j) = false := by simp [hd]
          rw [if_neg hd] at hmany
          have hmany := Lib.hid hmany
          simp only [d1] at HB
          simp only [d2] at HC
          have hb1 := Lib.hid hb1
          have HB := Lib.hid HB
          have HC := Lib.hid HC
          clear hd d1 d2
          cases eb <;> cases mb
          all_goals
            go_wp2_with fail
            refine (HB.out _ hext).mono ?_
            rintro e w5 ⟨rfl, x5⟩
            have y5 := hext.trans x5
            have c05 := cell_ext c0 x5
            have c15 := cell_ext c1 x5
            go_wp2_with fail
            go_region_with (go_at_call 6; refine (HC.out _ (by first | exact y5.drew | exact y5)).mono ?_; rintro e w6 ⟨rfl, x6⟩; have c06 := cell_ext (w := w5.drew) c05 x6; have c16 := cell_ext (w := w5.drew) c15 x6)
            all_goals
              go_wp2_with fail
              go_roundg (gk - 1)
              case measure => omega
              case rel => exact ⟨_, _, j + 1, rfl, rfl, by rw [hmany.out]; first | rfl | go_num, by go_num, by omega, by omega, Lib.hid ⟨by rw [hall.out]; simp [hb1.out], by rw [hex.out]; simp [hb1.out]⟩, y5.drew.trans x6⟩
      · have d1 : decide (u ∈ B) = false := by simp [hb1]
        by_cases hd : u ∈ A.take j
        · have d2 : decide (u ∈ A.take j) = true := by simp [hd]
          rw [if_pos hd] at hmany
          have hmany := Lib.hid hmany
          simp only [d1] at HB
          simp only [d2] at HC
          have hb1 := Lib.hid hb1
          have HB := Lib.hid HB
          have HC := Lib.hid HC
          clear hd d1 d2
          cases eb <;> cases mb
          all_goals
            go_wp2_with fail
            refine (HB.out _ hext).mono ?_
            rintro e w5 ⟨rfl, x5⟩
            have y5 := hext.trans x5
            have c05 := cell_ext c0 x5
            have c15 := cell_ext c1 x5
            go_wp2_with fail
            go_region_with (go_at_call 6; refine (HC.out _ (by first | exact y5.drew | exact y5)).mono ?_; rintro e w6 ⟨rfl, x6⟩; have c06 := cell_ext (w := w5.drew) c05 x6; have c16 := cell_ext (w := w5.drew) c15 x6)
            all_goals
              go_wp2_with fail
              go_roundg (gk - 1)
              case measure => omega
              case rel => exact ⟨_, _, j + 1, rfl, rfl, by rw [hmany.out]; first | rfl | go_num, by go_num, by omega, by omega, Lib.hid ⟨by rw [hall.out]; simp [hb1.out], by rw [hex.out]; simp [hb1.out]⟩, y5.drew.trans x6⟩
        · have d2 : decide (u ∈ A.take j) = false := by simp [hd]
          rw [if_neg hd] at hmany
          have hmany := Lib.hid hmany
          simp only [d1] at HB
          simp only [d2] at HC
          have hb1 := Lib.hid hb1
          have HB := Lib.hid HB
          have HC := Lib.hid HC
          clear hd d1 d2
          cases eb <;> cases mb
          all_goals
            go_wp2_with fail
            refine (HB.out _ hext).mono ?_
            rintro e w5 ⟨rfl, x5⟩
            have y5 := hext.trans x5
            have c05 := cell_ext c0 x5
            have c15 := cell_ext c1 x5
            go_wp2_with fail
            go_region_with (go_at_call 6; refine (HC.out _ (by first | exact y5.drew | exact y5)).mono ?_; rintro e w6 ⟨rfl, x6⟩; have c06 := cell_ext (w := w5.drew) c05 x6; have c16 := cell_ext (w := w5.drew) c15 x6)
            all_goals
              go_wp2_with fail
              go_roundg (gk - 1)
              case measure => omega
              case rel => exact ⟨_, _, j + 1, rfl, rfl, by rw [hmany.out]; first | rfl | go_num, by go_num, by omega, by omega, Lib.hid ⟨by rw [hall.out]; simp [hb1.out], by rw [hex.out]; simp [hb1.out]⟩, y5.drew.trans x6⟩
    · have hju : j = A.length := by omega
      subst hju
      have hj' : ¬ ((A.length : Int) < (A.length : Int)) := by omega
      rw [List.take_length] at HI ⊢
      have hl3o := hl3.out
      have hl4o := hl4.out
      go_wp2_with fail
      have M2 := Lib.hid HI.out.2
      go_loopg [5, 10] (B.length + 1) (fun g e i wr => ∃ (eb : Bool) (j : Nat), e = .bool eb ∧ i = .int .i64 j ∧ j + g = B.length + 1 ∧ 1 ≤ g ∧ Hid (eb = true ↔ (∀ u ∈ A, u ∈ B) ∧ ∀ u ∈ B.take j, u ∈ A) ∧ Ext w wr)
      case atStart => exact ⟨eb, 0, rfl, rfl, by omega, by omega, Lib.hid (by rw [HI.out.1]; simp), hext⟩
      case round =>
        clear eb HI hext
        obtain ⟨eb, j, rfl, rfl, hjg, hg1, HI, hext⟩ := hrel
        by_cases hj : j < B.length
        · rcases hcb.out with rfl | ⟨b, off, rfl, hcc⟩
          · cases hj
          have hj' : (j : Int) < (B.length : Int) := by omega
          have c0 := cell_ext (hcc j hj).1 hext
          have c1 := cell_ext (hcc j hj).2 hext
          have htk : B.take (j + 1) = B.take j ++ [B[j]] := List.take_succ_eq_append_getElem hj
          have HC := fun wx hx => CA.out B[j] wx hx
          clear hcc
          generalize B[j] = u at *
          have hall : ((∀ v ∈ A, v ∈ B) ∧ ∀ v ∈ B.take (j + 1), v ∈ A) ↔ ((∀ v ∈ A, v ∈ B) ∧ ∀ v ∈ B.take j, v ∈ A) ∧ u ∈ A := by rw [htk]; simp [or_imp, forall_and, and_assoc]
          rw [← HI.out] at hall
          have hall := Lib.hid hall
          clear htk HI
          cases eb
          · go_wp2_with fail
            go_roundg (gk - 1)
            case measure => omega
            case rel => exact ⟨_, j + 1, rfl, by go_num, by omega, by omega, Lib.hid (by rw [hall.out]; simp), hext⟩
          · by_cases hb1 : u ∈ A
            · have d1 : decide (u ∈ A) = true := by simp [hb1]
              simp only [d1] at HC
              have hb1 := Lib.hid hb1
              have HC := Lib.hid HC
              clear d1
              go_wp2_with fail
              refine (HC.out _ hext).mono ?_
              rintro e w5 ⟨rfl, x5⟩
              go_wp2_with fail
              go_roundg (gk - 1)
              case measure => omega
              case rel => exact ⟨_, j + 1, rfl, by go_num, by omega, by omega, Lib.hid (by rw [hall.out]; simp [hb1.out]), hext.trans x5⟩
            · have d1 : decide (u ∈ A) = false := by simp [hb1]
              simp only [d1] at HC
              have hb1 := Lib.hid hb1
              have HC := Lib.hid HC
              clear d1
              go_wp2_with fail
              refine (HC.out _ hext).mono ?_
              rintro e w5 ⟨rfl, x5⟩
              go_wp2_with fail
              go_roundg (gk - 1)
              case measure => omega
              case rel => exact ⟨_, j + 1, rfl, by go_num, by omega, by omega, Lib.hid (by rw [hall.out]; simp [hb1.out]), hext.trans x5⟩
        · have hju : j = B.length := by omega
          subst hju
          have hj' : ¬ ((B.length : Int) < (B.length : Int)) := by omega
          rw [List.take_length] at HI
          have r1 : decide ((dd A).length = (dd B).length ∧ ∀ k ∈ dd A, k ∈ dd B) = eb := by
            rw [Bool.eq_iff_iff, HI.out]; simp only [decide_eq_true_eq]; exact eqI.out
          have r2 : decide (∃ k, k ∈ dd A ∧ k ∈ dd B) = mb := by
            rw [Bool.eq_iff_iff, M2.out]; simp only [decide_eq_true_eq]; exact meI.out
          have HE2 := fun wx hx => HE.out wx hx hl3o hl4o
          have HM2 := fun wx hx => HM.out wx hx hl3o hl4o
          have HN2 := fun wx hx => HN.out wx hx hl3o
          simp only [r1] at HE2
          simp only [r2] at HM2
          have HE2 := Lib.hid HE2
          have HM2 := Lib.hid HM2
          have HN2 := Lib.hid HN2
          clear r1 r2 HI M2 eqI meI HE HM HN CA CB hl3 hl4 hA hB hcap ha hb hma hmb hca hcb
          generalize (dd A).length = nd at *
          go_wp2_with fail
          refine (HE2.out _ hext).mono ?_
          rintro e w5 ⟨rfl, x5⟩
          have y5 := hext.trans x5
          go_wp2_with fail
          refine (HM2.out _ y5).mono ?_
          rintro e w6 ⟨rfl, x6⟩
          have y6 := y5.trans x6
          go_wp2_with fail
          refine (HN2.out _ y6).mono ?_
          rintro e w7 ⟨rfl, x7⟩
          have y7 := y6.trans x7
          go_wp2_with fail
          go_ret
          exact ⟨rfl, y7⟩
end Go.Proofs.YtfdifdlhnekkkaaDoor
