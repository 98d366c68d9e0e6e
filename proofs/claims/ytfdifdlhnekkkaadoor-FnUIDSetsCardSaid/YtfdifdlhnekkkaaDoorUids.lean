/- The slice of identifiers turned into the other type's: 'uids'; and the three functions over sets. -/
import Derived.Test.YtfdifdlhnekkkaaDoorEql
namespace Go.Proofs.YtfdifdlhnekkkaaDoor
open Go.RowKit Go.Maps Go.WideMaps

def flat (U : List UID) : List Value := U.flatMap fun u => [.string u.1, .string u.2]
theorem flat_snoc (U : List UID) (u : UID) : flat (U ++ [u]) = flat U ++ [.string u.1, .string u.2] := by simp [flat]
theorem flat_len (U : List UID) : (flat U).length = U.length * 2 := by
  induction U with
  | nil => rfl
  | cons u U ih => simp only [flat, List.flatMap_cons, List.length_append, List.length_cons, List.length_nil] at ih ⊢; omega
theorem flat_at (U : List UID) : ∀ i (h : i < U.length), (flat U)[i * 2]? = some (.string U[i].1) ∧ (flat U)[i * 2 + 1]? = some (.string U[i].2) := by
  induction U with
  | nil => intro i h; cases h
  | cons u U ih =>
    intro i h
    have e : flat (u :: U) = .string u.1 :: .string u.2 :: flat U := by simp [flat]
    rw [e]
    cases i with
    | zero => exact ⟨rfl, rfl⟩
    | succ i =>
      have := ih i (by simpa using h)
      rw [show (i + 1) * 2 = i * 2 + 1 + 1 by omega]
      simpa using this
theorem info42 : (Tryd.prog.info? 42).map (fun i => (i.zero, i.size, i.bytes)) = some (some (.agg #[.string ⟨#[]⟩, .string ⟨#[]⟩]), 2, 32) := by kernel_rfl
theorem two_new (w : World) (a b : Value) (t : TypeId) : ∀ j u, [a, b][j]? = some u → (w.alloc (.cells #[a, b] t)).cell? ((⟨w.heap.size, 0, none⟩ : Addr).add j) = some u := cell_two_new w a b t

theorem URow.of_own {w : World} {base e : Nat} {v : Value} {U : List UID} (h : w.ownsRow base e 2 v U.length (flat U)) : URow w v U := by
  rcases own_shape h with ⟨hv, hn, _⟩ | ⟨g, cap, hv, _, _, hn, hc⟩
  · exact .inl ⟨_, _, hv, List.eq_nil_of_length_eq_zero hn⟩
  · subst hv
    refine .inr ⟨g, 0, cap, rfl, by omega, fun i hi => ?_⟩
    have hf := flat_at U i hi
    constructor
    · rw [Nat.zero_add, h.cellAt _ (by omega)]; exact hf.1
    · rw [Nat.zero_add, h.cellAt _ (by omega)]; exact hf.2

set_option maxRecDepth 100000 in
set_option maxHeartbeats 1000000 in
theorem uids_any (v : Value) (U : List UID) (w : World) (hr : URow w v U) (hl : U.length ≤ 900) :
    Calls Tryd.prog 14 #[v] w fun e w' => ∃ v', e = .returned v' ∧ URow w' v' U ∧ Ext w w' := by
  have hlen : ∃ a cap, v = .slice a U.length cap ∧ (U = [] ∨ ∃ b off, a = some ⟨b, off, none⟩ ∧ ∀ i (h : i < U.length), w.cell? ⟨b, off + i * 2, none⟩ = some (.string U[i].1) ∧ w.cell? ⟨b, off + i * 2 + 1, none⟩ = some (.string U[i].2)) := by
    rcases hr with ⟨a, cap, rfl, rfl⟩ | ⟨b, off, cap, rfl, _, hc⟩
    · exact ⟨a, cap, rfl, .inl rfl⟩
    · exact ⟨_, cap, rfl, .inr ⟨b, off, rfl, hc⟩⟩
  obtain ⟨a, cap, rfl, hcells⟩ := hlen
  clear hr
  obtain ⟨i42, hi42, hz0, hz1, hz2⟩ := info_parts info42
  go_enter Tryd.func14, Tryd.ntmps14
  go_wp2_with fail
  go_loopg [3, 8] (U.length + 1) (fun g s i wr => ∃ j : Nat, i = .int .i64 j ∧ j + g = U.length + 1 ∧ 1 ≤ g ∧ wr.ownsRow w.heap.size 42 2 s j (flat (U.take j)) ∧ Ext w wr)
  case atStart => exact ⟨0, rfl, by omega, by omega, World.ownsRow_nil _ _ _ _, Ext.refl _⟩
  case round =>
    obtain ⟨j, rfl, hjg, hg1, hown, hext⟩ := hrel
    have hws : w.heap.size ≤ wr.heap.size := hext.size
    by_cases hj : j < U.length
    · rcases hcells with rfl | ⟨b, off, rfl, hcc⟩
      · cases hj
      have hj' : (j : Int) < (U.length : Int) := by omega
      have c0 := cell_ext (hcc j hj).1 hext
      have c1 := cell_ext (hcc j hj).2 hext
      have htk : flat (U.take (j + 1)) = flat (U.take j) ++ [.string U[j].1, .string U[j].2] := by rw [List.take_succ_eq_append_getElem hj, flat_snoc]
      generalize U[j] = u at *
      have hu := fun wx => uid_any u wx
      go_wp2_with fail
      refine (hu _).mono ?_
      rintro e w2 ⟨rfl, x2⟩
      clear hu
      have x2w : Ext wr w2 := ((Ext.refl wr).alloc _).trans x2
      have z2 : Ext w w2 := hext.trans x2w
      have hown2 := own_ext hown x2w
      have hw2 : w.heap.size ≤ w2.heap.size := z2.size
      rcases own_shape hown2 with ⟨rfl, rfl, hx⟩ | ⟨g, cap', rfl, hg, hg2, hnc, hcm⟩
      · clear hx
        go_wp2_with (at_builtin; refine wpList_append_own _ rfl (.tmp 12) (.tmp 15) 36 rfl w.heap.size 42 i42 (.agg #[.string ⟨#[]⟩, .string ⟨#[]⟩]) 2 32 Tryd.underlying36 hi42 hz0 hz1 hz2 rfl (by decide) _ _ _ rfl (hown2.alloc _) ⟨w2.heap.size, 0, none⟩ 1 1 [.string u.1, .string u.2] rfl rfl ?_ ?_ ?_ ?_ ?_ ?_; (exact two_new w2 _ _ _); (intro x hx; simp at hx; rcases hx with rfl | rfl <;> rfl); (unfold maxLen; omega); omega; (simp; omega); intro v' w' hown' hg _)
        go_roundg (gk - 1)
        case measure => omega
        case rel => exact ⟨0 + 1, by go_num, by omega, by omega, by rw [htk]; exact hown', (z2.alloc _).grownOwn hg hown2 (Nat.le_refl _)⟩
      · go_wp2_with (at_builtin; refine wpList_append_own _ rfl (.tmp 12) (.tmp 15) 36 rfl w.heap.size 42 i42 (.agg #[.string ⟨#[]⟩, .string ⟨#[]⟩]) 2 32 Tryd.underlying36 hi42 hz0 hz1 hz2 rfl (by decide) _ _ _ rfl (hown2.alloc _) ⟨w2.heap.size, 0, none⟩ 1 1 [.string u.1, .string u.2] rfl rfl ?_ ?_ ?_ ?_ ?_ ?_; (exact two_new w2 _ _ _); (intro x hx; simp at hx; rcases hx with rfl | rfl <;> rfl); (unfold maxLen; omega); omega; (simp; omega); intro v' w' hown' hg _)
        go_roundg (gk - 1)
        case measure => omega
        case rel => exact ⟨j + 1, by go_num, by omega, by omega, by rw [htk]; exact hown', (z2.alloc _).grownOwn hg hown2 (Nat.le_refl _)⟩
    · have hju : j = U.length := by omega
      subst hju
      have hj' : ¬ ((U.length : Int) < (U.length : Int)) := by omega
      rw [List.take_length] at hown
      go_wp2_with fail
      go_ret
      exact ⟨_, rfl, URow.of_own hown, hext⟩

open Classical in
theorem uidsEqual_any (va vb : Value) (A B : List UID) (w : World) (ha : URow w va A) (hb : URow w vb B) (hA : ∀ u ∈ A, Ok u) (hB : ∀ u ∈ B, Ok u) (la : A.length ≤ 900) (lb : B.length ≤ 900) :
    Calls Tryd.prog 7 #[va, vb] w fun e w' => e = .returned (.bool (decide ((dd A).length = (dd B).length ∧ ∀ k ∈ dd A, k ∈ dd B))) ∧ Ext w w' := by
  have H1 := uids_any va A w ha la
  have H2 := fun wx hx => uids_any vb B wx (hb.ext hx) lb
  have HN := fun v U wx (hr : URow wx v U) hU hl => newSet_any v U wx hr hU hl
  have HE := fun A' B' wx hA' hB' => equal15_any A' B' 1000 (dd A) (dd B) wx hA' hB'
  clear ha hb
  generalize decide ((dd A).length = (dd B).length ∧ ∀ k ∈ dd A, k ∈ dd B) = res at *
  go_enter Tryd.func7, Tryd.ntmps7
  go_wp2_with fail
  refine H1.mono ?_
  rintro e w1 ⟨v1, rfl, r1, x1⟩
  go_wp2_with fail
  refine (HN v1 A _ r1 hA la).mono ?_
  rintro e w2 ⟨B1, rfl, s1, _, x2⟩
  go_wp2_with fail
  refine (H2 _ (x1.trans x2)).mono ?_
  rintro e w3 ⟨v3, rfl, r3, x3⟩
  go_wp2_with fail
  refine (HN v3 B _ r3 hB lb).mono ?_
  rintro e w4 ⟨B2, rfl, s2, _, x4⟩
  go_wp2_with fail
  refine (HE B1 B2 _ (s1.ext (x3.trans x4)) s2).mono ?_
  rintro e w5 ⟨rfl, x5⟩
  go_wp2_with fail
  go_ret
  exact ⟨rfl, (((x1.trans x2).trans x3).trans x4).trans x5⟩

open Classical in
theorem uidsMeet_any (va vb : Value) (A B : List UID) (w : World) (ha : URow w va A) (hb : URow w vb B) (hA : ∀ u ∈ A, Ok u) (hB : ∀ u ∈ B, Ok u) (la : A.length ≤ 900) (lb : B.length ≤ 900) :
    Calls Tryd.prog 8 #[va, vb] w fun e w' => e = .returned (.bool (decide (∃ k, k ∈ dd A ∧ k ∈ dd B))) ∧ Ext w w' := by
  have H1 := uids_any va A w ha la
  have H2 := fun wx hx => uids_any vb B wx (hb.ext hx) lb
  have HN := fun v U wx (hr : URow wx v U) hU hl => newSet_any v U wx hr hU hl
  have HE := fun A' B' wx hA' hB' => meets16_any A' B' 1000 (dd A) (dd B) wx hA' hB'
  clear ha hb
  generalize decide (∃ k, k ∈ dd A ∧ k ∈ dd B) = res at *
  go_enter Tryd.func8, Tryd.ntmps8
  go_wp2_with fail
  refine H1.mono ?_
  rintro e w1 ⟨v1, rfl, r1, x1⟩
  go_wp2_with fail
  refine (HN v1 A _ r1 hA la).mono ?_
  rintro e w2 ⟨B1, rfl, s1, _, x2⟩
  go_wp2_with fail
  refine (H2 _ (x1.trans x2)).mono ?_
  rintro e w3 ⟨v3, rfl, r3, x3⟩
  go_wp2_with fail
  refine (HN v3 B _ r3 hB lb).mono ?_
  rintro e w4 ⟨B2, rfl, s2, _, x4⟩
  go_wp2_with fail
  refine (HE B1 B2 _ (s1.ext (x3.trans x4)) s2).mono ?_
  rintro e w5 ⟨rfl, x5⟩
  go_wp2_with fail
  go_ret
  exact ⟨rfl, (((x1.trans x2).trans x3).trans x4).trans x5⟩

theorem uidsLen_any (va : Value) (A : List UID) (w : World) (ha : URow w va A) (hA : ∀ u ∈ A, Ok u) (la : A.length ≤ 900) :
    Calls Tryd.prog 9 #[va] w fun e w' => e = .returned (.int .i64 (dd A).length) ∧ Ext w w' := by
  have H1 := uids_any va A w ha la
  have HN := fun v wx (hr : URow wx v A) => newSet_any v A wx hr hA la
  clear ha
  go_enter Tryd.func9, Tryd.ntmps9
  go_wp2_with fail
  refine H1.mono ?_
  rintro e w1 ⟨v1, rfl, r1, x1⟩
  go_wp2_with fail
  refine (HN v1 _ r1).mono ?_
  rintro e w2 ⟨B1, rfl, s1, _, x2⟩
  go_wp2_with fail
  refine (len17_any B1 1000 (dd A) _ s1).mono ?_
  rintro e w5 ⟨rfl, x5⟩
  go_wp2_with fail
  go_ret
  exact ⟨rfl, (x1.trans x2).trans x5⟩
end Go.Proofs.YtfdifdlhnekkkaaDoor
