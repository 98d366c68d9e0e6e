/- The sets of identifiers: made of a slice. -/
import Derived.Test.YtfdifdlhnekkkaaDoorSet
namespace Go.Proofs.YtfdifdlhnekkkaaDoor
open Go.RowKit Go.Maps Go.WideMaps

/-- A slice, nil or not, of pairs of strings. -/
def URow (w : World) (v : Value) (U : List UID) : Prop :=
  (∃ a cap, v = .slice a 0 cap ∧ U = []) ∨
  ∃ b off cap, v = .slice (some ⟨b, off, none⟩) U.length cap ∧ U.length ≤ maxLen ∧ ∀ i (h : i < U.length), w.cell? ⟨b, off + i * 2, none⟩ = some (.string U[i].1) ∧ w.cell? ⟨b, off + i * 2 + 1, none⟩ = some (.string U[i].2)
theorem URow.ext {w w' : World} {v : Value} {U : List UID} (h : URow w v U) (x : Ext w w') : URow w' v U := by
  rcases h with h | ⟨b, off, cap, hv, hm, hc⟩
  · exact .inl h
  · exact .inr ⟨b, off, cap, hv, hm, fun i hi => ⟨cell_ext (hc i hi).1 x, cell_ext (hc i hi).2 x⟩⟩
noncomputable def dd (U : List UID) : List Lit := U.foldl (fun acc u => addK acc (kk u)) []
theorem dd_snoc (U : List UID) (u : UID) : dd (U ++ [u]) = addK (dd U) (kk u) := by simp [dd, List.foldl_append]

theorem makeMapSized (n : Int) (w : World) : (Instr.makeMap 32 (some (.int .i64 n))).run Tryd.prog w = .ok (.map (some w.heap.size)) (w.alloc (.map #[] 0)) := by
  simp [Instr.makeMap, run_underlying Tryd.underlying32, asInt, asIntOf, Result.andThen]
theorem cell_grown {w w' : World} {p B : Nat} {v : Value} (h : w.cell? ⟨p, 0, none⟩ = some v) (hg : w.grownBy w' (some B)) (hne : p ≠ B) : w'.cell? ⟨p, 0, none⟩ = some v := by
  have hlt : p < w.heap.size := by
    unfold World.cell? at h
    cases hh : w.heap[p]? with
    | none => simp [hh] at h
    | some o => exact (Array.getElem?_eq_some_iff.1 hh).1
  rw [World.cell?_of_block (w := w) (hg.block p hlt (by simpa using fun e => hne e))]; exact h
theorem SetAt.ext {w w' : World} {B m : Nat} {acc : List Lit} (h : SetAt w B m acc) (x : Ext w w') : SetAt w' B m acc := by
  obtain ⟨n, D, hn, ho, r⟩ := h
  exact ⟨n, D, hn, ho.kept x.grown0 (by simp), r⟩
theorem SetAt.mono {w : World} {B m m' : Nat} {acc : List Lit} (h : SetAt w B m acc) (hm : m ≤ m') : SetAt w B m' acc := by
  obtain ⟨n, D, hn, r⟩ := h
  exact ⟨n, D, Nat.le_trans hn hm, r⟩
theorem SetAt.lt {w : World} {B m : Nat} {acc : List Lit} (h : SetAt w B m acc) : B < w.heap.size := by
  obtain ⟨n, D, hn, ho, _⟩ := h
  exact ho.lt
theorem make_any (b : Nat) (n : Nat) (w : World) (hc : w.cell? ⟨b, 0, none⟩ = some (.int .i64 n)) (hn : n ≤ 1000) :
    Calls Tryd.prog 25 #[.slice (some ⟨b, 0, none⟩) 1 1] w fun e w' => ∃ p B, e = .returned (.pointer (some ⟨p, 0, none⟩)) ∧ w'.cell? ⟨p, 0, none⟩ = some (.map (some B)) ∧ SetAt w' B 0 [] ∧ w.heap.size ≤ B ∧ w.heap.size ≤ p ∧ p ≠ B ∧ Ext w w' := by
  have hmm : ∀ wx, (Instr.makeMap 32 (some (.int .i64 (n : Int)))).run Tryd.prog wx = .ok (.map (some wx.heap.size)) (wx.alloc (.map #[] 0)) := fun wx => makeMapSized (n : Int) wx
  have h0 : 0 ≤ (n : Int) := by omega
  have h1 : (n : Int) ≤ 9223372036854775807 := by omega
  go_enter Tryd.func25, Tryd.ntmps25
  go_wp2_with fail
  go_ret
  have x : Ext w (w.alloc (.map #[] 0)) := (Ext.refl w).alloc _
  refine ⟨w.heap.size + 1, w.heap.size, by simp, by simp, ⟨0, .map [], Nat.le_refl _, (World.ownsMap_made _ _ _ _).alloc _, by simp [Maps.has], rfl⟩, Nat.le_refl _, by omega, by omega, x.alloc _⟩

set_option maxRecDepth 100000 in
theorem fromItems_any (v : Value) (U : List UID) (w : World) (hr : URow w v U) (hU : ∀ u ∈ U, Ok u) (hl : U.length ≤ 900) :
    Calls Tryd.prog 23 #[v] w fun e w' => ∃ p B, e = .returned (.pointer (some ⟨p, 0, none⟩)) ∧ w'.cell? ⟨p, 0, none⟩ = some (.map (some B)) ∧ SetAt w' B 1000 (dd U) ∧ w.heap.size ≤ B ∧ Ext w w' := by
  have hlen : ∃ a cap, v = .slice a U.length cap ∧ (U = [] ∨ ∃ b off, a = some ⟨b, off, none⟩ ∧ ∀ i (h : i < U.length), w.cell? ⟨b, off + i * 2, none⟩ = some (.string U[i].1) ∧ w.cell? ⟨b, off + i * 2 + 1, none⟩ = some (.string U[i].2)) := by
    rcases hr with ⟨a, cap, rfl, rfl⟩ | ⟨b, off, cap, rfl, _, hc⟩
    · exact ⟨a, cap, rfl, .inl rfl⟩
    · exact ⟨_, cap, rfl, .inr ⟨b, off, rfl, hc⟩⟩
  obtain ⟨a, cap, rfl, hcells⟩ := hlen
  clear hr
  have HM := fun wx hc => make_any w.heap.size U.length wx hc (by omega)
  go_enter Tryd.func23, Tryd.ntmps23
  go_wp2_with fail
  refine (HM _ (by simp)).mono ?_
  rintro e w1 ⟨p, B, rfl, hc1, hs1, hB, hp, hpB, x1⟩
  clear HM
  have xw : Ext w w1 := ((Ext.refl w).alloc _).trans x1
  have hB : w.heap.size ≤ B := Nat.le_trans (by simp) hB
  go_wp2_with fail
  go_loopg [12] (U.length + 1) (fun g i wr => ∃ j : Nat, i = .int .i64 j ∧ j + g = U.length + 1 ∧ 1 ≤ g ∧ wr.cell? ⟨p, 0, none⟩ = some (.map (some B)) ∧ SetAt wr B j (dd (U.take j)) ∧ Ext w wr)
  case atStart => exact ⟨0, rfl, by omega, by omega, hc1, hs1, xw⟩
  case round =>
    obtain ⟨j, rfl, hjg, hg1, hcp, hset, hext⟩ := hrel
    by_cases hj : j < U.length
    · rcases hcells with rfl | ⟨b, off, rfl, hcc⟩
      · cases hj
      have hj' : (j : Int) < (U.length : Int) := by omega
      have c0 := cell_ext (hcc j hj).1 hext
      have c1 := cell_ext (hcc j hj).2 hext
      have hok : Ok U[j] := hU _ (List.getElem_mem _)
      have htk : dd (U.take (j + 1)) = addK (dd (U.take j)) (kk U[j]) := by rw [List.take_succ_eq_append_getElem hj, dd_snoc]
      have ha := fun wx hx => add_any p B j (dd (U.take j)) U[j] wx (cell_ext hcp hx) (hset.ext hx) (by omega) hok
      generalize U[j] = u at *
      go_wp2_with fail
      refine (ha _ ((Ext.refl wr).alloc _)).mono ?_
      rintro e w2 ⟨bb, rfl, hs2, hg2⟩
      clear ha
      have xr : Ext w (wr.alloc (.cells #[.string u.1, .string u.2] 42)) := hext.alloc _
      have hp2 : w2.cell? ⟨p, 0, none⟩ = some (.map (some B)) := cell_grown (cell_ext hcp ((Ext.refl wr).alloc (.cells #[.string u.1, .string u.2] 42))) hg2 hpB
      go_wp2_with fail
      go_roundg (gk - 1)
      case measure => omega
      case rel => exact ⟨j + 1, by go_num, by omega, by omega, hp2, by rw [htk]; exact hs2, xr.grown hg2 (fun k hk => by cases hk; exact hB)⟩
    · have hju : j = U.length := by omega
      subst hju
      have hj' : ¬ ((U.length : Int) < (U.length : Int)) := by omega
      go_wp2_with fail
      go_ret
      exact ⟨p, rfl, B, hcp, by rw [List.take_length] at hset; exact hset.mono (by omega), hB, hext⟩
end Go.Proofs.YtfdifdlhnekkkaaDoor
