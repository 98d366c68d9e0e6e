/- The sets of identifiers: the rest of their functions. -/
import Derived.Test.YtfdifdlhnekkkaaDoorFrom
namespace Go.Proofs.YtfdifdlhnekkkaaDoor
open Go.RowKit Go.Maps Go.WideMaps

set_option maxRecDepth 100000 in
theorem immutable_any (v : Value) (U : List UID) (w : World) (hr : URow w v U) (hU : ∀ u ∈ U, Ok u) (hl : U.length ≤ 900) :
    Calls Tryd.prog 18 #[v] w fun e w' => ∃ B, e = .returned (.agg #[.map (some B)]) ∧ SetAt w' B 1000 (dd U) ∧ w.heap.size ≤ B ∧ Ext w w' := by
  have H := fun wx hx => fromItems_any v U wx (hr.ext hx) hU hl
  clear hr
  go_enter Tryd.func18, Tryd.ntmps18
  go_wp2_with fail
  refine (H _ ((Ext.refl w).alloc _)).mono ?_
  rintro e w2 ⟨p, B, rfl, hc, hs, hB, x2⟩
  have hB2 : w.heap.size + 1 ≤ B := by simpa using hB
  have c0 : w2.cell? ⟨w.heap.size, 0, none⟩ = some (.map none) := cell_ext (by simp) x2
  have f0 : w2.frozen? ⟨w.heap.size, 0, none⟩ = false := (Below.frozen x2 (by simp)).trans (by simp)
  have z : Ext w w2 := ((Ext.refl w).alloc _).trans x2
  clear H
  go_wp2_with fail
  obtain ⟨n, D, hn, ho, r⟩ := hs
  refine bodyPost_ret (v := .agg #[.map (some B)]) (by simp [results, Tryd.results18, go_sem, c0]) rfl ⟨B, rfl, ⟨n, D, hn, ho.setCell (by simp; omega) _, r⟩, by omega, z.setCell (Nat.le_refl _) _⟩

set_option maxRecDepth 100000 in
theorem newSet_any (v : Value) (U : List UID) (w : World) (hr : URow w v U) (hU : ∀ u ∈ U, Ok u) (hl : U.length ≤ 900) :
    Calls Tryd.prog 13 #[v] w fun e w' => ∃ B, e = .returned (.agg #[.map (some B)]) ∧ SetAt w' B 1000 (dd U) ∧ w.heap.size ≤ B ∧ Ext w w' := by
  have H := fun wx hx => immutable_any v U wx (hr.ext hx) hU hl
  clear hr
  go_enter Tryd.func13, Tryd.ntmps13
  go_wp2_with fail
  refine (H _ ((Ext.refl w).alloc _)).mono ?_
  rintro e w2 ⟨B, rfl, hs, hB, x2⟩
  have hB2 : w.heap.size + 1 ≤ B := by simpa using hB
  have c0 : w2.cell? ⟨w.heap.size, 0, none⟩ = some (.map none) := cell_ext (by simp) x2
  have f0 : w2.frozen? ⟨w.heap.size, 0, none⟩ = false := (Below.frozen x2 (by simp)).trans (by simp)
  have z : Ext w w2 := ((Ext.refl w).alloc _).trans x2
  clear H
  go_wp2_with fail
  obtain ⟨n, D, hn, ho, r⟩ := hs
  refine bodyPost_ret (v := .agg #[.map (some B)]) (by simp [results, Tryd.results13, go_sem, c0]) rfl ⟨B, rfl, ⟨n, D, hn, ho.setCell (by simp; omega) _, r⟩, by omega, z.setCell (Nat.le_refl _) _⟩

theorem len22_any (B m : Nat) (acc : List Lit) (w : World) (hs : SetAt w B m acc) :
    Calls Tryd.prog 22 #[.agg #[.map (some B)]] w fun e w' => e = .returned (.int .i64 acc.length) ∧ Ext w w' := by
  obtain ⟨n, D, hn, ho, hh, hsz⟩ := hs
  have hlen := fun ty => (ho.alloc (.cells #[.map (some B)] 47)).len Tryd.underlying32 ty
  rw [hsz] at hlen
  go_enter Tryd.func22, Tryd.ntmps22
  go_wp2_with fail
  go_ret
  exact ⟨rfl, (Ext.refl _).alloc _⟩
theorem len17_any (B m : Nat) (acc : List Lit) (w : World) (hs : SetAt w B m acc) :
    Calls Tryd.prog 17 #[.agg #[.map (some B)]] w fun e w' => e = .returned (.int .i64 acc.length) ∧ Ext w w' := by
  have H := fun wx hx => len22_any B m acc wx (hs.ext hx)
  clear hs
  go_enter Tryd.func17, Tryd.ntmps17
  go_wp2_with fail
  refine (H _ ((Ext.refl w).alloc _)).mono ?_
  rintro e w2 ⟨rfl, x2⟩
  go_wp2_with fail
  go_ret
  exact ⟨rfl, ((Ext.refl w).alloc _).trans x2⟩
open Classical in
theorem contains44_any (B m : Nat) (acc : List Lit) (u : UID) (w : World) (hs : SetAt w B m acc) (hu : Ok u) :
    Calls Tryd.prog 44 #[.agg #[.map (some B)], .agg #[.string u.1, .string u.2]] w fun e w' => e = .returned (.bool (decide (kk u ∈ acc))) ∧ Ext w w' := by
  obtain ⟨n, D, hn, ho, hh, hsz⟩ := hs
  have hl := look_any u hu ((ho.alloc (.cells #[.map (some B)] 47)).alloc (.cells #[.string u.1, .string u.2] 42))
  have hb : Maps.has D (kk u) = decide (kk u ∈ acc) := by
    cases h : Maps.has D (kk u)
    · have : ¬ kk u ∈ acc := fun h2 => by rw [(hh _).2 h2] at h; cases h
      simp [this]
    · simp [(hh _).1 h]
  rw [hb] at hl
  generalize decide (kk u ∈ acc) = bb at *
  go_enter Tryd.func44, Tryd.ntmps44
  go_wp2_with fail
  go_ret
  exact ⟨rfl, (((Ext.refl _).alloc _).alloc _).alloc _⟩
open Classical in
theorem contains43_any (B m : Nat) (acc : List Lit) (u : UID) (w : World) (hs : SetAt w B m acc) (hu : Ok u) :
    Calls Tryd.prog 43 #[.agg #[.map (some B)], .agg #[.string u.1, .string u.2]] w fun e w' => e = .returned (.bool (decide (kk u ∈ acc))) ∧ Ext w w' := by
  have H := fun wx hx => contains44_any B m acc u wx (hs.ext hx) hu
  clear hs
  generalize decide (kk u ∈ acc) = bb at *
  go_enter Tryd.func43, Tryd.ntmps43
  go_wp2_with fail
  refine (H _ (((Ext.refl w).alloc _).alloc _)).mono ?_
  rintro e w2 ⟨rfl, x2⟩
  go_wp2_with fail
  go_ret
  exact ⟨rfl, (((Ext.refl w).alloc _).alloc _).trans x2⟩
end Go.Proofs.YtfdifdlhnekkkaaDoor
