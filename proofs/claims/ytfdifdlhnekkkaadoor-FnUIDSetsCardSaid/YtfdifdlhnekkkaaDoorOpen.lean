/- A slice of identifiers among the arguments, as the walks want it; the law at what is handed in. -/
import Derived.Test.YtfdifdlhnekkkaaDoorWalk
import Derived.Deep.SlicePairs
import Derived.OpenShut
namespace Go.Proofs.YtfdifdlhnekkkaaDoor
open Go.RowKit Go.ChangeShapes Go.WideShapes

theorem urow_of {H : Type} {enc : TypeId × Value → H} {w : World} {base base' : Nat} {spare : Nat → Bool} {held : Bool} {v : Value} {x : DataW H × List MemPlace}
    (hok : Value.okWide Tryd.prog w .any base' 22 v) (h : ∃ fuel, DataW.trod enc Tryd.prog w base spare held fuel 22 v.cells.toList = some x) :
    ∃ U, URow w v U ∧ (∀ u ∈ U, Ok u) ∧ ∀ b off n cap, v = .slice (some ⟨b, off, none⟩) n cap → n ≤ cap ∧ cap ≤ maxLen := by
  obtain ⟨a0, len, cap, rfl⟩ := okWide_slice Tryd.underlying22 hok
  obtain ⟨fuel, hf⟩ := h
  have hf : DataW.trod enc Tryd.prog w base spare held fuel 22 [.slice a0 len cap] = some x := hf
  rcases Deep.open_slice_pairs Tryd.underlying22 Tryd.underlying26 (by kernel_rfl) rfl rfl (by kernel_rfl) (by kernel_rfl) hf with ⟨hcs, _⟩ | ⟨a, l, c, m, n, V0, V1, D0, D1, P0, P1, hcs, _, hl, hm, hmm, _, hall⟩
  · simp at hcs
    obtain ⟨rfl, rfl, rfl⟩ := hcs
    exact ⟨[], .inl ⟨_, _, rfl, rfl⟩, by simp, fun b off n cap e => by cases e⟩
  · simp at hcs
    obtain ⟨rfl, rfl, rfl⟩ := hcs
    have hlm : len ≤ m := by rw [hmm]; split <;> omega
    have hcap : ∀ b off n cap', (Value.slice (some a) len cap) = .slice (some ⟨b, off, none⟩) n cap' → n ≤ cap' ∧ cap' ≤ maxLen := fun b off n cap' e => by cases e; exact ⟨hl, hm⟩
    by_cases h0 : len = 0
    · subst h0
      exact ⟨[], .inl ⟨_, _, rfl, rfl⟩, by simp, hcap⟩
    · have each : ∀ i, i < len → ∃ u : UID, V0 i = .string u.1 ∧ V1 i = .string u.2 ∧ Ok u := by
        intro i hi
        obtain ⟨_, _, t0, t1⟩ := hall i (by omega)
        obtain ⟨s, hs, _, hz⟩ := DataW.trod_string (by kernel_rfl) t0
        obtain ⟨s', hs', _, hz'⟩ := DataW.trod_string (by kernel_rfl) t1
        simp at hs hs'
        exact ⟨(s, s'), hs, hs', hz, hz'⟩
      obtain ⟨b, off, spot⟩ := a
      have hspot : spot = none := by
        have := (hall 0 (by omega)).1
        simpa [Addr.add] using World.cell?_spot this
      subst hspot
      obtain ⟨f, hf2⟩ : ∃ f : Nat → UID, ∀ i, i < len → V0 i = .string (f i).1 ∧ V1 i = .string (f i).2 ∧ Ok (f i) := by
        refine ⟨fun i => if hi : i < len then (each i hi).choose else (⟨#[]⟩, ⟨#[]⟩), fun i hi => ?_⟩
        simp only [hi, dif_pos]
        exact (each i hi).choose_spec
      refine ⟨(List.range len).map f, .inr ⟨b, off, cap, by simp, by simp; omega, ?_⟩, ?_, hcap⟩
      · intro i hi
        have hi2 : i < len := by simpa using hi
        obtain ⟨q0, q1, _, _⟩ := hall i (by omega)
        obtain ⟨g0, g1, _⟩ := hf2 i hi2
        have e0 : (⟨b, off, none⟩ : Addr).add (i * 2) = ⟨b, off + i * 2, none⟩ := by unfold Addr.add; split <;> simp_all
        have e1 : (⟨b, off, none⟩ : Addr).add (i * 2 + 1) = ⟨b, off + i * 2 + 1, none⟩ := by unfold Addr.add; split <;> simp_all <;> omega
        rw [e0, g0] at q0
        rw [e1, g1] at q1
        simpa using ⟨q0, q1⟩
      · intro u hu
        obtain ⟨i, hi, rfl⟩ := List.mem_map.1 hu
        exact (hf2 i (by simpa using hi)).2.2

theorem fnUIDSets_walk {H : Type} {enc : TypeId × Value → H} {b0 b1 c0 c1 : Nat} {p0 p1 : Nat → Bool} {q0 q1 : Bool} {x0 x1 : DataW H × List MemPlace} (v0 v1 : Value) (w : World)
    (k0 : Value.okWide Tryd.prog w .any b0 22 v0) (h0 : ∃ fuel, DataW.trod enc Tryd.prog w c0 p0 q0 fuel 22 v0.cells.toList = some x0)
    (k1 : Value.okWide Tryd.prog w .any b1 22 v1) (h1 : ∃ fuel, DataW.trod enc Tryd.prog w c1 p1 q1 fuel 22 v1.cells.toList = some x1) :
    Calls Tryd.prog 3 #[v0, v1] w fun e w' => e = .returned (.bool true) ∧ Ext w w' := by
  obtain ⟨A, ra, oa, ca⟩ := urow_of k0 h0
  obtain ⟨B, rb, ob, _⟩ := urow_of k1 h1
  exact uidSets_walk v0 v1 A B w ra rb oa ob ca
end Go.Proofs.YtfdifdlhnekkkaaDoor
