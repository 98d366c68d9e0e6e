/- A slice of strings among the arguments, as the walks want it. -/
import Derived.Test.YtkgkejihdfgpkaaFilled
import Derived.SliceStrings
import Derived.OpenShut
namespace Go.Proofs.Ytkgkejihdfgpkaa
open Go.RowKit Go.ChangeShapes Go.WideShapes

theorem srow_of {H : Type} {enc : TypeId × Value → H} {P : Program} {w : World} {base base' : Nat} {spare : Nat → Bool} {held : Bool} {t e : TypeId} {v : Value} {x : DataW H × List MemPlace}
    (ht : P.underlying t = some (.slice e)) (he : P.underlying e = some .string) (hc : P.cellsOf e = 1) (hok : Value.okWide P w .any base' t v) (h : ∃ fuel, DataW.trod enc P w base spare held fuel t v.cells.toList = some x) :
    ∃ ss, SRow w v ss := by
  obtain ⟨a0, len, cap, rfl⟩ := okWide_slice ht hok
  obtain ⟨fuel, hf⟩ := h
  rcases open_strings ht he hc hf with ⟨hcs, _⟩ | ⟨a, l, c, ss, hcs, _, hl, hm, hz, _, hcell, hsz⟩
  · simp [Value.cells] at hcs
    obtain ⟨rfl, rfl, rfl⟩ := hcs
    exact ⟨[], .inl ⟨_, _, rfl, rfl⟩⟩
  · simp [Value.cells] at hcs
    obtain ⟨rfl, rfl, rfl⟩ := hcs
    have hle : len ≤ ss.length := by rw [hz]; split <;> omega
    obtain ⟨b, off, spot⟩ := a
    by_cases h0 : len = 0
    · subst h0
      exact ⟨[], .inl ⟨_, _, rfl, rfl⟩⟩
    · have hspot : spot = none := by
        have := hcell 0 (by omega)
        simpa [Addr.add] using World.cell?_spot this
      subst hspot
      refine ⟨(ss.take len).map (·.data.toList), .inr ⟨b, off, cap, ?_, ?_, ?_⟩⟩
      · simp [Nat.min_eq_left hle]
      · simp; omega
      · intro i hi
        simp at hi
        have hi2 : i < ss.length := by omega
        have h1 := hcell i hi2
        rw [List.getD_eq_getElem?_getD, List.getElem?_eq_getElem hi2] at h1
        simp only [List.getElem_map, List.getElem_take]
        refine ⟨?_, hsz _ (List.getElem_mem hi2)⟩
        have e : (⟨b, off, none⟩ : Addr).add i = ⟨b, off + i, none⟩ := by
          unfold Addr.add; split <;> simp_all
        rw [e] at h1
        exact h1
end Go.Proofs.Ytkgkejihdfgpkaa
