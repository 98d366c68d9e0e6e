/- The law on sets of identifiers: plain lists, and the walk. -/
import Derived.Test.YtfdifdlhnekkkaaDoorFit
import Derived.RegionTactic
namespace Go.Proofs.YtfdifdlhnekkkaaDoor
open Go.RowKit Go.Maps Go.WideMaps

theorem addK_mem {acc : List Lit} {k x : Lit} : x ∈ addK acc k ↔ x ∈ acc ∨ x = k := by
  unfold addK
  split
  · rename_i h
    exact ⟨.inl, fun h2 => by rcases h2 with h2 | rfl; exact h2; exact h⟩
  · simp
theorem addK_nodup {acc : List Lit} {k : Lit} (h : acc.Nodup) : (addK acc k).Nodup := by
  unfold addK
  split
  · exact h
  · rename_i hk
    exact List.nodup_append.2 ⟨h, by simp, fun a ha b hb => by simp at hb; subst hb; intro e; exact hk (e ▸ ha)⟩
theorem fold_mem (U : List UID) : ∀ (acc : List Lit) (x : Lit), x ∈ U.foldl (fun acc u => addK acc (kk u)) acc ↔ x ∈ acc ∨ ∃ u ∈ U, kk u = x := by
  induction U with
  | nil => intro acc x; simp
  | cons u U ih =>
    intro acc x
    rw [List.foldl_cons, ih, addK_mem]
    constructor
    · rintro ((h | rfl) | ⟨v, hv, e⟩)
      · exact .inl h
      · exact .inr ⟨u, List.mem_cons_self .., rfl⟩
      · exact .inr ⟨v, List.mem_cons_of_mem _ hv, e⟩
    · rintro (h | ⟨v, hv, e⟩)
      · exact .inl (.inl h)
      · rcases List.mem_cons.1 hv with rfl | hv
        · exact .inl (.inr e.symm)
        · exact .inr ⟨v, hv, e⟩
theorem fold_nodup (U : List UID) : ∀ (acc : List Lit), acc.Nodup → (U.foldl (fun acc u => addK acc (kk u)) acc).Nodup := by
  induction U with
  | nil => intro acc h; exact h
  | cons u U ih => intro acc h; exact ih _ (addK_nodup h)
theorem dd_mem {U : List UID} {x : Lit} : x ∈ dd U ↔ ∃ u ∈ U, kk u = x := by unfold dd; rw [fold_mem]; simp
theorem dd_nodup (U : List UID) : (dd U).Nodup := fold_nodup U [] (by simp)
theorem dd_in {U : List UID} (hU : ∀ u ∈ U, Ok u) {u : UID} (hu : Ok u) : kk u ∈ dd U ↔ u ∈ U := by
  rw [dd_mem]
  exact ⟨fun ⟨v, hv, e⟩ => by rw [← kk_inj (hU v hv) hu e]; exact hv, fun h => ⟨u, h, rfl⟩⟩

theorem len_le {l1 : List Lit} : ∀ {l2 : List Lit}, l1.Nodup → (∀ x ∈ l1, x ∈ l2) → l1.length ≤ l2.length := by
  classical
  induction l1 with
  | nil => intro l2 _ _; simp
  | cons a t ih =>
    intro l2 hn hs
    obtain ⟨h1, h2⟩ := List.nodup_cons.1 hn
    have ha : a ∈ l2 := hs a (List.mem_cons_self ..)
    obtain ⟨p, q, rfl⟩ := List.append_of_mem ha
    have := ih (l2 := p ++ q) h2 (fun x hx => by
      have hx2 := hs x (List.mem_cons_of_mem _ hx)
      have hne : x ≠ a := fun e => h1 (e ▸ hx)
      simp only [List.mem_append, List.mem_cons] at hx2 ⊢
      rcases hx2 with h | h | h
      · exact .inl h
      · exact absurd h hne
      · exact .inr h)
    simp only [List.length_append, List.length_cons] at this ⊢
    omega
theorem back_in {l1 l2 : List Lit} (h1 : l1.Nodup) (hs : ∀ x ∈ l1, x ∈ l2) (hl : l1.length = l2.length) : ∀ x ∈ l2, x ∈ l1 := by
  intro x hx
  apply Classical.byContradiction
  intro hn
  have := len_le (l1 := x :: l1) (l2 := l2) (List.nodup_cons.2 ⟨hn, h1⟩) (fun y hy => by
    rcases List.mem_cons.1 hy with rfl | hy
    · exact hx
    · exact hs y hy)
  simp at this
  omega
theorem equal_iff {A B : List UID} (hA : ∀ u ∈ A, Ok u) (hB : ∀ u ∈ B, Ok u) : ((dd A).length = (dd B).length ∧ ∀ k ∈ dd A, k ∈ dd B) ↔ ((∀ u ∈ A, u ∈ B) ∧ ∀ u ∈ B, u ∈ A) := by
  have sub : ∀ {A B : List UID}, (∀ u ∈ A, Ok u) → (∀ u ∈ B, Ok u) → ((∀ k ∈ dd A, k ∈ dd B) ↔ ∀ u ∈ A, u ∈ B) := by
    intro A B hA hB
    constructor
    · intro h u hu
      exact (dd_in hB (hA u hu)).1 (h _ ((dd_in hA (hA u hu)).2 hu))
    · intro h k hk
      obtain ⟨u, hu, rfl⟩ := dd_mem.1 hk
      exact (dd_in hB (hA u hu)).2 (h u hu)
  constructor
  · rintro ⟨hl, hs⟩
    exact ⟨(sub hA hB).1 hs, (sub hB hA).1 (back_in (dd_nodup A) hs hl)⟩
  · rintro ⟨h1, h2⟩
    have s1 := (sub hA hB).2 h1
    have s2 := (sub hB hA).2 h2
    exact ⟨Nat.le_antisymm (len_le (dd_nodup A) s1) (len_le (dd_nodup B) s2), s1⟩
theorem meet_iff {A B : List UID} (hA : ∀ u ∈ A, Ok u) (hB : ∀ u ∈ B, Ok u) : (∃ k, k ∈ dd A ∧ k ∈ dd B) ↔ ∃ u ∈ A, u ∈ B := by
  constructor
  · rintro ⟨k, h1, h2⟩
    obtain ⟨u, hu, rfl⟩ := dd_mem.1 h1
    exact ⟨u, hu, (dd_in hB (hA u hu)).1 h2⟩
  · rintro ⟨u, h1, h2⟩
    exact ⟨kk u, (dd_in hA (hA u h1)).2 h1, (dd_in hB (hA u h1)).2 h2⟩
theorem many_step {A : List UID} (hA : ∀ u ∈ A, Ok u) (j : Nat) (hj : j < A.length) : (dd (A.take (j + 1))).length = (dd (A.take j)).length + (open Classical in if A[j] ∈ A.take j then 0 else 1) := by
  classical
  rw [List.take_succ_eq_append_getElem hj, dd_snoc]
  have hin := dd_in (U := A.take j) (fun u hu => hA u (List.mem_of_mem_take hu)) (hA A[j] (List.getElem_mem _))
  unfold addK
  by_cases h : A[j] ∈ A.take j
  · rw [if_pos (hin.2 h), if_pos h]; rfl
  · rw [if_neg (fun h2 => h (hin.1 h2)), if_neg h]; simp
end Go.Proofs.YtfdifdlhnekkkaaDoor
