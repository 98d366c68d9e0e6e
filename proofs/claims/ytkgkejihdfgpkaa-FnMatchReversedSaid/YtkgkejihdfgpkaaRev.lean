/- The contract of reversed. -/
import Derived.Test.YtkgkejihdfgpkaaFilled
import Derived.Laws.IdiomStrings
import Derived.BigRegion
namespace Go.Proofs.Ytkgkejihdfgpkaa
open Go.RowKit

/-- A block that holds these bytes, to be written. -/
def BRow (w : World) (B : Nat) (l : List UInt8) : Prop :=
  B < w.heap.size ∧ ∀ j (h : j < l.length), w.cell? ⟨B, j, none⟩ = some (.int .u8 (l[j].toNat : Int)) ∧ w.frozen? ⟨B, j, none⟩ = false
theorem BRow.drewN {w : World} {B : Nat} {l : List UInt8} (h : BRow w B l) (n : Nat) : BRow (w.drewN n) B l := h
theorem BRow.drew {w : World} {B : Nat} {l : List UInt8} (h : BRow w B l) : BRow w.drew B l := h
theorem BRow.set {w : World} {B : Nat} {l : List UInt8} (h : BRow w B l) (i : Nat) (hi : i < l.length) (a : UInt8) : BRow (w.setCell ⟨B, i, none⟩ (.int .u8 (a.toNat : Int))) B (l.set i a) := by
  refine ⟨by simp only [World.setCell, Array.size_modify]; exact h.1, fun j hj => ⟨?_, ?_⟩⟩
  · by_cases e : i = j
    · subst e
      rw [World.cell?_setCell_same _ _ _ (h.2 i hi).1]
      simp
    · rw [World.cell?_setCell_other _ _ _ _ (by simp), (h.2 j (by simpa using hj)).1]
      simp [e]
  · rw [World.frozen?_setCell]
    exact (h.2 j (by simpa using hj)).2

/-- What the first k swaps make. -/
def part (o : List UInt8) (k : Nat) : List UInt8 := (List.range o.length).map fun j => if j < k ∨ o.length - k ≤ j then o.getD (o.length - 1 - j) 0 else o.getD j 0
theorem part_len (o : List UInt8) (k : Nat) : (part o k).length = o.length := by simp [part]
theorem part_zero (o : List UInt8) : part o 0 = o := by
  apply List.ext_getElem
  · simp [part]
  · intro i h1 h2
    simp [part, h2]
    omega
theorem part_at (o : List UInt8) (k j : Nat) (h : j < (part o k).length) : (part o k)[j] = if j < k ∨ o.length - k ≤ j then o.getD (o.length - 1 - j) 0 else o.getD j 0 := by simp [part]
theorem part_swap (o : List UInt8) (k : Nat) (h : k < o.length / 2) : ((part o k).set k (o.getD (o.length - 1 - k) 0)).set (o.length - 1 - k) (o.getD k 0) = part o (k + 1) := by
  apply List.ext_getElem
  · simp [part]
  · intro i h1 h2
    simp only [List.getElem_set, part_at]
    simp [part] at h1
    split
    · rename_i e
      subst e
      rw [if_pos (.inr (by omega))]
      congr 1; omega
    · split
      · rename_i e; subst e
        rw [if_pos (.inl (by omega))]
      · by_cases c : i < k ∨ o.length - k ≤ i
        · rw [if_pos c, if_pos (by omega)]
        · rw [if_neg c, if_neg (by omega)]
theorem part_end (o : List UInt8) : part o (o.length / 2) = o.reverse := by
  apply List.ext_getElem
  · simp [part]
  · intro i h1 h2
    rw [part_at]
    simp at h2
    simp only [List.getElem_reverse]
    by_cases c : i < o.length / 2 ∨ o.length - o.length / 2 ≤ i
    · rw [if_pos c, List.getD_eq_getElem?_getD, List.getElem?_eq_getElem (by omega)]; rfl
    · rw [if_neg c, List.getD_eq_getElem?_getD, List.getElem?_eq_getElem (by omega)]
      simp only [Option.getD_some]
      congr 1; omega

theorem brow_start (w : World) (l : List UInt8) (cap : Nat) :
    BRow (w.alloc (.cells (bytesRow (bs l) cap) 5 ((bytesRow (bs l) cap).size, (bytesRow (bs l) cap).size + 1))).drew w.heap.size l := by
  refine ⟨by simp, fun j hj => ⟨?_, ?_⟩⟩
  · show (w.alloc _).cell? _ = _
    rw [World.cell?_alloc_mark, bytesRow_at (bs l) cap j (by simpa [bs] using hj)]
    simp [bs]
  · show (w.alloc _).frozen? _ = _
    rw [World.frozen?_alloc_mark, decide_eq_false (by simp [bytesRow, bs]; omega)]
    rfl

set_option maxRecDepth 100000 in
theorem reversed_any (s : List UInt8) (w : World) (hs : (bs s).size ≤ 9223372036854775807) :
    Calls Try.prog 8 #[.string (bs s)] w fun e w' => e = .returned (.string (bs s.reverse)) ∧ Ext w w' := by
  have hconv := run_bytes_of_string (P := Try.prog) w 9 33 5 (bs s) Try.underlying9 Try.underlying33 Try.underlying5
  generalize hcap : grownCap w (bs s).size 0 5 = cap at hconv
  obtain ⟨n, hn⟩ : ∃ n, (bs s).size = n := ⟨_, rfl⟩
  have hsn : s.length = n := by rw [← hn, bs_size]
  rw [hn] at hconv hs
  have Hn := Lib.hid hn
  have Hsn := Lib.hid hsn
  clear hn hsn hcap
  go_enter Try.func8, Try.ntmps8
  go_wp2
  go_loopg [4] (n / 2) (fun g i wr => ∃ k : Nat, k + g = n / 2 ∧ i = .int .i64 k ∧ BRow wr w.heap.size (part s k) ∧ Ext w wr)
  case atStart => exact ⟨0, by omega, rfl, by rw [part_zero]; exact brow_start w s cap, ((Ext.refl w).alloc _).drew⟩
  case round =>
    obtain ⟨k, hk, rfl, hrow, hext⟩ := hrel
    have hpl : (part s k).length = n := by rw [part_len, Hsn.out]
    cases gk with
    | zero =>
      have hlt : ¬ (k : Int) < (n : Int) / 2 := by omega
      have hback : (convert 33 9 (.slice (some ⟨w.heap.size, 0, none⟩) n cap)).run Try.prog wr = .ok (.string (bs s.reverse)) wr := by
        have h := run_convert_bytes_back (P := Try.prog) wr 33 9 5 ⟨w.heap.size, 0, none⟩ cap (part s k) Try.underlying33 Try.underlying5 Try.underlying9 (fun j hj => by
          have e : (⟨w.heap.size, 0, none⟩ : Addr).add j = ⟨w.heap.size, j, none⟩ := by
            unfold Addr.add; split <;> simp_all
          rw [e]; exact (hrow.2 j hj).1)
        rw [hpl] at h
        rw [h]
        have hk2 : part s k = s.reverse := by
          rw [← part_end s, Hsn.out]
          have e : k = n / 2 := by omega
          rw [e]
        rw [hk2]; rfl
      clear hrow
      go_wp2
      go_ret
      exact ⟨rfl, hext⟩
    | succ g =>
      have hlt : (k : Int) < (n : Int) / 2 := by omega
      have hkn : k < n := by omega
      have hjn : n - 1 - k < n := by omega
      have c1 := (hrow.2 k (by omega)).1
      have f1 := (hrow.2 k (by omega)).2
      have c2 := (hrow.2 (n - 1 - k) (by omega)).1
      have f2 := (hrow.2 (n - 1 - k) (by omega)).2
      rw [part_at] at c1 c2
      have Hpl := Lib.hid hpl
      have Hrow := Lib.hid hrow
      clear hrow hpl
      have x1 : part s k = part s k := rfl
      have d1 : ¬ (k < k ∨ s.length - k ≤ k) := by rw [Hsn.out]; omega
      have d2 : ¬ (n - 1 - k < k ∨ s.length - k ≤ n - 1 - k) := by rw [Hsn.out]; omega
      rw [if_neg d1] at c1
      rw [if_neg d2] at c2
      clear d1 d2 x1
      generalize ha : s.getD k 0 = a at c1
      generalize hb : s.getD (n - 1 - k) 0 = b at c2
      have Ha := Lib.hid ha
      have Hb := Lib.hid hb
      clear ha hb
      have e1 : ((n : Int) - 1 - (k : Int)).toNat = n - 1 - k := by omega
      have e2 : (0 : Int) ≤ (n : Int) - 1 - (k : Int) := by omega
      have e3 : (n : Int) - 1 - (k : Int) < (n : Int) := by omega
      have e4 : (k : Int) < (n : Int) := by omega
      have e5 : k ≠ n - 1 - k := by omega
      go_wp2_with fail
      go_region
      go_wp2_with fail
      go_roundg g
      case measure => omega
      case rel =>
        refine ⟨k + 1, by omega, by go_num, ?_, ?_⟩
        · rw [← part_swap s k (by rw [Hsn.out]; omega), Hsn.out, Ha.out, Hb.out]
          have h1 := Hrow.out.set k (by rw [Hpl.out]; omega) b
          have h2 := h1.set (n - 1 - k) (by rw [List.length_set, Hpl.out]; omega) a
          exact h2.drewN _
        · exact ((hext.setCell (by simp) _).setCell (by simp) _).drewN _
end Go.Proofs.Ytkgkejihdfgpkaa
