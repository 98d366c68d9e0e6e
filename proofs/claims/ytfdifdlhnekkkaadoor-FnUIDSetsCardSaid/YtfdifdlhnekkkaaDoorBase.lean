/- Small words for the walks of this seat: worlds, strings. -/
import Derived.Test.YtfdifdlhnekkkaaDoorRows
import Derived.WalkKit
import Derived.ProofKit
import Derived.WalkLawsBesides
import Derived.WalkSpells
import Derived.Outline
import Derived.Lib.Hide
import Derived.Below
import Derived.RegionTactic
import Derived.ChangeAlike
import Derived.Deep.QuietTactic
import Derived.BigQuiet
import Derived.Deep.LoopGhost
import Derived.Lib.Strings
import Derived.Laws.AppendOwn
import Derived.Laws.OwnMore
import Derived.Maps.AppendAt
namespace Go.Proofs.YtfdifdlhnekkkaaDoor
open Go.RowKit

/-- The world 'w'' is 'w' with new blocks, and draws made: of what was there nothing turns. -/
def Ext (w w' : World) : Prop := Below w.heap.size w w'
theorem Ext.refl (w : World) : Ext w w := Below.refl _ _
theorem Ext.trans {a b c : World} (h : Ext a b) (k : Ext b c) : Ext a c := Below.trans h (Below.mono k h.size)
theorem Ext.alloc {a w : World} (h : Ext a w) (o : Obj) : Ext a (w.alloc o) := Below.alloc h h.size o
theorem Ext.drew {a w : World} (h : Ext a w) : Ext a w.drew := Below.drew h
theorem Ext.setCell {a w : World} (h : Ext a w) {p : Addr} (hp : a.heap.size ≤ p.block) (u : Value) : Ext a (w.setCell p u) := Below.setCell h hp u
theorem Ext.drewN {a w : World} (h : Ext a w) (n : Nat) : Ext a (w.drewN n) := ⟨h.os, h.tape, h.output, h.size, h.block⟩

/-- The string of a list of bytes. -/
def bs (l : List UInt8) : ByteArray := ⟨l.toArray⟩
theorem bs_size (l : List UInt8) : (bs l).size = l.length := by simp [bs, ByteArray.size]
theorem bs_of (s : ByteArray) : s = bs s.data.toList := rfl
theorem bs_toList (l : List UInt8) : (bs l).data.toList = l := rfl
theorem bs_nil : (⟨#[]⟩ : ByteArray) = bs [] := rfl
theorem bs_tail (l : List UInt8) : (bs l).extract 1 (bs l).size = bs (l.drop 1) := by
  apply ByteArray.ext
  apply Array.toList_inj.1
  rw [Lib.extract_data, bs_toList, bs_toList, bs_size, List.take_of_length_le (by simp)]
theorem bs_head (a : UInt8) (l : List UInt8) (h : 0 < (bs (a :: l)).size) : (bs (a :: l))[0] = a := rfl
theorem bs_isEmpty (l : List UInt8) : (bs l).toList.isEmpty = l.isEmpty := by rw [Lib.toList_data]; rfl
theorem bs_append (a b : List UInt8) : bs a ++ bs b = bs (a ++ b) := by
  apply ByteArray.ext
  apply Array.toList_inj.1
  simp [bs]

theorem Ext.grown {a w w' : World} {row : Option Nat} (h : Ext a w) (hg : w.grownBy w' row) (hr : ∀ k, row = some k → a.heap.size ≤ k) : Ext a w' := Below.grown h hg h.size hr
theorem own_shape {w : World} {base e size n : Nat} {v : Value} {xs : List Value} (h : w.ownsRow base e size v n xs) :
    (v = .slice none 0 0 ∧ n = 0 ∧ xs = []) ∨ ∃ g cap, v = .slice (some ⟨g, 0, none⟩) n cap ∧ base ≤ g ∧ g < w.heap.size ∧ n ≤ cap ∧ cap ≤ maxLen := by
  obtain ⟨h1, h2⟩ := h
  rcases h2 with ⟨hv, hn⟩ | ⟨g, cap, cur, hv, hb, hg, hn, hc, _⟩
  · subst hn
    exact .inl ⟨hv, rfl, List.eq_nil_of_length_eq_zero (by simpa using h1)⟩
  · exact .inr ⟨g, cap, hv, hb, (Array.getElem?_eq_some_iff.1 hg).1, hn, hc⟩
theorem own_ext {w w' : World} {base e size n : Nat} {v : Value} {xs : List Value} (h : w.ownsRow base e size v n xs) (x : Ext w w') : w'.ownsRow base e size v n xs := by
  obtain ⟨h1, h2⟩ := h
  refine ⟨h1, ?_⟩
  rcases h2 with h2 | ⟨g, cap, cur, hv, hb, hg, r⟩
  · exact .inl h2
  · exact .inr ⟨g, cap, cur, hv, hb, by rw [Below.block x g (Array.getElem?_eq_some_iff.1 hg).1]; exact hg, r⟩
theorem own_mono {w : World} {base b' e size n : Nat} {v : Value} {xs : List Value} (h : w.ownsRow base e size v n xs) (hb : b' ≤ base) : w.ownsRow b' e size v n xs := by
  obtain ⟨h1, h2⟩ := h
  refine ⟨h1, ?_⟩
  rcases h2 with h2 | ⟨g, cap, cur, hv, hb', r⟩
  · exact .inl h2
  · exact .inr ⟨g, cap, cur, hv, by omega, r⟩
theorem own_block {w : World} {base e size n : Nat} {v : Value} {xs : List Value} (h : w.ownsRow base e size v n xs) : ∀ k, v.ownBlock = some k → base ≤ k :=
  fun k hk => (h.lt k hk).1

theorem Ext.grownOwn {a w w' wx : World} {base e size n : Nat} {v : Value} {xs : List Value} (h : Ext a w) (hg : w.grownBy w' v.ownBlock) (hown : wx.ownsRow base e size v n xs) (hb : a.heap.size ≤ base) : Ext a w' :=
  h.grown hg fun k hk => Nat.le_trans hb (own_block hown k hk)

/-- A slice, nil or not, with one cell an element, that holds these values. -/
def VRow (w : World) (v : Value) (xs : List Value) : Prop :=
  (v = .slice none 0 0 ∧ xs = []) ∨
  ∃ b off cap, v = .slice (some ⟨b, off, none⟩) xs.length cap ∧ xs.length ≤ maxLen ∧ ∀ i (h : i < xs.length), w.cell? ⟨b, off + i, none⟩ = some xs[i]
theorem VRow.ext {w w' : World} {v : Value} {xs : List Value} (h : VRow w v xs) (e : Ext w w') : VRow w' v xs := by
  rcases h with h | ⟨b, off, cap, hv, hm, hc⟩
  · exact .inl h
  · refine .inr ⟨b, off, cap, hv, hm, fun i hi => ?_⟩
    have h1 := hc i hi
    rw [Below.cell e (World.block_lt_of_cell? w _ h1)]
    exact h1
theorem VRow.of_own {w : World} {base e n : Nat} {v : Value} {xs : List Value} (h : w.ownsRow base e 1 v n xs) : VRow w v xs := by
  have hl : xs.length = n := by simpa using h.1
  rcases own_shape h with ⟨hv, _, hx⟩ | ⟨g, cap, hv, _, _, hn, hc⟩
  · exact .inl ⟨hv, hx⟩
  · subst hv
    refine .inr ⟨g, 0, cap, by rw [hl], by omega, fun i hi => ?_⟩
    rw [Nat.zero_add, h.cellAt i (by omega)]
    exact List.getElem?_eq_getElem hi
/-- A slice with two cells an element. -/
def VRow2 (w : World) (v : Value) (n : Nat) (xs : List Value) : Prop :=
  xs.length = n * 2 ∧ ((v = .slice none 0 0 ∧ n = 0) ∨
  ∃ b off cap, v = .slice (some ⟨b, off, none⟩) n cap ∧ n ≤ maxLen ∧ ∀ i (h : i < xs.length), w.cell? ⟨b, off + i, none⟩ = some xs[i])
theorem VRow2.ext {w w' : World} {v : Value} {n : Nat} {xs : List Value} (h : VRow2 w v n xs) (e : Ext w w') : VRow2 w' v n xs := by
  obtain ⟨h0, h⟩ := h
  refine ⟨h0, ?_⟩
  rcases h with h | ⟨b, off, cap, hv, hm, hc⟩
  · exact .inl h
  · refine .inr ⟨b, off, cap, hv, hm, fun i hi => ?_⟩
    have h1 := hc i hi
    rw [Below.cell e (World.block_lt_of_cell? w _ h1)]
    exact h1
theorem VRow2.of_own {w : World} {base e n : Nat} {v : Value} {xs : List Value} (h : w.ownsRow base e 2 v n xs) : VRow2 w v n xs := by
  refine ⟨h.1, ?_⟩
  rcases own_shape h with ⟨hv, hn, _⟩ | ⟨g, cap, hv, _, _, hn, hc⟩
  · exact .inl ⟨hv, hn⟩
  · subst hv
    refine .inr ⟨g, 0, cap, rfl, by omega, fun i hi => ?_⟩
    rw [Nat.zero_add, h.cellAt i (by have := h.1; omega)]
    exact List.getElem?_eq_getElem hi
end Go.Proofs.YtfdifdlhnekkkaaDoor
