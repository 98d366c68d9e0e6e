/- The contracts of Unescape and reads7. -/
import Derived.Test.YtggodjppecljnaaDoorRUnq
import Derived.Laws.IdiomStrings
import Derived.BigRegion
namespace Go.Proofs.YtggodjppecljnaaDoorR
open Go.RowKit

theorem brow_start (w : World) (l : List UInt8) (cap : Nat) :
    BRow (w.alloc (.cells (bytesRow (bs l) cap) 5 ((bytesRow (bs l) cap).size, (bytesRow (bs l) cap).size + 1))).drew w.heap.size 0 l := by
  refine ⟨by simp, fun j hj => ?_⟩
  show (w.alloc _).cell? _ = _
  rw [Nat.zero_add, World.cell?_alloc_mark, bytesRow_at (bs l) cap j (by simpa [bs] using hj)]
  simp [bs]

theorem cap_ge (w : World) (n old e : Nat) (_h : n ≤ maxLen) : n ≤ grownCap w n old e := by
  simp only [grownCap, Question.cut]
  omega

/-- What Unescape hands back. -/
def unescV (o : Option (List UInt8 × List UInt8)) : Value := match o with
  | none => .tuple #[.string ⟨#[]⟩, .string ⟨#[]⟩, .bool false]
  | some (out, rest) => .tuple #[.string (bs out), .string (bs rest), .bool true]

set_option maxRecDepth 100000 in
theorem unescape_any (star : Bool) (s : List UInt8) (w : World) (hT : Tabs w) (hl : s.length ≤ 1000000) :
    Calls Tryd.prog 5 #[.string (bs s), .bool star] w fun e w' => e = .returned (unescV (unq star (s.length + 1) [] s)) ∧ Ext w w' := by
  have hconv := run_bytes_of_string (P := Tryd.prog) w 9 30 5 (bs s) Tryd.underlying9 Tryd.underlying30 Tryd.underlying5
  have hcap := cap_ge w (bs s).size 0 5 (by rw [bs_size, maxLen]; omega)
  generalize grownCap w (bs s).size 0 5 = cap at hconv hcap
  obtain ⟨wc, hwc⟩ : ∃ wc, (w.alloc (.cells (bytesRow (bs s) cap) 5 ((bytesRow (bs s) cap).size, (bytesRow (bs s) cap).size + 1))).drew = wc := ⟨_, rfl⟩
  have xc : Ext w wc := by rw [← hwc]; exact ((Ext.refl w).alloc _).drew
  have hB : BRow wc w.heap.size 0 s := by rw [← hwc]; exact brow_start w s cap
  rw [bs_size] at hconv hcap
  have hconv' : (convert 9 30 (.string (bs s))).run Tryd.prog w = .ok (.slice (some ⟨w.heap.size, 0, none⟩) s.length cap) wc := by rw [hconv, ← hwc]; rfl
  have U := unquote_any star s w.heap.size 0 cap wc (hT.ext xc) hB hcap (by omega)
  obtain ⟨o, ho⟩ : ∃ o, unq star (s.length + 1) [] s = o := ⟨_, rfl⟩
  rw [ho] at U ⊢
  clear hconv ho hwc
  cases o with
  | none =>
    go_enter Tryd.func5, Tryd.ntmps5
    go_wp2_with fail
    refine U.mono ?_
    rintro e w2 ⟨⟨a, rfl⟩, x2⟩
    have hback : (convert 30 9 (.slice none 0 0)).run Tryd.prog w2.drew = .ok (.string ⟨#[]⟩) w2.drew := by
      rw [run_convert_bytes_string w2.drew 30 9 5 none 0 0 Tryd.underlying30 Tryd.underlying5 Tryd.underlying9]
      rfl
    go_wp2_with fail
    go_region_with fail
    all_goals
      go_wp2_with fail
      go_ret3
      exact ⟨rfl, (xc.trans x2).drew⟩
  | some p =>
    obtain ⟨out, rest⟩ := p
    go_enter Tryd.func5, Tryd.ntmps5
    go_wp2_with fail
    refine U.mono ?_
    rintro e w2 ⟨⟨off, cp, h1, h2, rfl⟩, x2⟩
    have h3 := h2.ext x2
    have hback : (convert 30 9 (.slice (some ⟨w.heap.size, off, none⟩) rest.length cp)).run Tryd.prog w2.drew = .ok (.string (bs rest)) w2.drew :=
      run_convert_bytes_back w2.drew 30 9 5 ⟨w.heap.size, off, none⟩ cp rest Tryd.underlying30 Tryd.underlying5 Tryd.underlying9 (fun j hj => by
        have e : (⟨w.heap.size, off, none⟩ : Addr).add j = ⟨w.heap.size, off + j, none⟩ := by
          unfold Addr.add; split <;> simp_all
        rw [e]; exact h3.2 j hj)
    go_wp2_with fail
    go_region_with fail
    all_goals
      go_wp2_with fail
      go_ret3
      exact ⟨rfl, (xc.trans x2).drew⟩

theorem unq_a : unq false 2 [] [97] = some ([97], []) := by
  have h : nx [97] = some (97, 1) := nx_ascii 97 [] (by decide)
  simp [unq, h]
  rfl

theorem reads7_any (w : World) (hT : Tabs w) :
    Calls Tryd.prog 6 #[] w fun e w' => e = .returned (.bool true) ∧ Ext w w' := by
  have U := unescape_any false [97] w hT (by simp)
  rw [show ([97] : List UInt8).length + 1 = 2 from rfl, unq_a] at U
  have e : bs [97] = ⟨#[97]⟩ := rfl
  simp only [unescV, e] at U
  go_enter Tryd.func6, Tryd.ntmps6
  go_wp2_with fail
  refine U.mono ?_
  rintro e w2 ⟨rfl, x2⟩
  go_wp2_with fail
  go_ret
  exact ⟨rfl, x2⟩
end Go.Proofs.YtggodjppecljnaaDoorR
