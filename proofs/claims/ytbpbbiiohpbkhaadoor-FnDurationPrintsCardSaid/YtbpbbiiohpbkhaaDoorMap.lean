/- The contracts of unitToMillis and unitOrder. -/
import Derived.Test.YtbpbbiiohpbkhaaDoorBase
import Derived.Maps.Own
import Derived.Maps.OwnOps
namespace Go.Proofs.YtbpbbiiohpbkhaaDoor
open Go.RowKit Go.Maps Go.WideMaps Go.WideElems

/-- The names of the units, the greatest first, and their milliseconds. -/
def uName : Nat → List UInt8
  | 0 => [100]
  | 1 => [104]
  | 2 => [109]
  | 3 => [115]
  | _ => [109, 115]
def uMs : Nat → Int
  | 0 => 86400000
  | 1 => 3600000
  | 2 => 60000
  | 3 => 1000
  | _ => 1

noncomputable def unitD : DataW Unit :=
  (((((DataW.map []).put (.string [100]) (.lit (.int .i64 86400000))).put (.string [104]) (.lit (.int .i64 3600000))).put (.string [109]) (.lit (.int .i64 60000))).put (.string [115]) (.lit (.int .i64 1000))).put (.string [109, 115]) (.lit (.int .i64 1))
theorem unitD_at (k : Nat) : unitD.atKey (.string (uName k)) (.lit (.int .i64 0)) = .lit (.int .i64 (uMs k)) := by
  match k with
  | 0 => rfl
  | 1 => rfl
  | 2 => rfl
  | 3 => rfl
  | k + 4 => rfl

theorem unitMap_any (w : World) :
    Calls Tryd.prog 14 #[] w fun e w' => e = .returned (.map (some w.heap.size)) ∧ w'.ownsMap Tryd.prog 9 (plainElem (H := Unit) Tryd.prog 2) w.heap.size 5 unitD ∧ Ext w w' := by
  have hmm := @run_makeMap Tryd.prog
  have h0 := World.ownsMap_made (H := Unit) w Tryd.prog 9 (plainElem Tryd.prog 2)
  have K := string_keyed Tryd.underlying9
  obtain ⟨w1, r1, h1, g1⟩ := h0.update K Tryd.underlying45 (by simp [maxLen]) (key := .string ⟨#[100]⟩) (val := .int .i64 86400000) (keyOf_string_mk Tryd.underlying9 (by decide)) (plainElem_int Tryd.underlying2 (by decide))
  obtain ⟨w2, r2, h2, g2⟩ := h1.update K Tryd.underlying45 (by simp [maxLen]) (key := .string ⟨#[104]⟩) (val := .int .i64 3600000) (keyOf_string_mk Tryd.underlying9 (by decide)) (plainElem_int Tryd.underlying2 (by decide))
  obtain ⟨w3, r3, h3, g3⟩ := h2.update K Tryd.underlying45 (by simp [maxLen]) (key := .string ⟨#[109]⟩) (val := .int .i64 60000) (keyOf_string_mk Tryd.underlying9 (by decide)) (plainElem_int Tryd.underlying2 (by decide))
  obtain ⟨w4, r4, h4, g4⟩ := h3.update K Tryd.underlying45 (by simp [maxLen]) (key := .string ⟨#[115]⟩) (val := .int .i64 1000) (keyOf_string_mk Tryd.underlying9 (by decide)) (plainElem_int Tryd.underlying2 (by decide))
  obtain ⟨w5, r5, h5, g5⟩ := h4.update K Tryd.underlying45 (by simp [maxLen]) (key := .string ⟨#[109, 115]⟩) (val := .int .i64 1) (keyOf_string_mk Tryd.underlying9 (by decide)) (plainElem_int Tryd.underlying2 (by decide))
  have hext : Ext w w5 := by
    have e0 : Ext w (w.alloc (.map #[] 0)) := (Ext.refl w).alloc _
    have hr : ∀ k, some w.heap.size = some k → w.heap.size ≤ k := fun k hk => by cases hk; exact Nat.le_refl _
    exact ((((e0.grown g1 hr).grown g2 hr).grown g3 hr).grown g4 hr).grown g5 hr
  have H5 := Lib.hid h5
  have Hx := Lib.hid hext
  clear h0 h1 h2 h3 h4 h5 g1 g2 g3 g4 g5 hext K
  go_enter Tryd.func14, Tryd.ntmps14
  go_wp2
  go_ret
  exact ⟨rfl, H5.out, Hx.out⟩

def unitCells : Array Value := #[.string (bs (uName 0)), .string (bs (uName 1)), .string (bs (uName 2)), .string (bs (uName 3)), .string (bs (uName 4))]
theorem unitOrder_any (w : World) :
    Calls Tryd.prog 13 #[] w fun e w' => e = .returned (.slice (some ⟨w.heap.size, 0, none⟩) 5 5) ∧ w.alloc (.cells unitCells 9) = w' := by
  go_enter Tryd.func13, Tryd.ntmps13
  go_wp2
  go_ret
  exact ⟨rfl, rfl⟩
theorem unitCells_at (j : Nat) (h : j < 5) : unitCells[j]? = some (.string (bs (uName j))) := by
  match j, h with
  | 0, _ => rfl
  | 1, _ => rfl
  | 2, _ => rfl
  | 3, _ => rfl
  | 4, _ => rfl

theorem zzMillis_any (n : Int) (w : World) :
    Calls Tryd.prog 10 #[.agg #[.int .i64 n]] w fun e w' => e = .returned (.int .i64 n) ∧ Ext w w' := by
  go_enter Tryd.func10, Tryd.ntmps10
  go_wp2
  go_ret
  exact ⟨rfl, (Ext.refl w).alloc _⟩
end Go.Proofs.YtbpbbiiohpbkhaaDoor
