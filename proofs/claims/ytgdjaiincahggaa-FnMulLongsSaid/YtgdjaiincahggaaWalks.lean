/- Contracts of the functions that the statements of this seat reach. -/
import Derived.Test.YtgdjaiincahggaaRows
import Derived.WalkKit
import Derived.ProofKit
import Derived.WalkLawsBesides
import Derived.WalkSpells
import Derived.Outline
import Derived.Lib.Hide
import Derived.Below
namespace Go.Proofs.Ytgdjaiincahggaa
open Go.RowKit

/-- The world 'w'' is 'w' with new blocks, and draws made: of what was there nothing turns. -/
def Ext (w w' : World) : Prop := Below w.heap.size w w'
theorem Ext.refl (w : World) : Ext w w := Below.refl _ _
theorem Ext.trans {a b c : World} (h : Ext a b) (k : Ext b c) : Ext a c := Below.trans h (Below.mono k h.size)
theorem Ext.alloc {a w : World} (h : Ext a w) (o : Obj) : Ext a (w.alloc o) := Below.alloc h h.size o
theorem Ext.drew {a w : World} (h : Ext a w) : Ext a w.drew := Below.drew h
theorem Ext.setCell {a w : World} (h : Ext a w) {p : Addr} (hp : a.heap.size ≤ p.block) (u : Value) : Ext a (w.setCell p u) := Below.setCell h hp u

theorem zzDecimal_any (n : Int) (w : World) :
    Calls Try.prog 9 #[.int .i64 n] w fun e w' => e = .returned (.agg #[.int .i64 n]) ∧ Ext w w' := by
  go_enter Try.func9, Try.ntmps9
  go_wp2
  exact bodyPost_ret (v := .agg #[.int .i64 n]) (by simp [results, Try.results9, go_sem]) rfl ⟨rfl, (Ext.refl _).alloc _⟩

def cmpInt (a b : Int) : Int := if a < b then -1 else if b < a then 1 else 0

theorem decCompare_any (a b : Int) (w : World) :
    Calls Try.prog 10 #[.agg #[.int .i64 a], .agg #[.int .i64 b]] w fun e w' => e = .returned (.int .i64 (cmpInt a b)) ∧ Ext w w' := by
  rcases Int.lt_trichotomy a b with h | h | h
  · have h2 : ¬ b < a := by omega
    go_enter Try.func10, Try.ntmps10
    go_wp2
    go_ret
    exact ⟨by simp [cmpInt, h], ((Ext.refl _).alloc _).alloc _⟩
  · subst h
    go_enter Try.func10, Try.ntmps10
    go_wp2
    go_ret
    exact ⟨by simp [cmpInt], ((Ext.refl _).alloc _).alloc _⟩
  · have h2 : ¬ a < b := by omega
    go_enter Try.func10, Try.ntmps10
    go_wp2
    go_ret
    exact ⟨by simp [cmpInt, h, h2], ((Ext.refl _).alloc _).alloc _⟩

theorem decimalOrder_any (a b : Int) (w : World) :
    Calls Try.prog 5 #[.int .i64 a, .int .i64 b] w fun e w' => e = .returned (.int .i64 (cmpInt a b)) ∧ Ext w w' := by
  go_enter Try.func5, Try.ntmps5
  go_wp2_with fail
  refine (zzDecimal_any _ _).mono ?_; rintro e w1 ⟨rfl, g1⟩
  go_wp2_with fail
  refine (zzDecimal_any _ _).mono ?_; rintro e w2 ⟨rfl, g2⟩
  go_wp2_with fail
  refine (decCompare_any _ _ _).mono ?_; rintro e w3 ⟨rfl, g3⟩
  go_wp2_with fail
  go_ret
  exact ⟨rfl, g1.trans (g2.trans g3)⟩

theorem fnDecimalOrder_walk (a0 a1 : Int) (w : World) (_h0 : (Lit.int .i64 a0).wf = true) (_h1 : (Lit.int .i64 a1).wf = true) :
    Calls Try.prog 3 #[.int .i64 a0, .int .i64 a1] w fun e w' => e = .returned (.bool true) ∧ Ext w w' := by
  rcases Int.lt_trichotomy a0 a1 with h | h | h
  · have h2 : ¬ a1 < a0 := by omega
    have H : Hid (cmpInt a0 a1 = -1) := Lib.hid (by simp [cmpInt, h])
    go_enter Try.func3, Try.ntmps3
    go_wp2_with fail
    refine (decimalOrder_any _ _ _).mono ?_; rintro e w1 ⟨rfl, g1⟩
    rw [H.out]
    go_wp2_with fail
    go_ret
    exact ⟨rfl, g1⟩
  · subst h
    have H : Hid (cmpInt a0 a0 = 0) := Lib.hid (by simp [cmpInt])
    go_enter Try.func3, Try.ntmps3
    go_wp2_with fail
    refine (decimalOrder_any _ _ _).mono ?_; rintro e w1 ⟨rfl, g1⟩
    rw [H.out]
    go_wp2_with fail
    go_ret
    exact ⟨rfl, g1⟩
  · have h2 : ¬ a0 < a1 := by omega
    have H : Hid (cmpInt a0 a1 = 1) := Lib.hid (by simp [cmpInt, h, h2])
    go_enter Try.func3, Try.ntmps3
    go_wp2_with fail
    refine (decimalOrder_any _ _ _).mono ?_; rintro e w1 ⟨rfl, g1⟩
    rw [H.out]
    go_wp2_with fail
    go_ret
    exact ⟨rfl, g1⟩

end Go.Proofs.Ytgdjaiincahggaa
