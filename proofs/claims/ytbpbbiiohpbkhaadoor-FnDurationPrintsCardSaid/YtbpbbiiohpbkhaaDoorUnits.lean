/- The contracts of impl.ParseDuration where it succeeds, and of units. -/
import Derived.Test.YtbpbbiiohpbkhaaDoorParse
import Derived.Test.YtbpbbiiohpbkhaaDoorDigits
import Derived.Deep.RegionWith
namespace Go.Proofs.YtbpbbiiohpbkhaaDoor
open Go.RowKit

theorem implParse_ok (n : Nat) (s : List UInt8) (T : Int) (w : World) (hs : (bs s).size ≤ 1000) (h2 : 2 ≤ (bs s).size) (hr : okRun n s 0 0 0 false T) (hneg : s.head? ≠ some 45) (hT : T ≤ 9223372036854775807) :
    Calls Tryd.prog 6 #[.string (bs s)] w fun e w' => e = .returned (.tuple #[.int .i64 T, .bool true]) ∧ Ext w w' := by
  have Hc := Lib.hid (fun wx => parse_ok n s T wx hs h2 hr hneg hT)
  clear hr hneg h2 hs hT
  go_enter Tryd.func6, Tryd.ntmps6
  go_wp2_with fail
  refine (Hc.out _).mono ?_
  rintro e w1 ⟨rfl, hx⟩
  go_wp2_with fail
  go_region_with (go_at_call 10; refine (zzMillis_any _ _).mono ?_; rintro e w2 ⟨rfl, hx2⟩)
  all_goals
    go_wp2_with fail
    go_ret2
    exact ⟨rfl, ((hx.alloc _).drew).trans hx2⟩
abbrev sizeV : Value := .agg #[.int .i64 86400000, .int .i64 3600000, .int .i64 60000, .int .i64 1000, .int .i64 1]
abbrev nameV : Value := .agg #[.string (bs (uName 0)), .string (bs (uName 1)), .string (bs (uName 2)), .string (bs (uName 3)), .string (bs (uName 4))]
theorem units_any (w : World) :
    Calls Tryd.prog 5 #[] w fun e w' => e = .returned (.tuple #[nameV, sizeV]) ∧ Ext w w' := by
  go_enter Tryd.func5, Tryd.ntmps5
  go_wp2
  refine bodyPost_ret (v := .tuple #[nameV, sizeV]) (by simp [results, Tryd.results5, go_sem]; exact ⟨rfl, rfl, rfl, rfl, rfl⟩) rfl ⟨rfl, ?_⟩
  exact ((Ext.refl w).alloc _).alloc _
end Go.Proofs.YtbpbbiiohpbkhaaDoor
