/- The walk of FnDurationUnits. -/
import Derived.Test.YtbpbbiiohpbkhaaDoorUnits
import Derived.Test.YtbpbbiiohpbkhaaDoorLaw
import Derived.Deep.DeepCutAuto
import Derived.OpenShut
namespace Go.Proofs.YtbpbbiiohpbkhaaDoor
open Go.RowKit

theorem wrap_u64_in (n : Int) (h0 : 0 ≤ n) (h1 : n < 18446744073709551616) : IntKind.u64.wrap n = n := by
  unfold IntKind.wrap
  simp only [IntKind.bits, IntKind.signed]
  simp
  omega
theorem parse_unit (N k : Nat) (hk : k < 5) (h : N * uMs k ≤ MaxI) (wx : World) :
    Calls Tryd.prog 6 #[.string (bs (dec N) ++ bs (uName k))] wx fun e w' => e = .returned (.tuple #[.int .i64 (N * uMs k), .bool true]) ∧ Ext wx w' := by
  have hN : N < 18446744073709551616 := by
    have hp := uMs_pos k
    have h0 : (N : Int) * 1 ≤ N * uMs k := Int.mul_le_mul_of_nonneg_left hp (by omega)
    unfold MaxI at h
    omega
  have h1 := dec_len N hN
  have h2 : (uName k).length ≤ 2 := by unfold uName; split <;> simp
  have h3 : 1 ≤ (uName k).length := by unfold uName; split <;> simp
  have h4 := List.length_pos_iff.2 (dec_ne N)
  rw [bs_append]
  exact implParse_ok _ _ _ wx (by rw [bs_size, List.length_append]; omega) (by rw [bs_size, List.length_append]; omega) (okRun_one N k hk h) (dec_head N _) h

set_option maxHeartbeats 2000000 in
set_option maxRecDepth 100000 in
theorem units0 (N : Nat) (u : Int) (w : World) (hN : N < 18446744073709551616) (hu0 : 0 ≤ u) (hu1 : u ≤ 255) (hk : u % 4 = 0) :
    Calls Tryd.prog 3 #[.int .u64 (N : Int), .int .u8 u] w fun e w' => e = .returned (.bool true) ∧ Ext w w' := by
  by_cases hbig : 106751991167 < (N : Int)
  · go_enter Tryd.func3, Tryd.ntmps3
    go_wp2_with fail
    refine (units_any _).mono ?_
    rintro e w1 ⟨rfl, hx⟩
    go_wp2_with fail
    go_quiet (fail)
    go_wp2_with fail
    go_ret
    exact ⟨rfl, ((hx.alloc _).alloc _).drewN _⟩
  · have hbig' : (N : Int) ≤ 106751991167 := by omega
    have hu4 : (0 : Int) ≤ u % 4 := by omega
    have hp1 := parse_unit N 0 (by omega) (by unfold MaxI; simp only [uMs]; omega)
    have hp2 := parse_unit (N * 24) 1 (by omega) (by unfold MaxI; simp only [uMs]; omega)
    have ht : ((N * 24 : Nat) : Int) * uMs 1 = (N : Int) * uMs 0 := by simp only [uMs]; omega
    rw [ht] at hp2
    have hm : uMs 0 = 86400000 := rfl
    rw [hm] at hp1 hp2
    have Hp1 := Lib.hid hp1
    have Hp2 := Lib.hid hp2
    have Hd1 := Lib.hid (fun wx => digits_any N wx hN)
    have hd2 := fun wx => digits_any (N * 24) wx (by omega)
    have hcast : ((N * 24 : Nat) : Int) = (N : Int) * 24 := by omega
    rw [hcast] at hd2
    have Hd2 := Lib.hid hd2
    have hs1 : (bs (dec N)).size ≤ 20 := by rw [bs_size]; exact dec_len N hN
    have hs2 : (bs (dec (N * 24))).size ≤ 20 := by rw [bs_size]; exact dec_len _ (by omega)
    have hs3 : (bs (uName 0)).size ≤ 2 := by rw [bs_size]; simp [uName]
    have hs4 : (bs (uName 1)).size ≤ 2 := by rw [bs_size]; simp [uName]
    have hw1 : IntKind.u64.wrap ((N : Int) * 24) = (N : Int) * 24 := wrap_u64_in _ (by omega) (by omega)
    have hNN : N < 9223372036854775808 := by omega
    clear hp1 hp2 ht hm hd2 hcast
    go_enter Tryd.func3, Tryd.ntmps3
    go_wp2_with fail
    refine (units_any _).mono ?_
    rintro e w1 ⟨rfl, hx⟩
    go_wp2_with fail
    go_quiet (fail)
    go_wp2_with fail
    have hxW : Ext w ((((w1.alloc (.cells #[.string (bs (uName 0)), .string (bs (uName 1)), .string (bs (uName 2)), .string (bs (uName 3)), .string (bs (uName 4))] 23)).alloc (.cells #[.int .i64 86400000, .int .i64 3600000, .int .i64 60000, .int .i64 1000, .int .i64 1] 24))).drewN nq) := ((hx.alloc _).alloc _).drewN _
    have c1 : ((((w1.alloc (.cells #[.string (bs (uName 0)), .string (bs (uName 1)), .string (bs (uName 2)), .string (bs (uName 3)), .string (bs (uName 4))] 23)).alloc (.cells #[.int .i64 86400000, .int .i64 3600000, .int .i64 60000, .int .i64 1000, .int .i64 1] 24))).drewN nq).cell? ⟨w1.heap.size, 0, none⟩ = some (.string (bs (uName 0))) := by simp
    have c2 : ((((w1.alloc (.cells #[.string (bs (uName 0)), .string (bs (uName 1)), .string (bs (uName 2)), .string (bs (uName 3)), .string (bs (uName 4))] 23)).alloc (.cells #[.int .i64 86400000, .int .i64 3600000, .int .i64 60000, .int .i64 1000, .int .i64 1] 24))).drewN nq).cell? ⟨w1.heap.size, 1, none⟩ = some (.string (bs (uName 1))) := by simp
    have c3 : ((((w1.alloc (.cells #[.string (bs (uName 0)), .string (bs (uName 1)), .string (bs (uName 2)), .string (bs (uName 3)), .string (bs (uName 4))] 23)).alloc (.cells #[.int .i64 86400000, .int .i64 3600000, .int .i64 60000, .int .i64 1000, .int .i64 1] 24))).drewN nq).cell? ⟨w1.heap.size + 1, 0, none⟩ = some (.int .i64 86400000) := by simp
    have hsz : w1.heap.size + 1 < ((((w1.alloc (.cells #[.string (bs (uName 0)), .string (bs (uName 1)), .string (bs (uName 2)), .string (bs (uName 3)), .string (bs (uName 4))] 23)).alloc (.cells #[.int .i64 86400000, .int .i64 3600000, .int .i64 60000, .int .i64 1000, .int .i64 1] 24))).drewN nq).heap.size := by simp
    generalize ((((w1.alloc (.cells #[.string (bs (uName 0)), .string (bs (uName 1)), .string (bs (uName 2)), .string (bs (uName 3)), .string (bs (uName 4))] 23)).alloc (.cells #[.int .i64 86400000, .int .i64 3600000, .int .i64 60000, .int .i64 1000, .int .i64 1] 24))).drewN nq) = W at hxW c1 c2 c3 hsz ⊢
    rw [hk]
    clear hk hu4
    go_cut [9, 10] (fun a o wc => a = .int .i64 ((N : Int) * 86400000) ∧ o = .bool true ∧ Ext W wc)
    case first =>
      go_region_with (first | (go_at_call 7; refine (Hd1.out _).mono ?_; rintro e w2 ⟨rfl, hx2⟩; have c1' := (Below.cell hx2 (p := ⟨w1.heap.size, 0, none⟩) (Nat.lt_trans (Nat.lt_succ_self _) hsz)).trans c1) | (go_at_call 6; refine (Hp1.out _).mono ?_; rintro e w3 ⟨rfl, hx3⟩))
      all_goals
        go_wp2_with fail
        go_meet
      all_goals exact ⟨rfl, rfl, ((Ext.refl W).drew.trans hx2).trans hx3⟩
    case rest =>
      obtain ⟨rfl, rfl, hxc⟩ := hcut
      have c2c := (Below.cell hxc (p := ⟨w1.heap.size, 1, none⟩) (Nat.lt_trans (Nat.lt_succ_self _) hsz)).trans c2
      have c3c := (Below.cell hxc (p := ⟨w1.heap.size + 1, 0, none⟩) hsz).trans c3
      have hszc : w1.heap.size + 1 < wc.heap.size := Nat.lt_of_lt_of_le hsz hxc.size
      have hxV : Ext w wc := hxW.trans hxc
      clear c1 c2 c3 hsz hxW hxc
      go_wp2_with fail
      go_cut [11, 12] (fun a o wd => a = .int .i64 ((N : Int) * 86400000) ∧ o = .bool true ∧ Ext wc wd)
      case first =>
        go_region_with (first | (go_at_call 7; refine (Hd2.out _).mono ?_; rintro e w2 ⟨rfl, hx2⟩; have c2' := (Below.cell hx2 (p := ⟨w1.heap.size, 1, none⟩) (Nat.lt_trans (Nat.lt_succ_self _) hszc)).trans c2c) | (go_at_call 6; refine (Hp2.out _).mono ?_; rintro e w3 ⟨rfl, hx3⟩))
        all_goals
          go_wp2_with fail
          go_meet
        all_goals exact ⟨rfl, rfl, ((Ext.refl _).drew.trans hx2).trans hx3⟩
      case rest =>
        obtain ⟨rfl, rfl, hxd⟩ := hcut
        have c3d := (Below.cell hxd (p := ⟨w1.heap.size + 1, 0, none⟩) hszc).trans c3c
        go_wp2_with fail
        go_ret
        exact ⟨rfl, hxV.trans hxd⟩

set_option maxHeartbeats 2000000 in
set_option maxRecDepth 100000 in
theorem units1 (N : Nat) (u : Int) (w : World) (hN : N < 18446744073709551616) (hu0 : 0 ≤ u) (hu1 : u ≤ 255) (hk : u % 4 = 1) :
    Calls Tryd.prog 3 #[.int .u64 (N : Int), .int .u8 u] w fun e w' => e = .returned (.bool true) ∧ Ext w w' := by
  by_cases hbig : 2562047788015 < (N : Int)
  · go_enter Tryd.func3, Tryd.ntmps3
    go_wp2_with fail
    refine (units_any _).mono ?_
    rintro e w1 ⟨rfl, hx⟩
    go_wp2_with fail
    go_quiet (fail)
    go_wp2_with fail
    go_ret
    exact ⟨rfl, ((hx.alloc _).alloc _).drewN _⟩
  · have hbig' : (N : Int) ≤ 2562047788015 := by omega
    have hu4 : (0 : Int) ≤ u % 4 := by omega
    have hp1 := parse_unit N 1 (by omega) (by unfold MaxI; simp only [uMs]; omega)
    have hp2 := parse_unit (N * 60) 2 (by omega) (by unfold MaxI; simp only [uMs]; omega)
    have ht : ((N * 60 : Nat) : Int) * uMs 2 = (N : Int) * uMs 1 := by simp only [uMs]; omega
    rw [ht] at hp2
    have hm : uMs 1 = 3600000 := rfl
    rw [hm] at hp1 hp2
    have Hp1 := Lib.hid hp1
    have Hp2 := Lib.hid hp2
    have Hd1 := Lib.hid (fun wx => digits_any N wx hN)
    have hd2 := fun wx => digits_any (N * 60) wx (by omega)
    have hcast : ((N * 60 : Nat) : Int) = (N : Int) * 60 := by omega
    rw [hcast] at hd2
    have Hd2 := Lib.hid hd2
    have hs1 : (bs (dec N)).size ≤ 20 := by rw [bs_size]; exact dec_len N hN
    have hs2 : (bs (dec (N * 60))).size ≤ 20 := by rw [bs_size]; exact dec_len _ (by omega)
    have hs3 : (bs (uName 1)).size ≤ 2 := by rw [bs_size]; simp [uName]
    have hs4 : (bs (uName 2)).size ≤ 2 := by rw [bs_size]; simp [uName]
    have hw1 : IntKind.u64.wrap ((N : Int) * 60) = (N : Int) * 60 := wrap_u64_in _ (by omega) (by omega)
    have hNN : N < 9223372036854775808 := by omega
    clear hp1 hp2 ht hm hd2 hcast
    go_enter Tryd.func3, Tryd.ntmps3
    go_wp2_with fail
    refine (units_any _).mono ?_
    rintro e w1 ⟨rfl, hx⟩
    go_wp2_with fail
    go_quiet (fail)
    go_wp2_with fail
    have hxW : Ext w ((((w1.alloc (.cells #[.string (bs (uName 0)), .string (bs (uName 1)), .string (bs (uName 2)), .string (bs (uName 3)), .string (bs (uName 4))] 23)).alloc (.cells #[.int .i64 86400000, .int .i64 3600000, .int .i64 60000, .int .i64 1000, .int .i64 1] 24))).drewN nq) := ((hx.alloc _).alloc _).drewN _
    have c1 : ((((w1.alloc (.cells #[.string (bs (uName 0)), .string (bs (uName 1)), .string (bs (uName 2)), .string (bs (uName 3)), .string (bs (uName 4))] 23)).alloc (.cells #[.int .i64 86400000, .int .i64 3600000, .int .i64 60000, .int .i64 1000, .int .i64 1] 24))).drewN nq).cell? ⟨w1.heap.size, 1, none⟩ = some (.string (bs (uName 1))) := by simp
    have c2 : ((((w1.alloc (.cells #[.string (bs (uName 0)), .string (bs (uName 1)), .string (bs (uName 2)), .string (bs (uName 3)), .string (bs (uName 4))] 23)).alloc (.cells #[.int .i64 86400000, .int .i64 3600000, .int .i64 60000, .int .i64 1000, .int .i64 1] 24))).drewN nq).cell? ⟨w1.heap.size, 2, none⟩ = some (.string (bs (uName 2))) := by simp
    have c3 : ((((w1.alloc (.cells #[.string (bs (uName 0)), .string (bs (uName 1)), .string (bs (uName 2)), .string (bs (uName 3)), .string (bs (uName 4))] 23)).alloc (.cells #[.int .i64 86400000, .int .i64 3600000, .int .i64 60000, .int .i64 1000, .int .i64 1] 24))).drewN nq).cell? ⟨w1.heap.size + 1, 1, none⟩ = some (.int .i64 3600000) := by simp
    have hsz : w1.heap.size + 1 < ((((w1.alloc (.cells #[.string (bs (uName 0)), .string (bs (uName 1)), .string (bs (uName 2)), .string (bs (uName 3)), .string (bs (uName 4))] 23)).alloc (.cells #[.int .i64 86400000, .int .i64 3600000, .int .i64 60000, .int .i64 1000, .int .i64 1] 24))).drewN nq).heap.size := by simp
    generalize ((((w1.alloc (.cells #[.string (bs (uName 0)), .string (bs (uName 1)), .string (bs (uName 2)), .string (bs (uName 3)), .string (bs (uName 4))] 23)).alloc (.cells #[.int .i64 86400000, .int .i64 3600000, .int .i64 60000, .int .i64 1000, .int .i64 1] 24))).drewN nq) = W at hxW c1 c2 c3 hsz ⊢
    rw [hk]
    clear hk hu4
    go_cut [9, 10] (fun a o wc => a = .int .i64 ((N : Int) * 3600000) ∧ o = .bool true ∧ Ext W wc)
    case first =>
      go_region_with (first | (go_at_call 7; refine (Hd1.out _).mono ?_; rintro e w2 ⟨rfl, hx2⟩; have c1' := (Below.cell hx2 (p := ⟨w1.heap.size, 1, none⟩) (Nat.lt_trans (Nat.lt_succ_self _) hsz)).trans c1) | (go_at_call 6; refine (Hp1.out _).mono ?_; rintro e w3 ⟨rfl, hx3⟩))
      all_goals
        go_wp2_with fail
        go_meet
      all_goals exact ⟨rfl, rfl, ((Ext.refl W).drew.trans hx2).trans hx3⟩
    case rest =>
      obtain ⟨rfl, rfl, hxc⟩ := hcut
      have c2c := (Below.cell hxc (p := ⟨w1.heap.size, 2, none⟩) (Nat.lt_trans (Nat.lt_succ_self _) hsz)).trans c2
      have c3c := (Below.cell hxc (p := ⟨w1.heap.size + 1, 1, none⟩) hsz).trans c3
      have hszc : w1.heap.size + 1 < wc.heap.size := Nat.lt_of_lt_of_le hsz hxc.size
      have hxV : Ext w wc := hxW.trans hxc
      clear c1 c2 c3 hsz hxW hxc
      go_wp2_with fail
      go_cut [11, 12] (fun a o wd => a = .int .i64 ((N : Int) * 3600000) ∧ o = .bool true ∧ Ext wc wd)
      case first =>
        go_region_with (first | (go_at_call 7; refine (Hd2.out _).mono ?_; rintro e w2 ⟨rfl, hx2⟩; have c2' := (Below.cell hx2 (p := ⟨w1.heap.size, 2, none⟩) (Nat.lt_trans (Nat.lt_succ_self _) hszc)).trans c2c) | (go_at_call 6; refine (Hp2.out _).mono ?_; rintro e w3 ⟨rfl, hx3⟩))
        all_goals
          go_wp2_with fail
          go_meet
        all_goals exact ⟨rfl, rfl, ((Ext.refl _).drew.trans hx2).trans hx3⟩
      case rest =>
        obtain ⟨rfl, rfl, hxd⟩ := hcut
        have c3d := (Below.cell hxd (p := ⟨w1.heap.size + 1, 1, none⟩) hszc).trans c3c
        go_wp2_with fail
        go_ret
        exact ⟨rfl, hxV.trans hxd⟩

set_option maxHeartbeats 2000000 in
set_option maxRecDepth 100000 in
theorem units2 (N : Nat) (u : Int) (w : World) (hN : N < 18446744073709551616) (hu0 : 0 ≤ u) (hu1 : u ≤ 255) (hk : u % 4 = 2) :
    Calls Tryd.prog 3 #[.int .u64 (N : Int), .int .u8 u] w fun e w' => e = .returned (.bool true) ∧ Ext w w' := by
  by_cases hbig : 153722867280912 < (N : Int)
  · go_enter Tryd.func3, Tryd.ntmps3
    go_wp2_with fail
    refine (units_any _).mono ?_
    rintro e w1 ⟨rfl, hx⟩
    go_wp2_with fail
    go_quiet (fail)
    go_wp2_with fail
    go_ret
    exact ⟨rfl, ((hx.alloc _).alloc _).drewN _⟩
  · have hbig' : (N : Int) ≤ 153722867280912 := by omega
    have hu4 : (0 : Int) ≤ u % 4 := by omega
    have hp1 := parse_unit N 2 (by omega) (by unfold MaxI; simp only [uMs]; omega)
    have hp2 := parse_unit (N * 60) 3 (by omega) (by unfold MaxI; simp only [uMs]; omega)
    have ht : ((N * 60 : Nat) : Int) * uMs 3 = (N : Int) * uMs 2 := by simp only [uMs]; omega
    rw [ht] at hp2
    have hm : uMs 2 = 60000 := rfl
    rw [hm] at hp1 hp2
    have Hp1 := Lib.hid hp1
    have Hp2 := Lib.hid hp2
    have Hd1 := Lib.hid (fun wx => digits_any N wx hN)
    have hd2 := fun wx => digits_any (N * 60) wx (by omega)
    have hcast : ((N * 60 : Nat) : Int) = (N : Int) * 60 := by omega
    rw [hcast] at hd2
    have Hd2 := Lib.hid hd2
    have hs1 : (bs (dec N)).size ≤ 20 := by rw [bs_size]; exact dec_len N hN
    have hs2 : (bs (dec (N * 60))).size ≤ 20 := by rw [bs_size]; exact dec_len _ (by omega)
    have hs3 : (bs (uName 2)).size ≤ 2 := by rw [bs_size]; simp [uName]
    have hs4 : (bs (uName 3)).size ≤ 2 := by rw [bs_size]; simp [uName]
    have hw1 : IntKind.u64.wrap ((N : Int) * 60) = (N : Int) * 60 := wrap_u64_in _ (by omega) (by omega)
    have hNN : N < 9223372036854775808 := by omega
    clear hp1 hp2 ht hm hd2 hcast
    go_enter Tryd.func3, Tryd.ntmps3
    go_wp2_with fail
    refine (units_any _).mono ?_
    rintro e w1 ⟨rfl, hx⟩
    go_wp2_with fail
    go_quiet (fail)
    go_wp2_with fail
    have hxW : Ext w ((((w1.alloc (.cells #[.string (bs (uName 0)), .string (bs (uName 1)), .string (bs (uName 2)), .string (bs (uName 3)), .string (bs (uName 4))] 23)).alloc (.cells #[.int .i64 86400000, .int .i64 3600000, .int .i64 60000, .int .i64 1000, .int .i64 1] 24))).drewN nq) := ((hx.alloc _).alloc _).drewN _
    have c1 : ((((w1.alloc (.cells #[.string (bs (uName 0)), .string (bs (uName 1)), .string (bs (uName 2)), .string (bs (uName 3)), .string (bs (uName 4))] 23)).alloc (.cells #[.int .i64 86400000, .int .i64 3600000, .int .i64 60000, .int .i64 1000, .int .i64 1] 24))).drewN nq).cell? ⟨w1.heap.size, 2, none⟩ = some (.string (bs (uName 2))) := by simp
    have c2 : ((((w1.alloc (.cells #[.string (bs (uName 0)), .string (bs (uName 1)), .string (bs (uName 2)), .string (bs (uName 3)), .string (bs (uName 4))] 23)).alloc (.cells #[.int .i64 86400000, .int .i64 3600000, .int .i64 60000, .int .i64 1000, .int .i64 1] 24))).drewN nq).cell? ⟨w1.heap.size, 3, none⟩ = some (.string (bs (uName 3))) := by simp
    have c3 : ((((w1.alloc (.cells #[.string (bs (uName 0)), .string (bs (uName 1)), .string (bs (uName 2)), .string (bs (uName 3)), .string (bs (uName 4))] 23)).alloc (.cells #[.int .i64 86400000, .int .i64 3600000, .int .i64 60000, .int .i64 1000, .int .i64 1] 24))).drewN nq).cell? ⟨w1.heap.size + 1, 2, none⟩ = some (.int .i64 60000) := by simp
    have hsz : w1.heap.size + 1 < ((((w1.alloc (.cells #[.string (bs (uName 0)), .string (bs (uName 1)), .string (bs (uName 2)), .string (bs (uName 3)), .string (bs (uName 4))] 23)).alloc (.cells #[.int .i64 86400000, .int .i64 3600000, .int .i64 60000, .int .i64 1000, .int .i64 1] 24))).drewN nq).heap.size := by simp
    generalize ((((w1.alloc (.cells #[.string (bs (uName 0)), .string (bs (uName 1)), .string (bs (uName 2)), .string (bs (uName 3)), .string (bs (uName 4))] 23)).alloc (.cells #[.int .i64 86400000, .int .i64 3600000, .int .i64 60000, .int .i64 1000, .int .i64 1] 24))).drewN nq) = W at hxW c1 c2 c3 hsz ⊢
    rw [hk]
    clear hk hu4
    go_cut [9, 10] (fun a o wc => a = .int .i64 ((N : Int) * 60000) ∧ o = .bool true ∧ Ext W wc)
    case first =>
      go_region_with (first | (go_at_call 7; refine (Hd1.out _).mono ?_; rintro e w2 ⟨rfl, hx2⟩; have c1' := (Below.cell hx2 (p := ⟨w1.heap.size, 2, none⟩) (Nat.lt_trans (Nat.lt_succ_self _) hsz)).trans c1) | (go_at_call 6; refine (Hp1.out _).mono ?_; rintro e w3 ⟨rfl, hx3⟩))
      all_goals
        go_wp2_with fail
        go_meet
      all_goals exact ⟨rfl, rfl, ((Ext.refl W).drew.trans hx2).trans hx3⟩
    case rest =>
      obtain ⟨rfl, rfl, hxc⟩ := hcut
      have c2c := (Below.cell hxc (p := ⟨w1.heap.size, 3, none⟩) (Nat.lt_trans (Nat.lt_succ_self _) hsz)).trans c2
      have c3c := (Below.cell hxc (p := ⟨w1.heap.size + 1, 2, none⟩) hsz).trans c3
      have hszc : w1.heap.size + 1 < wc.heap.size := Nat.lt_of_lt_of_le hsz hxc.size
      have hxV : Ext w wc := hxW.trans hxc
      clear c1 c2 c3 hsz hxW hxc
      go_wp2_with fail
      go_cut [11, 12] (fun a o wd => a = .int .i64 ((N : Int) * 60000) ∧ o = .bool true ∧ Ext wc wd)
      case first =>
        go_region_with (first | (go_at_call 7; refine (Hd2.out _).mono ?_; rintro e w2 ⟨rfl, hx2⟩; have c2' := (Below.cell hx2 (p := ⟨w1.heap.size, 3, none⟩) (Nat.lt_trans (Nat.lt_succ_self _) hszc)).trans c2c) | (go_at_call 6; refine (Hp2.out _).mono ?_; rintro e w3 ⟨rfl, hx3⟩))
        all_goals
          go_wp2_with fail
          go_meet
        all_goals exact ⟨rfl, rfl, ((Ext.refl _).drew.trans hx2).trans hx3⟩
      case rest =>
        obtain ⟨rfl, rfl, hxd⟩ := hcut
        have c3d := (Below.cell hxd (p := ⟨w1.heap.size + 1, 2, none⟩) hszc).trans c3c
        go_wp2_with fail
        go_ret
        exact ⟨rfl, hxV.trans hxd⟩

set_option maxHeartbeats 2000000 in
set_option maxRecDepth 100000 in
theorem units3 (N : Nat) (u : Int) (w : World) (hN : N < 18446744073709551616) (hu0 : 0 ≤ u) (hu1 : u ≤ 255) (hk : u % 4 = 3) :
    Calls Tryd.prog 3 #[.int .u64 (N : Int), .int .u8 u] w fun e w' => e = .returned (.bool true) ∧ Ext w w' := by
  by_cases hbig : 9223372036854775 < (N : Int)
  · go_enter Tryd.func3, Tryd.ntmps3
    go_wp2_with fail
    refine (units_any _).mono ?_
    rintro e w1 ⟨rfl, hx⟩
    go_wp2_with fail
    go_quiet (fail)
    go_wp2_with fail
    go_ret
    exact ⟨rfl, ((hx.alloc _).alloc _).drewN _⟩
  · have hbig' : (N : Int) ≤ 9223372036854775 := by omega
    have hu4 : (0 : Int) ≤ u % 4 := by omega
    have hp1 := parse_unit N 3 (by omega) (by unfold MaxI; simp only [uMs]; omega)
    have hp2 := parse_unit (N * 1000) 4 (by omega) (by unfold MaxI; simp only [uMs]; omega)
    have ht : ((N * 1000 : Nat) : Int) * uMs 4 = (N : Int) * uMs 3 := by simp only [uMs]; omega
    rw [ht] at hp2
    have hm : uMs 3 = 1000 := rfl
    rw [hm] at hp1 hp2
    have Hp1 := Lib.hid hp1
    have Hp2 := Lib.hid hp2
    have Hd1 := Lib.hid (fun wx => digits_any N wx hN)
    have hd2 := fun wx => digits_any (N * 1000) wx (by omega)
    have hcast : ((N * 1000 : Nat) : Int) = (N : Int) * 1000 := by omega
    rw [hcast] at hd2
    have Hd2 := Lib.hid hd2
    have hs1 : (bs (dec N)).size ≤ 20 := by rw [bs_size]; exact dec_len N hN
    have hs2 : (bs (dec (N * 1000))).size ≤ 20 := by rw [bs_size]; exact dec_len _ (by omega)
    have hs3 : (bs (uName 3)).size ≤ 2 := by rw [bs_size]; simp [uName]
    have hs4 : (bs (uName 4)).size ≤ 2 := by rw [bs_size]; simp [uName]
    have hw1 : IntKind.u64.wrap ((N : Int) * 1000) = (N : Int) * 1000 := wrap_u64_in _ (by omega) (by omega)
    have hNN : N < 9223372036854775808 := by omega
    clear hp1 hp2 ht hm hd2 hcast
    go_enter Tryd.func3, Tryd.ntmps3
    go_wp2_with fail
    refine (units_any _).mono ?_
    rintro e w1 ⟨rfl, hx⟩
    go_wp2_with fail
    go_quiet (fail)
    go_wp2_with fail
    have hxW : Ext w ((((w1.alloc (.cells #[.string (bs (uName 0)), .string (bs (uName 1)), .string (bs (uName 2)), .string (bs (uName 3)), .string (bs (uName 4))] 23)).alloc (.cells #[.int .i64 86400000, .int .i64 3600000, .int .i64 60000, .int .i64 1000, .int .i64 1] 24))).drewN nq) := ((hx.alloc _).alloc _).drewN _
    have c1 : ((((w1.alloc (.cells #[.string (bs (uName 0)), .string (bs (uName 1)), .string (bs (uName 2)), .string (bs (uName 3)), .string (bs (uName 4))] 23)).alloc (.cells #[.int .i64 86400000, .int .i64 3600000, .int .i64 60000, .int .i64 1000, .int .i64 1] 24))).drewN nq).cell? ⟨w1.heap.size, 3, none⟩ = some (.string (bs (uName 3))) := by simp
    have c2 : ((((w1.alloc (.cells #[.string (bs (uName 0)), .string (bs (uName 1)), .string (bs (uName 2)), .string (bs (uName 3)), .string (bs (uName 4))] 23)).alloc (.cells #[.int .i64 86400000, .int .i64 3600000, .int .i64 60000, .int .i64 1000, .int .i64 1] 24))).drewN nq).cell? ⟨w1.heap.size, 4, none⟩ = some (.string (bs (uName 4))) := by simp
    have c3 : ((((w1.alloc (.cells #[.string (bs (uName 0)), .string (bs (uName 1)), .string (bs (uName 2)), .string (bs (uName 3)), .string (bs (uName 4))] 23)).alloc (.cells #[.int .i64 86400000, .int .i64 3600000, .int .i64 60000, .int .i64 1000, .int .i64 1] 24))).drewN nq).cell? ⟨w1.heap.size + 1, 3, none⟩ = some (.int .i64 1000) := by simp
    have hsz : w1.heap.size + 1 < ((((w1.alloc (.cells #[.string (bs (uName 0)), .string (bs (uName 1)), .string (bs (uName 2)), .string (bs (uName 3)), .string (bs (uName 4))] 23)).alloc (.cells #[.int .i64 86400000, .int .i64 3600000, .int .i64 60000, .int .i64 1000, .int .i64 1] 24))).drewN nq).heap.size := by simp
    generalize ((((w1.alloc (.cells #[.string (bs (uName 0)), .string (bs (uName 1)), .string (bs (uName 2)), .string (bs (uName 3)), .string (bs (uName 4))] 23)).alloc (.cells #[.int .i64 86400000, .int .i64 3600000, .int .i64 60000, .int .i64 1000, .int .i64 1] 24))).drewN nq) = W at hxW c1 c2 c3 hsz ⊢
    rw [hk]
    clear hk hu4
    go_cut [9, 10] (fun a o wc => a = .int .i64 ((N : Int) * 1000) ∧ o = .bool true ∧ Ext W wc)
    case first =>
      go_region_with (first | (go_at_call 7; refine (Hd1.out _).mono ?_; rintro e w2 ⟨rfl, hx2⟩; have c1' := (Below.cell hx2 (p := ⟨w1.heap.size, 3, none⟩) (Nat.lt_trans (Nat.lt_succ_self _) hsz)).trans c1) | (go_at_call 6; refine (Hp1.out _).mono ?_; rintro e w3 ⟨rfl, hx3⟩))
      all_goals
        go_wp2_with fail
        go_meet
      all_goals exact ⟨rfl, rfl, ((Ext.refl W).drew.trans hx2).trans hx3⟩
    case rest =>
      obtain ⟨rfl, rfl, hxc⟩ := hcut
      have c2c := (Below.cell hxc (p := ⟨w1.heap.size, 4, none⟩) (Nat.lt_trans (Nat.lt_succ_self _) hsz)).trans c2
      have c3c := (Below.cell hxc (p := ⟨w1.heap.size + 1, 3, none⟩) hsz).trans c3
      have hszc : w1.heap.size + 1 < wc.heap.size := Nat.lt_of_lt_of_le hsz hxc.size
      have hxV : Ext w wc := hxW.trans hxc
      clear c1 c2 c3 hsz hxW hxc
      go_wp2_with fail
      go_cut [11, 12] (fun a o wd => a = .int .i64 ((N : Int) * 1000) ∧ o = .bool true ∧ Ext wc wd)
      case first =>
        go_region_with (first | (go_at_call 7; refine (Hd2.out _).mono ?_; rintro e w2 ⟨rfl, hx2⟩; have c2' := (Below.cell hx2 (p := ⟨w1.heap.size, 4, none⟩) (Nat.lt_trans (Nat.lt_succ_self _) hszc)).trans c2c) | (go_at_call 6; refine (Hp2.out _).mono ?_; rintro e w3 ⟨rfl, hx3⟩))
        all_goals
          go_wp2_with fail
          go_meet
        all_goals exact ⟨rfl, rfl, ((Ext.refl _).drew.trans hx2).trans hx3⟩
      case rest =>
        obtain ⟨rfl, rfl, hxd⟩ := hcut
        have c3d := (Below.cell hxd (p := ⟨w1.heap.size + 1, 3, none⟩) hszc).trans c3c
        go_wp2_with fail
        go_ret
        exact ⟨rfl, hxV.trans hxd⟩

theorem fnDurationUnits_walk (a0 a1 : Int) (w : World) (w0 : (Lit.int .u64 a0).wf = true) (w1 : (Lit.int .u8 a1).wf = true) :
    Calls Tryd.prog 3 #[.int .u64 a0, .int .u8 a1] w fun e w' => e = .returned (.bool true) ∧ Ext w w' := by
  have b0 := Go.bounds_u64 w0
  have b1 := Go.bounds_u8 w1
  obtain ⟨N, rfl⟩ := Int.eq_ofNat_of_zero_le b0.1
  have h4 : a1 % 4 = 0 ∨ a1 % 4 = 1 ∨ a1 % 4 = 2 ∨ a1 % 4 = 3 := by omega
  rcases h4 with h | h | h | h
  · exact units0 N a1 w (by omega) b1.1 b1.2 h
  · exact units1 N a1 w (by omega) b1.1 b1.2 h
  · exact units2 N a1 w (by omega) b1.1 b1.2 h
  · exact units3 N a1 w (by omega) b1.1 b1.2 h
end Go.Proofs.YtbpbbiiohpbkhaaDoor
