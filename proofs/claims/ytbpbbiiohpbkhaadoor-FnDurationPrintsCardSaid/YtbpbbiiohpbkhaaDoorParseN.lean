/- The contract of ParseDuration where it succeeds on a text with a minus sign. -/
import Derived.Test.YtbpbbiiohpbkhaaDoorParse
namespace Go.Proofs.YtbpbbiiohpbkhaaDoor
open Go.RowKit Go.Maps Go.WideMaps Go.WideElems

set_option maxHeartbeats 1000000 in
set_option maxRecDepth 100000 in
theorem parse_neg (n : Nat) (s s' : List UInt8) (T : Int) (w : World) (hs : (bs s).size ≤ 1000) (h2 : 2 ≤ (bs s).size) (hr : okRun n s' 0 0 0 false T) (hneg : s = 45 :: s') (hT : T ≤ 9223372036854775807) :
    Calls Tryd.prog 9 #[.string (bs s)] w fun e w' => e = .returned (.tuple #[.agg #[.int .i64 (-T)], .nilIface]) ∧ Ext w w' := by
  obtain ⟨hi0, hb0⟩ := bs_at s 0 45 s' (by simpa using hneg)
  have hb0' : (bs s)[0].toNat = 45 := hb0 hi0
  have hd0 : s.drop 1 = s' := by rw [hneg]; rfl
  have Hd0 := Lib.hid hd0
  have Hr := Lib.hid hr
  clear hr hneg hb0 hd0
  go_enter Tryd.func9, Tryd.ntmps9
  go_wp2_with fail
  go_loopg [4, 5, 7, 8, 10] n (fun g i u t v h wr => ∃ (ii uu : Nat) (tt vv : Int) (hh : Bool), i = .int .i64 ii ∧ u = .int .i64 uu ∧ t = .int .i64 tt ∧ v = .int .i64 vv ∧ h = .bool hh ∧ ii ≤ (bs s).size ∧ uu ≤ 5 ∧ 0 ≤ tt ∧ tt ≤ 9223372036854775807 ∧ 0 ≤ vv ∧ vv ≤ 9223372036854775807 ∧ Hid (okRun g (s.drop ii) uu tt vv hh T) ∧ Ext (w.alloc (.cells #[.int .i64 0] 34)) wr)
  case atStart => exact ⟨1, 0, 0, 0, false, by go_num, rfl, rfl, rfl, rfl, by omega, by omega, by omega, by omega, by omega, by omega, Lib.hid (by rw [Hd0.out]; exact Hr.out), Ext.refl _⟩
  case round =>
    obtain ⟨ii, uu, tt, vv, hh, rfl, rfl, rfl, rfl, rfl, hii, huu, ht0, ht1, hv0, hv1, HR, hext⟩ := hrel
    have hR := HR.out
    cases gk with
    | zero =>
      obtain ⟨hl, rfl, rfl⟩ := hR
      have hend : ¬ (ii : Int) < ((bs s).size : Int) := by
        have := congrArg List.length hl
        rw [bs_size]
        simp at this
        omega
      have hc : wr.cell? ⟨w.heap.size, 0, none⟩ = some (.int .i64 0) := by rw [Below.cell hext (by simp)]; simp
      have hf : wr.frozen? ⟨w.heap.size, 0, none⟩ = false := by
        rw [Below.frozen hext (by simp)]; exact World.frozen?_alloc_new _ _ _ _
      clear HR hl
      go_wp2_with fail
      refine bodyPost_ret (v := .tuple #[.agg #[.int .i64 (-tt)], .nilIface]) (by simp [results, Tryd.results9, go_sem, World.cell?_setCell_same _ _ _ hc]) rfl ⟨rfl, ?_⟩
      exact (((Ext.refl w).alloc _).trans hext).setCell (by simp) _
    | succ g =>
      rcases hR with ⟨c, r, hl, hd, hu5, hv, hrest⟩ | ⟨k, r, hl, hk2, huk, hk5, rfl, hv, ht, hrest⟩
      · -- a digit
        obtain ⟨hi, hb⟩ := bs_at s ii c r hl
        have hb' := hb hi
        have hrd : s.drop (ii + 1) = r := by rw [← List.drop_drop, hl]; rfl
        rw [← hrd] at hrest
        have Hrest := Lib.hid hrest
        unfold isDigit at hd
        obtain ⟨hd1, hd2⟩ := hd
        have hd1' : (48 : Int) ≤ (c.toNat : Int) := by omega
        have hd2' : (c.toNat : Int) ≤ 57 := by omega
        unfold MaxI at hv
        have hlt : (ii : Int) < ((bs s).size : Int) := by omega
        have hlt5 : (uu : Int) < 5 := by omega
        clear hl hrest hb hrd HR
        go_wp2_with (go_at_call 13; refine (unitOrder_any _).mono ?_; rintro e w1 ⟨rfl, rfl⟩)
        go_roundg g
        case measure => omega
        case rel => exact ⟨ii + 1, uu, tt, vv * 10 + ((c.toNat : Int) - 48), true, by go_num, rfl, rfl, rfl, rfl, by omega, huu, ht0, ht1, by omega, by omega, Hrest, hext.alloc _⟩
      · -- a unit
        unfold MaxI at hv ht
        match k, hk5, hl, hk2, huk, hv, ht, hrest with
        | 0, _, hl, hk2, huk, hv, ht, hrest =>
          simp only [uName, uMs, List.cons_append, List.nil_append] at hl hv ht hrest
          obtain ⟨hi, hb⟩ := bs_at s ii 100 r hl
          have hb' : (bs s)[ii].toNat = 100 := hb hi
          have hrd : s.drop (ii + 1) = r := by rw [← List.drop_drop, hl]; rfl
          rw [← hrd] at hrest
          have Hrest := Lib.hid hrest
          have hlt : (ii : Int) < ((bs s).size : Int) := by omega
          have hlt5 : (uu : Int) < 5 := by omega
          have hex : (bs s).extract ii (ii + 1) = bs (uName 0) := by
            apply ByteArray.ext
            apply Array.toList_inj.1
            rw [Lib.extract_data, bs_toList, bs_toList, hl]
            simp [uName]
          have hname : True := trivial
          clear hl hrest hb hrd HR hk2
          go_wp2_with (go_at_call 13; refine (unitOrder_any _).mono ?_; rintro e w1 ⟨rfl, rfl⟩)
          go_loopg [5, 12] (0 + 2 - uu) (fun g2 u o wy => ∃ (j : Nat) (ok : Bool), u = .int .i64 j ∧ o = .bool ok ∧ Hid ((ok = false ∧ j ≤ 0 ∧ g2 = 0 + 2 - j) ∨ (ok = true ∧ j = 0 + 1)) ∧ j ≤ 5 ∧ Ext (wr.alloc (.cells unitCells 9)) wy)
          case atStart => exact ⟨uu, false, rfl, rfl, Lib.hid (.inl ⟨rfl, huk, rfl⟩), by omega, Ext.refl _⟩
          case round =>
            obtain ⟨j, ok, rfl, rfl, HJ, hj5, hext2⟩ := hrel
            cases ok with
            | false =>
              obtain ⟨hj, hg2⟩ : j ≤ 0 ∧ gk = 0 + 2 - j := by
                rcases HJ.out with ⟨_, a, b⟩ | ⟨a, _⟩
                · exact ⟨a, b⟩
                · cases a
              have Hg2 := Lib.hid hg2
              clear hg2
              have hjlt : (j : Int) < 5 := by omega
              have hcj := unitCells_at j (by omega)
              by_cases hjk : j = 0
              · have hcmp : ((bs (uName 0)).toList == (bs (uName j)).toList) = true := by rw [uName_inj j 0 (by omega) (by omega)]; exact decide_eq_true hjk
                have Hjk := Lib.hid hjk
                clear hjk
                go_wp2_with (go_at_call 13; refine (unitOrder_any _).mono ?_; rintro e w1 ⟨rfl, rfl⟩)
                go_roundg 0
                case measure => have := Hg2.out; omega
                case rel => exact ⟨j + 1, true, by go_num, rfl, Lib.hid (.inr ⟨rfl, by rw [Hjk.out]⟩), by omega, (hext2.alloc _).alloc _⟩
              · have hcmp : ((bs (uName 0)).toList == (bs (uName j)).toList) = false := by rw [uName_inj j 0 (by omega) (by omega)]; exact decide_eq_false hjk
                go_wp2_with (go_at_call 13; refine (unitOrder_any _).mono ?_; rintro e w1 ⟨rfl, rfl⟩)
                go_roundg (0 + 2 - (j + 1))
                case measure => have := Hg2.out; omega
                case rel => exact ⟨j + 1, false, by go_num, rfl, Lib.hid (.inl ⟨rfl, by omega, rfl⟩), by omega, (hext2.alloc _).alloc _⟩
            | true =>
              have hj : j = 0 + 1 := by
                rcases HJ.out with ⟨a, _, _⟩ | ⟨_, b⟩
                · cases a
                · exact b
              subst hj
              clear HJ
              go_wp2_with fail
              refine (unitMap_any _).mono ?_
              rintro e w2 ⟨rfl, hmap, hx2⟩
              obtain ⟨cc, hrun, hat, _⟩ := hmap.lookup_int (string_keyed Tryd.underlying9) Tryd.underlying45 Tryd.underlying2 (zero2 _) (keyOf_string_mk (s := bs (uName 0)) Tryd.underlying9 (by decide))
              have hcc : cc = 86400000 := by
                rw [bs_toList, unitD_at] at hat
                cases hat; rfl
              subst hcc
              clear hmap hat
              go_wp2_with fail
              go_roundg g
              case measure => omega
              case rel => exact ⟨ii + 1, 0 + 1, tt + vv * 86400000, 0, false, by go_num, by go_num, rfl, rfl, rfl, by omega, by omega, by omega, by omega, by omega, by omega, Hrest, ((hext.alloc _).trans hext2).trans hx2⟩
        | 1, _, hl, hk2, huk, hv, ht, hrest =>
          simp only [uName, uMs, List.cons_append, List.nil_append] at hl hv ht hrest
          obtain ⟨hi, hb⟩ := bs_at s ii 104 r hl
          have hb' : (bs s)[ii].toNat = 104 := hb hi
          have hrd : s.drop (ii + 1) = r := by rw [← List.drop_drop, hl]; rfl
          rw [← hrd] at hrest
          have Hrest := Lib.hid hrest
          have hlt : (ii : Int) < ((bs s).size : Int) := by omega
          have hlt5 : (uu : Int) < 5 := by omega
          have hex : (bs s).extract ii (ii + 1) = bs (uName 1) := by
            apply ByteArray.ext
            apply Array.toList_inj.1
            rw [Lib.extract_data, bs_toList, bs_toList, hl]
            simp [uName]
          have hname : True := trivial
          clear hl hrest hb hrd HR hk2
          go_wp2_with (go_at_call 13; refine (unitOrder_any _).mono ?_; rintro e w1 ⟨rfl, rfl⟩)
          go_loopg [5, 12] (1 + 2 - uu) (fun g2 u o wy => ∃ (j : Nat) (ok : Bool), u = .int .i64 j ∧ o = .bool ok ∧ Hid ((ok = false ∧ j ≤ 1 ∧ g2 = 1 + 2 - j) ∨ (ok = true ∧ j = 1 + 1)) ∧ j ≤ 5 ∧ Ext (wr.alloc (.cells unitCells 9)) wy)
          case atStart => exact ⟨uu, false, rfl, rfl, Lib.hid (.inl ⟨rfl, huk, rfl⟩), by omega, Ext.refl _⟩
          case round =>
            obtain ⟨j, ok, rfl, rfl, HJ, hj5, hext2⟩ := hrel
            cases ok with
            | false =>
              obtain ⟨hj, hg2⟩ : j ≤ 1 ∧ gk = 1 + 2 - j := by
                rcases HJ.out with ⟨_, a, b⟩ | ⟨a, _⟩
                · exact ⟨a, b⟩
                · cases a
              have Hg2 := Lib.hid hg2
              clear hg2
              have hjlt : (j : Int) < 5 := by omega
              have hcj := unitCells_at j (by omega)
              by_cases hjk : j = 1
              · have hcmp : ((bs (uName 1)).toList == (bs (uName j)).toList) = true := by rw [uName_inj j 1 (by omega) (by omega)]; exact decide_eq_true hjk
                have Hjk := Lib.hid hjk
                clear hjk
                go_wp2_with (go_at_call 13; refine (unitOrder_any _).mono ?_; rintro e w1 ⟨rfl, rfl⟩)
                go_roundg 0
                case measure => have := Hg2.out; omega
                case rel => exact ⟨j + 1, true, by go_num, rfl, Lib.hid (.inr ⟨rfl, by rw [Hjk.out]⟩), by omega, (hext2.alloc _).alloc _⟩
              · have hcmp : ((bs (uName 1)).toList == (bs (uName j)).toList) = false := by rw [uName_inj j 1 (by omega) (by omega)]; exact decide_eq_false hjk
                go_wp2_with (go_at_call 13; refine (unitOrder_any _).mono ?_; rintro e w1 ⟨rfl, rfl⟩)
                go_roundg (1 + 2 - (j + 1))
                case measure => have := Hg2.out; omega
                case rel => exact ⟨j + 1, false, by go_num, rfl, Lib.hid (.inl ⟨rfl, by omega, rfl⟩), by omega, (hext2.alloc _).alloc _⟩
            | true =>
              have hj : j = 1 + 1 := by
                rcases HJ.out with ⟨a, _, _⟩ | ⟨_, b⟩
                · cases a
                · exact b
              subst hj
              clear HJ
              go_wp2_with fail
              refine (unitMap_any _).mono ?_
              rintro e w2 ⟨rfl, hmap, hx2⟩
              obtain ⟨cc, hrun, hat, _⟩ := hmap.lookup_int (string_keyed Tryd.underlying9) Tryd.underlying45 Tryd.underlying2 (zero2 _) (keyOf_string_mk (s := bs (uName 1)) Tryd.underlying9 (by decide))
              have hcc : cc = 3600000 := by
                rw [bs_toList, unitD_at] at hat
                cases hat; rfl
              subst hcc
              clear hmap hat
              go_wp2_with fail
              go_roundg g
              case measure => omega
              case rel => exact ⟨ii + 1, 1 + 1, tt + vv * 3600000, 0, false, by go_num, by go_num, rfl, rfl, rfl, by omega, by omega, by omega, by omega, by omega, by omega, Hrest, ((hext.alloc _).trans hext2).trans hx2⟩
        | 2, _, hl, hk2, huk, hv, ht, hrest =>
          simp only [uName, uMs, List.cons_append, List.nil_append] at hl hv ht hrest
          obtain ⟨hi, hb⟩ := bs_at s ii 109 r hl
          have hb' : (bs s)[ii].toNat = 109 := hb hi
          have hrd : s.drop (ii + 1) = r := by rw [← List.drop_drop, hl]; rfl
          rw [← hrd] at hrest
          have Hrest := Lib.hid hrest
          have hlt : (ii : Int) < ((bs s).size : Int) := by omega
          have hlt5 : (uu : Int) < 5 := by omega
          have hex : (bs s).extract ii (ii + 1) = bs (uName 2) := by
            apply ByteArray.ext
            apply Array.toList_inj.1
            rw [Lib.extract_data, bs_toList, bs_toList, hl]
            simp [uName]
          have hname : True := trivial
          have hnx : (ii : Int) + 1 < ((bs s).size : Int) → ∃ x : Nat, (∀ hi1 : ii + 1 < (bs s).size, (bs s)[ii + 1].toNat = x) ∧ x ≠ 115 := by
            intro h
            have hl1 : s.drop (ii + 1) = r := by rw [← List.drop_drop, hl]; rfl
            cases r with
            | nil =>
              have := congrArg List.length hl1
              rw [bs_size] at h
              simp at this
              omega
            | cons x r' =>
              obtain ⟨hi1, hb1⟩ := bs_at s (ii + 1) x r' hl1
              refine ⟨x.toNat, hb1, ?_⟩
              intro hx
              apply hk2 rfl
              have : x = 115 := UInt8.toNat_inj.1 hx
              rw [this]; rfl
          by_cases hlt1 : (ii : Int) + 1 < ((bs s).size : Int)
          · obtain ⟨x, hx, hx115⟩ := hnx hlt1
            have hi1 : ii + 1 < (bs s).size := by omega
            have hx1 := hx hi1
            have hx2 : ((x : Int) == 115) = false := by rw [beq_eq_false_iff_ne]; omega
            clear hl hrest hb hrd HR hk2 hnx hx
            go_wp2_with (go_at_call 13; refine (unitOrder_any _).mono ?_; rintro e w1 ⟨rfl, rfl⟩)
            go_loopg [5, 12] (2 + 2 - uu) (fun g2 u o wy => ∃ (j : Nat) (ok : Bool), u = .int .i64 j ∧ o = .bool ok ∧ Hid ((ok = false ∧ j ≤ 2 ∧ g2 = 2 + 2 - j) ∨ (ok = true ∧ j = 2 + 1)) ∧ j ≤ 5 ∧ Ext (wr.alloc (.cells unitCells 9)) wy)
            case atStart => exact ⟨uu, false, rfl, rfl, Lib.hid (.inl ⟨rfl, huk, rfl⟩), by omega, Ext.refl _⟩
            case round =>
              obtain ⟨j, ok, rfl, rfl, HJ, hj5, hext2⟩ := hrel
              cases ok with
              | false =>
                obtain ⟨hj, hg2⟩ : j ≤ 2 ∧ gk = 2 + 2 - j := by
                  rcases HJ.out with ⟨_, a, b⟩ | ⟨a, _⟩
                  · exact ⟨a, b⟩
                  · cases a
                have Hg2 := Lib.hid hg2
                clear hg2
                have hjlt : (j : Int) < 5 := by omega
                have hcj := unitCells_at j (by omega)
                by_cases hjk : j = 2
                · have hcmp : ((bs (uName 2)).toList == (bs (uName j)).toList) = true := by rw [uName_inj j 2 (by omega) (by omega)]; exact decide_eq_true hjk
                  have Hjk := Lib.hid hjk
                  clear hjk
                  go_wp2_with (go_at_call 13; refine (unitOrder_any _).mono ?_; rintro e w1 ⟨rfl, rfl⟩)
                  go_roundg 0
                  case measure => have := Hg2.out; omega
                  case rel => exact ⟨j + 1, true, by go_num, rfl, Lib.hid (.inr ⟨rfl, by rw [Hjk.out]⟩), by omega, (hext2.alloc _).alloc _⟩
                · have hcmp : ((bs (uName 2)).toList == (bs (uName j)).toList) = false := by rw [uName_inj j 2 (by omega) (by omega)]; exact decide_eq_false hjk
                  go_wp2_with (go_at_call 13; refine (unitOrder_any _).mono ?_; rintro e w1 ⟨rfl, rfl⟩)
                  go_roundg (2 + 2 - (j + 1))
                  case measure => have := Hg2.out; omega
                  case rel => exact ⟨j + 1, false, by go_num, rfl, Lib.hid (.inl ⟨rfl, by omega, rfl⟩), by omega, (hext2.alloc _).alloc _⟩
              | true =>
                have hj : j = 2 + 1 := by
                  rcases HJ.out with ⟨a, _, _⟩ | ⟨_, b⟩
                  · cases a
                  · exact b
                subst hj
                clear HJ
                go_wp2_with fail
                refine (unitMap_any _).mono ?_
                rintro e w2 ⟨rfl, hmap, hx2⟩
                obtain ⟨cc, hrun, hat, _⟩ := hmap.lookup_int (string_keyed Tryd.underlying9) Tryd.underlying45 Tryd.underlying2 (zero2 _) (keyOf_string_mk (s := bs (uName 2)) Tryd.underlying9 (by decide))
                have hcc : cc = 60000 := by
                  rw [bs_toList, unitD_at] at hat
                  cases hat; rfl
                subst hcc
                clear hmap hat
                go_wp2_with fail
                go_roundg g
                case measure => omega
                case rel => exact ⟨ii + 1, 2 + 1, tt + vv * 60000, 0, false, by go_num, by go_num, rfl, rfl, rfl, by omega, by omega, by omega, by omega, by omega, by omega, Hrest, ((hext.alloc _).trans hext2).trans hx2⟩
          · have hlt1' : ¬ (ii : Int) + 1 < ((bs s).size : Int) := hlt1
            clear hl hrest hb hrd HR hk2 hnx
            go_wp2_with (go_at_call 13; refine (unitOrder_any _).mono ?_; rintro e w1 ⟨rfl, rfl⟩)
            go_loopg [5, 12] (2 + 2 - uu) (fun g2 u o wy => ∃ (j : Nat) (ok : Bool), u = .int .i64 j ∧ o = .bool ok ∧ Hid ((ok = false ∧ j ≤ 2 ∧ g2 = 2 + 2 - j) ∨ (ok = true ∧ j = 2 + 1)) ∧ j ≤ 5 ∧ Ext (wr.alloc (.cells unitCells 9)) wy)
            case atStart => exact ⟨uu, false, rfl, rfl, Lib.hid (.inl ⟨rfl, huk, rfl⟩), by omega, Ext.refl _⟩
            case round =>
              obtain ⟨j, ok, rfl, rfl, HJ, hj5, hext2⟩ := hrel
              cases ok with
              | false =>
                obtain ⟨hj, hg2⟩ : j ≤ 2 ∧ gk = 2 + 2 - j := by
                  rcases HJ.out with ⟨_, a, b⟩ | ⟨a, _⟩
                  · exact ⟨a, b⟩
                  · cases a
                have Hg2 := Lib.hid hg2
                clear hg2
                have hjlt : (j : Int) < 5 := by omega
                have hcj := unitCells_at j (by omega)
                by_cases hjk : j = 2
                · have hcmp : ((bs (uName 2)).toList == (bs (uName j)).toList) = true := by rw [uName_inj j 2 (by omega) (by omega)]; exact decide_eq_true hjk
                  have Hjk := Lib.hid hjk
                  clear hjk
                  go_wp2_with (go_at_call 13; refine (unitOrder_any _).mono ?_; rintro e w1 ⟨rfl, rfl⟩)
                  go_roundg 0
                  case measure => have := Hg2.out; omega
                  case rel => exact ⟨j + 1, true, by go_num, rfl, Lib.hid (.inr ⟨rfl, by rw [Hjk.out]⟩), by omega, (hext2.alloc _).alloc _⟩
                · have hcmp : ((bs (uName 2)).toList == (bs (uName j)).toList) = false := by rw [uName_inj j 2 (by omega) (by omega)]; exact decide_eq_false hjk
                  go_wp2_with (go_at_call 13; refine (unitOrder_any _).mono ?_; rintro e w1 ⟨rfl, rfl⟩)
                  go_roundg (2 + 2 - (j + 1))
                  case measure => have := Hg2.out; omega
                  case rel => exact ⟨j + 1, false, by go_num, rfl, Lib.hid (.inl ⟨rfl, by omega, rfl⟩), by omega, (hext2.alloc _).alloc _⟩
              | true =>
                have hj : j = 2 + 1 := by
                  rcases HJ.out with ⟨a, _, _⟩ | ⟨_, b⟩
                  · cases a
                  · exact b
                subst hj
                clear HJ
                go_wp2_with fail
                refine (unitMap_any _).mono ?_
                rintro e w2 ⟨rfl, hmap, hx2⟩
                obtain ⟨cc, hrun, hat, _⟩ := hmap.lookup_int (string_keyed Tryd.underlying9) Tryd.underlying45 Tryd.underlying2 (zero2 _) (keyOf_string_mk (s := bs (uName 2)) Tryd.underlying9 (by decide))
                have hcc : cc = 60000 := by
                  rw [bs_toList, unitD_at] at hat
                  cases hat; rfl
                subst hcc
                clear hmap hat
                go_wp2_with fail
                go_roundg g
                case measure => omega
                case rel => exact ⟨ii + 1, 2 + 1, tt + vv * 60000, 0, false, by go_num, by go_num, rfl, rfl, rfl, by omega, by omega, by omega, by omega, by omega, by omega, Hrest, ((hext.alloc _).trans hext2).trans hx2⟩
        | 3, _, hl, hk2, huk, hv, ht, hrest =>
          simp only [uName, uMs, List.cons_append, List.nil_append] at hl hv ht hrest
          obtain ⟨hi, hb⟩ := bs_at s ii 115 r hl
          have hb' : (bs s)[ii].toNat = 115 := hb hi
          have hrd : s.drop (ii + 1) = r := by rw [← List.drop_drop, hl]; rfl
          rw [← hrd] at hrest
          have Hrest := Lib.hid hrest
          have hlt : (ii : Int) < ((bs s).size : Int) := by omega
          have hlt5 : (uu : Int) < 5 := by omega
          have hex : (bs s).extract ii (ii + 1) = bs (uName 3) := by
            apply ByteArray.ext
            apply Array.toList_inj.1
            rw [Lib.extract_data, bs_toList, bs_toList, hl]
            simp [uName]
          have hname : True := trivial
          clear hl hrest hb hrd HR hk2
          go_wp2_with (go_at_call 13; refine (unitOrder_any _).mono ?_; rintro e w1 ⟨rfl, rfl⟩)
          go_loopg [5, 12] (3 + 2 - uu) (fun g2 u o wy => ∃ (j : Nat) (ok : Bool), u = .int .i64 j ∧ o = .bool ok ∧ Hid ((ok = false ∧ j ≤ 3 ∧ g2 = 3 + 2 - j) ∨ (ok = true ∧ j = 3 + 1)) ∧ j ≤ 5 ∧ Ext (wr.alloc (.cells unitCells 9)) wy)
          case atStart => exact ⟨uu, false, rfl, rfl, Lib.hid (.inl ⟨rfl, huk, rfl⟩), by omega, Ext.refl _⟩
          case round =>
            obtain ⟨j, ok, rfl, rfl, HJ, hj5, hext2⟩ := hrel
            cases ok with
            | false =>
              obtain ⟨hj, hg2⟩ : j ≤ 3 ∧ gk = 3 + 2 - j := by
                rcases HJ.out with ⟨_, a, b⟩ | ⟨a, _⟩
                · exact ⟨a, b⟩
                · cases a
              have Hg2 := Lib.hid hg2
              clear hg2
              have hjlt : (j : Int) < 5 := by omega
              have hcj := unitCells_at j (by omega)
              by_cases hjk : j = 3
              · have hcmp : ((bs (uName 3)).toList == (bs (uName j)).toList) = true := by rw [uName_inj j 3 (by omega) (by omega)]; exact decide_eq_true hjk
                have Hjk := Lib.hid hjk
                clear hjk
                go_wp2_with (go_at_call 13; refine (unitOrder_any _).mono ?_; rintro e w1 ⟨rfl, rfl⟩)
                go_roundg 0
                case measure => have := Hg2.out; omega
                case rel => exact ⟨j + 1, true, by go_num, rfl, Lib.hid (.inr ⟨rfl, by rw [Hjk.out]⟩), by omega, (hext2.alloc _).alloc _⟩
              · have hcmp : ((bs (uName 3)).toList == (bs (uName j)).toList) = false := by rw [uName_inj j 3 (by omega) (by omega)]; exact decide_eq_false hjk
                go_wp2_with (go_at_call 13; refine (unitOrder_any _).mono ?_; rintro e w1 ⟨rfl, rfl⟩)
                go_roundg (3 + 2 - (j + 1))
                case measure => have := Hg2.out; omega
                case rel => exact ⟨j + 1, false, by go_num, rfl, Lib.hid (.inl ⟨rfl, by omega, rfl⟩), by omega, (hext2.alloc _).alloc _⟩
            | true =>
              have hj : j = 3 + 1 := by
                rcases HJ.out with ⟨a, _, _⟩ | ⟨_, b⟩
                · cases a
                · exact b
              subst hj
              clear HJ
              go_wp2_with fail
              refine (unitMap_any _).mono ?_
              rintro e w2 ⟨rfl, hmap, hx2⟩
              obtain ⟨cc, hrun, hat, _⟩ := hmap.lookup_int (string_keyed Tryd.underlying9) Tryd.underlying45 Tryd.underlying2 (zero2 _) (keyOf_string_mk (s := bs (uName 3)) Tryd.underlying9 (by decide))
              have hcc : cc = 1000 := by
                rw [bs_toList, unitD_at] at hat
                cases hat; rfl
              subst hcc
              clear hmap hat
              go_wp2_with fail
              go_roundg g
              case measure => omega
              case rel => exact ⟨ii + 1, 3 + 1, tt + vv * 1000, 0, false, by go_num, by go_num, rfl, rfl, rfl, by omega, by omega, by omega, by omega, by omega, by omega, Hrest, ((hext.alloc _).trans hext2).trans hx2⟩
        | 4, _, hl, hk2, huk, hv, ht, hrest =>
          simp only [uName, uMs, List.cons_append, List.nil_append] at hl hv ht hrest
          obtain ⟨hi, hb⟩ := bs_at s ii 109 (115 :: r) hl
          have hb' : (bs s)[ii].toNat = 109 := hb hi
          have hl1 : s.drop (ii + 1) = 115 :: r := by rw [← List.drop_drop, hl]; rfl
          obtain ⟨hi1, hb1⟩ := bs_at s (ii + 1) 115 r hl1
          have hb1' : (bs s)[ii + 1].toNat = 115 := hb1 hi1
          have hlt1 : (ii : Int) + 1 < ((bs s).size : Int) := by omega
          have hrd : s.drop (ii + 2) = r := by rw [← List.drop_drop, hl]; rfl
          rw [← hrd] at hrest
          have Hrest := Lib.hid hrest
          have hlt : (ii : Int) < ((bs s).size : Int) := by omega
          have hlt5 : (uu : Int) < 5 := by omega
          have hname : (⟨#[109, 115]⟩ : ByteArray) = bs (uName 4) := rfl
          clear hl hl1 hrest hb hb1 hrd HR hk2
          go_wp2_with (go_at_call 13; refine (unitOrder_any _).mono ?_; rintro e w1 ⟨rfl, rfl⟩)
          go_loopg [5, 12] (4 + 2 - uu) (fun g2 u o wy => ∃ (j : Nat) (ok : Bool), u = .int .i64 j ∧ o = .bool ok ∧ Hid ((ok = false ∧ j ≤ 4 ∧ g2 = 4 + 2 - j) ∨ (ok = true ∧ j = 4 + 1)) ∧ j ≤ 5 ∧ Ext (wr.alloc (.cells unitCells 9)) wy)
          case atStart => exact ⟨uu, false, rfl, rfl, Lib.hid (.inl ⟨rfl, huk, rfl⟩), by omega, Ext.refl _⟩
          case round =>
            obtain ⟨j, ok, rfl, rfl, HJ, hj5, hext2⟩ := hrel
            cases ok with
            | false =>
              obtain ⟨hj, hg2⟩ : j ≤ 4 ∧ gk = 4 + 2 - j := by
                rcases HJ.out with ⟨_, a, b⟩ | ⟨a, _⟩
                · exact ⟨a, b⟩
                · cases a
              have Hg2 := Lib.hid hg2
              clear hg2
              have hjlt : (j : Int) < 5 := by omega
              have hcj := unitCells_at j (by omega)
              by_cases hjk : j = 4
              · have hcmp : ((bs (uName 4)).toList == (bs (uName j)).toList) = true := by rw [uName_inj j 4 (by omega) (by omega)]; exact decide_eq_true hjk
                have Hjk := Lib.hid hjk
                clear hjk
                go_wp2_with (go_at_call 13; refine (unitOrder_any _).mono ?_; rintro e w1 ⟨rfl, rfl⟩)
                go_roundg 0
                case measure => have := Hg2.out; omega
                case rel => exact ⟨j + 1, true, by go_num, rfl, Lib.hid (.inr ⟨rfl, by rw [Hjk.out]⟩), by omega, (hext2.alloc _).alloc _⟩
              · have hcmp : ((bs (uName 4)).toList == (bs (uName j)).toList) = false := by rw [uName_inj j 4 (by omega) (by omega)]; exact decide_eq_false hjk
                go_wp2_with (go_at_call 13; refine (unitOrder_any _).mono ?_; rintro e w1 ⟨rfl, rfl⟩)
                go_roundg (4 + 2 - (j + 1))
                case measure => have := Hg2.out; omega
                case rel => exact ⟨j + 1, false, by go_num, rfl, Lib.hid (.inl ⟨rfl, by omega, rfl⟩), by omega, (hext2.alloc _).alloc _⟩
            | true =>
              have hj : j = 4 + 1 := by
                rcases HJ.out with ⟨a, _, _⟩ | ⟨_, b⟩
                · cases a
                · exact b
              subst hj
              clear HJ
              go_wp2_with fail
              refine (unitMap_any _).mono ?_
              rintro e w2 ⟨rfl, hmap, hx2⟩
              obtain ⟨cc, hrun, hat, _⟩ := hmap.lookup_int (string_keyed Tryd.underlying9) Tryd.underlying45 Tryd.underlying2 (zero2 _) (keyOf_string_mk (s := bs (uName 4)) Tryd.underlying9 (by decide))
              have hcc : cc = 1 := by
                rw [bs_toList, unitD_at] at hat
                cases hat; rfl
              subst hcc
              clear hmap hat
              go_wp2_with fail
              go_roundg g
              case measure => omega
              case rel => exact ⟨ii + 2, 4 + 1, tt + vv * 1, 0, false, by go_num, by go_num, by rw [Int.mul_one], rfl, rfl, by omega, by omega, by omega, by omega, by omega, by omega, Hrest, ((hext.alloc _).trans hext2).trans hx2⟩
end Go.Proofs.YtbpbbiiohpbkhaaDoor
