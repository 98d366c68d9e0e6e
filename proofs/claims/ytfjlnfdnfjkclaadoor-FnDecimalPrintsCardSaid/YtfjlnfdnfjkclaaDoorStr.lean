/- The text of a decimal: Decimal.String. -/
import Derived.Test.YtfjlnfdnfjkclaaDoorFmt
namespace Go.Proofs.YtfjlnfdnfjkclaaDoor
open Go.RowKit Go.Sort

theorem tail_at (A : List UInt8) (r p j : Nat) (hp : p < (bs (A ++ four r)).size) (h : p = A.length + 3 - j) (hj : j ≤ 3) : (bs (A ++ four r))[p] = UInt8.ofNat (48 + r / 10 ^ j % 10) := by
  have hj4 : j = 0 ∨ j = 1 ∨ j = 2 ∨ j = 3 := by omega
  have e : (bs (A ++ four r))[p] = (A ++ four r)[p]'(by rw [bs_size] at hp; exact hp) := rfl
  rw [e, List.getElem_append_right (by omega)]
  rcases hj4 with rfl | rfl | rfl | rfl
  · simp only [show p - A.length = 3 by omega]; simp [four]
  · simp only [show p - A.length = 2 by omega]; simp [four]
  · simp only [show p - A.length = 1 by omega]; simp [four]
  · simp only [show p - A.length = 0 by omega]; simp [four]
theorem trim_at (A : List UInt8) (r : Nat) : ∃ kk, kk + places r = 4 ∧ (∀ j < kk, 48 + r / 10 ^ j % 10 = 48) ∧ (kk < 3 → ¬ (48 + r / 10 ^ kk % 10 = 48)) ∧ (bs (A ++ four r)).extract 0 (A.length + 4 - kk) = bs (A ++ frac r) := by
  have hp := places_fit r
  refine ⟨4 - places r, by omega, ?_, ?_, ?_⟩
  · intro j hj
    unfold places at hj
    have hj4 : j = 0 ∨ j = 1 ∨ j = 2 := by (repeat' split at hj) <;> omega
    rcases hj4 with rfl | rfl | rfl
    all_goals (repeat' split at hj) <;> simp <;> omega
  · intro hk
    unfold places at hk ⊢
    (repeat' split at hk)
    · rename_i h; rw [if_pos h]; simp; omega
    · rename_i h1 h2; rw [if_neg h1, if_pos h2]; simp; omega
    · rename_i h1 h2 h3; rw [if_neg h1, if_neg h2, if_pos h3]; simp; omega
    · omega
  · apply ByteArray.ext
    apply Array.toList_inj.1
    rw [Lib.extract_data, bs_toList, bs_toList, List.drop_zero, frac, List.take_append, List.take_of_length_le (by omega)]
    rw [show A.length + 4 - (4 - places r) - 0 - A.length = places r by omega]

set_option maxRecDepth 100000 in
set_option maxHeartbeats 1000000 in
theorem decString_neg (n : Int) (q r : Nat) (w : World) (hn : n < 0) (hb : -9223372036854775808 ≤ n) (hq : -(n.tdiv 10000) = q) (hr : n.tdiv 10000 * 10000 - n = r) (hr4 : r < 10000) (hq4 : q ≤ 922337203685477) (ht : Tab w) :
    Calls Tryd.prog 9 #[.agg #[.int .i64 n]] w fun e w' => e = .returned (.string (bs ((45 :: dec q ++ [46]) ++ frac r))) ∧ Ext w w' := by
  obtain ⟨A, hA⟩ : ∃ A, A = 45 :: dec q ++ [46] := ⟨_, rfl⟩
  have hq' : n.tdiv 10000 = -(q : Int) := by omega
  have H1 := fun wx hx => fmtInt_any (q : Int) q wx rfl (by omega) (tab_ext ht hx)
  have H2 := fun wx hx => four_any r wx hr4 (tab_ext ht hx)
  have b1 : n ≤ 9223372036854775807 := by omega
  have hr' : -(q : Int) * 10000 - n = r := by rw [hq'] at hr; omega
  have hl := dec_len q (by omega)
  have hds : (bs (dec q)).size = (dec q).length := bs_size _
  have hfs : (bs (four r)).size = 4 := by rw [bs_size]; rfl
  have s1 : (⟨#[45]⟩ : ByteArray).size + (bs (dec q)).size ≤ 9223372036854775807 := by rw [hds]; show 1 + (dec q).length ≤ _; omega
  have s2 : ((⟨#[45]⟩ : ByteArray) ++ bs (dec q)).size + (⟨#[46]⟩ : ByteArray).size ≤ 9223372036854775807 := by rw [ByteArray.size_append, hds]; show 1 + (dec q).length + 1 ≤ _; omega
  have s3 : ((⟨#[45]⟩ : ByteArray) ++ bs (dec q) ++ ⟨#[46]⟩).size + (bs (four r)).size ≤ 9223372036854775807 := by rw [ByteArray.size_append, ByteArray.size_append, hds, hfs]; show 1 + (dec q).length + 1 + 4 ≤ _; omega
  have hT : (⟨#[45]⟩ : ByteArray) ++ bs (dec q) ++ ⟨#[46]⟩ ++ bs (four r) = bs (A ++ four r) := by
    rw [hA, show (⟨#[45]⟩ : ByteArray) = bs [45] from rfl, show (⟨#[46]⟩ : ByteArray) = bs [46] from rfl, bs_append, bs_append, bs_append]; rfl
  have hAl : A.length ≤ 30 := by rw [hA]; simp; omega
  rw [← hA]
  clear hA
  clear hq hr ht hds hfs
  go_enter Tryd.func9, Tryd.ntmps9
  go_wp2_with fail
  refine (H1 _ ((Ext.refl _).alloc _)).mono ?_
  rintro e w2 ⟨rfl, x2⟩
  have x2 := ((Ext.refl w).alloc _).trans x2
  go_wp2_with fail
  refine (H2 _ x2).mono ?_
  rintro e w3 ⟨rfl, x3⟩
  have x3 := x2.trans x3
  clear H1 H2
  go_wp2_with fail
  clear s1 s2 s3 hT
  have hsz : (bs (A ++ four r)).size = A.length + 4 := by rw [bs_size]; simp [four]
  obtain ⟨kk, hk1, hz, hnz, hfin⟩ := trim_at A r
  have hk3 : kk ≤ 3 := by have := places_fit r; omega
  go_loopg [6, 7] (kk + 1) (fun g s i wr => ∃ j : Nat, s = .int .i64 ((A.length + 4 - j : Nat) : Int) ∧ i = .int .i64 j ∧ j + g = kk + 1 ∧ 1 ≤ g ∧ Ext w wr)
  case atStart => exact ⟨0, by first | (rw [show (A.length + 4 - 0 : Nat) = (bs (A ++ four r)).size by rw [hsz]; omega]; done) | (congr 1; done) | (congr 1; omega), rfl, by omega, by omega, x3⟩
  case round =>
    obtain ⟨j, rfl, rfl, hj, hg, hext⟩ := hrel
    obtain ⟨p, hp⟩ : ∃ p, p = A.length + 3 - j := ⟨_, rfl⟩
    have e1 : ((A.length + 4 - j : Nat) : Int) - 1 = (p : Int) := by omega
    have p0 : (0 : Int) ≤ (p : Int) := by omega
    have p1 : p < (bs (A ++ four r)).size := by rw [hsz]; omega
    have hB := tail_at A r p j p1 hp (by omega)
    by_cases hc : j < kk
    · have c1 : (j : Int) < 3 := by omega
      have hB2 : (bs (A ++ four r))[p].toNat = 48 := by rw [hB, digit_mk, hz j hc]
      have hpj : A.length + 4 - (j + 1) = p := by omega
      clear hB hz hnz hfin hk1 hp
      go_wp2_with fail
      go_roundg (gk - 1)
      case measure => omega
      case rel => exact ⟨j + 1, by rw [hpj], by go_num, by omega, by omega, hext⟩
    · have hjk : j = kk := by omega
      subst hjk
      have sl1 : A.length + 4 - j ≤ (bs (A ++ four r)).size := by rw [hsz]; omega
      by_cases c1 : (j : Int) < 3
      · have hB2 : ¬ ((bs (A ++ four r))[p].toNat = 48) := by rw [hB, digit_mk]; exact hnz (by omega)
        have hB3 : (((bs (A ++ four r))[p].toNat : Int) == 48) = false := by simp; omega
        have hB4 : ¬ (((bs (A ++ four r))[p].toNat : Int) = 48) := by omega
        clear hB hz hnz hk1 hp
        go_wp2_with fail
        go_ret
        exact ⟨rfl, hext⟩
      · clear hB hz hnz hk1 hp
        go_wp2_with fail
        go_ret
        exact ⟨rfl, hext⟩

set_option maxRecDepth 100000 in
set_option maxHeartbeats 1000000 in
theorem decString_pos (n : Int) (q r : Nat) (w : World) (hn : ¬ n < 0) (b1 : n ≤ 9223372036854775807) (hq : n.tdiv 10000 = q) (hr : n.tmod 10000 = r) (hr4 : r < 10000) (hq4 : q ≤ 922337203685477) (ht : Tab w) :
    Calls Tryd.prog 9 #[.agg #[.int .i64 n]] w fun e w' => e = .returned (.string (bs ((dec q ++ [46]) ++ frac r))) ∧ Ext w w' := by
  obtain ⟨A, hA⟩ : ∃ A, A = dec q ++ [46] := ⟨_, rfl⟩
  have H1 := fun wx hx => fmtInt_any (q : Int) q wx rfl (by omega) (tab_ext ht hx)
  have H2 := fun wx hx => four_any r wx hr4 (tab_ext ht hx)
  have b2 : -9223372036854775808 ≤ n := by omega
  have q1 : IntKind.i64.wrap (q : Int) = q := by rw [IntKind.wrap_i64]; omega
  have r1 : IntKind.i64.wrap (r : Int) = r := by rw [IntKind.wrap_i64]; omega
  have hl := dec_len q (by omega)
  have hds : (bs (dec q)).size = (dec q).length := bs_size _
  have hfs : (bs (four r)).size = 4 := by rw [bs_size]; rfl
  have s2 : ¬ 9223372036854775807 < (bs (dec q)).size + 1 := by rw [hds]; omega
  have s3 : ¬ 9223372036854775807 < (bs (dec q)).size + 1 + (bs (four r)).size := by rw [hds, hfs]; omega
  have hT : bs (dec q) ++ ⟨#[46]⟩ ++ bs (four r) = bs (A ++ four r) := by
    rw [hA, show (⟨#[46]⟩ : ByteArray) = bs [46] from rfl, bs_append, bs_append]
  have hAl : A.length ≤ 30 := by rw [hA]; simp; omega
  rw [← hA]
  clear hA
  clear ht hds hfs
  have hsz : (bs (A ++ four r)).size = A.length + 4 := by rw [bs_size]; simp [four]
  obtain ⟨kk, hk1, hz, hnz, hfin⟩ := trim_at A r
  have hk3 : kk ≤ 3 := by have := places_fit r; omega
  go_enter Tryd.func9, Tryd.ntmps9
  go_wp2_with fail
  go_region_with (first | (go_at_call 15; refine (H1 _ (by first | exact (((Ext.refl w).alloc _).drew).trans x2 | exact (((Ext.refl w).alloc _).drew).trans x3 | exact ((Ext.refl _).alloc _).drew)).mono ?_; rintro e w2 ⟨rfl, x2⟩; have c2 : w2.cell? ⟨w.heap.size, 0, none⟩ = some (.int .i64 n) := cell_ext (by first | assumption | simp) x2) | (go_at_call 16; refine (H2 _ (by first | exact (((Ext.refl w).alloc _).drew).trans x2 | exact (((Ext.refl w).alloc _).drew).trans x3 | exact ((Ext.refl _).alloc _).drew)).mono ?_; rintro e w3 ⟨rfl, x3⟩))
  all_goals
    clear H1 H2
    go_wp2_with fail
    go_loopg [6, 7] (kk + 1) (fun g s i wr => ∃ j : Nat, s = .int .i64 ((A.length + 4 - j : Nat) : Int) ∧ i = .int .i64 j ∧ j + g = kk + 1 ∧ 1 ≤ g ∧ Ext w wr)
    case atStart => exact ⟨0, by first | (rw [show (A.length + 4 - 0 : Nat) = (bs (A ++ four r)).size by rw [hsz]; omega]; done) | (congr 1; done) | (congr 1; omega), rfl, by omega, by omega, (by first | exact ((((Ext.refl w).alloc _).drew).trans x2).trans x3 | exact ((((Ext.refl w).alloc _).drew).trans x3).trans x2)⟩
    case round =>
      obtain ⟨j, rfl, rfl, hj, hg, hext⟩ := hrel
      obtain ⟨p, hp⟩ : ∃ p, p = A.length + 3 - j := ⟨_, rfl⟩
      have e1 : ((A.length + 4 - j : Nat) : Int) - 1 = (p : Int) := by omega
      have p0 : (0 : Int) ≤ (p : Int) := by omega
      have p1 : p < (bs (A ++ four r)).size := by rw [hsz]; omega
      have hB := tail_at A r p j p1 hp (by omega)
      by_cases hc : j < kk
      · have c1 : (j : Int) < 3 := by omega
        have hB2 : (bs (A ++ four r))[p].toNat = 48 := by rw [hB, digit_mk, hz j hc]
        have hpj : A.length + 4 - (j + 1) = p := by omega
        clear hB hz hnz hfin hk1 hp
        go_wp2_with fail
        go_roundg (gk - 1)
        case measure => omega
        case rel => exact ⟨j + 1, by rw [hpj], by go_num, by omega, by omega, hext⟩
      · have hjk : j = kk := by omega
        subst hjk
        have sl1 : A.length + 4 - j ≤ (bs (A ++ four r)).size := by rw [hsz]; omega
        by_cases c1 : (j : Int) < 3
        · have hB2 : ¬ ((bs (A ++ four r))[p].toNat = 48) := by rw [hB, digit_mk]; exact hnz (by omega)
          have hB3 : (((bs (A ++ four r))[p].toNat : Int) == 48) = false := by simp; omega
          have hB4 : ¬ (((bs (A ++ four r))[p].toNat : Int) = 48) := by omega
          clear hB hz hnz hk1 hp
          go_wp2_with fail
          go_ret
          exact ⟨rfl, hext⟩
        · clear hB hz hnz hk1 hp
          go_wp2_with fail
          go_ret
          exact ⟨rfl, hext⟩
end Go.Proofs.YtfjlnfdnfjkclaaDoor
