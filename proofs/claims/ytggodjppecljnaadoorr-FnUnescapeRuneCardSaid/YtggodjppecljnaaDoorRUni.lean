/- The contract of parseUnicodeEscape. -/
import Derived.Test.YtggodjppecljnaaDoorRXx
namespace Go.Proofs.YtggodjppecljnaaDoorR
open Go.RowKit

theorem pow16 {c : Nat} (h : c ≤ 6) : 16 ^ c ≤ 16777216 :=
  Nat.le_trans (Nat.pow_le_pow_right (by decide) h) (by decide)

theorem hex_step {cnt v : Nat} {rr dd : Int} (h : cnt ≤ 6 → rr = v ∧ v < 16 ^ cnt) (h0 : 0 ≤ dd) (h1 : dd ≤ 15) :
    cnt + 1 ≤ 6 → wrap64 (wrap64 (16 * rr) + dd) = ((16 * v + dd.toNat : Nat) : Int) ∧ 16 * v + dd.toNat < 16 ^ (cnt + 1) := by
  intro hc
  obtain ⟨rfl, hv⟩ := h (by omega)
  have p := pow16 hc
  rw [Nat.pow_succ]
  have p2 : v < 1048576 := Nat.lt_of_lt_of_le hv (Nat.le_trans (Nat.pow_le_pow_right (by decide) (show cnt ≤ 5 by omega)) (by decide))
  generalize 16 ^ cnt = m at *
  have e := Int.toNat_of_nonneg h0
  rw [IntWalk.wrap64_in (16 * (v : Int)) (by omega), IntWalk.wrap64_in _ (by omega)]
  constructor
  · omega
  · omega

/-- The check behind the digits. -/
def badHex (cnt v : Nat) : Prop := cnt = 0 ∨ 6 < cnt ∨ Lib.validRune v = false

set_option maxRecDepth 100000 in
set_option maxHeartbeats 1000000 in
theorem uni_any (l : List UInt8) (B off i cap : Nat) (w : World) (hT : Tabs w) (hB : BRow w B off l) (hi : i ≤ l.length) (hc : l.length ≤ cap) (hl : l.length ≤ 1000000000) :
    Calls Tryd.prog 12 #[.slice (some ⟨B, off, none⟩) l.length cap, .int .i64 i] w fun e w' => Got l (uni (l.drop i)) e ∧ Ext w w' := by
  obtain ⟨n, hn⟩ : ∃ n, l.length = n := ⟨_, rfl⟩
  have N := nextRune_at l B off cap n w hT hB hn (hn ▸ hc) (hn ▸ hl)
  unfold uni
  rw [List.length_drop, hn]
  rw [hn] at hi hc hl
  cases h1 : nx (l.drop i) with
  | none =>
    have N1 := N i hi _ h1
    clear N h1
    go_enter Tryd.func12, Tryd.ntmps12
    go_wp2_with fail
    refine (N1 _ (Ext.refl _)).mono ?_
    rintro e w1 ⟨⟨ch, j, a, rfl⟩, x1⟩
    go_wp2_with fail
    go_ret3
    exact ⟨⟨_, _, _, rfl⟩, x1⟩
  | some p =>
    obtain ⟨c, k⟩ := p
    have f1 := nx_fit h1
    rw [List.length_drop, hn] at f1
    obtain ⟨f1, f2, f3⟩ := f1
    have N1 := N i hi _ h1
    simp only [List.drop_drop]
    by_cases h123 : c = 123
    · rw [if_pos h123]
      have h123' : (c : Int) = 123 := by omega
      obtain ⟨o, ho⟩ : ∃ o, hexes (n - i) (l.drop (i + k)) 0 0 = o := ⟨_, rfl⟩
      rw [ho]
      have Ho := Lib.hid ho
      have Hn := Lib.hid hn
      have HN := Lib.hid N
      clear ho h1 h123 N hn f3
      go_enter Tryd.func12, Tryd.ntmps12
      go_wp2_with fail
      refine (N1 _ (Ext.refl _)).mono ?_
      rintro e w1 ⟨he, x1⟩
      obtain rfl := he
      go_wp2_with fail
      go_loopg [1, 9, 10] (n - i) (fun g a d r wr => ∃ (ii cnt v : Nat) (rr : Int), a = .int .i64 ii ∧ d = .int .i64 cnt ∧ r = .int .i64 rr ∧ ii ≤ n ∧ n ≤ ii + g ∧ cnt ≤ ii ∧ Hid (cnt ≤ 6 → rr = v ∧ v < 16 ^ cnt) ∧ Hid (hexes g (l.drop ii) cnt v = o) ∧ Ext w wr)
      case atStart => exact ⟨i + k, 0, 0, 0, rfl, rfl, rfl, by omega, by omega, by omega, Lib.hid (fun _ => ⟨rfl, by decide⟩), Ho, x1⟩
      case round =>
        obtain ⟨ii, cnt, v, rr, rfl, rfl, rfl, hii, hg, hcnt, HV, HO, hext⟩ := hrel
        cases h2 : nx (l.drop ii) with
        | none =>
          have N2 := HN.out ii hii _ h2
          have ho : o = none := by
            rw [← HO.out]
            cases gk with
            | zero => rfl
            | succ g => simp only [hexes, h2]
          subst ho
          clear h2 HN HO Ho
          go_wp2_with fail
          refine (N2 _ hext).mono ?_
          rintro e w2 ⟨⟨ch, j, a, rfl⟩, x2⟩
          go_wp2_with fail
          go_ret3
          exact ⟨⟨_, _, _, rfl⟩, hext.trans x2⟩
        | some p =>
          obtain ⟨c2, k2⟩ := p
          have g1 := nx_fit h2
          rw [List.length_drop, Hn.out] at g1
          obtain ⟨g1, g2, g3⟩ := g1
          have N2 := HN.out ii hii _ h2
          obtain ⟨g, rfl⟩ : ∃ g, gk = g + 1 := ⟨gk - 1, by omega⟩
          have ho := HO.out
          simp only [hexes, h2, List.drop_drop] at ho
          by_cases h125 : c2 = 125
          · rw [if_pos h125] at ho
            have h125' : (c2 : Int) = 125 := by omega
            have hv := HV.out
            by_cases k0 : cnt = 0
            · subst k0
              rw [if_pos (.inl rfl)] at ho
              subst ho
              clear h2 HN HO Ho h125 hv HV
              go_wp2_with fail
              refine (N2 _ hext).mono ?_
              rintro e w2 ⟨he, x2⟩
              obtain rfl := he
              go_wp2_with fail
              refine (errNew_any _ _).mono ?_
              rintro e w4 ⟨⟨a, rfl⟩, x4⟩
              go_wp2_with fail
              go_ret3
              exact ⟨⟨_, _, _, rfl⟩, (hext.trans x2).trans x4⟩
            · have k0' : (cnt : Int) ≠ 0 := by omega
              by_cases k6 : 6 < cnt
              · rw [if_pos (.inr (.inl k6))] at ho
                subst ho
                clear h2 HN HO Ho h125 hv HV
                go_wp2_with fail
                refine (N2 _ hext).mono ?_
                rintro e w2 ⟨he, x2⟩
                obtain rfl := he
                go_wp2_with fail
                refine (errNew_any _ _).mono ?_
                rintro e w4 ⟨⟨a, rfl⟩, x4⟩
                go_wp2_with fail
                go_ret3
                exact ⟨⟨_, _, _, rfl⟩, (hext.trans x2).trans x4⟩
              · obtain ⟨rfl, hv2⟩ := hv (by omega)
                have hv3 := Nat.lt_of_lt_of_le hv2 (pow16 (c := cnt) (by omega))
                obtain ⟨q, hq⟩ : ∃ q, Lib.validRune v = q := ⟨_, rfl⟩
                have k0b : ((cnt : Int) == 0) = false := by simpa using k0
                have k6b : (cnt : Int) ≤ 6 := by omega
                have R2 := fun wx => hq ▸ Tryd.utf8_ValidRune v wx
                cases q with
                | false =>
                  rw [if_pos (.inr (.inr hq))] at ho
                  subst ho
                  clear h2 HN HO Ho h125 hv HV hv2 hq
                  go_wp2_with fail
                  refine (N2 _ hext).mono ?_
                  rintro e w2 ⟨he, x2⟩
                  obtain rfl := he
                  go_wp2_with fail
                  refine (R2 _).mono ?_
                  rintro e w3 ⟨rfl, rfl⟩
                  go_wp2_with fail
                  refine (errNew_any _ _).mono ?_
                  rintro e w4 ⟨⟨a, rfl⟩, x4⟩
                  go_wp2_with fail
                  go_ret3
                  exact ⟨⟨_, _, _, rfl⟩, (hext.trans x2).trans x4⟩
                | true =>
                  rw [if_neg (by simp [hq]; omega)] at ho
                  subst ho
                  have Hn' := Hn.out
                  clear h2 HN HO Ho h125 hv HV hv2 hq
                  go_wp2_with fail
                  refine (N2 _ hext).mono ?_
                  rintro e w2 ⟨he, x2⟩
                  obtain rfl := he
                  go_wp2_with fail
                  refine (R2 _).mono ?_
                  rintro e w3 ⟨rfl, rfl⟩
                  go_wp2_with fail
                  go_ret3
                  exact ⟨⟨ii + k2, by omega, rfl, rfl⟩, hext.trans x2⟩
          · rw [if_neg h125] at ho
            have h125' : (c2 : Int) ≠ 125 := by omega
            obtain ⟨b, hb⟩ : ∃ b, isHex c2 = b := ⟨_, rfl⟩
            have X2 := fun wx => hb ▸ isHex_any c2 wx
            rw [hb] at ho
            cases b with
            | false =>
              rw [if_pos rfl] at ho
              subst ho
              clear h2 HN HO Ho h125 hb
              go_wp2_with fail
              refine (N2 _ hext).mono ?_
              rintro e w2 ⟨he, x2⟩
              obtain rfl := he
              go_wp2_with fail
              refine (X2 _).mono ?_
              rintro e w3 ⟨rfl, x3⟩
              go_wp2_with fail
              refine (errNew_any _ _).mono ?_
              rintro e w4 ⟨⟨a, rfl⟩, x4⟩
              go_wp2_with fail
              go_ret3
              exact ⟨⟨_, _, _, rfl⟩, ((hext.trans x2).trans x3).trans x4⟩
            | true =>
              rw [if_neg (by simp)] at ho
              obtain ⟨d1, d2⟩ := dig_fit hb
              have V2 := fun wx => dig_any c2 wx
              have HS := Lib.hid (hex_step HV.out d1 d2)
              have Ho2 := Lib.hid ho
              clear h2 HN HO Ho h125 hb ho HV
              generalize dig c2 = dd at *
              go_wp2_with fail
              refine (N2 _ hext).mono ?_
              rintro e w2 ⟨he, x2⟩
              obtain rfl := he
              go_wp2_with fail
              refine (X2 _).mono ?_
              rintro e w3 ⟨rfl, x3⟩
              go_wp2_with fail
              refine (V2 _).mono ?_
              rintro e w4 ⟨rfl, x4⟩
              go_wp2_with fail
              go_roundg g
              case measure => omega
              case rel => exact ⟨ii + k2, cnt + 1, 16 * v + dd.toNat, wrap64 (wrap64 (16 * rr) + dd), rfl, by go_num, rfl, by omega, by omega, by omega, HS, Ho2, ((hext.trans x2).trans x3).trans x4⟩
    · rw [if_neg h123]
      have h123' : (c : Int) ≠ 123 := by omega
      clear N h1 h123
      go_enter Tryd.func12, Tryd.ntmps12
      go_wp2_with fail
      refine (N1 _ (Ext.refl _)).mono ?_
      rintro e w1 ⟨he, x1⟩
      obtain rfl := he
      go_wp2_with fail
      refine (errNew_any _ _).mono ?_
      rintro e w3 ⟨⟨a, rfl⟩, x3⟩
      go_wp2_with fail
      go_ret3
      exact ⟨⟨_, _, _, rfl⟩, x1.trans x3⟩
end Go.Proofs.YtggodjppecljnaaDoorR
