/- The contract of parseHexEscape. -/
import Derived.Test.YtggodjppecljnaaDoorRUm
namespace Go.Proofs.YtggodjppecljnaaDoorR
open Go.RowKit

/-- nextRune, at any world that follows. -/
theorem nextRune_at (l : List UInt8) (B off cap n : Nat) (w : World) (hT : Tabs w) (hB : BRow w B off l) (hn : l.length = n) (hc : n ≤ cap) (hl : n ≤ 1000000000)
    (i : Nat) (hi : i ≤ n) (o : Option (Nat × Nat)) (ho : nx (l.drop i) = o) (wx : World) (x : Ext w wx) :
    Calls Tryd.prog 8 #[.slice (some ⟨B, off, none⟩) n cap, .int .i64 i] wx fun e w' => GotNx i o e ∧ Ext wx w' := by
  subst hn ho
  exact nextRune_any l B off i cap wx (hT.ext x) (hB.ext x) hi hc hl

set_option maxRecDepth 100000 in
theorem xx_any (l : List UInt8) (B off i cap : Nat) (w : World) (hT : Tabs w) (hB : BRow w B off l) (hi : i ≤ l.length) (hc : l.length ≤ cap) (hl : l.length ≤ 1000000000) :
    Calls Tryd.prog 11 #[.slice (some ⟨B, off, none⟩) l.length cap, .int .i64 i] w fun e w' => Got l (xx (l.drop i)) e ∧ Ext w w' := by
  obtain ⟨n, hn⟩ : ∃ n, l.length = n := ⟨_, rfl⟩
  have N := nextRune_at l B off cap n w hT hB hn (hn ▸ hc) (hn ▸ hl)
  unfold xx
  rw [hn] at hi hc hl ⊢
  cases h1 : nx (l.drop i) with
  | none =>
    have N1 := N i hi _ h1
    clear N h1
    go_enter Tryd.func11, Tryd.ntmps11
    go_wp2_with fail
    refine (N1 _ (Ext.refl _)).mono ?_
    rintro e w1 ⟨⟨ch, j, a, rfl⟩, x1⟩
    go_wp2_with fail
    go_ret3
    exact ⟨⟨_, _, _, rfl⟩, x1⟩
  | some p =>
    obtain ⟨c, k⟩ := p
    have f1 := nx_fit h1
    rw [List.length_drop, hn] at f1
    obtain ⟨f1, f2, f3⟩ := f1
    have N1 := N i hi _ h1
    simp only []
    obtain ⟨b, hb⟩ : ∃ b, isHex c = b := ⟨_, rfl⟩
    have X1 := fun wx => hb ▸ isHex_any c wx
    cases b with
    | false =>
      simp only [hb, if_true]
      clear N h1 hb
      go_enter Tryd.func11, Tryd.ntmps11
      go_wp2_with fail
      refine (N1 _ (Ext.refl _)).mono ?_
      rintro e w1 ⟨he, x1⟩
      obtain rfl := he
      go_wp2_with fail
      refine (X1 _).mono ?_
      rintro e w2 ⟨rfl, x2⟩
      go_wp2_with fail
      refine (errNew_any _ _).mono ?_
      rintro e w3 ⟨⟨a, rfl⟩, x3⟩
      go_wp2_with fail
      go_ret3
      exact ⟨⟨_, _, _, rfl⟩, (x1.trans x2).trans x3⟩
    | true =>
      obtain ⟨d1, d2⟩ := dig_fit hb
      have V1 := fun wx => dig_any c wx
      simp only [hb, Bool.true_eq_false, if_false, List.drop_drop]
      cases h2 : nx (l.drop (i + k)) with
      | none =>
        have N2 := N (i + k) (by omega) _ h2
        clear N h1 h2 hb
        generalize dig c = dc at *
        go_enter Tryd.func11, Tryd.ntmps11
        go_wp2_with fail
        refine (N1 _ (Ext.refl _)).mono ?_
        rintro e w1 ⟨he, x1⟩
        obtain rfl := he
        go_wp2_with fail
        refine (X1 _).mono ?_
        rintro e w2 ⟨rfl, x2⟩
        go_wp2_with fail
        refine (V1 _).mono ?_
        rintro e w3 ⟨rfl, x3⟩
        have x := (x1.trans x2).trans x3
        go_wp2_with fail
        refine (N2 _ x).mono ?_
        rintro e w4 ⟨⟨ch, j, a, rfl⟩, x4⟩
        go_wp2_with fail
        go_ret3
        exact ⟨⟨_, _, _, rfl⟩, x.trans x4⟩
      | some p =>
        obtain ⟨d, j⟩ := p
        have g1 := nx_fit h2
        rw [List.length_drop, hn] at g1
        obtain ⟨g1, g2, g3⟩ := g1
        have N2 := N (i + k) (by omega) _ h2
        simp only []
        obtain ⟨b, hb2⟩ : ∃ b, isHex d = b := ⟨_, rfl⟩
        have X2 := fun wx => hb2 ▸ isHex_any d wx
        cases b with
        | false =>
          simp only [hb2, if_true]
          clear N h1 h2 hb hb2
          generalize dig c = dc at *
          go_enter Tryd.func11, Tryd.ntmps11
          go_wp2_with fail
          refine (N1 _ (Ext.refl _)).mono ?_
          rintro e w1 ⟨he, x1⟩
          obtain rfl := he
          go_wp2_with fail
          refine (X1 _).mono ?_
          rintro e w2 ⟨rfl, x2⟩
          go_wp2_with fail
          refine (V1 _).mono ?_
          rintro e w3 ⟨rfl, x3⟩
          have x := (x1.trans x2).trans x3
          go_wp2_with fail
          refine (N2 _ x).mono ?_
          rintro e w4 ⟨he, x4⟩
          obtain rfl := he
          go_wp2_with fail
          refine (X2 _).mono ?_
          rintro e w5 ⟨rfl, x5⟩
          go_wp2_with fail
          refine (errNew_any _ _).mono ?_
          rintro e w6 ⟨⟨a, rfl⟩, x6⟩
          go_wp2_with fail
          go_ret3
          exact ⟨⟨_, _, _, rfl⟩, ((x.trans x4).trans x5).trans x6⟩
        | true =>
          obtain ⟨d3, d4⟩ := dig_fit hb2
          have V2 := fun wx => dig_any d wx
          simp only [hb2, Bool.true_eq_false, if_false]
          have e1 := Int.toNat_of_nonneg d1
          have e2 := Int.toNat_of_nonneg d3
          clear N h1 h2 hb hb2
          generalize dig c = dc at *
          generalize dig d = dd at *
          generalize dc.toNat = mc at *
          generalize dd.toNat = md at *
          by_cases hr : 127 < 16 * mc + md
          · rw [if_pos hr]
            have hr' : 127 < 16 * dc + dd := by omega
            clear hr e1 e2
            go_enter Tryd.func11, Tryd.ntmps11
            go_wp2_with fail
            refine (N1 _ (Ext.refl _)).mono ?_
            rintro e w1 ⟨he, x1⟩
            obtain rfl := he
            go_wp2_with fail
            refine (X1 _).mono ?_
            rintro e w2 ⟨rfl, x2⟩
            go_wp2_with fail
            refine (V1 _).mono ?_
            rintro e w3 ⟨rfl, x3⟩
            have x := (x1.trans x2).trans x3
            go_wp2_with fail
            refine (N2 _ x).mono ?_
            rintro e w4 ⟨he, x4⟩
            obtain rfl := he
            go_wp2_with fail
            refine (X2 _).mono ?_
            rintro e w5 ⟨rfl, x5⟩
            go_wp2_with fail
            refine (V2 _).mono ?_
            rintro e w6 ⟨rfl, x6⟩
            go_wp2_with fail
            refine (errNew_any _ _).mono ?_
            rintro e w7 ⟨⟨a, rfl⟩, x7⟩
            go_wp2_with fail
            go_ret3
            exact ⟨⟨_, _, _, rfl⟩, (((x.trans x4).trans x5).trans x6).trans x7⟩
          · rw [if_neg hr]
            have hr' : ¬ 127 < 16 * dc + dd := by omega
            go_enter Tryd.func11, Tryd.ntmps11
            go_wp2_with fail
            refine (N1 _ (Ext.refl _)).mono ?_
            rintro e w1 ⟨he, x1⟩
            obtain rfl := he
            go_wp2_with fail
            refine (X1 _).mono ?_
            rintro e w2 ⟨rfl, x2⟩
            go_wp2_with fail
            refine (V1 _).mono ?_
            rintro e w3 ⟨rfl, x3⟩
            have x := (x1.trans x2).trans x3
            go_wp2_with fail
            refine (N2 _ x).mono ?_
            rintro e w4 ⟨he, x4⟩
            obtain rfl := he
            go_wp2_with fail
            refine (X2 _).mono ?_
            rintro e w5 ⟨rfl, x5⟩
            go_wp2_with fail
            refine (V2 _).mono ?_
            rintro e w6 ⟨rfl, x6⟩
            go_wp2_with fail
            go_ret3
            refine ⟨⟨i + k + j, by omega, rfl, ?_⟩, ((x.trans x4).trans x5).trans x6⟩
            rw [← e1, ← e2]
            rfl
end Go.Proofs.YtggodjppecljnaaDoorR
