/- The contract of Unquote. -/
import Derived.Test.YtggodjppecljnaaDoorRUni
namespace Go.Proofs.YtggodjppecljnaaDoorR
open Go.RowKit

theorem ownF_ext {w w' : World} {base e size n : Nat} {v : Value} {xs : List Value} (h : w.ownsRowF base e size v n xs) (x : Ext w w') : w'.ownsRowF base e size v n xs := by
  obtain ⟨h1, h2⟩ := h
  refine ⟨h1, ?_⟩
  rcases h2 with h2 | ⟨g, cap, cur, fz, hv, hb, hg, r⟩
  · exact .inl h2
  · exact .inr ⟨g, cap, cur, fz, hv, hb, by rw [Below.block x g (Array.getElem?_eq_some_iff.1 hg).1]; exact hg, r⟩
theorem atF_ext {T e : TypeId} {B b : Nat} {p : Value} {xs : List Value} {w w' : World} (h : Lib.BuilderAtF T e B b p xs w) (x : Ext w w') : Lib.BuilderAtF T e B b p xs w' := by
  obtain ⟨h1, v, h2, h3, h4⟩ := h
  exact ⟨h1, v, by rw [Below.block x b (Array.getElem?_eq_some_iff.1 h2).1]; exact h2, ownF_ext h3 x, h4⟩
theorem isF_ext {T e : TypeId} {B b : Nat} {xs : List Value} {w w' : World} (h : Lib.IsBuilderF T e B b xs w) (x : Ext w w') : Lib.IsBuilderF T e B b xs w' :=
  h.elim (fun h => .inl (atF_ext h x)) (fun h => .inr (atF_ext h x))

theorem encode_len (r : Int) : (Lib.encodeRune r).length ≤ 4 := by
  unfold Lib.encodeRune Lib.encodeRuneZ
  rw [List.length_map]
  repeat' split
  all_goals simp

theorem hexes_fit : ∀ (f : Nat) (s : List UInt8) (cnt v : Nat) (x : Nat) (r : List UInt8), hexes f s cnt v = some (x, r) → r.length ≤ s.length ∧ x ≤ 1114111 := by
  intro f
  induction f with
  | zero => intro s cnt v x r h; cases h
  | succ f ih =>
    intro s cnt v x r h
    simp only [hexes] at h
    split at h
    · cases h
    · rename_i c k hk
      have f1 := nx_fit hk
      split at h
      · split at h
        · cases h
        · rename_i hb
          injection h with h
          injection h with h1 h2
          subst h1 h2
          refine ⟨by rw [List.length_drop]; omega, ?_⟩
          have : Lib.validRune v = true := by
            cases hq : Lib.validRune v with
            | true => rfl
            | false => exact absurd (.inr (.inr hq)) hb
          simp [Lib.validRune] at this
          omega
      · split at h
        · cases h
        · obtain ⟨a, b⟩ := ih _ _ _ _ _ h
          rw [List.length_drop] at a
          exact ⟨by omega, b⟩

theorem uni_fit {s : List UInt8} {x : Nat} {r : List UInt8} (h : uni s = some (x, r)) : r.length ≤ s.length ∧ x ≤ 1114111 := by
  unfold uni at h
  split at h
  · cases h
  · split at h
    · obtain ⟨a, b⟩ := hexes_fit _ _ _ _ _ _ h
      rw [List.length_drop] at a
      exact ⟨by omega, b⟩
    · cases h

theorem xx_fit {s : List UInt8} {x : Nat} {r : List UInt8} (h : xx s = some (x, r)) : r.length ≤ s.length ∧ x ≤ 1114111 := by
  unfold xx at h
  split at h
  · cases h
  · split at h
    · cases h
    · split at h
      · cases h
      · split at h
        · cases h
        · split at h
          · cases h
          · injection h with h
            injection h with h1 h2
            subst h1 h2
            refine ⟨by simp only [List.length_drop]; omega, by omega⟩

/-- The ending of Unquote. -/
def GotUnq (w : World) (B : Nat) (o : Option (List UInt8 × List UInt8)) (e : Ending) : Prop := match o with
  | none => ∃ a : Addr, e = .returned (.tuple #[.string ⟨#[]⟩, .slice none 0 0, .iface 50 (.pointer (some a))])
  | some (out, rest) => ∃ off cap : Nat, rest.length ≤ cap ∧ BRow w B off rest ∧ e = .returned (.tuple #[.string (bs out), .slice (some ⟨B, off, none⟩) rest.length cap, .nilIface])

theorem GotUnq.at {w : World} {B off cap n i : Nat} {l : List UInt8} (hB : BRow w B off l) (hn : l.length = n) (hi : i ≤ n) (hc : n ≤ cap) (out : List UInt8) :
    GotUnq w B (some (out, l.drop i)) (.returned (.tuple #[.string (bs out), .slice (some ⟨B, off + i, none⟩) (n - i) (cap - i), .nilIface])) := by
  refine ⟨off + i, cap - i, ?_, ⟨hB.1, fun j hj => ?_⟩, ?_⟩
  · rw [List.length_drop, hn]; omega
  · rw [List.length_drop] at hj
    rw [Nat.add_assoc, hB.2 (i + j) (by omega)]
    simp
  · rw [List.length_drop, hn]

theorem GotUnq.end {w : World} {B off i : Nat} {l : List UInt8} (hB : BRow w B off l) (hn : l.length = i) (out : List UInt8) :
    GotUnq w B (some (out, l.drop i)) (.returned (.tuple #[.string (bs out), .slice (some ⟨B, off, none⟩) 0 0, .nilIface])) := by
  have e : l.drop i = [] := List.drop_eq_nil_of_le (by omega)
  rw [e]
  exact ⟨off, 0, Nat.le_refl _, ⟨hB.1, fun j hj => by cases hj⟩, rfl⟩

set_option maxRecDepth 100000 in
set_option maxHeartbeats 4000000 in
theorem unquote_any (star : Bool) (l : List UInt8) (B off cap : Nat) (w : World) (hT : Tabs w) (hB : BRow w B off l) (hc : l.length ≤ cap) (hl : l.length ≤ 1000000000) :
    Calls Tryd.prog 7 #[.slice (some ⟨B, off, none⟩) l.length cap, .bool star] w fun e w' => GotUnq w B (unq star (l.length + 1) [] l) e ∧ Ext w w' := by
  obtain ⟨n, hn⟩ : ∃ n, l.length = n := ⟨_, rfl⟩
  have HN := Lib.hid (nextRune_at l B off cap n w hT hB hn (hn ▸ hc) (hn ▸ hl))
  have HX := Lib.hid (fun (i : Nat) (wx : World) (x : Ext w wx) (hi : i ≤ n) => hn ▸ xx_any l B off i cap wx (hT.ext x) (hB.ext x) (hn ▸ hi) hc hl)
  have HU := Lib.hid (fun (i : Nat) (wx : World) (x : Ext w wx) (hi : i ≤ n) => hn ▸ uni_any l B off i cap wx (hT.ext x) (hB.ext x) (hn ▸ hi) hc hl)
  rw [hn] at hc hl ⊢
  obtain ⟨o, ho⟩ : ∃ o, unq star (n + 1) [] l = o := ⟨_, rfl⟩
  rw [ho]
  have Ho := Lib.hid ho
  have HB := Lib.hid hB
  have Hn := Lib.hid hn
  clear ho hn hB hT
  go_enter Tryd.func7, Tryd.ntmps7
  go_wp2_with fail
  go_loopg [10] (n + 1) (fun g a wr => ∃ (ii : Nat) (acc : List UInt8), a = .int .i64 ii ∧ ii ≤ n ∧ n + 1 ≤ ii + g ∧ acc.length ≤ 4 * ii ∧ Lib.IsBuilderF 37 5 w.heap.size w.heap.size (Lib.byteCells acc) wr ∧ Hid (unq star g acc (l.drop ii) = o) ∧ Ext w wr)
  case atStart => exact ⟨0, [], rfl, by omega, by omega, by simp, Lib.IsBuilderF.of (Lib.fresh_isBuilder 37 5 w), Ho, (Ext.refl w).alloc _⟩
  case round =>
    obtain ⟨ii, acc, rfl, hii, hg, hacc, hbd, HO, hext⟩ := hrel
    obtain ⟨g, rfl⟩ : ∃ g, gk = g + 1 := ⟨gk - 1, by omega⟩
    have hsz := hext.size
    by_cases hend : ii = n
    · subst hend
      have ho := HO.out
      have hd : l.drop ii = [] := List.drop_eq_nil_of_le (by rw [Hn.out]; omega)
      rw [hd] at ho
      simp only [unq, if_true] at ho
      rw [← hd] at ho
      subst ho
      have S := fun wx h => Tryd.Builder_String_any_f w.heap.size w.heap.size acc wx h
      by_cases he : ii = cap
      · subst he
        have hnn := Hn.out
        clear HN HX HU hg
        go_wp2_with fail
        go_region_with (go_at_call 9; refine (S _ (isF_ext hbd ((Ext.refl _).drew)) hsz).mono ?_; rintro e w2 ⟨rfl, -, x2⟩)
        all_goals
          go_wp2_with fail
          go_ret3
          exact ⟨GotUnq.end HB.out hnn acc, Below.trans hext.drew x2⟩
      · have hlt : ii < cap := by omega
        have hnn := Hn.out
        clear HN HX HU hg
        go_wp2_with fail
        go_region_with (go_at_call 9; refine (S _ (isF_ext hbd ((Ext.refl _).drew)) hsz).mono ?_; rintro e w2 ⟨rfl, -, x2⟩)
        all_goals
          go_wp2_with fail
          go_ret3
          have G := GotUnq.at HB.out hnn (Nat.le_refl _) hc acc
          rw [Nat.sub_self] at G
          exact ⟨G, Below.trans hext.drew x2⟩
    · have hlt : (ii : Int) < n := by omega
      have hne : l.drop ii ≠ [] := by
        intro h
        have := congrArg List.length h
        rw [List.length_drop, Hn.out] at this
        simp at this
        omega
      have ho := HO.out
      simp only [unq, hne, if_false] at ho
      clear HO Ho
      cases h1 : nx (l.drop ii) with
      | none =>
        have N1 := HN.out ii hii _ h1
        rw [h1] at ho
        subst ho
        clear HN HX HU h1 hne
        go_wp2_with fail
        refine (N1 _ hext).mono ?_
        rintro e w2 ⟨⟨ch, j, a, rfl⟩, x2⟩
        go_wp2_with fail
        go_ret3
        exact ⟨⟨_, rfl⟩, hext.trans x2⟩
      | some p =>
        obtain ⟨c, k⟩ := p
        have f1 := nx_fit h1
        rw [List.length_drop, Hn.out] at f1
        obtain ⟨f1, f2, f3⟩ := f1
        have N1 := HN.out ii hii _ h1
        rw [h1] at ho
        simp only [List.drop_drop] at ho
        clear h1 hne
        by_cases hs : star = true ∧ c = 42
        · rw [if_pos hs] at ho
          obtain ⟨rfl, hc42⟩ := hs
          have hc42' : (c : Int) = 42 := by omega
          have S := fun wx h => Tryd.Builder_String_any_f w.heap.size w.heap.size acc wx h
          obtain ⟨m, hm⟩ : ∃ m, ii + (k - 1) = m := ⟨_, rfl⟩
          have hm' : (ii : Int) + (k : Int) - 1 = (m : Nat) := by omega
          have hmc : m < cap := by omega
          have hmn : m ≤ n := by omega
          rw [hm] at ho
          subst ho
          have hnn := Hn.out
          clear HX HU HN hc42
          go_wp2_with fail
          refine (N1 _ hext).mono ?_
          rintro e w2 ⟨he, x2⟩
          obtain rfl := he
          have x := hext.trans x2
          go_wp2_with fail
          go_region_with (go_at_call 9; refine (S _ (isF_ext (isF_ext hbd x2) ((Ext.refl _).drew)) x.size).mono ?_; rintro e w3 ⟨rfl, -, x3⟩)
          all_goals
            go_wp2_with fail
            go_ret3
            exact ⟨GotUnq.at HB.out hnn hmn hc acc, Below.trans x.drew x3⟩
        · rw [if_neg hs] at ho
          have hs' : star = true → (c : Int) ≠ 42 := fun h h2 => hs ⟨h, by omega⟩
          by_cases h92 : c = 92
          · rw [if_pos h92] at ho
            have h92' : (c : Int) = 92 := by omega
            clear hs hs' h92
            cases h2 : nx (l.drop (ii + k)) with
            | none =>
              have N2 := HN.out (ii + k) (by omega) _ h2
              rw [h2] at ho
              subst ho
              clear HX HU HN h2
              cases star
              all_goals
                go_wp2_with fail
                refine (N1 _ hext).mono ?_
                rintro e w2 ⟨he, x2⟩
                obtain rfl := he
                have x := hext.trans x2
                go_wp2_with fail
                refine (N2 _ x).mono ?_
                rintro e w3 ⟨⟨ch, j, a, rfl⟩, x3⟩
                go_wp2_with fail
                go_ret3
                exact ⟨⟨_, rfl⟩, x.trans x3⟩
            | some p =>
              obtain ⟨d, j⟩ := p
              have g1 := nx_fit h2
              rw [List.length_drop, Hn.out] at g1
              obtain ⟨g1, g2, g3⟩ := g1
              have N2 := HN.out (ii + k) (by omega) _ h2
              rw [h2] at ho
              dsimp only at ho
              clear h2 HN
              by_cases k110 : d = 110
              · have hd : (d : Int) = 110 := by omega
                rw [show esc star d (l.drop (ii + k + j)) = some (10, l.drop (ii + k + j)) from by subst k110; rfl] at ho
                have W1 := fun wx h hx => writeRune_any w.heap.size w.heap.size acc 10 (by omega) (by omega) wx h (by omega) hx
                have hlen := encode_len 10
                have HO := Lib.hid ho
                clear HX HU ho k110
                cases star
                all_goals
                  go_wp2_with fail
                  refine (N1 _ hext).mono ?_
                  rintro e w2 ⟨he, x2⟩
                  obtain rfl := he
                  have x := hext.trans x2
                  go_wp2_with fail
                  refine (N2 _ x).mono ?_
                  rintro e w3 ⟨he, x3⟩
                  obtain rfl := he
                  have y := x.trans x3
                  go_wp2_with fail
                  refine (W1 _ (isF_ext (isF_ext hbd x2) x3) y.size).mono ?_
                  rintro e w4 ⟨⟨vv, rfl⟩, hb4, x4⟩
                  go_wp2_with fail
                  go_roundg g
                  case measure => omega
                  case rel => exact ⟨ii + k + j, acc ++ Lib.encodeRune 10, rfl, by omega, by omega, by rw [List.length_append]; omega, hb4, HO, Below.trans y x4⟩
              have n110 : (d : Int) ≠ 110 := by omega
              by_cases k114 : d = 114
              · have hd : (d : Int) = 114 := by omega
                rw [show esc star d (l.drop (ii + k + j)) = some (13, l.drop (ii + k + j)) from by subst k114; rfl] at ho
                have W1 := fun wx h hx => writeRune_any w.heap.size w.heap.size acc 13 (by omega) (by omega) wx h (by omega) hx
                have hlen := encode_len 13
                have HO := Lib.hid ho
                clear HX HU ho k114
                cases star
                all_goals
                  go_wp2_with fail
                  refine (N1 _ hext).mono ?_
                  rintro e w2 ⟨he, x2⟩
                  obtain rfl := he
                  have x := hext.trans x2
                  go_wp2_with fail
                  refine (N2 _ x).mono ?_
                  rintro e w3 ⟨he, x3⟩
                  obtain rfl := he
                  have y := x.trans x3
                  go_wp2_with fail
                  refine (W1 _ (isF_ext (isF_ext hbd x2) x3) y.size).mono ?_
                  rintro e w4 ⟨⟨vv, rfl⟩, hb4, x4⟩
                  go_wp2_with fail
                  go_roundg g
                  case measure => omega
                  case rel => exact ⟨ii + k + j, acc ++ Lib.encodeRune 13, rfl, by omega, by omega, by rw [List.length_append]; omega, hb4, HO, Below.trans y x4⟩
              have n114 : (d : Int) ≠ 114 := by omega
              by_cases k116 : d = 116
              · have hd : (d : Int) = 116 := by omega
                rw [show esc star d (l.drop (ii + k + j)) = some (9, l.drop (ii + k + j)) from by subst k116; rfl] at ho
                have W1 := fun wx h hx => writeRune_any w.heap.size w.heap.size acc 9 (by omega) (by omega) wx h (by omega) hx
                have hlen := encode_len 9
                have HO := Lib.hid ho
                clear HX HU ho k116
                cases star
                all_goals
                  go_wp2_with fail
                  refine (N1 _ hext).mono ?_
                  rintro e w2 ⟨he, x2⟩
                  obtain rfl := he
                  have x := hext.trans x2
                  go_wp2_with fail
                  refine (N2 _ x).mono ?_
                  rintro e w3 ⟨he, x3⟩
                  obtain rfl := he
                  have y := x.trans x3
                  go_wp2_with fail
                  refine (W1 _ (isF_ext (isF_ext hbd x2) x3) y.size).mono ?_
                  rintro e w4 ⟨⟨vv, rfl⟩, hb4, x4⟩
                  go_wp2_with fail
                  go_roundg g
                  case measure => omega
                  case rel => exact ⟨ii + k + j, acc ++ Lib.encodeRune 9, rfl, by omega, by omega, by rw [List.length_append]; omega, hb4, HO, Below.trans y x4⟩
              have n116 : (d : Int) ≠ 116 := by omega
              by_cases k92 : d = 92
              · have hd : (d : Int) = 92 := by omega
                rw [show esc star d (l.drop (ii + k + j)) = some (92, l.drop (ii + k + j)) from by subst k92; rfl] at ho
                have W1 := fun wx h hx => writeRune_any w.heap.size w.heap.size acc 92 (by omega) (by omega) wx h (by omega) hx
                have hlen := encode_len 92
                have HO := Lib.hid ho
                clear HX HU ho k92
                cases star
                all_goals
                  go_wp2_with fail
                  refine (N1 _ hext).mono ?_
                  rintro e w2 ⟨he, x2⟩
                  obtain rfl := he
                  have x := hext.trans x2
                  go_wp2_with fail
                  refine (N2 _ x).mono ?_
                  rintro e w3 ⟨he, x3⟩
                  obtain rfl := he
                  have y := x.trans x3
                  go_wp2_with fail
                  refine (W1 _ (isF_ext (isF_ext hbd x2) x3) y.size).mono ?_
                  rintro e w4 ⟨⟨vv, rfl⟩, hb4, x4⟩
                  go_wp2_with fail
                  go_roundg g
                  case measure => omega
                  case rel => exact ⟨ii + k + j, acc ++ Lib.encodeRune 92, rfl, by omega, by omega, by rw [List.length_append]; omega, hb4, HO, Below.trans y x4⟩
              have n92 : (d : Int) ≠ 92 := by omega
              by_cases k48 : d = 48
              · have hd : (d : Int) = 48 := by omega
                rw [show esc star d (l.drop (ii + k + j)) = some (0, l.drop (ii + k + j)) from by subst k48; rfl] at ho
                have W1 := fun wx h hx => writeRune_any w.heap.size w.heap.size acc 0 (by omega) (by omega) wx h (by omega) hx
                have hlen := encode_len 0
                have HO := Lib.hid ho
                clear HX HU ho k48
                cases star
                all_goals
                  go_wp2_with fail
                  refine (N1 _ hext).mono ?_
                  rintro e w2 ⟨he, x2⟩
                  obtain rfl := he
                  have x := hext.trans x2
                  go_wp2_with fail
                  refine (N2 _ x).mono ?_
                  rintro e w3 ⟨he, x3⟩
                  obtain rfl := he
                  have y := x.trans x3
                  go_wp2_with fail
                  refine (W1 _ (isF_ext (isF_ext hbd x2) x3) y.size).mono ?_
                  rintro e w4 ⟨⟨vv, rfl⟩, hb4, x4⟩
                  go_wp2_with fail
                  go_roundg g
                  case measure => omega
                  case rel => exact ⟨ii + k + j, acc ++ Lib.encodeRune 0, rfl, by omega, by omega, by rw [List.length_append]; omega, hb4, HO, Below.trans y x4⟩
              have n48 : (d : Int) ≠ 48 := by omega
              by_cases k39 : d = 39
              · have hd : (d : Int) = 39 := by omega
                rw [show esc star d (l.drop (ii + k + j)) = some (39, l.drop (ii + k + j)) from by subst k39; rfl] at ho
                have W1 := fun wx h hx => writeRune_any w.heap.size w.heap.size acc 39 (by omega) (by omega) wx h (by omega) hx
                have hlen := encode_len 39
                have HO := Lib.hid ho
                clear HX HU ho k39
                cases star
                all_goals
                  go_wp2_with fail
                  refine (N1 _ hext).mono ?_
                  rintro e w2 ⟨he, x2⟩
                  obtain rfl := he
                  have x := hext.trans x2
                  go_wp2_with fail
                  refine (N2 _ x).mono ?_
                  rintro e w3 ⟨he, x3⟩
                  obtain rfl := he
                  have y := x.trans x3
                  go_wp2_with fail
                  refine (W1 _ (isF_ext (isF_ext hbd x2) x3) y.size).mono ?_
                  rintro e w4 ⟨⟨vv, rfl⟩, hb4, x4⟩
                  go_wp2_with fail
                  go_roundg g
                  case measure => omega
                  case rel => exact ⟨ii + k + j, acc ++ Lib.encodeRune 39, rfl, by omega, by omega, by rw [List.length_append]; omega, hb4, HO, Below.trans y x4⟩
              have n39 : (d : Int) ≠ 39 := by omega
              by_cases k34 : d = 34
              · have hd : (d : Int) = 34 := by omega
                rw [show esc star d (l.drop (ii + k + j)) = some (34, l.drop (ii + k + j)) from by subst k34; rfl] at ho
                have W1 := fun wx h hx => writeRune_any w.heap.size w.heap.size acc 34 (by omega) (by omega) wx h (by omega) hx
                have hlen := encode_len 34
                have HO := Lib.hid ho
                clear HX HU ho k34
                cases star
                all_goals
                  go_wp2_with fail
                  refine (N1 _ hext).mono ?_
                  rintro e w2 ⟨he, x2⟩
                  obtain rfl := he
                  have x := hext.trans x2
                  go_wp2_with fail
                  refine (N2 _ x).mono ?_
                  rintro e w3 ⟨he, x3⟩
                  obtain rfl := he
                  have y := x.trans x3
                  go_wp2_with fail
                  refine (W1 _ (isF_ext (isF_ext hbd x2) x3) y.size).mono ?_
                  rintro e w4 ⟨⟨vv, rfl⟩, hb4, x4⟩
                  go_wp2_with fail
                  go_roundg g
                  case measure => omega
                  case rel => exact ⟨ii + k + j, acc ++ Lib.encodeRune 34, rfl, by omega, by omega, by rw [List.length_append]; omega, hb4, HO, Below.trans y x4⟩
              have n34 : (d : Int) ≠ 34 := by omega
              by_cases k120 : d = 120
              · have hd : (d : Int) = 120 := by omega
                rw [show esc star d (l.drop (ii + k + j)) = xx (l.drop (ii + k + j)) from by subst k120; rfl] at ho
                have R := fun wx x => HX.out (ii + k + j) wx x (by omega)
                clear HX HU k120
                cases hr : xx (l.drop (ii + k + j)) with
                | none =>
                  rw [hr] at ho
                  simp only [hr] at R
                  subst ho
                  clear hr
                  cases star
                  all_goals
                    go_wp2_with fail
                    refine (N1 _ hext).mono ?_
                    rintro e w2 ⟨he, x2⟩
                    obtain rfl := he
                    have x := hext.trans x2
                    go_wp2_with fail
                    refine (N2 _ x).mono ?_
                    rintro e w3 ⟨he, x3⟩
                    obtain rfl := he
                    have y := x.trans x3
                    go_wp2_with fail
                    refine (R _ y).mono ?_
                    rintro e w4 ⟨⟨ch, jj, a, rfl⟩, x4⟩
                    go_wp2_with fail
                    go_ret3
                    exact ⟨⟨_, rfl⟩, y.trans x4⟩
                | some q =>
                  obtain ⟨v, r⟩ := q
                  rw [hr] at ho
                  dsimp only at ho
                  simp only [hr] at R
                  obtain ⟨r1, r2⟩ := xx_fit hr
                  rw [List.length_drop, Hn.out] at r1
                  have W1 := fun wx h hx => writeRune_any w.heap.size w.heap.size acc (v : Int) (by omega) (by omega) wx h (by omega) hx
                  have hlen := encode_len (v : Int)
                  have HO := Lib.hid ho
                  clear ho hr
                  cases star
                  all_goals
                    go_wp2_with fail
                    refine (N1 _ hext).mono ?_
                    rintro e w2 ⟨he, x2⟩
                    obtain rfl := he
                    have x := hext.trans x2
                    go_wp2_with fail
                    refine (N2 _ x).mono ?_
                    rintro e w3 ⟨he, x3⟩
                    obtain rfl := he
                    have y := x.trans x3
                    go_wp2_with fail
                    refine (R _ y).mono ?_
                    rintro e w4 ⟨⟨jj, hj1, hj2, rfl⟩, x4⟩
                    have hjl := congrArg List.length hj2
                    rw [List.length_drop, Hn.out] at hjl
                    rw [Hn.out] at hj1
                    have z := y.trans x4
                    go_wp2_with fail
                    refine (W1 _ (isF_ext (isF_ext (isF_ext hbd x2) x3) x4) z.size).mono ?_
                    rintro e w5 ⟨⟨vv, rfl⟩, hb5, x5⟩
                    go_wp2_with fail
                    go_roundg g
                    case measure => omega
                    case rel => exact ⟨jj, acc ++ Lib.encodeRune v, rfl, by omega, by omega, by rw [List.length_append]; omega, hb5, Lib.hid (by rw [hj2]; exact HO.out), Below.trans z x5⟩
              have n120 : (d : Int) ≠ 120 := by omega
              by_cases k117 : d = 117
              · have hd : (d : Int) = 117 := by omega
                rw [show esc star d (l.drop (ii + k + j)) = uni (l.drop (ii + k + j)) from by subst k117; rfl] at ho
                have R := fun wx x => HU.out (ii + k + j) wx x (by omega)
                clear HX HU k117
                cases hr : uni (l.drop (ii + k + j)) with
                | none =>
                  rw [hr] at ho
                  simp only [hr] at R
                  subst ho
                  clear hr
                  cases star
                  all_goals
                    go_wp2_with fail
                    refine (N1 _ hext).mono ?_
                    rintro e w2 ⟨he, x2⟩
                    obtain rfl := he
                    have x := hext.trans x2
                    go_wp2_with fail
                    refine (N2 _ x).mono ?_
                    rintro e w3 ⟨he, x3⟩
                    obtain rfl := he
                    have y := x.trans x3
                    go_wp2_with fail
                    refine (R _ y).mono ?_
                    rintro e w4 ⟨⟨ch, jj, a, rfl⟩, x4⟩
                    go_wp2_with fail
                    go_ret3
                    exact ⟨⟨_, rfl⟩, y.trans x4⟩
                | some q =>
                  obtain ⟨v, r⟩ := q
                  rw [hr] at ho
                  dsimp only at ho
                  simp only [hr] at R
                  obtain ⟨r1, r2⟩ := uni_fit hr
                  rw [List.length_drop, Hn.out] at r1
                  have W1 := fun wx h hx => writeRune_any w.heap.size w.heap.size acc (v : Int) (by omega) (by omega) wx h (by omega) hx
                  have hlen := encode_len (v : Int)
                  have HO := Lib.hid ho
                  clear ho hr
                  cases star
                  all_goals
                    go_wp2_with fail
                    refine (N1 _ hext).mono ?_
                    rintro e w2 ⟨he, x2⟩
                    obtain rfl := he
                    have x := hext.trans x2
                    go_wp2_with fail
                    refine (N2 _ x).mono ?_
                    rintro e w3 ⟨he, x3⟩
                    obtain rfl := he
                    have y := x.trans x3
                    go_wp2_with fail
                    refine (R _ y).mono ?_
                    rintro e w4 ⟨⟨jj, hj1, hj2, rfl⟩, x4⟩
                    have hjl := congrArg List.length hj2
                    rw [List.length_drop, Hn.out] at hjl
                    rw [Hn.out] at hj1
                    have z := y.trans x4
                    go_wp2_with fail
                    refine (W1 _ (isF_ext (isF_ext (isF_ext hbd x2) x3) x4) z.size).mono ?_
                    rintro e w5 ⟨⟨vv, rfl⟩, hb5, x5⟩
                    go_wp2_with fail
                    go_roundg g
                    case measure => omega
                    case rel => exact ⟨jj, acc ++ Lib.encodeRune v, rfl, by omega, by omega, by rw [List.length_append]; omega, hb5, Lib.hid (by rw [hj2]; exact HO.out), Below.trans z x5⟩
              have n117 : (d : Int) ≠ 117 := by omega
              clear HX HU
              by_cases k42 : d = 42
              · have hd : (d : Int) = 42 := by omega
                cases star with
                | true =>
                  rw [show esc true d (l.drop (ii + k + j)) = some (42, l.drop (ii + k + j)) from by subst k42; rfl] at ho
                  have W1 := fun wx h hx => writeRune_any w.heap.size w.heap.size acc 42 (by omega) (by omega) wx h (by omega) hx
                  have hlen := encode_len 42
                  have HO := Lib.hid ho
                  clear ho k42
                  go_wp2_with fail
                  refine (N1 _ hext).mono ?_
                  rintro e w2 ⟨he, x2⟩
                  obtain rfl := he
                  have x := hext.trans x2
                  go_wp2_with fail
                  refine (N2 _ x).mono ?_
                  rintro e w3 ⟨he, x3⟩
                  obtain rfl := he
                  have y := x.trans x3
                  go_wp2_with fail
                  refine (W1 _ (isF_ext (isF_ext hbd x2) x3) y.size).mono ?_
                  rintro e w4 ⟨⟨vv, rfl⟩, hb4, x4⟩
                  go_wp2_with fail
                  go_roundg g
                  case measure => omega
                  case rel => exact ⟨ii + k + j, acc ++ Lib.encodeRune 42, rfl, by omega, by omega, by rw [List.length_append]; omega, hb4, HO, Below.trans y x4⟩
                | false =>
                  rw [show esc false d (l.drop (ii + k + j)) = none from by subst k42; rfl] at ho
                  subst ho
                  clear k42
                  go_wp2_with fail
                  refine (N1 _ hext).mono ?_
                  rintro e w2 ⟨he, x2⟩
                  obtain rfl := he
                  have x := hext.trans x2
                  go_wp2_with fail
                  refine (N2 _ x).mono ?_
                  rintro e w3 ⟨he, x3⟩
                  obtain rfl := he
                  have y := x.trans x3
                  go_wp2_with fail
                  refine (errNew_any _ _).mono ?_
                  rintro e w4 ⟨⟨a, rfl⟩, x4⟩
                  go_wp2_with fail
                  go_ret3
                  exact ⟨⟨_, rfl⟩, y.trans x4⟩
              have n42 : (d : Int) ≠ 42 := by omega
              rw [show esc star d (l.drop (ii + k + j)) = none from by simp [esc, k110, k114, k116, k92, k48, k39, k34, k120, k117, k42]] at ho
              subst ho
              cases star
              all_goals
                go_wp2_with fail
                refine (N1 _ hext).mono ?_
                rintro e w2 ⟨he, x2⟩
                obtain rfl := he
                have x := hext.trans x2
                go_wp2_with fail
                refine (N2 _ x).mono ?_
                rintro e w3 ⟨he, x3⟩
                obtain rfl := he
                have y := x.trans x3
                go_wp2_with fail
                refine (errNew_any _ _).mono ?_
                rintro e w4 ⟨⟨a, rfl⟩, x4⟩
                go_wp2_with fail
                go_ret3
                exact ⟨⟨_, rfl⟩, y.trans x4⟩
          · rw [if_neg h92] at ho
            have h92' : (c : Int) ≠ 92 := by omega
            have W1 := fun wx h hx => writeRune_any w.heap.size w.heap.size acc (c : Int) (by omega) (by omega) wx h (by omega) hx
            have hlen := encode_len (c : Int)
            have HO := Lib.hid ho
            clear HX HU HN ho hs h92
            cases star
            all_goals
              try have hs2 := hs' rfl
              clear hs'
              go_wp2_with fail
              refine (N1 _ hext).mono ?_
              rintro e w2 ⟨he, x2⟩
              obtain rfl := he
              have x := hext.trans x2
              go_wp2_with fail
              refine (W1 _ (isF_ext hbd x2) x.size).mono ?_
              rintro e w3 ⟨⟨vv, rfl⟩, hb3, x3⟩
              go_wp2_with fail
              go_roundg g
              case measure => omega
              case rel => exact ⟨ii + k, acc ++ Lib.encodeRune c, rfl, by omega, by omega, by rw [List.length_append]; omega, hb3, HO, Below.trans x x3⟩
end Go.Proofs.YtggodjppecljnaaDoorR

