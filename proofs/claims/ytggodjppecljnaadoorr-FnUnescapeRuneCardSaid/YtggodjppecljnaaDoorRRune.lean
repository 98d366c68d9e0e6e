/- The walk of FnUnescapeRune. -/
import Derived.Test.YtggodjppecljnaaDoorRUnesc
import Derived.Test.YtggodjppecljnaaDoorRLaw
namespace Go.Proofs.YtggodjppecljnaaDoorR
open Go.RowKit

set_option maxRecDepth 100000 in
theorem enc_eq (m : Nat) (hv : Lib.validRune m = true) : Utf8.encode m = bs (Lib.encodeRune m) := by
  simp only [Lib.validRune, decide_eq_true_eq] at hv
  have hvv : Utf8.valid m = true := by simp [Utf8.valid]; omega
  unfold Utf8.encode Lib.encodeRune Lib.encodeRuneZ bs
  simp only [hvv, if_true, Int.toNat_natCast]
  have t : ∀ x : Nat, ((x : Int)).toNat = x := fun x => Int.toNat_natCast x
  by_cases h1 : m < 128
  · rw [if_pos h1, if_pos (by omega)]
    simp
  · have q1 : ¬ (0 ≤ (m : Int) ∧ (m : Int) ≤ 127) := by omega
    rw [if_neg h1, if_neg q1]
    by_cases h2 : m < 2048
    · have q2 : 128 ≤ (m : Int) ∧ (m : Int) ≤ 2047 := by omega
      rw [if_pos h2, if_pos q2]
      simp only [List.map_cons, List.map_nil]
      have a : (192 + (m : Int) / 64).toNat = 192 + m / 64 := by omega
      have b : (128 + (m : Int) % 64).toNat = 128 + m % 64 := by omega
      rw [a, b]
    · have q2 : ¬ (128 ≤ (m : Int) ∧ (m : Int) ≤ 2047) := by omega
      rw [if_neg h2, if_neg q2]
      by_cases h3 : m < 65536
      · have q3 : (2048 ≤ (m : Int) ∧ (m : Int) < 55296) ∨ (57343 < (m : Int) ∧ (m : Int) ≤ 65535) := by omega
        rw [if_pos h3, if_pos q3]
        simp only [List.map_cons, List.map_nil]
        have a : (224 + (m : Int) / 4096).toNat = 224 + m / 4096 := by omega
        have b : (128 + (m : Int) / 64 % 64).toNat = 128 + m / 64 % 64 := by omega
        have c : (128 + (m : Int) % 64).toNat = 128 + m % 64 := by omega
        rw [a, b, c]
      · have q3 : ¬ ((2048 ≤ (m : Int) ∧ (m : Int) < 55296) ∨ (57343 < (m : Int) ∧ (m : Int) ≤ 65535)) := by omega
        have q4 : 65536 ≤ (m : Int) ∧ (m : Int) ≤ 1114111 := by omega
        rw [if_neg h3, if_neg q3, if_pos q4]
        simp only [List.map_cons, List.map_nil]
        have a : (240 + (m : Int) / 262144).toNat = 240 + m / 262144 := by omega
        have b : (128 + (m : Int) / 4096 % 64).toNat = 128 + m / 4096 % 64 := by omega
        have c : (128 + (m : Int) / 64 % 64).toNat = 128 + m / 64 % 64 := by omega
        have d : (128 + (m : Int) % 64).toNat = 128 + m % 64 := by omega
        rw [a, b, c, d]

theorem rune_str (m : Nat) (w : World) (hv : Lib.validRune m = true) :
    (convert 21 9 (.int .i32 m)).run Tryd.prog w = .ok (.string (bs (Lib.encodeRune m))) w := by
  rw [run_convert_int_string w 21 9 .i32 m (by rw [Tryd.underlying21]; rfl) Tryd.underlying9, enc_eq m hv]

/-- From the loop of zeros on: the text is read. -/
theorem unesc_D (star : Bool) (D : List UInt8) (m : Nat) (w : World) (hT : Tabs w) (hD : HexD D) (hv : valH D 0 = m) (h1 : 1 ≤ D.length) (h6 : D.length ≤ 6) :
    Calls Tryd.prog 5 #[.string (bs (92 :: 117 :: 123 :: (D ++ [125]))), .bool star] w fun e w' => e = .returned (if Lib.validRune m = false then .tuple #[.string ⟨#[]⟩, .string ⟨#[]⟩, .bool false] else .tuple #[.string (bs (Lib.encodeRune m)), .string ⟨#[]⟩, .bool true]) ∧ Ext w w' := by
  refine (unescape_any star _ w hT (by simp; omega)).mono ?_
  rintro e w2 ⟨rfl, x2⟩
  refine ⟨?_, x2⟩
  rw [unq_brace star D hD h1 h6, hv]
  cases Lib.validRune m <;> rfl

set_option maxRecDepth 100000 in
set_option maxHeartbeats 1000000 in
theorem rune_low (a0 a1 : Int) (a2 : Bool) (w : World) (b0 : 0 ≤ a0 ∧ a0 ≤ 4294967295) (b1 : 0 ≤ a1 ∧ a1 ≤ 255) (hT : Tabs w) (m : Nat) (hm : a0 % 16777216 = m) (hm2 : m < 16777216) (hF' : (m : Int) ≠ 65533) (hB : m ≤ 65535) :
    Calls Tryd.prog 3 #[.int .u32 a0, .int .u8 a1, .bool a2] w fun e w' => e = .returned (.bool true) ∧ Ext w w' := by
  obtain ⟨hD, hV, hL1, hL6⟩ := lowD_fit m hm2
  have finish : ∀ (D : List UInt8) (wx : World), Ext w wx → HexD D → valH D 0 = m → 1 ≤ D.length → D.length ≤ 6 → _ := fun D wx x a b c d => unesc_D a2 D m wx (hT.ext x) a b c d
  have e : (m : Int) % 65536 = m := by omega
  have hB' : ¬ ((m : Int) > 65535) := by omega
  have H1 := fun wx => hex_any false m 1 wx hB (by omega)
  have hl : hexL false 1 m = lowD m := by rw [lowD, if_pos hB]
  rw [hl] at H1
  generalize lowD m = D0 at *
  go_enter Tryd.func3, Tryd.ntmps3
  go_wp2_with fail
  refine (H1 _).mono ?_
  rintro e w2 ⟨rfl, x2⟩
  go_wp2_with fail
  go_loopg [7, 8] 6 (fun g s i wr => ∃ (D : List UInt8) (j : Nat), s = .string (bs D) ∧ i = .int .i64 j ∧ j + g = 6 ∧ 1 ≤ g ∧ HexD D ∧ valH D 0 = m ∧ 1 ≤ D.length ∧ D.length ≤ 6 ∧ Ext w wr)
  case atStart => exact ⟨D0, 0, rfl, rfl, rfl, by decide, hD, hV, hL1, hL6, x2⟩
  case round =>
    obtain ⟨D, j, rfl, rfl, hj, hg1, d1, d2, d3, d4, hext⟩ := hrel
    have hsz : (bs D).size = D.length := bs_size D
    have U := finish D wr hext d1 d2 d3 d4
    have s1 : (⟨#[48]⟩ : ByteArray).size + (bs D).size ≤ 9223372036854775807 := by rw [hsz]; show 1 + D.length ≤ _; omega
    by_cases hc : (j : Int) < a1 % 6 ∧ D.length < 6
    · obtain ⟨hc1, hc2⟩ := hc
      have hc3 : ((bs D).size : Int) < 6 := by rw [hsz]; omega
      go_wp2_with fail
      go_roundg (gk - 1)
      case measure => omega
      case rel => exact ⟨48 :: D, j + 1, by rw [show (⟨#[48]⟩ : ByteArray) = bs [48] from rfl, bs_append]; rfl, by go_num, by omega, by omega, d1.zero, (valH_zero D).trans d2, by simp, by simp; omega, hext⟩
    · have hx : ¬ (j : Int) < a1 % 6 ∨ ((j : Int) < a1 % 6 ∧ ¬ ((bs D).size : Int) < 6) := by rw [hsz]; omega
      have hstr : ((⟨#[92, 117, 123]⟩ : ByteArray) ++ bs D) ++ ⟨#[125]⟩ = bs (92 :: 117 :: 123 :: (D ++ [125])) := by
        rw [show (⟨#[92, 117, 123]⟩ : ByteArray) = bs [92, 117, 123] from rfl, show (⟨#[125]⟩ : ByteArray) = bs [125] from rfl, bs_append, bs_append]; rfl
      have s2 : (⟨#[92, 117, 123]⟩ : ByteArray).size + (bs D).size ≤ 9223372036854775807 := by rw [hsz]; show 3 + D.length ≤ _; omega
      have s3 : ((⟨#[92, 117, 123]⟩ : ByteArray) ++ bs D).size + (⟨#[125]⟩ : ByteArray).size ≤ 9223372036854775807 := by
        rw [ByteArray.size_append, hsz]; show 3 + D.length + 1 ≤ _; omega
      rw [← hstr] at U
      clear hstr hc
      clear finish H1 hD hV hL1 hL6
      rcases hx with hx | ⟨hx1, hx2⟩
      all_goals
        go_wp2_with fail
        refine U.mono ?_
        rintro e w3 ⟨he, x3⟩
        cases hq : Lib.validRune m with
        | true =>
          rw [hq, if_neg (by decide)] at he
          have R := fun wx => rune_str m wx hq
          generalize bs (Lib.encodeRune m) = enc at *
          simp only [Lib.validRune, decide_eq_true_eq] at hq
          have k1 : (m : Int) ≤ 1114111 := by omega
          have k4 : (m : Int) ≤ 2147483647 := by omega
          have hq2 : (¬ (55296 ≤ (m : Int))) ∨ (55296 ≤ (m : Int) ∧ 57343 < (m : Int)) := by omega
          clear hq
          subst he
          rcases hq2 with k2 | ⟨k2, k3⟩
          all_goals
            simp only []; iterate 110 (first | go_values | go_skip | go_guarded | go_step | go_upon | skip)
            go_ret
            exact ⟨rfl, (hext.trans x3)⟩
        | false =>
          rw [hq, if_pos rfl] at he
          simp only [Lib.validRune, decide_eq_false_iff_not] at hq
          have hq2 : (m : Int) ≤ 1114111 ∧ 55296 ≤ (m : Int) ∧ (m : Int) ≤ 57343 := by omega
          clear hq
          obtain ⟨k1, k2, k3⟩ := hq2
          subst he
          go_wp2_with fail
          refine (reads7_any _ (hT.ext (hext.trans x3))).mono ?_
          rintro e w4 ⟨rfl, x4⟩
          go_wp2_with fail
          go_ret
          exact ⟨rfl, (hext.trans x3).trans x4⟩

set_option maxRecDepth 100000 in
set_option maxHeartbeats 1000000 in
theorem rune_high (a0 a1 : Int) (a2 : Bool) (w : World) (b0 : 0 ≤ a0 ∧ a0 ≤ 4294967295) (b1 : 0 ≤ a1 ∧ a1 ≤ 255) (hT : Tabs w) (m : Nat) (hm : a0 % 16777216 = m) (hm2 : m < 16777216) (hF' : (m : Int) ≠ 65533) (hB : ¬ m ≤ 65535) :
    Calls Tryd.prog 3 #[.int .u32 a0, .int .u8 a1, .bool a2] w fun e w' => e = .returned (.bool true) ∧ Ext w w' := by
  obtain ⟨hD, hV, hL1, hL6⟩ := lowD_fit m hm2
  have finish : ∀ (D : List UInt8) (wx : World), Ext w wx → HexD D → valH D 0 = m → 1 ≤ D.length → D.length ≤ 6 → _ := fun D wx x a b c d => unesc_D a2 D m wx (hT.ext x) a b c d
  have hB' : (m : Int) > 65535 := by omega
  have hl : lowD m = hexL true 1 (m / 65536) ++ hexL false 4 (m % 65536) := by rw [lowD, if_neg hB]
  obtain ⟨m0, hm0⟩ : ∃ m0, m0 = m % 65536 := ⟨_, rfl⟩
  obtain ⟨m1, hm1⟩ : ∃ m1, m1 = m / 65536 := ⟨_, rfl⟩
  rw [← hm0, ← hm1] at hl
  have e1 : (m : Int) % 65536 = (m0 : Int) := by omega
  have m0l : (m0 : Int) ≤ 65535 := by omega
  have m1l : (m1 : Int) ≤ 65535 := by omega
  have e2 : (m : Int) / 65536 = (m1 : Int) := by omega
  have e3 : (m1 : Int) % 65536 = (m1 : Int) := by omega
  have H1 := fun wx => hex_any false m0 1 wx (by omega) (by omega)
  have H2 := fun wx => hex_any true m1 1 wx (by omega) (by omega)
  have H3 := fun wx => hex_any false m0 4 wx (by omega) (by omega)
  have hl2 : bs (lowD m) = bs (hexL true 1 m1) ++ bs (hexL false 4 m0) := by rw [hl, bs_append]
  have hl3 : (bs (hexL true 1 m1)).size + (bs (hexL false 4 m0)).size ≤ 9223372036854775807 := by
    rw [← ByteArray.size_append, ← hl2, bs_size]; omega
  clear hl hB
  generalize lowD m = D0 at *
  generalize bs (hexL true 1 m1) = S1 at *
  generalize bs (hexL false 4 m0) = S2 at *
  have hMp : ¬ ((m : Int) = 65533) := hF'
  obtain ⟨M, hM⟩ : ∃ M : Int, M = m := ⟨_, rfl⟩
  obtain ⟨M0, hM0⟩ : ∃ M : Int, M = m0 := ⟨_, rfl⟩
  obtain ⟨M1, hM1⟩ : ∃ M : Int, M = m1 := ⟨_, rfl⟩
  simp only [← hM0, ← hM1] at H1 H2 H3
  have f1 : a0 % 16777216 = M := by omega
  have f2 : M % 65536 = M0 := by omega
  have f3 : M > 65535 := by omega
  have f4 : M / 65536 = M1 := by omega
  have f5 : M1 % 65536 = M1 := by omega
  have f6 : (M == 65533) = false := by simp; omega
  have f7 : 0 ≤ M ∧ M < 16777216 := by omega
  have f8 : 0 ≤ M1 ∧ M1 ≤ 65535 := by omega
  have box : Nonempty (PLift (M = (m : Int) ∧ m < 16777216 ∧ (m : Int) ≠ 65533)) := ⟨⟨hM, hm2, hF'⟩⟩
  clear hm hm2 hF' hB' hm0 hm1 e1 e2 e3 m0l m1l hMp hM hM0 hM1
  go_enter Tryd.func3, Tryd.ntmps3
  go_wp2_with fail
  rw [show IntKind.u16.wrap M = M0 from f2]
  refine (H1 _).mono ?_
  rintro e w2' ⟨rfl, x2'⟩
  go_wp2_with fail
  refine (H2 _).mono ?_
  rintro e w2'' ⟨rfl, x2''⟩
  go_wp2_with fail
  rw [show IntKind.u16.wrap M = M0 from f2]
  refine (H3 _).mono ?_
  rintro e w2 ⟨rfl, x2''' ⟩
  have x2 : Ext w w2 := (x2'.trans x2'').trans x2'''
  go_wp2_with fail
  rw [← hl2]
  clear H1 H2 H3
  go_loopg [7, 8] 6 (fun g s i wr => ∃ (D : List UInt8) (j : Nat), s = .string (bs D) ∧ i = .int .i64 j ∧ j + g = 6 ∧ 1 ≤ g ∧ HexD D ∧ valH D 0 = m ∧ 1 ≤ D.length ∧ D.length ≤ 6 ∧ Ext w wr)
  case atStart => exact ⟨D0, 0, rfl, rfl, rfl, by decide, hD, hV, hL1, hL6, x2⟩
  case round =>
    obtain ⟨D, j, rfl, rfl, hj, hg1, d1, d2, d3, d4, hext⟩ := hrel
    have hsz : (bs D).size = D.length := bs_size D
    have U := finish D wr hext d1 d2 d3 d4
    have s1 : (⟨#[48]⟩ : ByteArray).size + (bs D).size ≤ 9223372036854775807 := by rw [hsz]; show 1 + D.length ≤ _; omega
    by_cases hc : (j : Int) < a1 % 6 ∧ D.length < 6
    · obtain ⟨hc1, hc2⟩ := hc
      have hc3 : ((bs D).size : Int) < 6 := by rw [hsz]; omega
      go_wp2_with fail
      go_roundg (gk - 1)
      case measure => omega
      case rel => exact ⟨48 :: D, j + 1, by rw [show (⟨#[48]⟩ : ByteArray) = bs [48] from rfl, bs_append]; rfl, by go_num, by omega, by omega, d1.zero, (valH_zero D).trans d2, by simp, by simp; omega, hext⟩
    · have hx : ¬ (j : Int) < a1 % 6 ∨ ((j : Int) < a1 % 6 ∧ ¬ ((bs D).size : Int) < 6) := by rw [hsz]; omega
      have hstr : ((⟨#[92, 117, 123]⟩ : ByteArray) ++ bs D) ++ ⟨#[125]⟩ = bs (92 :: 117 :: 123 :: (D ++ [125])) := by
        rw [show (⟨#[92, 117, 123]⟩ : ByteArray) = bs [92, 117, 123] from rfl, show (⟨#[125]⟩ : ByteArray) = bs [125] from rfl, bs_append, bs_append]; rfl
      have s2 : (⟨#[92, 117, 123]⟩ : ByteArray).size + (bs D).size ≤ 9223372036854775807 := by rw [hsz]; show 3 + D.length ≤ _; omega
      have s3 : ((⟨#[92, 117, 123]⟩ : ByteArray) ++ bs D).size + (⟨#[125]⟩ : ByteArray).size ≤ 9223372036854775807 := by
        rw [ByteArray.size_append, hsz]; show 3 + D.length + 1 ≤ _; omega
      rw [← hstr] at U
      clear hstr hc
      clear finish hD hV hL1 hL6
      rcases hx with hx | ⟨hx1, hx2⟩
      all_goals
        go_wp2_with fail
        refine U.mono ?_
        rintro e w3 ⟨he, x3⟩
        cases hq : Lib.validRune m with
        | true =>
          rw [hq, if_neg (by decide)] at he
          obtain ⟨⟨hM, hm2, hF'⟩⟩ := box
          have R := fun wx => rune_str m wx hq
          simp only [← hM] at R he
          simp only [Lib.validRune, decide_eq_true_eq] at hq
          have k1 : M ≤ 1114111 := by omega
          have k4 : M ≤ 2147483647 := by omega
          have k2 : 55296 ≤ M := by omega
          have k3 : 57343 < M := by omega
          clear hq hM hm2 hF'
          subst he
          all_goals
            simp only []; iterate 110 (first | go_values | go_skip | go_guarded | go_step | go_upon | skip)
            go_ret
            exact ⟨rfl, (hext.trans x3)⟩
        | false =>
          rw [hq, if_pos rfl] at he
          simp only [Lib.validRune, decide_eq_false_iff_not] at hq
          obtain ⟨⟨hM, hm2, hF'⟩⟩ := box
          have k1 : 1114111 < M := by omega
          clear hq hM hm2 hF'
          subst he
          go_wp2_with fail
          refine (reads7_any _ (hT.ext (hext.trans x3))).mono ?_
          rintro e w4 ⟨rfl, x4⟩
          go_wp2_with fail
          go_ret
          exact ⟨rfl, (hext.trans x3).trans x4⟩

set_option maxRecDepth 100000 in
set_option maxHeartbeats 1000000 in
theorem fnUnescapeRune_walk (a0 a1 : Int) (a2 : Bool) (w : World) (w0 : (Lit.int .u32 a0).wf = true) (w1 : (Lit.int .u8 a1).wf = true) (hT : Tabs w) :
    Calls Tryd.prog 3 #[.int .u32 a0, .int .u8 a1, .bool a2] w fun e w' => e = .returned (.bool true) ∧ Ext w w' := by
  have b0 := Go.bounds_u32 w0
  have b1 := Go.bounds_u8 w1
  clear w0 w1
  obtain ⟨m, hm⟩ : ∃ m : Nat, a0 % 16777216 = m := ⟨(a0 % 16777216).toNat, by omega⟩
  have hm2 : m < 16777216 := by omega
  by_cases hF : m = 65533
  · have hF' : (m : Int) = 65533 := by omega
    clear hF hT
    go_enter Tryd.func3, Tryd.ntmps3
    go_wp2_with fail
    go_ret
    exact ⟨rfl, Ext.refl _⟩
  · have hF' : (m : Int) ≠ 65533 := by omega
    clear hF
    by_cases hB : m ≤ 65535
    · exact rune_low a0 a1 a2 w b0 b1 hT m hm hm2 hF' hB
    · exact rune_high a0 a1 a2 w b0 b1 hT m hm hm2 hF' hB
end Go.Proofs.YtggodjppecljnaaDoorR
