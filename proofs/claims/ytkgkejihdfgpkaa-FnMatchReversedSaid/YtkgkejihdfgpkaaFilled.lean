/- The walk of FnMatchFilled. -/
import Derived.Test.YtkgkejihdfgpkaaImpl
namespace Go.Proofs.Ytkgkejihdfgpkaa
open Go.RowKit

theorem SRow.open {w : World} {v : Value} {ss : List (List UInt8)} (h : SRow w v ss) :
    ∃ ao cap, v = .slice ao ss.length cap ∧ ss.length ≤ maxLen ∧ ∀ i (h : i < ss.length), ∃ b off, ao = some ⟨b, off, none⟩ ∧ w.cell? ⟨b, off + i, none⟩ = some (.string (bs ss[i])) ∧ (bs ss[i]).size ≤ maxLen := by
  rcases h with ⟨ao, cap, rfl, rfl⟩ | ⟨b, off, cap, rfl, hm, hc⟩
  · exact ⟨ao, cap, rfl, by simp, fun i h => by simp at h⟩
  · exact ⟨_, cap, rfl, hm, fun i h => ⟨b, off, rfl, (hc i h).1, (hc i h).2⟩⟩

theorem glue_more (ps : List (List UInt8)) : ∀ (p q : List UInt8) (fs : List (List UInt8)), PatM.glue (p :: ps ++ [q]) fs = PatM.glue (p :: ps) fs ++ (fs.getD ps.length [] ++ q) := by
  induction ps with
  | nil => intro p q fs; cases fs <;> simp [PatM.glue]
  | cons a r ih =>
    intro p q fs
    cases fs with
    | nil =>
      have := ih a q []
      simp only [List.cons_append, PatM.glue] at this ⊢
      rw [this]; simp
    | cons f fs =>
      have := ih a q fs
      simp only [List.cons_append, PatM.glue] at this ⊢
      rw [this]; simp
theorem glue_step {ps fs : List (List UInt8)} {k : Nat} (h0 : 0 < k) (h : k < ps.length) : PatM.glue (ps.take (k + 1)) fs = PatM.glue (ps.take k) fs ++ (fs.getD (k - 1) [] ++ ps[k]) := by
  rw [List.take_succ_eq_append_getElem h]
  cases hp : ps.take k with
  | nil =>
    have := congrArg List.length hp
    rw [List.length_take] at this; simp only [List.length_nil] at this; omega
  | cons p r =>
    have hl := congrArg List.length hp
    rw [List.length_take] at hl; simp only [List.length_cons] at hl
    have := glue_more r p ps[k] fs
    rw [this]
    congr 3
    omega

theorem fnMatchFilled_walk (v0 v1 : Value) (ps fs : List (List UInt8)) (w : World) (h0 : SRow w v0 ps) (h1 : SRow w v1 fs) :
    Calls Try.prog 3 #[v0, v1] w fun e w' => e = .returned (.bool true) ∧ Ext w w' := by
  obtain ⟨a0, cap0, hv0, hm0, hc0⟩ := h0.open
  obtain ⟨a1, cap1, hv1, hm1, hc1⟩ := h1.open
  unfold maxLen at hm0 hm1
  subst hv0 hv1
  have H0 := Lib.hid h0
  have H1 := Lib.hid h1
  have Hc0 := Lib.hid hc0
  have Hc1 := Lib.hid hc1
  clear h0 h1 hc0 hc1
  cases hf0 : fits9 ps with
  | false =>
    have Hf0 := Lib.hid hf0
    clear hf0
    go_enter Try.func3, Try.ntmps3
    go_wp2_with (go_at_call 5; refine (fits9_any _ _ _ H0.out).mono ?_; rintro e w' ⟨rfl, rfl⟩; rw [Hf0.out])
    go_ret
    exact ⟨rfl, Ext.refl _⟩
  | true =>
    have Hf0 := Lib.hid hf0
    clear hf0
    cases hf1 : fits9 fs with
    | false =>
      have Hf1 := Lib.hid hf1
      clear hf1
      go_enter Try.func3, Try.ntmps3
      go_wp2_with fail
      refine (fits9_any _ _ _ H0.out).mono ?_; rintro e w' ⟨rfl, rfl⟩; rw [Hf0.out]
      go_wp2_with fail
      refine (fits9_any _ _ _ H1.out).mono ?_; rintro e w' ⟨rfl, rfl⟩; rw [Hf1.out]
      go_wp2_with fail
      go_ret
      exact ⟨rfl, Ext.refl _⟩
    | true =>
      have Hf1 := Lib.hid hf1
      clear hf1
      by_cases hlen : ps.length = 0 ∨ 60 < ps.length
      · have Hlen := Lib.hid hlen
        clear hlen
        have hb : (((ps.length : Int) == 0) = true) ∨ ((((ps.length : Int) == 0) = false) ∧ 60 < ps.length) := by
          rcases Hlen.out with h | h
          · left; rw [h]; rfl
          · right; exact ⟨by rw [beq_eq_false_iff_ne]; omega, h⟩
        rcases hb with hb | ⟨hb, hb2⟩
        all_goals
          go_enter Try.func3, Try.ntmps3
          go_wp2_with fail
          refine (fits9_any _ _ _ H0.out).mono ?_; rintro e w' ⟨rfl, rfl⟩; rw [Hf0.out]
          go_wp2_with fail
          refine (fits9_any _ _ _ H1.out).mono ?_; rintro e w' ⟨rfl, rfl⟩; rw [Hf1.out]
          go_wp2_with fail
          go_ret
          exact ⟨rfl, Ext.refl _⟩
      · have hb : ((ps.length : Int) == 0) = false := by rw [beq_eq_false_iff_ne]; omega
        have hb2 : ¬ (60 : Int) < (ps.length : Int) := by omega
        have hb3 : ps.length ≤ 60 := by omega
        clear hlen
        go_enter Try.func3, Try.ntmps3
        go_wp2_with fail
        refine (fits9_any _ _ _ H0.out).mono ?_; rintro e w' ⟨rfl, rfl⟩; rw [Hf0.out]
        go_wp2_with fail
        refine (fits9_any _ _ _ H1.out).mono ?_; rintro e w' ⟨rfl, rfl⟩; rw [Hf1.out]
        go_wp2_with fail
        go_loop [5, 6] (fun t i => ∃ (k : Nat) (tt : List UInt8), k ≤ ps.length ∧ i = .int .i64 k ∧ t = .string (bs tt) ∧ (bs tt).size ≤ k * 200 ∧ Hid (tt = PatM.glue (ps.take k) fs)) (fun _ i => ps.length - (intOf i).toNat)
        case atStart => exact ⟨0, [], Nat.zero_le _, rfl, rfl, by rw [bs_size]; simp, Lib.hid rfl⟩
        case round =>
          obtain ⟨k, tt, hk, rfl, rfl, hts, Ht⟩ := hrel
          by_cases hlt : k < ps.length
          · obtain ⟨b, off, rfl, hcell, _⟩ := Hc0.out k hlt
            by_cases hbig : 100 < (bs ps[k]).size
            · go_wp2_with fail
              go_ret
              exact ⟨rfl, Ext.refl _⟩
            · have hbig2 : (bs ps[k]).size ≤ 100 := by omega
              have Hz := Lib.hid (bs_size ps[k])
              by_cases hk0 : 0 < k
              · have hgl := Lib.hid (glue_step (fs := fs) hk0 hlt)
                by_cases hkf : k - 1 < fs.length
                · obtain ⟨b1, off1, rfl, hcell1, _⟩ := Hc1.out (k - 1) hkf
                  have hkf2 : (k : Int) - 1 < (fs.length : Int) := by omega
                  have hgd : fs.getD (k - 1) [] = fs[k - 1] := by
                    rw [List.getD_eq_getElem?_getD, List.getElem?_eq_getElem hkf]; rfl
                  have Hgd := Lib.hid hgd
                  clear hgd
                  have e1 : ((k : Int) - 1).toNat = k - 1 := by omega
                  by_cases hbig3 : 100 < (bs fs[k - 1]).size
                  · go_wp2_with fail
                    go_ret
                    exact ⟨rfl, Ext.refl _⟩
                  · have hbig4 : (bs fs[k - 1]).size ≤ 100 := by omega
                    have hsum : (bs tt ++ bs fs[k - 1]).size ≤ k * 200 + 100 := by
                      rw [bs_append, bs_size, List.length_append, ← bs_size, ← bs_size]; omega
                    go_wp2_with fail
                    go_round
                    case rel =>
                      refine ⟨k + 1, tt ++ fs[k - 1] ++ ps[k], by omega, by go_num, by rw [bs_append, bs_append], ?_, ?_⟩
                      · rw [bs_size, List.length_append, List.length_append, ← bs_size, ← bs_size, ← bs_size]; omega
                      · exact Lib.hid (by rw [hgl.out, Ht.out, Hgd.out, List.append_assoc])
                    case measure => simp [intOf]; omega
                · have hkf2 : ¬ (k : Int) - 1 < (fs.length : Int) := by omega
                  have hgd : fs.getD (k - 1) [] = [] := by
                    rw [List.getD_eq_getElem?_getD, List.getElem?_eq_none (by omega)]; rfl
                  have Hgd := Lib.hid hgd
                  clear hgd
                  go_wp2_with fail
                  go_round
                  case rel =>
                    refine ⟨k + 1, tt ++ ps[k], by omega, by go_num, by rw [bs_append], ?_, ?_⟩
                    · rw [bs_size, List.length_append, ← bs_size, ← bs_size]; omega
                    · exact Lib.hid (by rw [hgl.out, Ht.out, Hgd.out, List.nil_append])
                  case measure => simp [intOf]; omega
              · have htt : tt = [] := by
                  rw [Ht.out]
                  obtain rfl : k = 0 := by omega
                  rfl
                have hgl : PatM.glue (ps.take (k + 1)) fs = tt ++ ps[k] := by
                  rw [htt]
                  obtain rfl : k = 0 := by omega
                  rw [List.take_succ_eq_append_getElem hlt]
                  rfl
                have Hgl := Lib.hid hgl
                clear hgl htt
                go_wp2_with fail
                go_round
                case rel =>
                  refine ⟨k + 1, tt ++ ps[k], by omega, by go_num, by rw [bs_append], ?_, ?_⟩
                  · rw [bs_size, List.length_append, ← bs_size, ← bs_size]; omega
                  · exact Lib.hid (by rw [Hgl.out])
                case measure => simp [intOf]; omega
          · have hall : ps.take k = ps := List.take_of_length_le (by omega)
            have hres : PatM.matchC (PatM.compsOf ps) tt = true := by
              rw [Ht.out, hall]
              cases ps with
              | nil => simp at hb
              | cons p r => exact PatM.matchC_glue p r fs
            have Hres := Lib.hid hres
            clear hall hres
            have htm : tt.length ≤ maxLen := by rw [← bs_size]; unfold maxLen; omega
            have hsm : ∀ s ∈ ps, s.length ≤ 2147483647 := by
              intro s hs
              have h := Hf0.out
              simp only [fits9, Bool.and_eq_true, List.all_eq_true, decide_eq_true_eq] at h
              exact h.2 s hs
            have Hsm := Lib.hid hsm
            have Htm := Lib.hid htm
            clear hsm htm
            go_wp2_with fail
            refine (implMatch_any _ ps tt _ H0.out (by omega) Hsm.out Htm.out).mono ?_
            rintro e w1 ⟨rfl, hext⟩
            rw [Hres.out]
            go_wp2_with fail
            go_ret
            exact ⟨rfl, hext⟩
end Go.Proofs.Ytkgkejihdfgpkaa
