/- The contract of Pattern.Match. -/
import Derived.Test.YtkgkejihdfgpkaaChunk
import Derived.Test.YtkgkejihdfgpkaaNew
namespace Go.Proofs.Ytkgkejihdfgpkaa
open Go.RowKit

theorem cellsC_at {C : List Comp} {k : Nat} (h : k < C.length) : (cellsC C)[k * 2]? = some (.bool C[k].1) ∧ (cellsC C)[k * 2 + 1]? = some (.string (bs C[k].2)) := by
  induction C generalizing k with
  | nil => simp at h
  | cons c D ih =>
    cases k with
    | zero => exact ⟨rfl, rfl⟩
    | succ m =>
      have := ih (k := m) (by simpa using h)
      have e : cellsC (c :: D) = .bool c.1 :: .string (bs c.2) :: cellsC D := rfl
      rw [e, show (m + 1) * 2 = m * 2 + 1 + 1 from by omega]
      simpa using this

theorem matchC_cont {wild : Bool} {lit s t : List UInt8} {rest : List Comp} (h0 : (wild && lit.isEmpty) = false) (h : PatM.strip lit s = some t) (h1 : (t.isEmpty || !rest.isEmpty) = true) :
    PatM.matchC ((wild, lit) :: rest) s = PatM.matchC rest t := by
  simp only [PatM.matchC]
  rw [if_neg (by simp [h0]), h]
  simp only [h1, if_true]
theorem matchC_stop {lit s : List UInt8} {rest : List Comp} (h : ∀ t, PatM.strip lit s = some t → (t.isEmpty || !rest.isEmpty) = false) :
    PatM.matchC ((false, lit) :: rest) s = false := by
  simp only [PatM.matchC, Bool.false_and, Bool.false_eq_true, if_false]
  cases hs : PatM.strip lit s with
  | none => rfl
  | some t => simp only [h t hs, Bool.false_eq_true, if_false]
theorem matchC_find {lit s : List UInt8} {rest : List Comp} (h0 : lit.isEmpty = false) (h : ∀ t, PatM.strip lit s = some t → (t.isEmpty || !rest.isEmpty) = false) :
    PatM.matchC ((true, lit) :: rest) s = (match PatM.findC rest.isEmpty lit s with | some t => PatM.matchC rest t | none => false) := by
  simp only [PatM.matchC]
  rw [if_neg (by simp [h0])]
  cases hs : PatM.strip lit s with
  | none => rfl
  | some t => simp only [h t hs, Bool.false_eq_true, if_false, if_true]; rfl

theorem drewN_assoc (w : World) (a b c : Nat) : (w.drewN (a + b)).drewN c = w.drewN (a + (b + c)) := by rw [World.drewN_drewN, Nat.add_assoc]

set_option maxHeartbeats 2000000 in
set_option maxRecDepth 100000 in
theorem match_any (v : Value) (n : Nat) (C : List Comp) (s : List UInt8) (w : World) (hr : VRow2 w v n (cellsC C)) (hn : n ≤ 100000) (hl : ∀ c ∈ C, c.2.length ≤ maxLen) (hs : s.length ≤ maxLen) :
    Calls Try.prog 10 #[.agg #[v], .string (bs s)] w fun e w' => e = .returned (.bool (PatM.matchC C s)) ∧ Ext w w' := by
  have hCn : C.length = n := by have := hr.1; rw [cellsC_len] at this; omega
  unfold maxLen at hs hl
  rcases hr.2 with ⟨rfl, rfl⟩ | ⟨b, off, cap, rfl, hm, hc⟩
  · have hC : C = [] := List.eq_nil_of_length_eq_zero hCn
    have hres : PatM.matchC C s = ((bs s).size == 0) := by
      rw [hC, bs_size]; cases s <;> rfl
    have Hres := Lib.hid hres
    clear hres hC hCn hl hr hn
    go_enter Try.func10, Try.ntmps10
    go_wp2
    go_step3
    go_wp2
    go_step3
    go_wp2
    go_loopg [1, 16] 0 (fun g a i wr => i = .int .i64 0 ∧ a = .string (bs s) ∧ wr = w.alloc (.cells #[.slice none 0 0] 29))
    case atStart => exact ⟨rfl, rfl, rfl⟩
    case round =>
      obtain ⟨rfl, rfl, rfl⟩ := hrel
      go_wp2
      try rw [Exit.noGoto_ret]
      go_ret
      refine ⟨?_, (Ext.refl w).alloc _⟩
      rw [Hres.out]
      by_cases h : (bs s).size = 0
      · simp [h]
      · have h2 : (((bs s).size : Int) == 0) = false := by rw [beq_eq_false_iff_ne]; omega
        have h3 : ((bs s).size == 0) = false := by rw [beq_eq_false_iff_ne]; exact h
        simp [h2, h3]
  · have hblk : ∀ k, k < n → b < w.heap.size ∧ w.cell? ⟨b, off + k * 2, none⟩ = some (.bool (C.getD k (false, [])).1) ∧ w.cell? ⟨b, off + k * 2 + 1, none⟩ = some (.string (bs (C.getD k (false, [])).2)) := by
      intro k hk
      have hk' : k < C.length := by omega
      have h1 := hc (k * 2) (by rw [cellsC_len]; omega)
      have h2 := hc (k * 2 + 1) (by rw [cellsC_len]; omega)
      obtain ⟨e1, e2⟩ := cellsC_at hk'
      rw [List.getElem?_eq_getElem (by rw [cellsC_len]; omega)] at e1 e2
      have e1' := Option.some.inj e1
      have e2' := Option.some.inj e2
      refine ⟨World.block_lt_of_cell? w _ h1, ?_, ?_⟩
      · rw [h1, e1', List.getD_eq_getElem?_getD, List.getElem?_eq_getElem hk']; rfl
      · rw [Nat.add_assoc, h2, e2', List.getD_eq_getElem?_getD, List.getElem?_eq_getElem hk']; rfl
    clear hc
    have Hblk := Lib.hid hblk
    clear hblk
    have HCn := Lib.hid hCn
    clear hCn
    have Hl := Lib.hid hl
    clear hl
    go_enter Try.func10, Try.ntmps10
    go_wp2
    go_step3
    go_wp2
    go_step3
    go_wp2
    go_loopg [1, 16] n (fun g a i wr => ∃ (k : Nat) (s' : List UInt8), k + g = n ∧ i = .int .i64 k ∧ a = .string (bs s') ∧ (bs s').size ≤ 9223372036854775807 ∧ Hid (PatM.matchC C s = PatM.matchC (C.drop k) s') ∧ Ext (w.alloc (.cells #[.slice (some ⟨b, off, none⟩) n cap] 29)) wr)
    case atStart => exact ⟨0, s, by omega, rfl, rfl, by rw [bs_size]; exact hs, Lib.hid rfl, Ext.refl _⟩
    case round =>
      obtain ⟨k, s', hkg, rfl, rfl, hs', HM, hext⟩ := hrel
      cases gk with
      | zero =>
        have hkz : ¬ ((k : Int) < (n : Int)) := by omega
        have hd : C.drop k = [] := List.drop_eq_nil_of_le (by rw [HCn.out]; omega)
        have Hd := Lib.hid hd
        clear hd
        go_wp2
        try rw [Exit.noGoto_ret]
        go_ret
        refine ⟨?_, ((Ext.refl w).alloc _).trans hext⟩
        rw [HM.out, Hd.out, bs_size]
        cases s' <;> rfl
      | succ g =>
        have hkz : (k : Int) < (n : Int) := by omega
        have hlt : k < n := by omega
        obtain ⟨hb, hw1, hw2⟩ := Hblk.out k hlt
        generalize hcomp : C.getD k (false, []) = comp at hw1 hw2
        obtain ⟨wild, lit⟩ := comp
        have hdrop : C.drop k = (wild, lit) :: C.drop (k + 1) := by
          have hk' : k < C.length := by rw [HCn.out]; exact hlt
          rw [List.drop_eq_getElem_cons hk']
          rw [List.getD_eq_getElem?_getD, List.getElem?_eq_getElem hk'] at hcomp
          rw [← hcomp]; rfl
        have Hdrop := Lib.hid hdrop
        clear hdrop hcomp
        have hc1 : wr.cell? ⟨b, off + k * 2, none⟩ = some (.bool wild) := by
          rw [Below.cell hext (by simp; omega), World.cell?_alloc_lt _ _ _ hb]; exact hw1
        have hc2 : wr.cell? ⟨b, off + k * 2 + 1, none⟩ = some (.string (bs lit)) := by
          rw [Below.cell hext (by simp; omega), World.cell?_alloc_lt _ _ _ hb]; exact hw2
        have hbox : wr.cell? ⟨w.heap.size, 0, none⟩ = some (.slice (some ⟨b, off, none⟩) n cap) := by
          rw [Below.cell hext (by simp)]; simp
        have hsz : w.heap.size < wr.heap.size := by have := hext.size; simp at this; omega
        clear hw1 hw2
        obtain ⟨lastB, hlB⟩ : ∃ lb, ((k : Int) == (n : Int) - 1) = lb := ⟨_, rfl⟩
        have hlB2 : (C.drop (k + 1)).isEmpty = lastB := by
          rw [← hlB, Bool.eq_iff_iff]
          simp [HCn.out]
          omega
        have HlB := Lib.hid hlB2
        clear hlB2
        have hlm : (bs lit).size ≤ maxLen := by
          rw [bs_size]
          exact Hl.out _ (List.mem_of_mem_drop (i := k) (by rw [Hdrop.out]; exact List.mem_cons_self ..))
        have hsm : (bs s').size ≤ maxLen := by unfold maxLen; exact hs'
        have Hlm := Lib.hid hlm
        have Hsm := Lib.hid hsm
        clear hlm hsm
        by_cases he : (wild && lit.isEmpty) = true
        · -- a wildcard with nothing behind it
          have hw : wild = true := by simp at he; exact he.1
          have hl0 : lit = [] := by simp at he; exact he.2
          have hpb : (bs lit).toList.isEmpty = true := by rw [bs_isEmpty, hl0]; rfl
          have hres : PatM.matchC C s = true := by
            rw [HM.out, Hdrop.out, hw, hl0]; simp [PatM.matchC]
          have Hres := Lib.hid hres
          subst hw
          clear he hl0 hres
          go_wp2_with fail
          try rw [Exit.noGoto_ret]
          go_ret
          exact ⟨by rw [Hres.out]; rfl, (((Ext.refl w).alloc _).trans hext).alloc _⟩
        · have he' : (wild && lit.isEmpty) = false := by simpa using he
          have He := Lib.hid he'
          clear he he'
          have hnb : wild = true → (bs lit).toList.isEmpty = false := by
            intro h; rw [bs_isEmpty]; have := He.out; rw [h] at this; simpa using this
          cases hst : PatM.strip lit s' with
          | none =>
            have hno : ∀ t, PatM.strip lit s' = some t → (t.isEmpty || !(C.drop (k + 1)).isEmpty) = false := by
              intro t h; rw [hst] at h; cases h
            have Hno := Lib.hid hno
            have Hst := Lib.hid hst
            clear hst hno
            cases wild with
            | false =>
              clear hnb
              go_wp2_with (go_at_call 12; refine (chunk_none lit (bs s') _ Hlm.out Hsm.out (by rw [bs_toList]; exact Hst.out)).mono ?_; rintro e w1 ⟨rfl, n1, rfl⟩)
              try rw [Exit.noGoto_ret]
              go_ret
              exact ⟨by rw [HM.out, Hdrop.out, matchC_stop Hno.out]; rfl, ((((Ext.refl w).alloc _).trans hext).alloc _).drewN _⟩
            | true =>
              have hpb := hnb rfl
              clear hnb
              go_wp2_with (go_at_call 12; refine (chunk_none lit (bs s') _ Hlm.out Hsm.out (by rw [bs_toList]; exact Hst.out)).mono ?_; rintro e w1 ⟨rfl, n1, rfl⟩)
              cases lastB with
              | false =>
                have Hfind := Lib.hid (matchC_find (lit := lit) (s := s') (rest := C.drop (k + 1)) (by simpa using He.out) Hno.out)
                have Hrel : Hid (PatM.matchC C s = (match PatM.findC false lit s' with | some t => PatM.matchC (C.drop (k + 1)) t | none => false)) := Lib.hid (by rw [HM.out, Hdrop.out, Hfind.out, HlB.out])
                clear Hfind
                go_loopg [1, 10] s'.length (fun g2 a i wy => ∃ j : Nat, j + g2 = s'.length ∧ i = .int .i64 j ∧ a = .string (bs s') ∧ Hid (PatM.findC false lit s' = PatM.findC false lit (s'.drop j)) ∧ ∃ nn, wy = (wr.alloc (.cells #[.bool true, .string (bs lit)] 39)).drewN nn)
                case atStart => exact ⟨0, by omega, rfl, rfl, Lib.hid rfl, _, rfl⟩
                case round =>
                  obtain ⟨j, hj, rfl, rfl, HF, nn, rfl⟩ := hrel
                  have hz2 := bs_size s'
                  have Hz2 := Lib.hid hz2
                  clear hz2
                  cases gk with
                  | zero =>
                    have hlt2 : ¬ ((j : Int) < ((bs s').size : Int)) := by rw [Hz2.out]; omega
                    have hd : PatM.findC false lit s' = none := by
                      rw [HF.out, List.drop_eq_nil_of_le (by omega)]; rfl
                    have Hd := Lib.hid hd
                    clear hd
                    go_wp2_with fail
                    try rw [Exit.noGoto_ret]
                    go_ret
                    exact ⟨by rw [Hrel.out, Hd.out]; rfl, ((((Ext.refl w).alloc _).trans hext).alloc _).drewN _⟩
                  | succ g2 =>
                    have hlt2 : (j : Int) < ((bs s').size : Int) := by rw [Hz2.out]; omega
                    have hlt3 : j + 1 ≤ (bs s').size := by rw [Hz2.out]; omega
                    have hsl : ∀ wx, Sem.run Try.prog (Instr.slice 32 (.string (bs s')) (some (.int .i64 ((j : Int) + 1))) none none) wx = .ok (.string ((bs s').extract (j + 1) (bs s').size)) wx := by
                      intro wx
                      have h := run_slice_string_l (P := Try.prog) (w := wx) (t := 32) (s := bs s') Try.underlying32 .i64 ((j : Int) + 1) (by omega) (by omega)
                      have e : ((j : Int) + 1).toNat = j + 1 := by omega
                      rw [e] at h; exact h
                    have hw1 : IntKind.i64.wrap ((j : Int) + 1) = (j : Int) + 1 := IntWalk.i64_in _ (by omega)
                    have hw2 : (0 : Int) ≤ (j : Int) + 1 := by omega
                    have hdr : s'.drop j = s'[j]'(by omega) :: s'.drop (j + 1) := List.drop_eq_getElem_cons (by omega)
                    have Hdr := Lib.hid hdr
                    clear hdr
                    cases hst2 : PatM.strip lit (s'.drop (j + 1)) with
                    | none =>
                      have Hst2 := Lib.hid hst2
                      have hstep : PatM.findC false lit (s'.drop j) = PatM.findC false lit (s'.drop (j + 1)) := by
                        rw [Hdr.out, PatM.findC, hst2]
                      have Hstep := Lib.hid hstep
                      clear hst2 hstep
                      have hsz3 : ((bs s').extract (j + 1) (bs s').size).size ≤ maxLen := by
                        rw [Lib.size_eq, bs_drop, List.length_drop]
                        have := Hz2.out
                        unfold maxLen
                        omega
                      have hcall := fun (wx : World) => chunk_none lit ((bs s').extract (j + 1) (bs s').size) wx Hlm.out hsz3 (by rw [bs_drop]; exact Hst2.out)
                      have Hcall := Lib.hid hcall
                      clear hcall hsz3
                      go_wp2_with fail
                      go_quiet ((go_at_call 12; refine (Hcall.out _).mono ?_; rintro e w2 ⟨rfl, n2, rfl⟩; exact ⟨rfl, _, drewN_assoc _ _ _ _⟩))
                      go_wp2_with fail
                      clear hsl
                      go_roundg g2
                      case measure => omega
                      case rel => exact ⟨j + 1, by omega, by go_num, rfl, Lib.hid (by rw [HF.out, Hstep.out]), _, rfl⟩
                    | some t2 =>
                      have Hst2 := Lib.hid hst2
                      have hsz3 : ((bs s').extract (j + 1) (bs s').size).size ≤ maxLen := by
                        rw [Lib.size_eq, bs_drop, List.length_drop]
                        have := Hz2.out
                        unfold maxLen
                        omega
                      have hcall := fun (wx : World) => chunk_some lit ((bs s').extract (j + 1) (bs s').size) t2 wx Hlm.out hsz3 (by rw [bs_drop]; exact Hst2.out)
                      have Hcall := Lib.hid hcall
                      have ht2 : (bs t2).size ≤ 9223372036854775807 := by
                        have h1 := congrArg List.length (PatM.strip_some.1 hst2)
                        rw [bs_size] at hs' ⊢
                        simp at h1
                        omega
                      clear hcall hsz3 hst2
                      have hstep : PatM.findC false lit (s'.drop j) = some t2 := by
                        rw [Hdr.out, PatM.findC, Hst2.out]; rfl
                      have Hstep := Lib.hid hstep
                      clear hstep
                      go_wp2_with fail
                      go_quiet ((go_at_call 12; refine (Hcall.out _).mono ?_; rintro e w2 ⟨rfl, n2, rfl⟩; exact ⟨rfl, _, drewN_assoc _ _ _ _⟩))
                      go_wp2_with fail
                      clear hsl
                      go_roundg g
                      case measure => omega
                      case rel => exact ⟨k + 1, t2, by omega, by go_num, rfl, ht2, Lib.hid (by rw [Hrel.out, HF.out, Hstep.out]), (hext.alloc _).drewN _⟩
              | true =>
                have Hfind := Lib.hid (matchC_find (lit := lit) (s := s') (rest := C.drop (k + 1)) (by simpa using He.out) Hno.out)
                have Hrel : Hid (PatM.matchC C s = (match PatM.findC true lit s' with | some t => PatM.matchC (C.drop (k + 1)) t | none => false)) := Lib.hid (by rw [HM.out, Hdrop.out, Hfind.out, HlB.out])
                clear Hfind
                go_loopg [1, 10] s'.length (fun g2 a i wy => ∃ j : Nat, j + g2 = s'.length ∧ i = .int .i64 j ∧ a = .string (bs s') ∧ Hid (PatM.findC true lit s' = PatM.findC true lit (s'.drop j)) ∧ ∃ nn, wy = (wr.alloc (.cells #[.bool true, .string (bs lit)] 39)).drewN nn)
                case atStart => exact ⟨0, by omega, rfl, rfl, Lib.hid rfl, _, rfl⟩
                case round =>
                  obtain ⟨j, hj, rfl, rfl, HF, nn, rfl⟩ := hrel
                  have hz2 := bs_size s'
                  have Hz2 := Lib.hid hz2
                  clear hz2
                  cases gk with
                  | zero =>
                    have hlt2 : ¬ ((j : Int) < ((bs s').size : Int)) := by rw [Hz2.out]; omega
                    have hd : PatM.findC true lit s' = none := by
                      rw [HF.out, List.drop_eq_nil_of_le (by omega)]; rfl
                    have Hd := Lib.hid hd
                    clear hd
                    go_wp2_with fail
                    try rw [Exit.noGoto_ret]
                    go_ret
                    exact ⟨by rw [Hrel.out, Hd.out]; rfl, ((((Ext.refl w).alloc _).trans hext).alloc _).drewN _⟩
                  | succ g2 =>
                    have hlt2 : (j : Int) < ((bs s').size : Int) := by rw [Hz2.out]; omega
                    have hlt3 : j + 1 ≤ (bs s').size := by rw [Hz2.out]; omega
                    have hsl : ∀ wx, Sem.run Try.prog (Instr.slice 32 (.string (bs s')) (some (.int .i64 ((j : Int) + 1))) none none) wx = .ok (.string ((bs s').extract (j + 1) (bs s').size)) wx := by
                      intro wx
                      have h := run_slice_string_l (P := Try.prog) (w := wx) (t := 32) (s := bs s') Try.underlying32 .i64 ((j : Int) + 1) (by omega) (by omega)
                      have e : ((j : Int) + 1).toNat = j + 1 := by omega
                      rw [e] at h; exact h
                    have hw1 : IntKind.i64.wrap ((j : Int) + 1) = (j : Int) + 1 := IntWalk.i64_in _ (by omega)
                    have hw2 : (0 : Int) ≤ (j : Int) + 1 := by omega
                    have hdr : s'.drop j = s'[j]'(by omega) :: s'.drop (j + 1) := List.drop_eq_getElem_cons (by omega)
                    have Hdr := Lib.hid hdr
                    clear hdr
                    cases hst2 : PatM.strip lit (s'.drop (j + 1)) with
                    | none =>
                      have Hst2 := Lib.hid hst2
                      have hstep : PatM.findC true lit (s'.drop j) = PatM.findC true lit (s'.drop (j + 1)) := by
                        rw [Hdr.out, PatM.findC, hst2]
                      have Hstep := Lib.hid hstep
                      clear hst2 hstep
                      have hsz3 : ((bs s').extract (j + 1) (bs s').size).size ≤ maxLen := by
                        rw [Lib.size_eq, bs_drop, List.length_drop]
                        have := Hz2.out
                        unfold maxLen
                        omega
                      have hcall := fun (wx : World) => chunk_none lit ((bs s').extract (j + 1) (bs s').size) wx Hlm.out hsz3 (by rw [bs_drop]; exact Hst2.out)
                      have Hcall := Lib.hid hcall
                      clear hcall hsz3
                      go_wp2_with fail
                      go_quiet ((go_at_call 12; refine (Hcall.out _).mono ?_; rintro e w2 ⟨rfl, n2, rfl⟩; exact ⟨rfl, _, drewN_assoc _ _ _ _⟩))
                      go_wp2_with fail
                      clear hsl
                      go_roundg g2
                      case measure => omega
                      case rel => exact ⟨j + 1, by omega, by go_num, rfl, Lib.hid (by rw [HF.out, Hstep.out]), _, rfl⟩
                    | some t2 =>
                      have Hst2 := Lib.hid hst2
                      have hsz3 : ((bs s').extract (j + 1) (bs s').size).size ≤ maxLen := by
                        rw [Lib.size_eq, bs_drop, List.length_drop]
                        have := Hz2.out
                        unfold maxLen
                        omega
                      have hcall := fun (wx : World) => chunk_some lit ((bs s').extract (j + 1) (bs s').size) t2 wx Hlm.out hsz3 (by rw [bs_drop]; exact Hst2.out)
                      have Hcall := Lib.hid hcall
                      have ht2 : (bs t2).size ≤ 9223372036854775807 := by
                        have h1 := congrArg List.length (PatM.strip_some.1 hst2)
                        rw [bs_size] at hs' ⊢
                        simp at h1
                        omega
                      clear hcall hsz3 hst2
                      by_cases ht0 : t2 = []
                      · have hz3 : ¬ 0 < (bs t2).size := by rw [bs_size, ht0]; simp
                        have hstep : PatM.findC true lit (s'.drop j) = some t2 := by
                          rw [Hdr.out, PatM.findC, Hst2.out, ht0]; rfl
                        have Hstep := Lib.hid hstep
                        clear hstep ht0
                        go_wp2_with fail
                        go_quiet ((go_at_call 12; refine (Hcall.out _).mono ?_; rintro e w2 ⟨rfl, n2, rfl⟩; exact ⟨rfl, _, drewN_assoc _ _ _ _⟩))
                        go_wp2_with fail
                        clear hsl
                        go_roundg g
                        case measure => omega
                        case rel => exact ⟨k + 1, t2, by omega, by go_num, rfl, ht2, Lib.hid (by rw [Hrel.out, HF.out, Hstep.out]), (hext.alloc _).drewN _⟩
                      · have hz3 : 0 < (bs t2).size := by rw [bs_size]; exact List.length_pos_iff.2 ht0
                        have hstep : PatM.findC true lit (s'.drop j) = PatM.findC true lit (s'.drop (j + 1)) := by
                          rw [Hdr.out, PatM.findC, Hst2.out]
                          have : t2.isEmpty = false := by simpa using ht0
                          simp [this]
                        have Hstep := Lib.hid hstep
                        clear hstep ht0
                        go_wp2_with fail
                        go_quiet ((go_at_call 12; refine (Hcall.out _).mono ?_; rintro e w2 ⟨rfl, n2, rfl⟩; exact ⟨rfl, _, drewN_assoc _ _ _ _⟩))
                        go_wp2_with fail
                        clear hsl
                        go_roundg g2
                        case measure => omega
                        case rel => exact ⟨j + 1, by omega, by go_num, rfl, Lib.hid (by rw [HF.out, Hstep.out]), _, rfl⟩
          | some t =>
            have hts : (bs t).size ≤ 9223372036854775807 := by
              have := PatM.strip_some.1 hst
              rw [bs_size] at hs' ⊢
              rw [this] at hs'
              simp at hs'; omega
            by_cases hcont : (t.isEmpty || !lastB) = true
            · have Hc := Lib.hid hcont
              have Hst := Lib.hid hst
              clear hst
              have hrel2 : PatM.matchC C s = PatM.matchC (C.drop (k + 1)) t := by
                rw [HM.out, Hdrop.out]
                exact matchC_cont He.out Hst.out (by rw [HlB.out]; exact Hc.out)
              have Hrel := Lib.hid hrel2
              clear hrel2
              by_cases ht0 : t = []
              · have hz : (((bs t).size : Int) == 0) = true := by rw [bs_size, ht0]; rfl
                clear ht0 hcont
                cases wild
                all_goals
                  try have hpb := hnb rfl
                  clear hnb
                  go_wp2_with (go_at_call 12; refine (chunk_some lit (bs s') t _ Hlm.out Hsm.out (by rw [bs_toList]; exact Hst.out)).mono ?_; rintro e w1 ⟨rfl, n1, rfl⟩)
                  go_roundg g
                  case measure => omega
                  case rel => exact ⟨k + 1, t, by omega, by go_num, rfl, hts, Hrel, (hext.alloc _).drewN _⟩
              · have hz : (((bs t).size : Int) == 0) = false := by
                  rw [bs_size, beq_eq_false_iff_ne]
                  have := List.length_pos_iff.2 ht0
                  omega
                have hl0 : lastB = false := by
                  cases t with
                  | nil => exact absurd rfl ht0
                  | cons a r => simpa using hcont
                subst hl0
                clear ht0 hcont
                cases wild
                all_goals
                  try have hpb := hnb rfl
                  clear hnb
                  go_wp2_with (go_at_call 12; refine (chunk_some lit (bs s') t _ Hlm.out Hsm.out (by rw [bs_toList]; exact Hst.out)).mono ?_; rintro e w1 ⟨rfl, n1, rfl⟩)
                  go_roundg g
                  case measure => omega
                  case rel => exact ⟨k + 1, t, by omega, by go_num, rfl, hts, Hrel, (hext.alloc _).drewN _⟩
            · have hno : ∀ t, PatM.strip lit s' = some t → (t.isEmpty || !(C.drop (k + 1)).isEmpty) = false := by
                intro t' h
                rw [hst] at h
                cases h
                rw [HlB.out]
                simpa using hcont
              have Hno := Lib.hid hno
              have Hst := Lib.hid hst
              have ht0 : t ≠ [] := by intro h; apply hcont; rw [h]; rfl
              have hl0 : lastB = true := by
                cases lastB
                · exact absurd (by simp) hcont
                · rfl
              subst hl0
              have hz : (((bs t).size : Int) == 0) = false := by
                rw [bs_size, beq_eq_false_iff_ne]
                have := List.length_pos_iff.2 ht0
                omega
              clear hst hno hcont ht0
              cases wild with
              | false =>
                clear hnb
                go_wp2_with (go_at_call 12; refine (chunk_some lit (bs s') t _ Hlm.out Hsm.out (by rw [bs_toList]; exact Hst.out)).mono ?_; rintro e w1 ⟨rfl, n1, rfl⟩)
                try rw [Exit.noGoto_ret]
                go_ret
                exact ⟨by rw [HM.out, Hdrop.out, matchC_stop Hno.out]; rfl, ((((Ext.refl w).alloc _).trans hext).alloc _).drewN _⟩
              | true =>
                have hpb := hnb rfl
                clear hnb
                go_wp2_with (go_at_call 12; refine (chunk_some lit (bs s') t _ Hlm.out Hsm.out (by rw [bs_toList]; exact Hst.out)).mono ?_; rintro e w1 ⟨rfl, n1, rfl⟩)
                have Hfind := Lib.hid (matchC_find (lit := lit) (s := s') (rest := C.drop (k + 1)) (by simpa using He.out) Hno.out)
                have Hrel : Hid (PatM.matchC C s = (match PatM.findC true lit s' with | some t => PatM.matchC (C.drop (k + 1)) t | none => false)) := Lib.hid (by rw [HM.out, Hdrop.out, Hfind.out, HlB.out])
                clear Hfind
                go_loopg [1, 10] s'.length (fun g2 a i wy => ∃ j : Nat, j + g2 = s'.length ∧ i = .int .i64 j ∧ a = .string (bs s') ∧ Hid (PatM.findC true lit s' = PatM.findC true lit (s'.drop j)) ∧ ∃ nn, wy = (wr.alloc (.cells #[.bool true, .string (bs lit)] 39)).drewN nn)
                case atStart => exact ⟨0, by omega, rfl, rfl, Lib.hid rfl, _, rfl⟩
                case round =>
                  obtain ⟨j, hj, rfl, rfl, HF, nn, rfl⟩ := hrel
                  have hz2 := bs_size s'
                  have Hz2 := Lib.hid hz2
                  clear hz2
                  cases gk with
                  | zero =>
                    have hlt2 : ¬ ((j : Int) < ((bs s').size : Int)) := by rw [Hz2.out]; omega
                    have hd : PatM.findC true lit s' = none := by
                      rw [HF.out, List.drop_eq_nil_of_le (by omega)]; rfl
                    have Hd := Lib.hid hd
                    clear hd
                    go_wp2_with fail
                    try rw [Exit.noGoto_ret]
                    go_ret
                    exact ⟨by rw [Hrel.out, Hd.out]; rfl, ((((Ext.refl w).alloc _).trans hext).alloc _).drewN _⟩
                  | succ g2 =>
                    have hlt2 : (j : Int) < ((bs s').size : Int) := by rw [Hz2.out]; omega
                    have hlt3 : j + 1 ≤ (bs s').size := by rw [Hz2.out]; omega
                    have hsl : ∀ wx, Sem.run Try.prog (Instr.slice 32 (.string (bs s')) (some (.int .i64 ((j : Int) + 1))) none none) wx = .ok (.string ((bs s').extract (j + 1) (bs s').size)) wx := by
                      intro wx
                      have h := run_slice_string_l (P := Try.prog) (w := wx) (t := 32) (s := bs s') Try.underlying32 .i64 ((j : Int) + 1) (by omega) (by omega)
                      have e : ((j : Int) + 1).toNat = j + 1 := by omega
                      rw [e] at h; exact h
                    have hw1 : IntKind.i64.wrap ((j : Int) + 1) = (j : Int) + 1 := IntWalk.i64_in _ (by omega)
                    have hw2 : (0 : Int) ≤ (j : Int) + 1 := by omega
                    have hdr : s'.drop j = s'[j]'(by omega) :: s'.drop (j + 1) := List.drop_eq_getElem_cons (by omega)
                    have Hdr := Lib.hid hdr
                    clear hdr
                    cases hst2 : PatM.strip lit (s'.drop (j + 1)) with
                    | none =>
                      have Hst2 := Lib.hid hst2
                      have hstep : PatM.findC true lit (s'.drop j) = PatM.findC true lit (s'.drop (j + 1)) := by
                        rw [Hdr.out, PatM.findC, hst2]
                      have Hstep := Lib.hid hstep
                      clear hst2 hstep
                      have hsz3 : ((bs s').extract (j + 1) (bs s').size).size ≤ maxLen := by
                        rw [Lib.size_eq, bs_drop, List.length_drop]
                        have := Hz2.out
                        unfold maxLen
                        omega
                      have hcall := fun (wx : World) => chunk_none lit ((bs s').extract (j + 1) (bs s').size) wx Hlm.out hsz3 (by rw [bs_drop]; exact Hst2.out)
                      have Hcall := Lib.hid hcall
                      clear hcall hsz3
                      go_wp2_with fail
                      go_quiet ((go_at_call 12; refine (Hcall.out _).mono ?_; rintro e w2 ⟨rfl, n2, rfl⟩; exact ⟨rfl, _, drewN_assoc _ _ _ _⟩))
                      go_wp2_with fail
                      clear hsl
                      go_roundg g2
                      case measure => omega
                      case rel => exact ⟨j + 1, by omega, by go_num, rfl, Lib.hid (by rw [HF.out, Hstep.out]), _, rfl⟩
                    | some t2 =>
                      have Hst2 := Lib.hid hst2
                      have hsz3 : ((bs s').extract (j + 1) (bs s').size).size ≤ maxLen := by
                        rw [Lib.size_eq, bs_drop, List.length_drop]
                        have := Hz2.out
                        unfold maxLen
                        omega
                      have hcall := fun (wx : World) => chunk_some lit ((bs s').extract (j + 1) (bs s').size) t2 wx Hlm.out hsz3 (by rw [bs_drop]; exact Hst2.out)
                      have Hcall := Lib.hid hcall
                      have ht2 : (bs t2).size ≤ 9223372036854775807 := by
                        have h1 := congrArg List.length (PatM.strip_some.1 hst2)
                        rw [bs_size] at hs' ⊢
                        simp at h1
                        omega
                      clear hcall hsz3 hst2
                      by_cases ht0 : t2 = []
                      · have hz3 : ¬ 0 < (bs t2).size := by rw [bs_size, ht0]; simp
                        have hstep : PatM.findC true lit (s'.drop j) = some t2 := by
                          rw [Hdr.out, PatM.findC, Hst2.out, ht0]; rfl
                        have Hstep := Lib.hid hstep
                        clear hstep ht0
                        go_wp2_with fail
                        go_quiet ((go_at_call 12; refine (Hcall.out _).mono ?_; rintro e w2 ⟨rfl, n2, rfl⟩; exact ⟨rfl, _, drewN_assoc _ _ _ _⟩))
                        go_wp2_with fail
                        clear hsl
                        go_roundg g
                        case measure => omega
                        case rel => exact ⟨k + 1, t2, by omega, by go_num, rfl, ht2, Lib.hid (by rw [Hrel.out, HF.out, Hstep.out]), (hext.alloc _).drewN _⟩
                      · have hz3 : 0 < (bs t2).size := by rw [bs_size]; exact List.length_pos_iff.2 ht0
                        have hstep : PatM.findC true lit (s'.drop j) = PatM.findC true lit (s'.drop (j + 1)) := by
                          rw [Hdr.out, PatM.findC, Hst2.out]
                          have : t2.isEmpty = false := by simpa using ht0
                          simp [this]
                        have Hstep := Lib.hid hstep
                        clear hstep ht0
                        go_wp2_with fail
                        go_quiet ((go_at_call 12; refine (Hcall.out _).mono ?_; rintro e w2 ⟨rfl, n2, rfl⟩; exact ⟨rfl, _, drewN_assoc _ _ _ _⟩))
                        go_wp2_with fail
                        clear hsl
                        go_roundg g2
                        case measure => omega
                        case rel => exact ⟨j + 1, by omega, by go_num, rfl, Lib.hid (by rw [HF.out, Hstep.out]), _, rfl⟩
end Go.Proofs.Ytkgkejihdfgpkaa
