/- The walk of FnMatchReversed. -/
import Derived.Test.YtkgkejihdfgpkaaRev
import Derived.Test.YtkgkejihdfgpkaaSmall
namespace Go.Proofs.Ytkgkejihdfgpkaa
open Go.RowKit

theorem info9 : (Try.prog.info? 9).map (fun i => (i.zero, i.size, i.bytes)) = some (some (.string ⟨#[]⟩), 1, 16) := by kernel_rfl

/-- The pieces from place m on, turned round, each turned round. -/
def turned (ps : List (List UInt8)) (m : Nat) : List (List UInt8) := ((ps.drop m).map List.reverse).reverse
theorem turned_step (ps : List (List UInt8)) (m : Nat) (h : m < ps.length) : turned ps m = turned ps (m + 1) ++ [ps[m].reverse] := by
  unfold turned
  rw [List.drop_eq_getElem_cons h, List.map_cons, List.reverse_cons]
theorem turned_end (ps : List (List UInt8)) : turned ps ps.length = [] := by simp [turned]
theorem turned_zero (ps : List (List UInt8)) : turned ps 0 = (ps.map List.reverse).reverse := by simp [turned]
theorem turned_len (ps : List (List UInt8)) (m : Nat) : (turned ps m).length = ps.length - m := by simp [turned]
def strVals (l : List (List UInt8)) : List Value := l.map fun s => .string (bs s)
theorem srow_own {w : World} {base e n : Nat} {v : Value} {l : List (List UInt8)} (h : w.ownsRow base e 1 v n (strVals l)) (hl : ∀ s ∈ l, s.length ≤ maxLen) : SRow w v l := by
  rcases VRow.of_own h with ⟨hv, hx⟩ | ⟨b, off, cap, hv, hm, hc⟩
  · have : l = [] := by simpa [strVals] using hx
    exact .inl ⟨_, _, hv, this⟩
  · have hlen : (strVals l).length = l.length := by simp [strVals]
    rw [hlen] at hv hm
    refine .inr ⟨b, off, cap, hv, hm, fun i hi => ⟨?_, ?_⟩⟩
    · have := hc i (by omega)
      rw [this]
      simp [strVals]
    · rw [bs_size]; exact hl _ (List.getElem_mem hi)
theorem srow_one (w : World) (s : List UInt8) (hs : s.length ≤ maxLen) : SRow (w.alloc (.cells #[.string (bs s)] 9)) (.slice (some ⟨w.heap.size, 0, none⟩) 1 1) [s] := by
  refine .inr ⟨w.heap.size, 0, 1, rfl, by simp [maxLen], fun i hi => ?_⟩
  have : i = 0 := by simpa using hi
  subst this
  exact ⟨by simp, by rw [bs_size]; exact hs⟩

set_option maxHeartbeats 1000000 in
set_option maxRecDepth 100000 in
theorem fnMatchReversed_walk (v0 : Value) (a1 : ByteArray) (ps : List (List UInt8)) (w : World) (h0 : SRow w v0 ps) (h1 : a1.size ≤ maxLen) :
    Calls Try.prog 4 #[v0, .string a1] w fun e w' => e = .returned (.bool true) ∧ Ext w w' := by
  obtain ⟨s, rfl⟩ : ∃ s, a1 = bs s := ⟨a1.data.toList, bs_of a1⟩
  obtain ⟨a0, cap0, hv0, hm0, hc0⟩ := h0.open
  unfold maxLen at hm0 h1
  subst hv0
  have H0 := Lib.hid h0
  have Hc0 := Lib.hid hc0
  clear h0 hc0
  cases hf0 : fits9 ps with
  | false =>
    have Hf0 := Lib.hid hf0
    clear hf0
    go_enter Try.func4, Try.ntmps4
    go_wp2_with (go_at_call 5; refine (fits9_any _ _ _ H0.out).mono ?_; rintro e w' ⟨rfl, rfl⟩; rw [Hf0.out])
    go_ret
    exact ⟨rfl, Ext.refl _⟩
  | true =>
    have Hf0 := Lib.hid hf0
    clear hf0
    by_cases hbig : 2147483647 < (bs s).size
    · have hbig' : (2147483647 : Int) < ((bs s).size : Int) := by omega
      go_enter Try.func4, Try.ntmps4
      go_wp2_with (go_at_call 5; refine (fits9_any _ _ _ H0.out).mono ?_; rintro e w' ⟨rfl, rfl⟩; rw [Hf0.out])
      go_ret
      exact ⟨rfl, Ext.refl _⟩
    · have hbig' : decide ((2147483647 : Int) < ((bs s).size : Int)) = false := decide_eq_false (by omega)
      cases hsm : smallB ps with
      | false =>
        have Hsm := Lib.hid hsm
        clear hsm
        go_enter Try.func4, Try.ntmps4
        go_wp2_with fail
        refine (fits9_any _ _ _ H0.out).mono ?_; rintro e w' ⟨rfl, rfl⟩; rw [Hf0.out]
        go_wp2_with fail
        refine (small_any _ _ _ H0.out).mono ?_; rintro e w' ⟨rfl, rfl⟩; rw [Hsm.out]
        go_wp2_with fail
        go_ret
        exact ⟨rfl, Ext.refl _⟩
      | true =>
        have Hsm := Lib.hid hsm
        clear hsm
        by_cases hlong : 60 < (bs s).size
        · have hlong' : (60 : Int) < ((bs s).size : Int) := by omega
          go_enter Try.func4, Try.ntmps4
          go_wp2_with fail
          refine (fits9_any _ _ _ H0.out).mono ?_; rintro e w' ⟨rfl, rfl⟩; rw [Hf0.out]
          go_wp2_with fail
          refine (small_any _ _ _ H0.out).mono ?_; rintro e w' ⟨rfl, rfl⟩; rw [Hsm.out]
          go_wp2_with fail
          go_ret
          exact ⟨rfl, Ext.refl _⟩
        · have hlong' : decide ((60 : Int) < ((bs s).size : Int)) = false := decide_eq_false (by omega)
          have hx := Hsm.out
          simp only [smallB, allSmall, Bool.and_eq_true, decide_eq_true_eq, List.all_eq_true] at hx
          obtain ⟨hall, hn1, hn2⟩ := hx
          have Hall := Lib.hid hall
          clear hall
          obtain ⟨i9, hi9, hz0, hz1, hz2⟩ := info_parts info9
          obtain ⟨n, hn⟩ : ∃ n, ps.length = n := ⟨_, rfl⟩
          have Hn := Lib.hid hn
          rw [hn] at hn1 hn2 hm0 ⊢
          clear hn
          go_enter Try.func4, Try.ntmps4
          go_wp2_with fail
          refine (fits9_any _ _ _ (by rw [← Hn.out]; exact H0.out)).mono ?_; rintro e w' ⟨rfl, rfl⟩; rw [Hf0.out]
          go_wp2_with fail
          refine (small_any _ _ _ (by rw [← Hn.out]; exact H0.out)).mono ?_; rintro e w' ⟨rfl, rfl⟩; rw [Hsm.out]
          go_wp2_with fail
          go_loopg [5, 6] n (fun g q i wr => ∃ m : Nat, m = g ∧ m ≤ n ∧ i = .int .i64 ((m : Int) - 1) ∧ wr.ownsRow w.heap.size 9 1 q (turned ps m).length (strVals (turned ps m)) ∧ Ext w wr)
          case atStart => exact ⟨n, rfl, Nat.le_refl _, by go_num, by rw [← Hn.out, turned_end]; exact World.ownsRow_nil _ _ _ _, Ext.refl _⟩
          case round =>
            obtain ⟨m, hm, hmn, rfl, hown, hext⟩ := hrel
            cases gk with
            | zero =>
              subst hm
              have hfin : ∀ x : Bool, (x == x) = true := by intro x; simp
              have hps0 : ps ≠ [] := List.ne_nil_of_length_pos (by rw [Hn.out]; omega)
              have hr1 := PatM.matchC_rev ps s hps0
              rw [← turned_zero] at hr1
              have Hr1 := Lib.hid hr1
              have hsl : s.length ≤ maxLen := by rw [← bs_size]; unfold maxLen; omega
              have hrl : s.reverse.length ≤ maxLen := by rw [List.length_reverse]; exact hsl
              have hsl2 : s.length ≤ 2147483647 := by rw [← bs_size]; omega
              have hq : SRow wr u5 (turned ps 0) := srow_own hown (by
                intro x hx
                rw [turned_zero, List.mem_reverse, List.mem_map] at hx
                obtain ⟨y, hy, rfl⟩ := hx
                have := Hall.out y hy
                rw [List.length_reverse]; unfold maxLen; omega)
              have hql : ∀ x ∈ turned ps 0, x.length ≤ 2147483647 := by
                intro x hx
                rw [turned_zero, List.mem_reverse, List.mem_map] at hx
                obtain ⟨y, hy, rfl⟩ := hx
                have := Hall.out y hy
                rw [List.length_reverse]; omega
              have hqn : (turned ps 0).length ≤ 1000 := by rw [turned_len, Hn.out]; omega
              have hpl : ∀ x ∈ ps, x.length ≤ 2147483647 := fun x hx => by have := Hall.out x hx; omega
              have Hq := Lib.hid hq
              have Hql := Lib.hid hql
              have Hpl := Lib.hid hpl
              have Hsl := Lib.hid hsl
              have Hrl := Lib.hid hrl
              have Hqn := Lib.hid hqn
              clear hr1 hps0 hsl hrl hq hql hqn hpl hown
              go_wp2_with fail
              refine (implMatch_any _ ps s _ (by rw [← Hn.out]; exact H0.out.ext hext) (by rw [Hn.out]; omega) Hpl.out Hsl.out).mono ?_
              rintro e w1 ⟨rfl, hx1⟩
              go_wp2_with fail
              refine (reversed_any s _ (by omega)).mono ?_
              rintro e w2 ⟨rfl, hx2⟩
              go_wp2_with fail
              refine (implMatch_any _ (turned ps 0) s.reverse _ ((Hq.out.ext hx1).ext hx2) Hqn.out Hql.out Hrl.out).mono ?_
              rintro e w3 ⟨rfl, hx3⟩
              rw [Hr1.out]
              have hb := hfin (PatM.matchC (PatM.compsOf ps) s)
              clear hfin
              go_wp2_with fail
              refine (reversed_any s _ (by omega)).mono ?_
              rintro e w4 ⟨rfl, hx4⟩
              go_wp2_with fail
              refine (reversed_any s _ (by omega)).mono ?_
              rintro e w5 ⟨rfl, hx5⟩
              go_wp2_with fail
              refine (implMatch_any _ [s.reverse] s.reverse _ ((srow_one w4 s.reverse Hrl.out).ext hx5) (by simp) (by simpa using hsl2) Hrl.out).mono ?_
              rintro e w6 ⟨rfl, hx6⟩
              rw [PatM.matchC_self]
              go_wp2_with fail
              go_ret
              exact ⟨rfl, (((hext.trans hx1).trans (hx2.trans hx3)).trans hx4).trans (((Ext.refl w4).alloc _).trans (hx5.trans hx6))⟩
            | succ g =>
              subst hm
              have e : (((g + 1 : Nat) : Int) - 1) = (g : Int) := by omega
              rw [e]
              clear e
              have hgn : g < ps.length := by rw [Hn.out]; omega
              obtain ⟨b, off, rfl, hcell0, hsz⟩ := Hc0.out g hgn
              have hb := World.block_lt_of_cell? w _ hcell0
              have hcell : wr.cell? ⟨b, off + g, none⟩ = some (.string (bs ps[g])) := by
                rw [Below.cell hext hb]; exact hcell0
              clear hcell0
              unfold maxLen at hsz
              have hst := Lib.hid (turned_step ps g hgn)
              have hlen := turned_len ps (g + 1)
              have hlen2 : (turned ps (g + 1)).length ≤ 12 := by rw [hlen, Hn.out]; omega
              clear hlen
              go_wp2_with fail
              refine (reversed_any ps[g] _ hsz).mono ?_
              rintro e w1 ⟨rfl, hx1⟩
              have hown1 := own_ext hown hx1
              have hs1 : w.heap.size ≤ w1.heap.size := Nat.le_trans hext.size hx1.size
              go_wp2_with (at_builtin; refine wpList_append_own _ rfl (.tmp 30) (.tmp 36) 22 rfl w.heap.size 9 i9 (.string ⟨#[]⟩) 1 16 Try.underlying22 hi9 hz0 hz1 hz2 rfl (by decide) _ _ _ rfl (hown1.alloc _) ⟨w1.heap.size, 0, none⟩ 1 1 [.string (bs ps[g].reverse)] rfl rfl (cell_one_new _ _ _) (by simp; rfl) (by unfold maxLen; omega) (by omega) (by simp; omega) ?_; intro v2 w2 hown2 hg2 _)
              go_roundg g
              case measure => omega
              case rel =>
                refine ⟨g, rfl, by omega, by first | rfl | go_num, ?_, ?_⟩
                · rw [hst.out]
                  have e1 : strVals (turned ps (g + 1) ++ [ps[g].reverse]) = strVals (turned ps (g + 1)) ++ [.string (bs ps[g].reverse)] := by simp [strVals]
                  rw [e1, List.length_append]
                  exact hown2
                · exact (((hext.trans hx1).alloc _).grownOwn hg2 hown1 (Nat.le_refl _))
end Go.Proofs.Ytkgkejihdfgpkaa
