/- The contract of NewPattern. -/
import Derived.Test.YtkgkejihdfgpkaaBase
import Derived.Test.YtkgkejihdfgpkaaMath
namespace Go.Proofs.Ytkgkejihdfgpkaa
open Go.RowKit

theorem info20 : (Try.prog.info? 20).map (fun i => (i.zero, i.size, i.bytes)) = some (some .nilIface, 1, 16) := by kernel_rfl
theorem info39 : (Try.prog.info? 39).map (fun i => (i.zero, i.size, i.bytes)) = some (some (.agg #[.bool false, .string ⟨#[]⟩]), 2, 24) := by kernel_rfl

theorem ta_32_9 (s : ByteArray) (w : World) : Sem.run Try.prog (Instr.typeAssert (.iface 32 (.string s)) 20 9 true) w = .ok (.tuple #[.string ⟨#[]⟩, .bool false]) w := by kernel_rfl
theorem ta_32_32 (s : ByteArray) (w : World) : Sem.run Try.prog (Instr.typeAssert (.iface 32 (.string s)) 20 32 true) w = .ok (.tuple #[.string s, .bool true]) w := by kernel_rfl
theorem ta_36_9 (w : World) : Sem.run Try.prog (Instr.typeAssert (.iface 36 (.agg #[])) 20 9 true) w = .ok (.tuple #[.string ⟨#[]⟩, .bool false]) w := by kernel_rfl
theorem ta_36_32 (w : World) : Sem.run Try.prog (Instr.typeAssert (.iface 36 (.agg #[])) 20 32 true) w = .ok (.tuple #[.string ⟨#[]⟩, .bool false]) w := by kernel_rfl
theorem ta_36_36 (w : World) : Sem.run Try.prog (Instr.typeAssert (.iface 36 (.agg #[])) 20 36 true) w = .ok (.tuple #[.agg #[], .bool true]) w := by kernel_rfl

def wildV : Value := .iface 36 (.agg #[])
def strV (p : List UInt8) : Value := .iface 32 (.string (bs p))
def anyV : Option (List UInt8) → Value
  | some l => strV l
  | none => wildV

abbrev Comp := Bool × List UInt8
/-- What a string, and a wildcard, make of the components. -/
def addLit (cs : List Comp) (l : List UInt8) : List Comp :=
  match cs.reverse with
  | [] => [(false, l)]
  | (b, p) :: r => ((b, p ++ l) :: r).reverse
def addWild (cs : List Comp) : List Comp :=
  match cs.reverse with
  | [] => [(true, [])]
  | (_, p) :: _ => if p = [] then cs else cs ++ [(true, [])]
def stepC (cs : List Comp) : Option (List UInt8) → List Comp
  | some l => addLit cs l
  | none => addWild cs
def cellsC (cs : List Comp) : List Value := cs.flatMap fun c => [.bool c.1, .string (bs c.2)]

theorem addLit_nil (l : List UInt8) : addLit [] l = [(false, l)] := rfl
theorem addLit_snoc (D : List Comp) (b : Bool) (p l : List UInt8) : addLit (D ++ [(b, p)]) l = D ++ [(b, p ++ l)] := by simp [addLit]
theorem addWild_nil : addWild [] = [(true, [])] := rfl
theorem addWild_keep (D : List Comp) (b : Bool) : addWild (D ++ [(b, [])]) = D ++ [(b, [])] := by simp [addWild]
theorem addWild_more (D : List Comp) (b : Bool) (p : List UInt8) (h : p ≠ []) : addWild (D ++ [(b, p)]) = D ++ [(b, p)] ++ [(true, [])] := by simp [addWild, h]
theorem split_last {C : List Comp} {m : Nat} (h : C.length = m + 1) : ∃ D b p, C = D ++ [(b, p)] ∧ D.length = m := by
  rcases List.eq_nil_or_concat C with rfl | ⟨D, ⟨b, p⟩, rfl⟩
  · simp at h
  · exact ⟨D, b, p, by simp, by simpa using h⟩
theorem cellsC_snoc (D : List Comp) (b : Bool) (p : List UInt8) : cellsC (D ++ [(b, p)]) = cellsC D ++ [.bool b, .string (bs p)] := by simp [cellsC]
theorem cellsC_len (D : List Comp) : (cellsC D).length = D.length * 2 := by
  induction D with
  | nil => rfl
  | cons c D ih => simp only [cellsC, List.flatMap_cons, List.length_append, List.length_cons, List.length_nil] at ih ⊢; omega
theorem cellsC_last (D : List Comp) (b : Bool) (p : List UInt8) : (cellsC (D ++ [(b, p)]))[D.length * 2 + 1]? = some (.string (bs p)) := by
  rw [cellsC_snoc, List.getElem?_append_right (by rw [cellsC_len]; omega), cellsC_len]
  simp
theorem cellsC_set (D : List Comp) (b : Bool) (p q : List UInt8) : (cellsC (D ++ [(b, p)])).set (D.length * 2 + 1) (.string (bs q)) = cellsC (D ++ [(b, q)]) := by
  rw [cellsC_snoc, cellsC_snoc, List.set_append_right _ _ (by rw [cellsC_len]; omega), cellsC_len]
  simp
theorem fold_next {os : List (Option (List UInt8))} {k : Nat} (h : k < os.length) {C : List Comp} (hC : C = (os.take k).foldl stepC []) : (os.take (k + 1)).foldl stepC [] = stepC C os[k] := by
  rw [List.take_succ_eq_append_getElem h, List.foldl_append, ← hC]; rfl

theorem big_step {M : Nat} {C : List Comp} {k : Nat} {l : List UInt8} (hC : ∀ c ∈ C, c.2.length ≤ k * M) (hl : l.length ≤ M) : ∀ c ∈ addLit C l, c.2.length ≤ (k + 1) * M := by
  intro c hc
  rw [Nat.succ_mul]
  rcases List.eq_nil_or_concat C with rfl | ⟨D, ⟨b, p⟩, rfl⟩
  · simp only [addLit_nil, List.mem_singleton] at hc; subst hc; simp only []; omega
  · rw [List.concat_eq_append, addLit_snoc] at hc
    rcases List.mem_append.1 hc with h | h
    · have := hC c (by simp [h]); omega
    · simp at h; subst h
      have := hC (b, p) (by simp)
      simp only [List.length_append] at this ⊢; omega
theorem big_same {M : Nat} {C : List Comp} {k : Nat} (hC : ∀ c ∈ C, c.2.length ≤ k * M) : ∀ c ∈ C, c.2.length ≤ (k + 1) * M := by
  intro c hc
  rw [Nat.succ_mul]
  have := hC c hc; omega
theorem big_wild {M : Nat} {C : List Comp} {k : Nat} (hC : ∀ c ∈ C, c.2.length ≤ k * M) : ∀ c ∈ addWild C, c.2.length ≤ (k + 1) * M := by
  intro c hc
  rw [Nat.succ_mul]
  have key : c ∈ C ∨ c = (true, []) := by
    unfold addWild at hc
    split at hc
    · simp at hc; exact .inr hc
    · split at hc
      · exact .inl hc
      · rcases List.mem_append.1 hc with h | h
        · exact .inl h
        · simp at h; exact .inr h
  rcases key with h | h
  · have := hC c h; omega
  · subst h; simp

theorem two_new (w : World) : ∀ j u, [Value.bool true, .string ⟨#[]⟩][j]? = some u → ((w.alloc (.cells #[] 36)).alloc (.cells #[.bool true, .string ⟨#[]⟩] 39)).cell? ((⟨w.heap.size + 1, 0, none⟩ : Addr).add j) = some u := by
  have := cell_two_new (w.alloc (.cells #[] 36)) (.bool true) (.string ⟨#[]⟩) 39
  simpa using this

set_option maxHeartbeats 1000000 in
theorem newPattern_any (v : Value) (os : List (Option (List UInt8))) (w : World) (hr : VRow w v (os.map anyV)) (hn : os.length ≤ 1000000) (hlit : ∀ l, some l ∈ os → l.length ≤ 2147483647) :
    Calls Try.prog 11 #[v] w fun e w' => ∃ v' n, e = .returned (.agg #[v']) ∧ n = (os.foldl stepC []).length ∧ w'.ownsRow w.heap.size 39 2 v' n (cellsC (os.foldl stepC [])) ∧ Ext w w' := by
  rcases hr with ⟨rfl, hnil⟩ | ⟨b, off, cap, hv, hm, hc⟩
  · have hos : os = [] := by simpa using hnil
    subst hos
    go_enter Try.func11, Try.ntmps11
    go_wp2
    go_loopw [3, 12] (fun v i wr => v = .slice none 0 0 ∧ i = .int .i64 0 ∧ wr = w.alloc (.cells #[.slice none 0 0] 29)) (fun _ i _ => 0)
    case atStart => exact ⟨rfl, rfl, rfl⟩
    case round =>
      obtain ⟨rfl, rfl, rfl⟩ := hrel
      go_wp2
      refine bodyPost_ret (v := .agg #[.slice none 0 0]) (by simp [results, Try.results11, go_sem]) rfl ⟨_, 0, rfl, rfl, World.ownsRow_nil _ _ _ _, (Ext.refl _).alloc _⟩
  · rw [List.length_map] at hv hm
    subst hv
    unfold maxLen at hm
    have Hc2 := Lib.hid two_new
    have a1 := ta_32_9
    have a2 := ta_32_32
    have a3 := ta_36_9
    have a4 := ta_36_32
    have a5 := ta_36_36
    obtain ⟨i39, hi39, hz0, hz1, hz2⟩ := info_parts info39
    go_enter Try.func11, Try.ntmps11
    go_wp2
    go_loopw [3, 12] (fun v i wr => ∃ (k n : Nat) (C : List Comp), k ≤ os.length ∧ i = .int .i64 k ∧ Ext (w.alloc (.cells #[.slice none 0 0] 29)) wr ∧ Hid (C.length = n ∧ C = (os.take k).foldl stepC [] ∧ ∀ c ∈ C, c.2.length ≤ k * 2147483647) ∧ n ≤ k ∧ wr.ownsRow (w.heap.size + 1) 39 2 v n (cellsC C)) (fun _ i _ => os.length - (intOf i).toNat)
    case atStart => exact ⟨0, 0, [], Nat.zero_le _, rfl, Ext.refl _, Lib.hid ⟨rfl, rfl, by simp⟩, Nat.le_refl _, World.ownsRow_nil _ _ _ _⟩
    case round =>
      obtain ⟨k, n, C, hk, rfl, hext, HC, hnk, hown⟩ := hrel
      have hsize : w.heap.size + 1 ≤ wr.heap.size := by have := hext.size; simpa using this
      by_cases hlt : k < os.length
      · have hci := hc k (by simpa using hlt)
        have hblt : b < w.heap.size := World.block_lt_of_cell? w _ hci
        have hcell : wr.cell? ⟨b, off + k, none⟩ = some (anyV os[k]) := by
          rw [Below.cell hext (by simp; omega), World.cell?_alloc_lt _ _ _ hblt, hci]
          simp
        clear hci
        cases ha : os[k] with
        | none =>
          rw [ha] at hcell
          have hcell2 : wr.cell? ⟨b, off + k, none⟩ = some (.iface 36 (.agg #[])) := hcell
          have Ha := Lib.hid ha
          clear ha hcell
          have next : ∀ C', addWild C = C' → (os.take (k + 1)).foldl stepC [] = C' := by
            intro C' h
            rw [fold_next hlt HC.out.2.1, Ha.out]; exact h
          have Hnext := Lib.hid next
          clear next
          have app : ∀ (wx : World) (v' : Value) (n' : Nat), wx.ownsRow (w.heap.size + 1) 39 2 v' n' (cellsC C ++ [.bool true, .string ⟨#[]⟩]) → wx.ownsRow (w.heap.size + 1) 39 2 v' n' (cellsC (C ++ [(true, [])])) := by
            intro wx v' n' h
            rw [cellsC_snoc]; exact h
          have Happ := Lib.hid app
          clear app
          rcases own_shape hown with ⟨rfl, rfl, hx⟩ | ⟨g, cap', rfl, hg, hg2, hnc, hcm⟩
          · clear hx
            go_wp2_with (at_builtin; refine wpList_append_own _ rfl (.tmp 72) (.tmp 74) 27 rfl (w.heap.size + 1) 39 i39 (.agg #[.bool false, .string ⟨#[]⟩]) 2 24 Try.underlying27 hi39 hz0 hz1 hz2 rfl (by decide) _ _ _ rfl ((hown.alloc _).alloc _) ⟨wr.heap.size + 1, 0, none⟩ 1 1 [.bool true, .string ⟨#[]⟩] rfl rfl (Hc2.out wr) (by simp; decide) (by unfold maxLen; omega) (by omega) (by simp; omega) ?_; intro v' w' hown' hg _)
            go_roundw
            case rel =>
              have hC0 : C = [] := List.eq_nil_of_length_eq_zero HC.out.1
              exact ⟨k + 1, 1, C ++ [(true, [])], by omega, by go_num, ((hext.alloc _).alloc _).grownOwn hg hown (by simp), Lib.hid ⟨by simp [hC0], (Hnext.out _ (by rw [hC0]; rfl)).symm, by have h := big_wild HC.out.2.2; rw [hC0] at h ⊢; exact h⟩, by omega, Happ.out _ _ _ hown'⟩
            case measure => simp [intOf]; omega
          · cases n with
            | zero =>
              go_wp2_with (at_builtin; refine wpList_append_own _ rfl (.tmp 72) (.tmp 74) 27 rfl (w.heap.size + 1) 39 i39 (.agg #[.bool false, .string ⟨#[]⟩]) 2 24 Try.underlying27 hi39 hz0 hz1 hz2 rfl (by decide) _ 0 _ rfl ((hown.alloc _).alloc _) ⟨wr.heap.size + 1, 0, none⟩ 1 1 [.bool true, .string ⟨#[]⟩] rfl rfl (Hc2.out wr) (by simp; decide) (by unfold maxLen; omega) (by omega) (by simp; omega) ?_; intro v' w' hown' hg _)
              go_roundw
              case rel =>
                have hC0 : C = [] := List.eq_nil_of_length_eq_zero HC.out.1
                exact ⟨k + 1, 1, C ++ [(true, [])], by omega, by go_num, ((hext.alloc _).alloc _).grownOwn hg hown (by simp), Lib.hid ⟨by simp [hC0], (Hnext.out _ (by rw [hC0]; rfl)).symm, by have h := big_wild HC.out.2.2; rw [hC0] at h ⊢; exact h⟩, by omega, Happ.out _ _ _ hown'⟩
              case measure => simp [intOf]; omega
            | succ m =>
              have h1 : (((m + 1 : Nat) : Int) == 0) = false := by rw [beq_eq_false_iff_ne]; omega
              obtain ⟨D, bb, p, hD, hDm⟩ := split_last HC.out.1
              have hc1 : wr.cell? ⟨g, m * 2 + 1, none⟩ = some (.string (bs p)) := by
                rw [hown.cellAt _ (by omega), hD, ← hDm]
                exact cellsC_last D bb p
              have HD := Lib.hid hD
              have HDm := Lib.hid hDm
              clear hD hDm
              by_cases hp : p = []
              · have hpb : (bs p).toList.isEmpty = true := by rw [bs_isEmpty, hp]; rfl
                have Hp := Lib.hid hp
                clear hp
                go_wp2_with fail
                go_roundw
                case rel =>
                  refine ⟨k + 1, m + 1, C, by omega, by go_num, hext.alloc _, Lib.hid ⟨HC.out.1, (Hnext.out _ ?_).symm, ?_⟩, by omega, hown.alloc _⟩
                  · rw [HD.out, Hp.out, addWild_keep]
                  · exact big_same HC.out.2.2
                case measure => simp [intOf]; omega
              · have hpb : (bs p).toList.isEmpty = false := by rw [bs_isEmpty]; simpa using hp
                have Hp := Lib.hid hp
                clear hp
                go_wp2_with (at_builtin; refine wpList_append_own _ rfl (.tmp 72) (.tmp 74) 27 rfl (w.heap.size + 1) 39 i39 (.agg #[.bool false, .string ⟨#[]⟩]) 2 24 Try.underlying27 hi39 hz0 hz1 hz2 rfl (by decide) _ (m + 1) _ rfl ((hown.alloc _).alloc _) ⟨wr.heap.size + 1, 0, none⟩ 1 1 [.bool true, .string ⟨#[]⟩] rfl rfl (Hc2.out wr) (by simp; decide) (by unfold maxLen; omega) (by omega) (by simp; omega) ?_; intro v' w' hown' hg _)
                go_roundw
                case rel =>
                  have hw : addWild C = C ++ [(true, [])] := by rw [HD.out, addWild_more _ _ _ Hp.out]
                  refine ⟨k + 1, m + 1 + 1, C ++ [(true, [])], by omega, by go_num, ((hext.alloc _).alloc _).grownOwn hg hown (by simp), Lib.hid ⟨by simp [HC.out.1], (Hnext.out _ hw).symm, ?_⟩, by omega, Happ.out _ _ _ hown'⟩
                  rw [← hw]; exact big_wild HC.out.2.2
                case measure => simp [intOf]; omega
        | some l =>
          rw [ha] at hcell
          have hcell2 : wr.cell? ⟨b, off + k, none⟩ = some (.iface 32 (.string (bs l))) := hcell
          have Ha := Lib.hid ha
          clear ha hcell
          have hll : l.length ≤ 2147483647 := hlit l (by rw [← Ha.out]; exact List.getElem_mem hlt)
          have hbl : (bs l).size ≤ 2147483647 := by rw [bs_size]; exact hll
          have fresh : n = 0 → (wr.alloc (.cells #[.bool false, .string (⟨#[]⟩ ++ bs l)] 39)).ownsRow (w.heap.size + 1) 39 2 (.slice (some ⟨wr.heap.size, 0, none⟩) 1 1) 1 (cellsC [(false, l)]) ∧ ((os.take (k + 1)).foldl stepC [] = [(false, l)]) := by
            intro h0
            have hC0 : C = [] := List.eq_nil_of_length_eq_zero (by rw [HC.out.1, h0])
            refine ⟨?_, by rw [fold_next hlt HC.out.2.1, Ha.out, hC0]; rfl⟩
            have he : (⟨#[]⟩ : ByteArray) ++ bs l = bs l := by
              show bs [] ++ bs l = bs l
              rw [bs_append, List.nil_append]
            rw [he]
            exact World.ownsRow_lit wr #[.bool false, .string (bs l)] 1 (by omega) (by unfold maxLen; omega) rfl
          have Hfresh := Lib.hid fresh
          clear fresh
          rcases own_shape hown with ⟨rfl, rfl, hx⟩ | ⟨g, cap', rfl, hg, hg2, hnc, hcm⟩
          · clear hx
            go_wp2_with fail
            go_roundw
            case rel => exact ⟨k + 1, 1, [(false, l)], by omega, by go_num, hext.alloc _, Lib.hid ⟨rfl, (Hfresh.out rfl).2.symm, by rw [← addLit_nil]; exact big_step (C := []) (by simp) hll⟩, by omega, (Hfresh.out rfl).1⟩
            case measure => simp [intOf]; omega
          · cases n with
            | zero =>
              go_wp2_with fail
              go_roundw
              case rel => exact ⟨k + 1, 1, [(false, l)], by omega, by go_num, hext.alloc _, Lib.hid ⟨rfl, (Hfresh.out rfl).2.symm, by rw [← addLit_nil]; exact big_step (C := []) (by simp) hll⟩, by omega, (Hfresh.out rfl).1⟩
              case measure => simp [intOf]; omega
            | succ m =>
              have h1 : (((m + 1 : Nat) : Int) == 0) = false := by rw [beq_eq_false_iff_ne]; omega
              obtain ⟨D, bb, p, hD, hDm⟩ := split_last HC.out.1
              have hc1 : wr.cell? ⟨g, m * 2 + 1, none⟩ = some (.string (bs p)) := by
                rw [hown.cellAt _ (by omega), hD, ← hDm]
                exact cellsC_last D bb p
              have hf1 : wr.frozen? ⟨g, m * 2 + 1, none⟩ = false := hown.frozenAt _
              have hpl : (bs p).size ≤ 2147483647000000 := by
                have := HC.out.2.2 (bb, p) (by rw [hD]; simp)
                rw [bs_size]
                simp at this
                have h3 : k * 2147483647 ≤ 1000000 * 2147483647 := Nat.mul_le_mul_right _ (by omega)
                omega
              have HD := Lib.hid hD
              have HDm := Lib.hid hDm
              clear hD hDm
              go_wp2_with fail
              go_roundw
              case rel =>
                have hst := (hown.stored (m * 2 + 1) (.string (bs (p ++ l)))).1
                have HC2 := HC.out.2.1
                rw [HD.out, ← HDm.out, cellsC_set, HDm.out] at hst
                refine ⟨k + 1, m + 1, D ++ [(bb, p ++ l)], by omega, by go_num, ?_, Lib.hid ⟨?_, ?_, ?_⟩, by omega, ?_⟩
                · exact hext.setCell (by simpa using hg) _
                · simp [HDm.out]
                · rw [fold_next hlt HC2, Ha.out, HD.out]
                  exact (addLit_snoc _ _ _ _).symm
                · rw [← addLit_snoc, ← HD.out]; exact big_step HC.out.2.2 hll
                · rw [bs_append]; exact hst
              case measure => simp [intOf]; omega
      · have hwc : wr.cell? ⟨w.heap.size, 0, none⟩ = some (.slice none 0 0) := by
          rw [Below.cell hext (by simp)]; simp
        have hwf : wr.frozen? ⟨w.heap.size, 0, none⟩ = false := by
          rw [Below.frozen hext (by simp)]
          exact World.frozen?_alloc_new _ _ _ _
        have hall : C = os.foldl stepC [] := by
          rw [HC.out.2.1, List.take_of_length_le (by omega)]
        have Hall := Lib.hid hall
        clear hall
        rcases own_shape hown with ⟨rfl, rfl, hx⟩ | ⟨g, cap', rfl, hg, hg2, hnc, hcm⟩
        · clear hx
          go_wp2_with fail
          refine bodyPost_ret (v := .agg #[.slice none 0 0]) (by simp [results, Try.results11, go_sem, World.cell?_setCell_same _ _ _ hwc]) rfl ⟨_, 0, rfl, ?_, ?_, ?_⟩
          · rw [← Hall.out, HC.out.1]
          · rw [← Hall.out]; exact own_mono (ownsRow_setCell_below hown (by simp) _) (by omega)
          · exact (((Ext.refl w).alloc _).trans hext).setCell (by simp) _
        · go_wp2_with fail
          refine bodyPost_ret (v := .agg #[.slice (some ⟨g, 0, none⟩) n cap']) (by simp [results, Try.results11, go_sem, World.cell?_setCell_same _ _ _ hwc]) rfl ⟨_, n, rfl, ?_, ?_, ?_⟩
          · rw [← Hall.out, HC.out.1]
          · rw [← Hall.out]; exact own_mono (ownsRow_setCell_below hown (by simp) _) (by omega)
          · exact (((Ext.refl w).alloc _).trans hext).setCell (by simp) _
end Go.Proofs.Ytkgkejihdfgpkaa
