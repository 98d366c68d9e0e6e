/- The contract of impl.pattern. -/
import Derived.Test.YtkgkejihdfgpkaaFits
import Derived.Test.YtkgkejihdfgpkaaMath
import Derived.Test.YtkgkejihdfgpkaaNew
namespace Go.Proofs.Ytkgkejihdfgpkaa
open Go.RowKit

def anyRest : List (List UInt8) → List Value
  | [] => []
  | p :: ps => wildV :: ((if p = [] then [] else [strV p]) ++ anyRest ps)
def anyOf : List (List UInt8) → List Value
  | [] => []
  | p :: ps => (if p = [] then [] else [strV p]) ++ anyRest ps

theorem anyRest_snoc (ps : List (List UInt8)) (p : List UInt8) : anyRest (ps ++ [p]) = anyRest ps ++ (wildV :: (if p = [] then [] else [strV p])) := by
  induction ps with
  | nil => simp [anyRest]
  | cons q r ih => simp [anyRest, ih]
theorem anyOf_snoc (ps : List (List UInt8)) (p : List UInt8) (h : ps ≠ []) : anyOf (ps ++ [p]) = anyOf ps ++ (wildV :: (if p = [] then [] else [strV p])) := by
  cases ps with
  | nil => exact absurd rfl h
  | cons q r => simp [anyOf, anyRest_snoc]
theorem take_snoc' {α : Type} (l : List α) (k : Nat) (h : k < l.length) : l.take (k + 1) = l.take k ++ [l[k]] := by
  rw [List.take_succ_eq_append_getElem h]
theorem anyRest_len (ps : List (List UInt8)) : (anyRest ps).length ≤ 2 * ps.length := by
  induction ps with
  | nil => simp [anyRest]
  | cons q r ih => simp only [anyRest, List.length_cons, List.length_append]; split <;> simp <;> omega
theorem anyOf_len (ps : List (List UInt8)) : (anyOf ps).length ≤ 2 * ps.length := by
  cases ps with
  | nil => simp [anyOf]
  | cons q r => simp only [anyOf, List.length_cons, List.length_append]; have := anyRest_len r; split <;> simp <;> omega

theorem anyOf_one (p : List UInt8) : anyOf [p] = if p = [] then [] else [strV p] := by simp [anyOf, anyRest]


/-- The values of the pieces, as components. -/
def optRest : List (List UInt8) → List (Option (List UInt8))
  | [] => []
  | p :: ps => none :: ((if p = [] then [] else [some p]) ++ optRest ps)
def optOf : List (List UInt8) → List (Option (List UInt8))
  | [] => []
  | p :: ps => (if p = [] then [] else [some p]) ++ optRest ps
theorem anyRest_opt (ps : List (List UInt8)) : anyRest ps = (optRest ps).map anyV := by
  induction ps with
  | nil => rfl
  | cons p r ih => simp only [anyRest, optRest, ih, List.map_cons, List.map_append]; split <;> rfl
theorem anyOf_opt (ps : List (List UInt8)) : anyOf ps = (optOf ps).map anyV := by
  cases ps with
  | nil => rfl
  | cons p r => simp only [anyOf, optOf, anyRest_opt, List.map_append]; split <;> rfl
theorem optRest_mem {ps : List (List UInt8)} {l : List UInt8} (h : some l ∈ optRest ps) : l ∈ ps := by
  induction ps with
  | nil => simp [optRest] at h
  | cons p r ih =>
    simp only [optRest, List.mem_cons, List.mem_append] at h
    rcases h with h | h | h
    · cases h
    · split at h
      · simp at h
      · simp at h; simp [h]
    · exact List.mem_cons_of_mem _ (ih h)
theorem optOf_mem {ps : List (List UInt8)} {l : List UInt8} (h : some l ∈ optOf ps) : l ∈ ps := by
  cases ps with
  | nil => simp [optOf] at h
  | cons p r =>
    simp only [optOf, List.mem_append] at h
    rcases h with h | h
    · split at h
      · simp at h
      · simp at h; simp [h]
    · exact List.mem_cons_of_mem _ (optRest_mem h)
theorem optOf_len (ps : List (List UInt8)) : (optOf ps).length ≤ 2 * ps.length := by
  have h := anyOf_len ps
  rw [anyOf_opt, List.length_map] at h
  exact h

/-- The components that the pieces make are those of the plain text. -/
theorem fold_rest (ps : List (List UInt8)) : ∀ (D : List Comp) (q : List UInt8),
    (optRest ps).foldl stepC (D ++ [(true, q)]) = D ++ PatM.tailC (q :: ps) := by
  induction ps with
  | nil => intro D q; simp [optRest, PatM.tailC]
  | cons p r ih =>
    intro D q
    simp only [optRest, List.foldl_cons, List.foldl_append, PatM.tailC]
    by_cases hq : q = []
    · subst hq
      have e1 : stepC (D ++ [(true, [])]) none = D ++ [(true, [])] := addWild_keep D true
      rw [e1, if_pos rfl]
      by_cases hp : p = []
      · subst hp
        simpa using ih D []
      · rw [if_neg hp]
        have e2 : stepC (D ++ [(true, [])]) (some p) = D ++ [(true, p)] := by
          show addLit _ _ = _
          rw [addLit_snoc]; rfl
        simp only [List.foldl_cons, List.foldl_nil, e2]
        exact ih D p
    · have e1 : stepC (D ++ [(true, q)]) none = (D ++ [(true, q)]) ++ [(true, [])] := addWild_more D true q hq
      rw [e1, if_neg hq]
      by_cases hp : p = []
      · subst hp
        simpa using ih (D ++ [(true, q)]) []
      · rw [if_neg hp]
        have e2 : stepC ((D ++ [(true, q)]) ++ [(true, [])]) (some p) = (D ++ [(true, q)]) ++ [(true, p)] := by
          show addLit _ _ = _
          rw [addLit_snoc]; rfl
        simp only [List.foldl_cons, List.foldl_nil, e2]
        have := ih (D ++ [(true, q)]) p
        simpa using this
theorem fold_comps (ps : List (List UInt8)) : (optOf ps).foldl stepC [] = PatM.compsOf ps := by
  have rest : ∀ (ps : List (List UInt8)) (D : List Comp), (D = [] ∨ ∃ p, p ≠ [] ∧ D = [(false, p)]) → (optRest ps).foldl stepC D = D ++ PatM.tailC ps := by
    intro ps D hD
    cases ps with
    | nil => simp [optRest, PatM.tailC]
    | cons p r =>
      have e1 : stepC D none = D ++ [(true, [])] := by
        rcases hD with rfl | ⟨p, hp, rfl⟩
        · rfl
        · exact addWild_more [] false p hp
      simp only [optRest, List.foldl_cons, List.foldl_append, e1]
      by_cases hp : p = []
      · subst hp
        simpa using fold_rest r D []
      · rw [if_neg hp]
        have e2 : stepC (D ++ [(true, [])]) (some p) = D ++ [(true, p)] := by
          show addLit _ _ = _
          rw [addLit_snoc]; rfl
        simp only [List.foldl_cons, List.foldl_nil, e2]
        exact fold_rest r D p
  cases ps with
  | nil => rfl
  | cons p r =>
    simp only [optOf, List.foldl_append, PatM.compsOf]
    by_cases hp : p = []
    · subst hp
      simpa using rest r [] (.inl rfl)
    · rw [if_neg hp, if_neg hp]
      have e2 : stepC [] (some p) = [(false, p)] := rfl
      simp only [List.foldl_cons, List.foldl_nil, e2]
      exact rest r [(false, p)] (.inr ⟨p, hp, rfl⟩)

theorem own_cast {w : World} {base e : Nat} {v : Value} {n n' : Nat} {xs xs' : List Value} (h : w.ownsRow base e 1 v n xs) (hx : xs = xs') (hn : xs'.length = n') : w.ownsRow base e 1 v n' xs' := by
  subst hx hn
  have := h.1
  simp at this
  rw [this]; exact h

set_option maxHeartbeats 1000000 in
theorem pattern_any (v : Value) (ss : List (List UInt8)) (w : World) (hr : SRow w v ss) (hn : ss.length ≤ 1000) (hl : ∀ s ∈ ss, s.length ≤ 2147483647) :
    Calls Try.prog 9 #[v] w fun e w' => ∃ v' n, e = .returned (.agg #[v']) ∧ n = (PatM.compsOf ss).length ∧ w'.ownsRow w.heap.size 39 2 v' n (cellsC (PatM.compsOf ss)) ∧ Ext w w' := by
  have hl2 := Lib.hid hl
  clear hl
  rcases hr with ⟨ao, cap, rfl, rfl⟩ | ⟨b, off, cap, rfl, hm, hc⟩
  · go_enter Try.func9, Try.ntmps9
    go_wp2
    go_loopw [3, 8] (fun v i wr => v = .slice none 0 0 ∧ i = .int .i64 0 ∧ wr = w.alloc (.cells #[.slice none 0 0] 29)) (fun _ i _ => 0)
    case atStart => exact ⟨rfl, rfl, rfl⟩
    case round =>
      obtain ⟨rfl, rfl, rfl⟩ := hrel
      go_wp2_with fail
      refine (newPattern_any (.slice none 0 0) [] _ (.inl ⟨rfl, rfl⟩) (by simp) (by simp)).mono ?_
      rintro e w1 ⟨v', n, rfl, hn', hown', hext'⟩
      have hwc : w1.cell? ⟨w.heap.size, 0, none⟩ = some (.slice none 0 0) := by
        rw [Below.cell hext' (by simp)]
        exact World.cell?_alloc_new _ _ _ _
      have hwf : w1.frozen? ⟨w.heap.size, 0, none⟩ = false := by
        rw [Below.frozen hext' (by simp)]
        exact World.frozen?_alloc_new _ _ _ _
      have Hn' := Lib.hid hn'
      clear hn'
      rcases own_shape hown' with ⟨rfl, rfl, hx⟩ | ⟨g, cap', rfl, hg, hg2, hnc, hcm⟩
      · clear hx
        go_wp2_with fail
        refine bodyPost_ret (v := .agg #[.slice none 0 0]) (by simp [results, Try.results9, go_sem, World.cell?_setCell_same _ _ _ hwc]) rfl ⟨_, 0, rfl, Hn'.out, ?_, ?_⟩
        · exact own_mono (ownsRow_setCell_below hown' (by simp) _) (by simp)
        · exact (((Ext.refl w).alloc _).trans hext').setCell (by simp) _
      · go_wp2_with fail
        refine bodyPost_ret (v := .agg #[.slice (some ⟨g, 0, none⟩) n cap']) (by simp [results, Try.results9, go_sem, World.cell?_setCell_same _ _ _ hwc]) rfl ⟨_, n, rfl, Hn'.out, ?_, ?_⟩
        · exact own_mono (ownsRow_setCell_below hown' (by simp) _) (by simp)
        · exact (((Ext.refl w).alloc _).trans hext').setCell (by simp) _
  · unfold maxLen at hm
    obtain ⟨i20, hi20, hz0, hz1, hz2⟩ := info_parts info20
    go_enter Try.func9, Try.ntmps9
    go_wp2
    go_loopw [3, 8] (fun v i wr => ∃ k : Nat, k ≤ ss.length ∧ i = .int .i64 k ∧ Ext (w.alloc (.cells #[.slice none 0 0] 29)) wr ∧ wr.ownsRow (w.heap.size + 1) 20 1 v (anyOf (ss.take k)).length (anyOf (ss.take k))) (fun _ i _ => ss.length - (intOf i).toNat)
    case atStart => exact ⟨0, Nat.zero_le _, rfl, Ext.refl _, World.ownsRow_nil _ _ _ _⟩
    case round =>
      obtain ⟨k, hk, rfl, hext, hown⟩ := hrel
      have hsize : w.heap.size + 1 ≤ wr.heap.size := by have := hext.size; simpa using this
      by_cases hlt : k < ss.length
      · have hblt : b < w.heap.size := World.block_lt_of_cell? w _ (hc k hlt).1
        have hcell : wr.cell? ⟨b, off + k, none⟩ = some (.string (bs ss[k])) := by
          rw [Below.cell hext (by simp; omega), World.cell?_alloc_lt _ _ _ hblt]
          exact (hc k hlt).1
        have hlen := anyOf_len (ss.take k)
        have hlen2 : (ss.take k).length ≤ k := List.length_take_le _ _
        have tok1 : True := trivial
        have tok2 : True := trivial
        by_cases hp : ss[k] = []
        · have hpb : (bs ss[k]).toList.isEmpty = true := by rw [bs_isEmpty, hp]; rfl
          by_cases hk0 : 0 < k
          · have hts : anyOf (ss.take (k + 1)) = anyOf (ss.take k) ++ [wildV] := by
              rw [take_snoc' ss k hlt, anyOf_snoc _ _ (List.ne_nil_of_length_pos (by rw [List.length_take]; omega)), if_pos hp]
            have Hts := Lib.hid hts
            clear hts hp
            go_wp2_with (at_builtin; have _t := tok1; refine wpList_append_own _ rfl (.tmp 15) (.tmp 18) 34 rfl (w.heap.size + 1) 20 i20 .nilIface 1 16 Try.underlying34 hi20 hz0 hz1 hz2 rfl (by decide) _ _ _ rfl (hown.alloc _) ⟨wr.heap.size, 0, none⟩ 1 1 [wildV] rfl rfl ?_ ?_ ?_ ?_ ?_ ?_; (exact cell_one_new _ _ _); (simp [wildV]; rfl); (unfold maxLen; omega); omega; (simp; omega); intro v1 w1 hown1 hg1 _; clear tok1; have hs1 : w.heap.size + 1 ≤ w1.heap.size := Nat.le_trans (by simp; omega) hg1.size)
            go_roundw
            case rel => exact ⟨k + 1, by omega, by go_num, (hext.alloc _).grownOwn hg1 hown (by simp), own_cast hown1 Hts.out.symm rfl⟩
            case measure => simp [intOf]; omega
          · have hts : anyOf (ss.take (k + 1)) = anyOf (ss.take k) := by
              obtain rfl : k = 0 := by omega
              rw [take_snoc' ss 0 hlt]
              simp [anyOf, anyRest, hp]
            have Hts := Lib.hid hts
            clear hts hp
            go_wp2_with fail
            go_roundw
            case rel => exact ⟨k + 1, by omega, by go_num, hext, own_cast hown Hts.out.symm (by rw [Hts.out])⟩
            case measure => simp [intOf]; omega
        · have hpb : (bs ss[k]).toList.isEmpty = false := by rw [bs_isEmpty]; simpa using hp
          by_cases hk0 : 0 < k
          · have hts : anyOf (ss.take (k + 1)) = (anyOf (ss.take k) ++ [wildV]) ++ [strV ss[k]] := by
              rw [take_snoc' ss k hlt, anyOf_snoc _ _ (List.ne_nil_of_length_pos (by rw [List.length_take]; omega)), if_neg hp]
              simp
            have Hts := Lib.hid hts
            clear hts hp
            go_wp2_with (first | (at_builtin; have _t := tok1; refine wpList_append_own _ rfl (.tmp 15) (.tmp 18) 34 rfl (w.heap.size + 1) 20 i20 .nilIface 1 16 Try.underlying34 hi20 hz0 hz1 hz2 rfl (by decide) _ _ _ rfl (hown.alloc _) ⟨wr.heap.size, 0, none⟩ 1 1 [wildV] rfl rfl ?_ ?_ ?_ ?_ ?_ ?_; (exact cell_one_new _ _ _); (simp [wildV]; rfl); (unfold maxLen; omega); omega; (simp; omega); intro v1 w1 hown1 hg1 _; clear tok1; have hs1 : w.heap.size + 1 ≤ w1.heap.size := Nat.le_trans (by simp; omega) hg1.size) | (at_builtin; have _t := tok2; refine wpList_append_own _ rfl (.tmp 22) (.tmp 25) 34 rfl (w.heap.size + 1) 20 i20 .nilIface 1 16 Try.underlying34 hi20 hz0 hz1 hz2 rfl (by decide) _ _ _ rfl (hown1.alloc _) ⟨w1.heap.size, 0, none⟩ 1 1 [strV ss[k]] rfl rfl ?_ ?_ ?_ ?_ ?_ ?_; (exact cell_one_new _ _ _); (simp [strV]; rfl); (unfold maxLen; omega); omega; (simp; omega); intro v2 w2 hown2 hg2 _; clear tok2))
            go_roundw
            case rel => exact ⟨k + 1, by omega, by go_num, (((hext.alloc _).grownOwn hg1 hown (by simp)).alloc _).grownOwn hg2 hown1 (by simp), own_cast hown2 Hts.out.symm (by rw [Hts.out])⟩
            case measure => simp [intOf]; omega
          · have hts : anyOf (ss.take (k + 1)) = anyOf (ss.take k) ++ [strV ss[k]] := by
              obtain rfl : k = 0 := by omega
              rw [take_snoc' ss 0 hlt]
              simp [anyOf, anyRest, hp]
            have Hts := Lib.hid hts
            clear hts hp
            go_wp2_with (at_builtin; have _t := tok1; refine wpList_append_own _ rfl (.tmp 22) (.tmp 25) 34 rfl (w.heap.size + 1) 20 i20 .nilIface 1 16 Try.underlying34 hi20 hz0 hz1 hz2 rfl (by decide) _ _ _ rfl (hown.alloc _) ⟨wr.heap.size, 0, none⟩ 1 1 [strV ss[k]] rfl rfl ?_ ?_ ?_ ?_ ?_ ?_; (exact cell_one_new _ _ _); (simp [strV]; rfl); (unfold maxLen; omega); omega; (simp; omega); intro v1 w1 hown1 hg1 _; clear tok1)
            go_roundw
            case rel => exact ⟨k + 1, by omega, by go_num, (hext.alloc _).grownOwn hg1 hown (by simp), own_cast hown1 Hts.out.symm (by rw [Hts.out])⟩
            case measure => simp [intOf]; omega
      · have hall : ss.take k = ss := List.take_of_length_le (by omega)
        have hrow : VRow wr u3 ((optOf ss).map anyV) := by
          rw [← anyOf_opt, ← hall]; exact VRow.of_own hown
        have Hrow := Lib.hid hrow
        clear hrow hall
        go_wp2_with fail
        refine (newPattern_any _ (optOf ss) _ Hrow.out (by have := optOf_len ss; omega) (fun l h => hl2.out l (optOf_mem h))).mono ?_
        rintro e w1 ⟨v', n, rfl, hn', hown', hext'⟩
        have hwc : w1.cell? ⟨w.heap.size, 0, none⟩ = some (.slice none 0 0) := by
          rw [Below.cell hext' (by simp; omega)]
          rw [Below.cell hext (by simp)]; simp
        have hwf : w1.frozen? ⟨w.heap.size, 0, none⟩ = false := by
          rw [Below.frozen hext' (by simp; omega)]
          rw [Below.frozen hext (by simp)]
          exact World.frozen?_alloc_new _ _ _ _
        have Hn' := Lib.hid hn'
        clear hn'
        rcases own_shape hown' with ⟨rfl, rfl, hx⟩ | ⟨g, cap', rfl, hg, hg2, hnc, hcm⟩
        · clear hx
          go_wp2_with fail
          refine bodyPost_ret (v := .agg #[.slice none 0 0]) (by simp [results, Try.results9, go_sem, World.cell?_setCell_same _ _ _ hwc]) rfl ⟨_, 0, rfl, by rw [← fold_comps]; exact Hn'.out, ?_, ?_⟩
          · rw [← fold_comps]; exact own_mono (ownsRow_setCell_below hown' (by simp; omega) _) (by omega)
          · exact ((((Ext.refl w).alloc _).trans hext).trans hext').setCell (by simp) _
        · go_wp2_with fail
          refine bodyPost_ret (v := .agg #[.slice (some ⟨g, 0, none⟩) n cap']) (by simp [results, Try.results9, go_sem, World.cell?_setCell_same _ _ _ hwc]) rfl ⟨_, n, rfl, by rw [← fold_comps]; exact Hn'.out, ?_, ?_⟩
          · rw [← fold_comps]; exact own_mono (ownsRow_setCell_below hown' (by simp; omega) _) (by omega)
          · exact ((((Ext.refl w).alloc _).trans hext).trans hext').setCell (by simp) _
end Go.Proofs.Ytkgkejihdfgpkaa
