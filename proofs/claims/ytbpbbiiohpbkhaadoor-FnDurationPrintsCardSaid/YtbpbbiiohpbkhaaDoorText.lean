/- The contract of Duration.String. -/
import Derived.Test.YtbpbbiiohpbkhaaDoorBase
import Derived.Test.YtbpbbiiohpbkhaaDoorNum
import Derived.Test.YtbpbbiiohpbkhaaDoorMap
import Derived.Test.YtbpbbiiohpbkhaaDoorShelf
import Derived.Lib.BufferKept
import Derived.Lib.BufferOld
import Derived.Lib.ItoaMem
import Derived.Deep.DeepCutAuto
namespace Go.Proofs.YtbpbbiiohpbkhaaDoor
open Go.RowKit Go.Sort

theorem decDigits_dec (n : Nat) : Lib.decDigits n = dec n := by
  have key : ∀ n, 0 < n → Lib.decDigits n = digs n := by
    intro n
    induction n using Nat.strongRecOn with
    | _ n ih =>
      intro hn
      rw [Lib.decDigits, digs_pos hn]
      split
      · rename_i h
        have e : n / 10 = 0 := by omega
        rw [e, digs_zero, Nat.mod_eq_of_lt h]; rfl
      · rw [ih (n / 10) (by omega) (by omega)]
  unfold dec
  split
  · rename_i h; subst h; rw [Lib.decDigits]; rfl
  · exact key n (by omega)

theorem tab_ext {w w' : World} {name : String} {k : IntKind} {zs : List Int} (h : Lib.TabIs Tryd.prog w name k zs) (hx : Ext w w') : Lib.TabIs Tryd.prog w' name k zs := by
  unfold Lib.TabIs World.var? at *
  cases hg : Tryd.prog.globalNamed name with
  | none => simp [hg] at h
  | some g =>
    simp only [hg, Option.bind_some] at h ⊢
    have hlt : g < w.heap.size := by
      cases hh : w.heap[g]? with
      | none => simp [hh] at h
      | some o => exact (Array.getElem?_eq_some_iff.1 hh).1
    rw [Below.block hx g hlt]
    exact h

abbrev Tab (w : World) : Prop := Lib.TabIs Tryd.prog w "internal/strconv.uint64pow10" .u64 Lib.pow10Tab
theorem ext_grow (w : World) (k : Nat) (os : Array Obj) : Ext w (grow (w.drewN k) os) := by
  refine ⟨rfl, rfl, rfl, ?_, ?_⟩
  · show w.heap.size ≤ (w.heap ++ os).size
    simp
  · intro i hi
    show (w.heap ++ os)[i]? = _
    rw [Array.getElem?_append_left hi]

theorem fmtInt_any (x : Int) (q : Nat) (w : World) (hx : x = (q : Int)) (hq : q ≤ 9223372036854775807) (ht : Tab w) :
    Calls Tryd.prog 17 #[.int .i64 x, .int .i64 10] w fun e w' => e = .returned (.string (bs (dec q))) ∧ Ext w w' := by
  subst hx
  refine (Tryd.strconv_FormatInt_10 q (by omega) (by omega) w ht).mono ?_
  rintro e w' ⟨rfl, k, os, rfl⟩
  refine ⟨?_, ext_grow _ _ _⟩
  rw [Lib.itoa_nonneg, decDigits_dec]; rfl

def Buf (w0 : World) (B : Nat) (L : List UInt8) (w : World) : Prop := Lib.IsBuffer 50 5 B B (Lib.byteCells L) w ∧ Ext w0 w
theorem Buf.ext {w0 w w' : World} {B : Nat} {L : List UInt8} (h : Buf w0 B L w) (hx : Ext w w') : Buf w0 B L w' := ⟨h.1.old hx, h.2.trans hx⟩
theorem wByte {w0 : World} (B : Nat) (L : List UInt8) (c : UInt8) (x : Int) (w : World) (h : Buf w0 B L w) (hB : w0.heap.size ≤ B) (hBw : B ≤ w.heap.size) (hl : L.length ≤ 1000) (hx : x = (c.toNat : Int)) :
    Calls Tryd.prog 15 #[.pointer (some ⟨B, 0, none⟩), .int .u8 x] w fun e w' => e = .returned .nilIface ∧ Buf w0 B (L ++ [c]) w' ∧ B ≤ w'.heap.size := by
  subst hx
  refine (Tryd.Buffer_WriteByte_k B B (Lib.byteCells L) c.toNat w h.1 hBw (Lib.byteCells_one _) (by simp [Lib.byteCells]; omega)).mono ?_
  rintro e w' ⟨rfl, h1, hb, _⟩
  refine ⟨rfl, ⟨?_, ?_⟩, Nat.le_trans hBw hb.size⟩
  · have e : Lib.byteCells L ++ [.int .u8 (c.toNat : Int)] = Lib.byteCells (L ++ [c]) := by simp [Lib.byteCells]
    rw [← e]; exact h1
  · exact Below.trans h.2 (Below.mono hb hB)
theorem wString {w0 : World} (B : Nat) (L : List UInt8) (s : List UInt8) (S : ByteArray) (w : World) (h : Buf w0 B L w) (hB : w0.heap.size ≤ B) (hBw : B ≤ w.heap.size) (hl : L.length ≤ 1000) (hs : s.length ≤ 1000) (hS : S = bs s) :
    Calls Tryd.prog 16 #[.pointer (some ⟨B, 0, none⟩), .string S] w fun e w' => (∃ v, e = .returned (.tuple #[.int .i64 v, .nilIface])) ∧ Buf w0 B (L ++ s) w' ∧ B ≤ w'.heap.size := by
  subst hS
  refine (Tryd.Buffer_WriteString_k B B (Lib.byteCells L) (bs s) w h.1 hBw (Lib.byteCells_one _) (by rw [bs_size]; simp [Lib.byteCells]; omega)).mono ?_
  rintro e w' ⟨rfl, h1, hb, _⟩
  refine ⟨⟨_, rfl⟩, ⟨?_, ?_⟩, Nat.le_trans hBw hb.size⟩
  · rw [bs_toList, ← Lib.byteCells_append] at h1; exact h1
  · exact Below.trans h.2 (Below.mono hb hB)

/-- The text of a duration. -/
def partT (k q : Nat) : List UInt8 := if 0 < q then dec q ++ uName k else []
def bodyT (r : Nat) : List UInt8 :=
  (((partT 0 (r / 86400000) ++ partT 1 (r % 86400000 / 3600000)) ++ partT 2 (r % 86400000 % 3600000 / 60000)) ++ partT 3 (r % 86400000 % 3600000 % 60000 / 1000)) ++ partT 4 (r % 86400000 % 3600000 % 60000 % 1000)
def durT (n : Int) : List UInt8 := if n = 0 then [48, 109, 115] else (if n < 0 then [45] else []) ++ bodyT n.natAbs
theorem partT_len (k q : Nat) (hq : q ≤ 9223372036854775807) : (partT k q).length ≤ 22 := by
  unfold partT
  split
  · rw [List.length_append]
    have h1 := dec_len q (by omega)
    have h2 : (uName k).length ≤ 2 := by unfold uName; split <;> simp
    omega
  · simp

set_option maxHeartbeats 4000000 in
set_option maxRecDepth 100000 in
theorem durString_any (n : Int) (w : World) (h0 : -9223372036854775808 < n) (h1 : n ≤ 9223372036854775807) (ht : Tab w) :
    Calls Tryd.prog 12 #[.agg #[.int .i64 n]] w fun e w' => e = .returned (.string (bs (durT n))) ∧ Ext w w' := by
  have Ht := Lib.hid ht
  clear ht
  by_cases hn0 : n = 0
  · have hz : (n == 0) = true := by rw [hn0]; rfl
    have hd : durT n = [48, 109, 115] := by rw [durT, if_pos hn0]
    have Hd := Lib.hid hd
    clear hd hn0
    go_enter Tryd.func12, Tryd.ntmps12
    go_wp2
    go_ret
    exact ⟨by rw [Hd.out]; rfl, ((Ext.refl w).alloc _).alloc _⟩
  · have hz : (n == 0) = false := by rw [beq_eq_false_iff_ne]; exact hn0
    obtain ⟨N, hN⟩ : ∃ N, n.natAbs = N := ⟨_, rfl⟩
    have hN1 : N ≤ 9223372036854775807 := by omega
    have HN := Lib.hid hN
    have Hn0 := Lib.hid hn0
    clear hN hn0
    go_enter Tryd.func12, Tryd.ntmps12
    go_upto_if 16 with (fail)
    obtain ⟨L0, hL0⟩ : ∃ L : List UInt8, (if n < 0 then [45] else []) = L := ⟨_, rfl⟩
    have HL0 := Lib.hid hL0
    have hl0 : L0.length ≤ 1 := by rw [← hL0]; split <;> simp
    have hB0 : w.heap.size ≤ w.heap.size + 1 := by omega
    clear hL0
    have hbuf : Buf w (w.heap.size + 1) [] ((w.alloc (.cells #[.int .i64 n] 34)).alloc (.cells #[.slice none 0 0, .int .i64 0, .int .i8 0] 50)) := by
      refine ⟨?_, ((Ext.refl w).alloc _).alloc _⟩
      have := Lib.fresh_isBuffer 50 5 (w.alloc (.cells #[.int .i64 n] 34))
      simpa [Lib.byteCells] using this
    have Hbuf := Lib.hid hbuf
    clear hbuf
    go_cut [4] (fun r wc => r = .int .i64 (N : Int) ∧ Hid (Buf w (w.heap.size + 1) L0 wc) ∧ w.heap.size + 1 ≤ wc.heap.size)
    case first =>
      by_cases hneg : n < 0
      · have hL : L0 = [] ++ [45] := by rw [← HL0.out, if_pos hneg]; rfl
        have HL := Lib.hid hL
        have hNn : -n = (N : Int) := by have := HN.out; omega
        have HNn := Lib.hid hNn
        clear hL hNn
        go_wp2_with fail
        refine (wByte (w0 := w) (w.heap.size + 1) [] 45 45 _ Hbuf.out hB0 (by simp) (by simp) rfl).mono ?_
        rintro e w1 ⟨rfl, hb1, hs1⟩
        have Hb1 := Lib.hid hb1
        clear hb1
        go_wp2_with fail
        go_meet
        exact ⟨by rw [HNn.out], Lib.hid (by rw [HL.out]; exact Hb1.out), hs1⟩
      · have hL : L0 = [] := by rw [← HL0.out, if_neg hneg]
        have HL := Lib.hid hL
        have hNn : n = (N : Int) := by have := HN.out; omega
        have HNn := Lib.hid hNn
        clear hL hNn
        go_wp2_with fail
        go_meet
        exact ⟨by rw [HNn.out], Lib.hid (by rw [HL.out]; exact Hbuf.out), by simp⟩
    case rest =>
      obtain ⟨rfl, HB0, hsz0⟩ := hcut
      have hq0 : N / 86400000 ≤ 9223372036854775807 := by omega
      obtain ⟨L1, hL1⟩ : ∃ L : List UInt8, L0 ++ partT 0 (N / 86400000) = L := ⟨_, rfl⟩
      have hl1 : L1.length ≤ 23 := by
        rw [← hL1, List.length_append]
        have := partT_len 0 (N / 86400000) hq0
        omega
      have HL1 := Lib.hid hL1
      clear hL1
      go_upto_if 24 with (fail)
      rename_i wc
      have Hx0 := Lib.hid (HB0.out.2)
      go_cut [] (fun wd => Hid (Buf w (w.heap.size + 1) L1 wd) ∧ w.heap.size + 1 ≤ wd.heap.size)
      case first =>
        by_cases hpos : 0 < N / 86400000
        · have hpi : (0 : Int) < (N : Int) / 86400000 := by omega
          have hp : partT 0 (N / 86400000) = dec (N / 86400000) ++ uName 0 := by rw [partT, if_pos hpos]
          have Hp := Lib.hid hp
          have hdl : (dec (N / 86400000)).length ≤ 20 := dec_len _ (by omega)
          clear hp
          go_wp2_with fail
          refine (fmtInt_any _ (N / 86400000) _ (by omega) hq0 (tab_ext Ht.out Hx0.out)).mono ?_
          rintro e w1 ⟨rfl, hx1⟩
          have hb1 := HB0.out.ext hx1
          have hsz1 := Nat.le_trans hsz0 hx1.size
          have Hb1 := Lib.hid hb1
          clear hb1
          generalize hdg : dec (N / 86400000) = dg at hdl ⊢
          have Hdg := Lib.hid hdg
          clear hdg
          go_wp2_with fail
          refine (wString (w0 := w) (w.heap.size + 1) L0 dg _ _ Hb1.out hB0 hsz1 (by omega) (by omega) rfl).mono ?_
          rintro e w2 ⟨⟨v2, rfl⟩, hb2, hs2⟩
          have Hb2 := Lib.hid hb2
          clear hb2
          go_wp2_with fail
          refine (wByte (w0 := w) (w.heap.size + 1) (L0 ++ dg) 100 100 _ Hb2.out hB0 hs2 (by rw [List.length_append]; omega) rfl).mono ?_
          rintro e w3 ⟨rfl, hb3, hs3⟩
          have Hb3 := Lib.hid hb3
          clear hb3
          go_wp2_with fail
          go_meet
          exact ⟨Lib.hid (by rw [← HL1.out, Hp.out, Hdg.out, ← List.append_assoc]; exact Hb3.out), hs3⟩
        · have hpi : ¬ (0 : Int) < (N : Int) / 86400000 := by omega
          have hp : partT 0 (N / 86400000) = [] := by rw [partT, if_neg hpos]
          have Hp := Lib.hid hp
          clear hp
          go_wp2_with fail
          go_meet
          exact ⟨Lib.hid (by rw [← HL1.out, Hp.out, List.append_nil]; exact HB0.out), hsz0⟩
      case rest =>
        obtain ⟨HB1, hsz1⟩ := hcut
        obtain ⟨r1, hr1⟩ : ∃ r, N % 86400000 = r := ⟨_, rfl⟩
        have hr1' : (N : Int) % 86400000 = (r1 : Int) := by omega
        have hr1b : r1 < 86400000 := by omega
        have Hr1 := Lib.hid hr1
        clear hr1
        have hq1 : r1 / 3600000 ≤ 9223372036854775807 := by omega
        obtain ⟨L2, hL2⟩ : ∃ L : List UInt8, L1 ++ partT 1 (r1 / 3600000) = L := ⟨_, rfl⟩
        have hl2 : L2.length ≤ 45 := by
          rw [← hL2, List.length_append]
          have := partT_len 1 (r1 / 3600000) hq1
          omega
        have HL2 := Lib.hid hL2
        clear hL2
        go_upto_if 34 with (fail)
        try rw [hr1']
        clear hr1'
        rename_i wc
        have Hx1 := Lib.hid (HB1.out.2)
        go_cut [] (fun wd => Hid (Buf w (w.heap.size + 1) L2 wd) ∧ w.heap.size + 1 ≤ wd.heap.size)
        case first =>
          by_cases hpos : 0 < r1 / 3600000
          · have hpi : (0 : Int) < (r1 : Int) / 3600000 := by omega
            have hp : partT 1 (r1 / 3600000) = dec (r1 / 3600000) ++ uName 1 := by rw [partT, if_pos hpos]
            have Hp := Lib.hid hp
            have hdl : (dec (r1 / 3600000)).length ≤ 20 := dec_len _ (by omega)
            clear hp
            go_wp2_with fail
            refine (fmtInt_any _ (r1 / 3600000) _ (by omega) hq1 (tab_ext Ht.out Hx1.out)).mono ?_
            rintro e w1 ⟨rfl, hx1⟩
            have hb1 := HB1.out.ext hx1
            have hsz1 := Nat.le_trans hsz1 hx1.size
            have Hb1 := Lib.hid hb1
            clear hb1
            generalize hdg : dec (r1 / 3600000) = dg at hdl ⊢
            have Hdg := Lib.hid hdg
            clear hdg
            go_wp2_with fail
            refine (wString (w0 := w) (w.heap.size + 1) L1 dg _ _ Hb1.out hB0 hsz1 (by omega) (by omega) rfl).mono ?_
            rintro e w2 ⟨⟨v2, rfl⟩, hb2, hs2⟩
            have Hb2 := Lib.hid hb2
            clear hb2
            go_wp2_with fail
            refine (wByte (w0 := w) (w.heap.size + 1) (L1 ++ dg) 104 104 _ Hb2.out hB0 hs2 (by rw [List.length_append]; omega) rfl).mono ?_
            rintro e w3 ⟨rfl, hb3, hs3⟩
            have Hb3 := Lib.hid hb3
            clear hb3
            go_wp2_with fail
            go_meet
            exact ⟨Lib.hid (by rw [← HL2.out, Hp.out, Hdg.out, ← List.append_assoc]; exact Hb3.out), hs3⟩
          · have hpi : ¬ (0 : Int) < (r1 : Int) / 3600000 := by omega
            have hp : partT 1 (r1 / 3600000) = [] := by rw [partT, if_neg hpos]
            have Hp := Lib.hid hp
            clear hp
            go_wp2_with fail
            go_meet
            exact ⟨Lib.hid (by rw [← HL2.out, Hp.out, List.append_nil]; exact HB1.out), hsz1⟩
        case rest =>
          obtain ⟨HB2, hsz2⟩ := hcut
          obtain ⟨r2, hr2⟩ : ∃ r, r1 % 3600000 = r := ⟨_, rfl⟩
          have hr2' : (r1 : Int) % 3600000 = (r2 : Int) := by omega
          have hr2b : r2 < 3600000 := by omega
          have Hr2 := Lib.hid hr2
          clear hr2
          have hq2 : r2 / 60000 ≤ 9223372036854775807 := by omega
          obtain ⟨L3, hL3⟩ : ∃ L : List UInt8, L2 ++ partT 2 (r2 / 60000) = L := ⟨_, rfl⟩
          have hl3 : L3.length ≤ 67 := by
            rw [← hL3, List.length_append]
            have := partT_len 2 (r2 / 60000) hq2
            omega
          have HL3 := Lib.hid hL3
          clear hL3
          go_upto_if 44 with (fail)
          try rw [hr2']
          clear hr2'
          rename_i wc
          have Hx2 := Lib.hid (HB2.out.2)
          go_cut [] (fun wd => Hid (Buf w (w.heap.size + 1) L3 wd) ∧ w.heap.size + 1 ≤ wd.heap.size)
          case first =>
            by_cases hpos : 0 < r2 / 60000
            · have hpi : (0 : Int) < (r2 : Int) / 60000 := by omega
              have hp : partT 2 (r2 / 60000) = dec (r2 / 60000) ++ uName 2 := by rw [partT, if_pos hpos]
              have Hp := Lib.hid hp
              have hdl : (dec (r2 / 60000)).length ≤ 20 := dec_len _ (by omega)
              clear hp
              go_wp2_with fail
              refine (fmtInt_any _ (r2 / 60000) _ (by omega) hq2 (tab_ext Ht.out Hx2.out)).mono ?_
              rintro e w1 ⟨rfl, hx1⟩
              have hb1 := HB2.out.ext hx1
              have hsz1 := Nat.le_trans hsz2 hx1.size
              have Hb1 := Lib.hid hb1
              clear hb1
              generalize hdg : dec (r2 / 60000) = dg at hdl ⊢
              have Hdg := Lib.hid hdg
              clear hdg
              go_wp2_with fail
              refine (wString (w0 := w) (w.heap.size + 1) L2 dg _ _ Hb1.out hB0 hsz1 (by omega) (by omega) rfl).mono ?_
              rintro e w2 ⟨⟨v2, rfl⟩, hb2, hs2⟩
              have Hb2 := Lib.hid hb2
              clear hb2
              go_wp2_with fail
              refine (wByte (w0 := w) (w.heap.size + 1) (L2 ++ dg) 109 109 _ Hb2.out hB0 hs2 (by rw [List.length_append]; omega) rfl).mono ?_
              rintro e w3 ⟨rfl, hb3, hs3⟩
              have Hb3 := Lib.hid hb3
              clear hb3
              go_wp2_with fail
              go_meet
              exact ⟨Lib.hid (by rw [← HL3.out, Hp.out, Hdg.out, ← List.append_assoc]; exact Hb3.out), hs3⟩
            · have hpi : ¬ (0 : Int) < (r2 : Int) / 60000 := by omega
              have hp : partT 2 (r2 / 60000) = [] := by rw [partT, if_neg hpos]
              have Hp := Lib.hid hp
              clear hp
              go_wp2_with fail
              go_meet
              exact ⟨Lib.hid (by rw [← HL3.out, Hp.out, List.append_nil]; exact HB2.out), hsz2⟩
          case rest =>
            obtain ⟨HB3, hsz3⟩ := hcut
            obtain ⟨r3, hr3⟩ : ∃ r, r2 % 60000 = r := ⟨_, rfl⟩
            have hr3' : (r2 : Int) % 60000 = (r3 : Int) := by omega
            have hr3b : r3 < 60000 := by omega
            have Hr3 := Lib.hid hr3
            clear hr3
            have hq3 : r3 / 1000 ≤ 9223372036854775807 := by omega
            obtain ⟨L4, hL4⟩ : ∃ L : List UInt8, L3 ++ partT 3 (r3 / 1000) = L := ⟨_, rfl⟩
            have hl4 : L4.length ≤ 89 := by
              rw [← hL4, List.length_append]
              have := partT_len 3 (r3 / 1000) hq3
              omega
            have HL4 := Lib.hid hL4
            clear hL4
            go_upto_if 54 with (fail)
            try rw [hr3']
            clear hr3'
            rename_i wc
            have Hx3 := Lib.hid (HB3.out.2)
            go_cut [] (fun wd => Hid (Buf w (w.heap.size + 1) L4 wd) ∧ w.heap.size + 1 ≤ wd.heap.size)
            case first =>
              by_cases hpos : 0 < r3 / 1000
              · have hpi : (0 : Int) < (r3 : Int) / 1000 := by omega
                have hp : partT 3 (r3 / 1000) = dec (r3 / 1000) ++ uName 3 := by rw [partT, if_pos hpos]
                have Hp := Lib.hid hp
                have hdl : (dec (r3 / 1000)).length ≤ 20 := dec_len _ (by omega)
                clear hp
                go_wp2_with fail
                refine (fmtInt_any _ (r3 / 1000) _ (by omega) hq3 (tab_ext Ht.out Hx3.out)).mono ?_
                rintro e w1 ⟨rfl, hx1⟩
                have hb1 := HB3.out.ext hx1
                have hsz1 := Nat.le_trans hsz3 hx1.size
                have Hb1 := Lib.hid hb1
                clear hb1
                generalize hdg : dec (r3 / 1000) = dg at hdl ⊢
                have Hdg := Lib.hid hdg
                clear hdg
                go_wp2_with fail
                refine (wString (w0 := w) (w.heap.size + 1) L3 dg _ _ Hb1.out hB0 hsz1 (by omega) (by omega) rfl).mono ?_
                rintro e w2 ⟨⟨v2, rfl⟩, hb2, hs2⟩
                have Hb2 := Lib.hid hb2
                clear hb2
                go_wp2_with fail
                refine (wByte (w0 := w) (w.heap.size + 1) (L3 ++ dg) 115 115 _ Hb2.out hB0 hs2 (by rw [List.length_append]; omega) rfl).mono ?_
                rintro e w3 ⟨rfl, hb3, hs3⟩
                have Hb3 := Lib.hid hb3
                clear hb3
                go_wp2_with fail
                go_meet
                exact ⟨Lib.hid (by rw [← HL4.out, Hp.out, Hdg.out, ← List.append_assoc]; exact Hb3.out), hs3⟩
              · have hpi : ¬ (0 : Int) < (r3 : Int) / 1000 := by omega
                have hp : partT 3 (r3 / 1000) = [] := by rw [partT, if_neg hpos]
                have Hp := Lib.hid hp
                clear hp
                go_wp2_with fail
                go_meet
                exact ⟨Lib.hid (by rw [← HL4.out, Hp.out, List.append_nil]; exact HB3.out), hsz3⟩
            case rest =>
              obtain ⟨HB4, hsz4⟩ := hcut
              obtain ⟨r4, hr4⟩ : ∃ r, r3 % 1000 = r := ⟨_, rfl⟩
              have hr4' : (r3 : Int) % 1000 = (r4 : Int) := by omega
              have hr4b : r4 < 1000 := by omega
              have Hr4 := Lib.hid hr4
              clear hr4
              have hq4 : r4 ≤ 9223372036854775807 := by omega
              obtain ⟨L5, hL5⟩ : ∃ L : List UInt8, L4 ++ partT 4 (r4) = L := ⟨_, rfl⟩
              have hl5 : L5.length ≤ 111 := by
                rw [← hL5, List.length_append]
                have := partT_len 4 (r4) hq4
                omega
              have HL5 := Lib.hid hL5
              clear hL5
              go_upto_if 62 with (fail)
              try rw [hr4']
              clear hr4'
              rename_i wc
              have Hx4 := Lib.hid (HB4.out.2)
              go_cut [] (fun wd => Hid (Buf w (w.heap.size + 1) L5 wd) ∧ w.heap.size + 1 ≤ wd.heap.size)
              case first =>
                by_cases hpos : 0 < r4
                · have hpi : (0 : Int) < (r4 : Int) := by omega
                  have hp : partT 4 (r4) = dec (r4) ++ uName 4 := by rw [partT, if_pos hpos]
                  have Hp := Lib.hid hp
                  have hdl : (dec (r4)).length ≤ 20 := dec_len _ (by omega)
                  clear hp
                  go_wp2_with fail
                  refine (fmtInt_any _ (r4) _ (by omega) hq4 (tab_ext Ht.out Hx4.out)).mono ?_
                  rintro e w1 ⟨rfl, hx1⟩
                  have hb1 := HB4.out.ext hx1
                  have hsz1 := Nat.le_trans hsz4 hx1.size
                  have Hb1 := Lib.hid hb1
                  clear hb1
                  generalize hdg : dec (r4) = dg at hdl ⊢
                  have Hdg := Lib.hid hdg
                  clear hdg
                  go_wp2_with fail
                  refine (wString (w0 := w) (w.heap.size + 1) L4 dg _ _ Hb1.out hB0 hsz1 (by omega) (by omega) rfl).mono ?_
                  rintro e w2 ⟨⟨v2, rfl⟩, hb2, hs2⟩
                  have Hb2 := Lib.hid hb2
                  clear hb2
                  go_wp2_with fail
                  refine (wString (w0 := w) (w.heap.size + 1) (L4 ++ dg) [109, 115] _ _ Hb2.out hB0 hs2 (by rw [List.length_append]; omega) (by simp) rfl).mono ?_
                  rintro e w3 ⟨⟨v3, rfl⟩, hb3, hs3⟩
                  have Hb3 := Lib.hid hb3
                  clear hb3
                  go_wp2_with fail
                  go_meet
                  exact ⟨Lib.hid (by rw [← HL5.out, Hp.out, Hdg.out, ← List.append_assoc]; exact Hb3.out), hs3⟩
                · have hpi : ¬ (0 : Int) < (r4 : Int) := by omega
                  have hp : partT 4 (r4) = [] := by rw [partT, if_neg hpos]
                  have Hp := Lib.hid hp
                  clear hp
                  go_wp2_with fail
                  go_meet
                  exact ⟨Lib.hid (by rw [← HL5.out, Hp.out, List.append_nil]; exact HB4.out), hsz4⟩
              case rest =>
                obtain ⟨HB5, hsz5⟩ := hcut
                have hres : durT n = L5 := by
                  rw [durT, if_neg Hn0.out, HN.out, bodyT, Hr1.out, Hr2.out, Hr3.out, Hr4.out, ← HL5.out, ← HL4.out, ← HL3.out, ← HL2.out, ← HL1.out, HL0.out]
                  simp
                have Hres := Lib.hid hres
                clear hres
                go_wp2_with fail
                refine (Tryd.Buffer_String (w.heap.size + 1) (w.heap.size + 1) L5 _ HB5.out.1).mono ?_
                rintro e w9 ⟨rfl, n9, rfl⟩
                go_wp2_with fail
                go_ret
                exact ⟨by rw [Hres.out]; rfl, HB5.out.2.drewN _⟩
end Go.Proofs.YtbpbbiiohpbkhaaDoor
