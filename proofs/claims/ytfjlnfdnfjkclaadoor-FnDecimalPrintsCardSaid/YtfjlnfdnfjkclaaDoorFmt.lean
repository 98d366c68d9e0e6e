/- Numbers as texts, and texts as numbers: the library's functions. -/
import Derived.Test.YtfjlnfdnfjkclaaDoorBase
import Derived.Test.YtfjlnfdnfjkclaaDoorDlaw
import Derived.Test.YtfjlnfdnfjkclaaDoorShelf
import Derived.Lib.ItoaMem
import Derived.Lib.LaidU8
import Derived.Deep.DeepCutAuto
namespace Go.Proofs.YtfjlnfdnfjkclaaDoor
open Go.RowKit Go.Sort

theorem decDigits_dec (n : Nat) : Lib.decDigits n = dec n := by
  have key : ∀ n, 0 < n → Lib.decDigits n = digs n := by
    intro n
    induction n using Nat.strongRecOn with
    | _ n ih =>
      intro hn
      rw [Lib.decDigits, digs_pos hn]
      split
      · rename_i h
        have e : n / 10 = 0 := by omega
        rw [e, digs_zero, Nat.mod_eq_of_lt h]; rfl
      · rw [ih (n / 10) (by omega) (by omega)]
  unfold dec
  split
  · rename_i h; subst h; rw [Lib.decDigits]; rfl
  · exact key n (by omega)

theorem tab_ext {w w' : World} {name : String} {k : IntKind} {zs : List Int} (h : Lib.TabIs Tryd.prog w name k zs) (hx : Ext w w') : Lib.TabIs Tryd.prog w' name k zs := by
  unfold Lib.TabIs World.var? at *
  cases hg : Tryd.prog.globalNamed name with
  | none => simp [hg] at h
  | some g =>
    simp only [hg, Option.bind_some] at h ⊢
    have hlt : g < w.heap.size := by
      cases hh : w.heap[g]? with
      | none => simp [hh] at h
      | some o => exact (Array.getElem?_eq_some_iff.1 hh).1
    rw [Below.block hx g hlt]
    exact h

abbrev Tab (w : World) : Prop := Lib.TabIs Tryd.prog w "internal/strconv.uint64pow10" .u64 Lib.pow10Tab
theorem ext_grow (w : World) (k : Nat) (os : Array Obj) : Ext w (grow (w.drewN k) os) := by
  refine ⟨rfl, rfl, rfl, ?_, ?_⟩
  · show w.heap.size ≤ (w.heap ++ os).size
    simp
  · intro i hi
    show (w.heap ++ os)[i]? = _
    rw [Array.getElem?_append_left hi]

theorem fmtInt_any (x : Int) (q : Nat) (w : World) (hx : x = (q : Int)) (hq : q ≤ 9223372036854775807) (ht : Tab w) :
    Calls Tryd.prog 15 #[.int .i64 x, .int .i64 10] w fun e w' => e = .returned (.string (bs (dec q))) ∧ Ext w w' := by
  subst hx
  refine (Tryd.strconv_FormatInt_10 q (by omega) (by omega) w ht).mono ?_
  rintro e w' ⟨rfl, k, os, rfl⟩
  refine ⟨?_, ext_grow _ _ _⟩
  rw [Lib.itoa_nonneg, decDigits_dec]; rfl


theorem ext_bytes (w : World) (e : TypeId) (s : ByteArray) : Ext w (Lib.bytesWorld w e s) := Lib.bytesWorld_below w e s

theorem parseInt_any (l : List UInt8) (v : Int) (w : World) (hl : l.length ≤ 1000) (h : Lib.parseIntB 64 l = .ok v) :
    Calls Tryd.prog 11 #[.string (bs l), .int .i64 10, .int .i64 64] w fun e w' => e = .returned (.tuple #[.int .i64 v, .nilIface]) ∧ Ext w w' := by
  refine (Tryd.strconv_ParseInt_10_at64_ok (bs l) (by rw [bs_size]; omega) v h w).mono ?_
  rintro e w' ⟨rfl, rfl | ⟨t, rfl⟩⟩
  · exact ⟨rfl, Ext.refl _⟩
  · exact ⟨rfl, ext_bytes _ _ _⟩
theorem parseUint_any (l : List UInt8) (v : Nat) (w : World) (hl : l.length ≤ 1000) (h : Lib.parseUintB 16 l = .ok v) :
    Calls Tryd.prog 12 #[.string (bs l), .int .i64 10, .int .i64 16] w fun e w' => e = .returned (.tuple #[.int .u64 v, .nilIface]) ∧ Ext w w' := by
  refine (Tryd.strconv_ParseUint_10_at16_ok (bs l) (by rw [bs_size]; omega) v h w).mono ?_
  rintro e w' ⟨rfl, rfl | rfl⟩
  · exact ⟨rfl, Ext.refl _⟩
  · exact ⟨rfl, ext_bytes _ _ _⟩

/-- The tables of powers: what they hold at the first places. -/
def PTabs (w : World) : Prop := w.cell? ⟨2, 0, none⟩ = some (.float .f64 4607182418800017408) ∧
  w.cell? ⟨3, 0, none⟩ = some (.float .f64 4607182418800017408) ∧ w.cell? ⟨3, 1, none⟩ = some (.float .f64 4621819117588971520) ∧
  w.cell? ⟨3, 2, none⟩ = some (.float .f64 4636737291354636288) ∧ w.cell? ⟨3, 3, none⟩ = some (.float .f64 4652007308841189376)
theorem cell_ext {w w' : World} {a : Addr} {v : Value} (h : w.cell? a = some v) (x : Ext w w') : w'.cell? a = some v := by
  have hlt : a.block < w.heap.size := by
    unfold World.cell? at h
    cases hh : w.heap[a.block]? with
    | none => simp [hh] at h
    | some o => exact (Array.getElem?_eq_some_iff.1 hh).1
  rw [Below.cell x hlt]; exact h
theorem PTabs.ext {w w' : World} (h : PTabs w) (x : Ext w w') : PTabs w' := ⟨cell_ext h.1 x, cell_ext h.2.1 x, cell_ext h.2.2.1 x, cell_ext h.2.2.2.1 x, cell_ext h.2.2.2.2 x⟩

def pbits : Nat → Nat
  | 0 => 4607182418800017408
  | 1 => 4621819117588971520
  | 2 => 4636737291354636288
  | _ => 4652007308841189376
theorem mul_one (k : Nat) (hk : k ≤ 3) : ∀ w', (binOp .mul 42 (.float .f64 4607182418800017408) (.float .f64 (pbits k))).run Tryd.prog w' = .ok (.float .f64 (pbits k)) w' := by
  have hk4 : k = 0 ∨ k = 1 ∨ k = 2 ∨ k = 3 := by omega
  intro w'
  rcases hk4 with rfl | rfl | rfl | rfl
  all_goals kernel_rfl
theorem pow10_any (k : Nat) (w : World) (hk : k ≤ 3) (h : PTabs w) :
    Calls Tryd.prog 13 #[.int .i64 k] w fun e w' => e = .returned (.float .f64 (pbits k)) ∧ Ext w w' := by
  obtain ⟨h1, h2, h3, h4, h5⟩ := h
  have hk4 : k = 0 ∨ k = 1 ∨ k = 2 ∨ k = 3 := by omega
  have hc : w.cell? ⟨3, k, none⟩ = some (.float .f64 (pbits k)) := by rcases hk4 with rfl | rfl | rfl | rfl <;> assumption
  have b1 : (0 : Int) ≤ k := by omega
  have b2 : (k : Int) ≤ 308 := by omega
  have b3 : (k : Int) ≤ 18446744073709551615 := by omega
  have f0 : IntKind.u64.wrap 0 = 0 := rfl
  have f1 : IntKind.u64.wrap (k : Int) = k := by show (k : Int) % 18446744073709551616 = k; omega
  have f2 : (k : Int).tdiv 32 = 0 := Int.tdiv_eq_zero_of_lt b1 (by omega)
  have f3 : (k : Int).tmod 32 = k := Int.tmod_eq_of_lt b1 (by omega)
  have R : ∀ w', (binOp .mul 42 (.float .f64 4607182418800017408) (.float .f64 (pbits k))).run Tryd.prog w' = .ok (.float .f64 (pbits k)) w' := mul_one k hk
  have f4 : (k : Int) < 32 := by omega
  go_enter Tryd.func13, Tryd.ntmps13
  go_wp2_with fail
  go_quiet (fail)
  go_wp2_with fail
  go_ret
  exact ⟨rfl, (Ext.refl _).drewN _⟩
theorem pow_i16 (k : Nat) (hk : k ≤ 3) : ∀ w', (convert 42 41 (.float .f64 (pbits k))).run Tryd.prog w' = .ok (.int .i16 (10 ^ k : Nat)) w' := by
  have hk4 : k = 0 ∨ k = 1 ∨ k = 2 ∨ k = 3 := by omega
  intro w'
  rcases hk4 with rfl | rfl | rfl | rfl
  all_goals kernel_rfl

theorem four_any (r : Nat) (w : World) (hr : r < 10000) (ht : Tab w) :
    Calls Tryd.prog 16 #[.int .i64 r] w fun e w' => e = .returned (.string (bs (four r))) ∧ Ext w w' := by
  obtain ⟨k, hk, h4⟩ := four_dec r hr
  have H := fun wx hx => fmtInt_any (r : Int) r wx rfl (by omega) (tab_ext ht hx)
  rw [h4]
  generalize dec r = D at *
  clear h4 ht
  go_enter Tryd.func16, Tryd.ntmps16
  go_wp2_with fail
  refine (H _ (Ext.refl _)).mono ?_
  rintro e w2 ⟨rfl, x2⟩
  go_wp2_with fail
  clear H
  go_loopg [3] (k + 1) (fun g s wr => ∃ j, s = .string (bs (List.replicate j 48 ++ D)) ∧ j + g = k + 1 ∧ 1 ≤ g ∧ Ext w wr)
  case atStart => exact ⟨0, rfl, by omega, by omega, x2⟩
  case round =>
    obtain ⟨j, rfl, hj, hg, hext⟩ := hrel
    have hsz : (bs (List.replicate j 48 ++ D)).size = j + D.length := by rw [bs_size]; simp
    have s1 : (⟨#[48]⟩ : ByteArray).size + (bs (List.replicate j 48 ++ D)).size ≤ 9223372036854775807 := by rw [hsz]; show 1 + (j + D.length) ≤ _; omega
    by_cases hc : j < k
    · have hc3 : ((bs (List.replicate j 48 ++ D)).size : Int) < 4 := by rw [hsz]; omega
      clear hsz
      go_wp2_with fail
      go_roundg (gk - 1)
      case measure => omega
      case rel => exact ⟨j + 1, by rw [show (⟨#[48]⟩ : ByteArray) = bs [48] from rfl, bs_append]; rfl, by omega, by omega, hext⟩
    · have hc3 : ¬ ((bs (List.replicate j 48 ++ D)).size : Int) < 4 := by rw [hsz]; omega
      have hjk : j = k := by omega
      subst hjk
      clear hsz
      go_wp2_with fail
      go_ret
      exact ⟨rfl, hext⟩
end Go.Proofs.YtfjlnfdnfjkclaaDoor
