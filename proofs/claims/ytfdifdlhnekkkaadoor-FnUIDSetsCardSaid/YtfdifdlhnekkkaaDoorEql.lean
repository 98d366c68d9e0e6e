/- The sets of identifiers: Equal, Intersects. -/
import Derived.Test.YtfdifdlhnekkkaaDoorCmp
namespace Go.Proofs.YtfdifdlhnekkkaaDoor
open Go.RowKit Go.Maps Go.WideMaps

/-- A step of a range over a set: nothing is left, or a key that is left comes out. -/
theorem next_any {w : World} {b r n : Nat} {D : DataW Unit} {left : Lit → Bool} {cnt : Nat} (h : w.ranges Tryd.prog 42 (unitElem (H := Unit)) b r n D left cnt) :
    ((∀ kl, left kl = false) ∧ (Instr.next (.pointer (some ⟨r, 0, none⟩)) false 0).run Tryd.prog w = .ok (.tuple #[.bool false]) w) ∨
    ∃ (u : UID) (w' : World) (cnt' : Nat), Ok u ∧ Maps.has D (kk u) = true ∧ (Instr.next (.pointer (some ⟨r, 0, none⟩)) false 0).run Tryd.prog w = .ok (.tuple #[.bool true, .agg #[.string u.1, .string u.2], .agg #[]]) w' ∧
      w'.ranges Tryd.prog 42 (unitElem (H := Unit)) b r n D (fun x => left x && !x.sameKey (kk u)) cnt' ∧ cnt' < cnt ∧ w.grownBy w' (some r) ∧ (Instr.entry (.pointer (some ⟨r, 0, none⟩))).run Tryd.prog w' = .ok (.tuple #[.agg #[.string u.1, .string u.2], .agg #[]]) w' := by
  rcases h.next law42 0 with ⟨_, hl, hrun⟩ | ⟨key, v, kl, y, w', cnt', hkey, hlk, hv, hat, hrun, hrg, hlt, hgr, _, hen⟩
  · exact .inl ⟨hl, hrun⟩
  · obtain ⟨u, rfl, hu, rfl⟩ := key_inv hkey
    obtain ⟨rfl, rfl⟩ := unitElem_inv hv
    exact .inr ⟨u, w', cnt', hu, has_true_of_atKey hat, hrun, hrg, hlt, hgr, hen⟩
theorem meth_contains (B : Nat) (w : World) : (method 173 34 (.agg #[.map (some B)]) "Contains").run Tryd.prog w = .ok (43, .agg #[.map (some B)]) w := by kernel_rfl
theorem gone {left : Lit → Bool} {k kl : Lit} (h : (left kl && !kl.sameKey k) = false) : left kl = false ∨ kl = k := by
  cases hl : left kl
  · exact .inl rfl
  · rw [hl] at h
    exact .inr (WideAt.sameKey_eq (by simpa using h))

set_option maxRecDepth 100000 in
open Classical in
theorem equal20_any (A B m : Nat) (accA accB : List Lit) (w : World) (hA : SetAt w A m accA) (hB : SetAt w B m accB) :
    Calls Tryd.prog 20 #[.agg #[.map (some A)], .iface 34 (.agg #[.map (some B)])] w fun e w' => e = .returned (.bool (decide (accA.length = accB.length ∧ ∀ k ∈ accA, k ∈ accB))) ∧ Ext w w' := by
  obtain ⟨n, D, hn, ho, hh, hsz⟩ := hA
  have hlen := fun ty => (ho.alloc (.cells #[.map (some A)] 47)).len Tryd.underlying32 ty
  rw [hsz] at hlen
  have HL := fun wx hx => len17_any B m accB wx (hB.ext hx)
  have HC := fun u (hu : Ok u) wx hx => contains43_any B m accB u wx (hB.ext hx) hu
  go_enter Tryd.func20, Tryd.ntmps20
  go_wp2_with fail
  refine (HL _ ((Ext.refl w).alloc _)).mono ?_
  rintro e w2 ⟨rfl, x2⟩
  have z2 : Ext w w2 := ((Ext.refl w).alloc _).trans x2
  have c0 : w2.cell? ⟨w.heap.size, 0, none⟩ = some (.map (some A)) := cell_ext (by simp) x2
  obtain ⟨w3, hrr, hrg, hg3, hs3⟩ := (ho.kept z2.grown0 (by simp)).range law42 Tryd.underlying32
  by_cases hlq : accA.length = accB.length
  · have hq1 : ((accA.length : Int) == (accB.length : Int)) = true := by simp [hlq]
    go_wp2_with fail
    have z3 : Ext w w3 := z2.grown hg3 (fun k hk => by cases hk)
    have hr3 : w.heap.size ≤ w2.heap.size := z2.size
    clear HL hlen hrr c0 x2 hg3 hs3
    generalize w2.heap.size = r at *
    go_loopg [5] (Maps.size D + 1) (fun g s wr => ∃ (left : Lit → Bool) (cnt : Nat), wr.ranges Tryd.prog 42 (unitElem (H := Unit)) A r n D left cnt ∧ cnt + 1 = g ∧ (∀ kl ∈ accA, left kl = false → kl ∈ accB) ∧ Ext w wr)
    case atStart => exact ⟨_, _, hrg, rfl, fun kl hk hf => (by rw [(hh kl).2 hk] at hf; cases hf), z3⟩
    case round =>
      obtain ⟨left, cnt, hr, hcg, hall, hext⟩ := hrel
      rcases next_any hr with ⟨hl, hrun⟩ | ⟨u, w4, cnt', hu, hin, hrun, hr4, hlt, hgr, hen⟩
      · have hres : decide (accA.length = accB.length ∧ ∀ k ∈ accA, k ∈ accB) = true := by simp [hlq]; exact fun k hk => hall k hk (hl k)
        clear hl hall HC
        go_wp2_with fail
        go_ret
        exact ⟨by rw [hres]; rfl, hext⟩
      · have z4 : Ext w w4 := hext.grown hgr (fun k hk => by cases hk; exact hr3)
        have HC2 := HC u hu
        clear HC
        have hmeth := meth_contains B
        by_cases hm : kk u ∈ accB
        · have hd : decide (kk u ∈ accB) = true := by simp [hm]
          rw [hd] at HC2
          go_wp2_with fail
          refine (HC2 _ (z4.alloc _)).mono ?_
          rintro e w5 ⟨rfl, x5⟩
          have hr5 := (hr4.alloc (.cells #[.string u.1, .string u.2] 42)).kept x5.grown0 (by simp) (by simp)
          have z5 : Ext w w5 := (z4.alloc _).trans x5
          clear HC2
          go_wp2_with fail
          go_roundg (cnt' + 1)
          case measure => omega
          case rel => exact ⟨_, cnt', hr5, rfl, fun kl hk hf => (by rcases gone hf with h | h; exact hall kl hk h; rw [h]; exact hm), z5⟩
        · have hd : decide (kk u ∈ accB) = false := by simp [hm]
          rw [hd] at HC2
          have hres : decide (accA.length = accB.length ∧ ∀ k ∈ accA, k ∈ accB) = false := by
            simp only [decide_eq_false_iff_not]
            exact fun h => hm (h.2 _ ((hh _).1 hin))
          go_wp2_with fail
          refine (HC2 _ (z4.alloc _)).mono ?_
          rintro e w5 ⟨rfl, x5⟩
          have z5 : Ext w w5 := (z4.alloc _).trans x5
          clear HC2
          go_wp2_with fail
          go_ret
          exact ⟨by rw [hres]; rfl, z5⟩
  · have hq1 : ((accA.length : Int) == (accB.length : Int)) = false := by simp; omega
    go_wp2_with fail
    go_ret
    refine ⟨?_, z2⟩
    simp [hlq]

set_option maxRecDepth 100000 in
open Classical in
theorem meets21_any (A B m : Nat) (accA accB : List Lit) (w : World) (hA : SetAt w A m accA) (hB : SetAt w B m accB) :
    Calls Tryd.prog 21 #[.agg #[.map (some A)], .iface 34 (.agg #[.map (some B)])] w fun e w' => e = .returned (.bool (decide (∃ k, k ∈ accA ∧ k ∈ accB))) ∧ Ext w w' := by
  obtain ⟨n, D, hn, ho, hh, hsz⟩ := hA
  have HC := fun u (hu : Ok u) wx hx => contains43_any B m accB u wx (hB.ext hx) hu
  obtain ⟨w3, hrr, hrg, hg3, hs3⟩ := (ho.alloc (.cells #[.map (some A)] 47)).range law42 Tryd.underlying32
  have e1 : (w.alloc (.cells #[.map (some A)] 47)).heap.size = w.heap.size + 1 := by simp
  go_enter Tryd.func21, Tryd.ntmps21
  go_wp2_with fail
  have z3 : Ext w w3 := ((Ext.refl w).alloc _).grown hg3 (fun k hk => by cases hk)
  rw [e1] at hrg
  have hr3 : w.heap.size ≤ w.heap.size + 1 := by omega
  clear hrr hg3 hs3 e1
  go_loopg [5] (Maps.size D + 1) (fun g s wr => ∃ (left : Lit → Bool) (cnt : Nat), wr.ranges Tryd.prog 42 (unitElem (H := Unit)) A (w.heap.size + 1) n D left cnt ∧ cnt + 1 = g ∧ (∀ kl ∈ accA, left kl = false → ¬ kl ∈ accB) ∧ Ext w wr)
  case atStart => exact ⟨_, _, hrg, rfl, fun kl hk hf => (by rw [(hh kl).2 hk] at hf; cases hf), z3⟩
  case round =>
    obtain ⟨left, cnt, hr, hcg, hall, hext⟩ := hrel
    rcases next_any hr with ⟨hl, hrun⟩ | ⟨u, w4, cnt', hu, hin, hrun, hr4, hlt, hgr, hen⟩
    · have hres : decide (∃ k, k ∈ accA ∧ k ∈ accB) = false := by simp only [decide_eq_false_iff_not]; rintro ⟨k, h1, h2⟩; exact hall k h1 (hl k) h2
      clear hl hall HC
      go_wp2_with fail
      go_ret
      exact ⟨by rw [hres]; rfl, hext⟩
    · have z4 : Ext w w4 := hext.grown hgr (fun k hk => by cases hk; exact hr3)
      have HC2 := HC u hu
      clear HC
      have hmeth := meth_contains B
      by_cases hm : kk u ∈ accB
      · have hd : decide (kk u ∈ accB) = true := by simp [hm]
        rw [hd] at HC2
        have hres : decide (∃ k, k ∈ accA ∧ k ∈ accB) = true := by
          simp only [decide_eq_true_eq]
          exact ⟨_, (hh _).1 hin, hm⟩
        go_wp2_with fail
        refine (HC2 _ (z4.alloc _)).mono ?_
        rintro e w5 ⟨rfl, x5⟩
        have z5 : Ext w w5 := (z4.alloc _).trans x5
        clear HC2
        go_wp2_with fail
        go_ret
        exact ⟨by rw [hres]; rfl, z5⟩
      · have hd : decide (kk u ∈ accB) = false := by simp [hm]
        rw [hd] at HC2
        go_wp2_with fail
        refine (HC2 _ (z4.alloc _)).mono ?_
        rintro e w5 ⟨rfl, x5⟩
        have hr5 := (hr4.alloc (.cells #[.string u.1, .string u.2] 42)).kept x5.grown0 (by simp) (by simp)
        have z5 : Ext w w5 := (z4.alloc _).trans x5
        clear HC2
        go_wp2_with fail
        go_roundg (cnt' + 1)
        case measure => omega
        case rel => exact ⟨_, cnt', hr5, rfl, fun kl hk hf => (by rcases gone hf with h | h; exact hall kl hk h; rw [h]; exact hm), z5⟩
open Classical in
theorem equal15_any (A B m : Nat) (accA accB : List Lit) (w : World) (hA : SetAt w A m accA) (hB : SetAt w B m accB) :
    Calls Tryd.prog 15 #[.agg #[.map (some A)], .iface 34 (.agg #[.map (some B)])] w fun e w' => e = .returned (.bool (decide (accA.length = accB.length ∧ ∀ k ∈ accA, k ∈ accB))) ∧ Ext w w' := by
  have H := fun wx hx => equal20_any A B m accA accB wx (hA.ext hx) (hB.ext hx)
  clear hA hB
  generalize decide (accA.length = accB.length ∧ ∀ k ∈ accA, k ∈ accB) = bb at *
  go_enter Tryd.func15, Tryd.ntmps15
  go_wp2_with fail
  refine (H _ ((Ext.refl w).alloc _)).mono ?_
  rintro e w2 ⟨rfl, x2⟩
  go_wp2_with fail
  go_ret
  exact ⟨rfl, ((Ext.refl w).alloc _).trans x2⟩
open Classical in
theorem meets16_any (A B m : Nat) (accA accB : List Lit) (w : World) (hA : SetAt w A m accA) (hB : SetAt w B m accB) :
    Calls Tryd.prog 16 #[.agg #[.map (some A)], .iface 34 (.agg #[.map (some B)])] w fun e w' => e = .returned (.bool (decide (∃ k, k ∈ accA ∧ k ∈ accB))) ∧ Ext w w' := by
  have H := fun wx hx => meets21_any A B m accA accB wx (hA.ext hx) (hB.ext hx)
  clear hA hB
  generalize decide (∃ k, k ∈ accA ∧ k ∈ accB) = bb at *
  go_enter Tryd.func16, Tryd.ntmps16
  go_wp2_with fail
  refine (H _ ((Ext.refl w).alloc _)).mono ?_
  rintro e w2 ⟨rfl, x2⟩
  go_wp2_with fail
  go_ret
  exact ⟨rfl, ((Ext.refl w).alloc _).trans x2⟩
end Go.Proofs.YtfdifdlhnekkkaaDoor
