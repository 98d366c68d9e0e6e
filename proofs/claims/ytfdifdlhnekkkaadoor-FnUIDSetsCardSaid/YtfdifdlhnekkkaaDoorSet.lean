/- The sets of identifiers: making one, adding to it. -/
import Derived.Test.YtfdifdlhnekkkaaDoorKey
import Derived.Deep.DeepCutAuto
namespace Go.Proofs.YtfdifdlhnekkkaaDoor
open Go.RowKit Go.Maps Go.WideMaps

theorem zero54 (w : World) : (zeroValue 54).run Tryd.prog w = .ok (.agg #[]) w := by kernel_rfl
theorem cell_ext {w w' : World} {a : Addr} {v : Value} (h : w.cell? a = some v) (x : Ext w w') : w'.cell? a = some v := by
  have hlt : a.block < w.heap.size := by
    unfold World.cell? at h
    cases hh : w.heap[a.block]? with
    | none => simp [hh] at h
    | some o => exact (Array.getElem?_eq_some_iff.1 hh).1
  rw [Below.cell x hlt]; exact h
theorem newUID_any (u : UID) (w : World) : Calls Tryd.prog 24 #[.string u.1, .string u.2] w fun e w' => e = .returned (.agg #[.string u.1, .string u.2]) ∧ Ext w w' := by
  go_enter Tryd.func24, Tryd.ntmps24
  go_wp2_with fail
  exact bodyPost_ret (v := .agg #[.string u.1, .string u.2]) (by simp [results, Tryd.results24, go_sem]) rfl ⟨rfl, (Ext.refl _).alloc _⟩
theorem uid_any (u : UID) (w : World) : Calls Tryd.prog 19 #[.agg #[.string u.1, .string u.2]] w fun e w' => e = .returned (.agg #[.string u.1, .string u.2]) ∧ Ext w w' := by
  go_enter Tryd.func19, Tryd.ntmps19
  go_wp2_with fail
  refine (newUID_any _ _).mono ?_
  rintro e w2 ⟨rfl, x2⟩
  have z : Ext w w2 := (((Ext.refl _).alloc _).alloc _).trans x2
  have c0 : w2.cell? ⟨w.heap.size + 1, 0, none⟩ = some (.string ⟨#[]⟩) := cell_ext (by simp) x2
  have c1 : w2.cell? ⟨w.heap.size + 1, 1, none⟩ = some (.string ⟨#[]⟩) := cell_ext (by simp) x2
  have f0 : w2.frozen? ⟨w.heap.size + 1, 0, none⟩ = false := (Below.frozen x2 (by simp)).trans (by simp)
  have f1 : w2.frozen? ⟨w.heap.size + 1, 1, none⟩ = false := (Below.frozen x2 (by simp)).trans (by simp)
  go_wp2_with fail
  refine bodyPost_ret (v := .agg #[.string u.1, .string u.2]) (by simp [results, Tryd.results19, go_sem, c0, c1]) rfl ⟨rfl, ?_⟩
  exact (z.setCell (by simp) _).setCell (by simp) _

/-- Block B is a map that holds just the keys 'acc' (no two alike), at most m of them. -/
def SetAt (w : World) (B m : Nat) (acc : List Lit) : Prop :=
  ∃ n D, n ≤ m ∧ w.ownsMap Tryd.prog 42 (unitElem (H := Unit)) B n D ∧ (∀ kl, Maps.has D kl = true ↔ kl ∈ acc) ∧ Maps.size D = acc.length
open Classical in
noncomputable def addK (acc : List Lit) (k : Lit) : List Lit := if k ∈ acc then acc else acc ++ [k]

theorem Ext.grown0 {w w' : World} (h : Ext w w') : w.grownBy w' none := ⟨h.os, h.tape, h.output, h.size, fun i hi _ => h.block i hi⟩
theorem addK_in {acc : List Lit} {k : Lit} (h : k ∈ acc) : addK acc k = acc := by unfold addK; rw [if_pos h]
theorem addK_out {acc : List Lit} {k : Lit} (h : ¬ k ∈ acc) : addK acc k = acc ++ [k] := by unfold addK; rw [if_neg h]
theorem SetAt.put {w w' : World} {B m n n' : Nat} {acc : List Lit} {D : DataW Unit} {k : Lit} (hk : WideAt.IsKeyLit k) (hn : n' ≤ m) (ho : w.ownsMap Tryd.prog 42 (unitElem (H := Unit)) B n D) (ho' : w'.ownsMap Tryd.prog 42 (unitElem (H := Unit)) B n' (D.put k (.agg [])))
    (hhas : ∀ kl, Maps.has D kl = true ↔ kl ∈ acc) (hsize : Maps.size D = acc.length) (hb : Maps.has D k = false) : SetAt w' B m (addK acc k) := by
  have hnot : ¬ k ∈ acc := fun h => by rw [(hhas k).2 h] at hb; cases hb
  rw [addK_out hnot]
  refine ⟨n', _, hn, ho', ?_, ?_⟩
  · intro kl
    by_cases e : kl = k
    · subst e; rw [has_put_same ho.isMap hk]; simp
    · rw [has_put_other e, hhas]; simp [e]
  · rw [size_put (ho.tidy law42), hb, hsize]; simp
theorem eqlSome (B : Nat) (w : World) : (binOp .eql 32 (.map (some B)) (.map none)).run Tryd.prog w = .ok (.bool false) w := by kernel_rfl
theorem look_any {w : World} {B n : Nat} {D : DataW Unit} (u : UID) (hu : Ok u) (h : w.ownsMap Tryd.prog 42 (unitElem (H := Unit)) B n D) :
    (Instr.lookup 32 (.map (some B)) (.agg #[.string u.1, .string u.2]) true).run Tryd.prog w = .ok (.tuple #[.agg #[], .bool (Maps.has D (kk u))]) w := by
  obtain ⟨v, ps, hrun, hv⟩ := h.look_ok law42 Tryd.underlying32 (zero54 _) unitElem_mk (key_ok hu)
  obtain ⟨rfl, _⟩ := unitElem_inv hv
  exact hrun
set_option maxRecDepth 100000 in
theorem add_any (pb B m : Nat) (acc : List Lit) (u : UID) (w : World) (hc : w.cell? ⟨pb, 0, none⟩ = some (.map (some B))) (hs : SetAt w B m acc) (hm : m ≤ 1000) (hu : Ok u) :
    Calls Tryd.prog 26 #[.pointer (some ⟨pb, 0, none⟩), .agg #[.string u.1, .string u.2]] w fun e w' => ∃ b : Bool, e = .returned (.bool b) ∧ SetAt w' B (m + 1) (addK acc (kk u)) ∧ w.grownBy w' (some B) := by
  obtain ⟨n, D, hn, hown, hhas, hsize⟩ := hs
  have hk := key_ok hu
  have hpb : pb < w.heap.size := by
    unfold World.cell? at hc
    cases hh : w.heap[pb]? with
    | none => simp [hh] at hc
    | some o => exact (Array.getElem?_eq_some_iff.1 hh).1
  have hrun := look_any u hu (((hown.alloc (.cells #[.string u.1, .string u.2] 42)).alloc (.cells #[] 54)).drew)
  have hrun2 := look_any u hu ((hown.alloc (.cells #[.string u.1, .string u.2] 42)).drew)
  have hq := eqlSome B
  have hc1 : (w.alloc (.cells #[.string u.1, .string u.2] 42)).cell? ⟨pb, 0, none⟩ = some (.map (some B)) := cell_ext hc ((Ext.refl _).alloc _)
  unfold uv at hk
  obtain ⟨w2, hu2, ho2, hg2⟩ := ((((hown.alloc (.cells #[.string u.1, .string u.2] 42)).alloc (.cells #[] 54)).drew).drew).update law42 Tryd.underlying32 (by unfold maxLen; omega) hk (unitElem_mk (H := Unit))
  obtain ⟨w3, hu3, ho3, hg3⟩ := ((((hown.alloc (.cells #[.string u.1, .string u.2] 42)).drew).alloc (.cells #[] 54)).drew).update law42 Tryd.underlying32 (by unfold maxLen; omega) hk (unitElem_mk (H := Unit))
  cases hb : Maps.has D (kk u) with
  | true =>
    rw [hb] at hrun hrun2
    have hin := addK_in ((hhas (kk u)).1 hb)
    rw [hin]
    go_enter Tryd.func26, Tryd.ntmps26
    go_wp2_with fail
    go_region
    all_goals
      go_wp2_with fail
      go_ret
      first
        | exact ⟨false, rfl, ⟨n, D, by omega, hown.kept (Ext.grown0 ((((Ext.refl w).alloc (.cells #[.string u.1, .string u.2] 42)).alloc (.cells #[] 54)).drew)) (by simp), hhas, hsize⟩, (Ext.grown0 ((((Ext.refl w).alloc (.cells #[.string u.1, .string u.2] 42)).alloc (.cells #[] 54)).drew)).but _⟩
        | exact ⟨false, rfl, ⟨n, D, by omega, hown.kept (Ext.grown0 ((((Ext.refl w).alloc (.cells #[.string u.1, .string u.2] 42)).drew).alloc (.cells #[] 54))) (by simp), hhas, hsize⟩, (Ext.grown0 ((((Ext.refl w).alloc (.cells #[.string u.1, .string u.2] 42)).drew).alloc (.cells #[] 54))).but _⟩
  | false =>
    rw [hb] at hrun hrun2
    have hkl := law42.key hk
    go_enter Tryd.func26, Tryd.ntmps26
    go_wp2_with fail
    go_region
    all_goals
      go_wp2_with fail
      go_region
      go_wp2_with fail
      go_ret
      first
        | exact ⟨true, rfl, SetAt.put hkl (by omega) hown ho2 hhas hsize hb, ((Ext.grown0 (((((Ext.refl w).alloc (.cells #[.string u.1, .string u.2] 42)).alloc (.cells #[] 54)).drew).drew)).but _).trans hg2⟩
        | exact ⟨true, rfl, SetAt.put hkl (by omega) hown ho3 hhas hsize hb, ((Ext.grown0 (((((Ext.refl w).alloc (.cells #[.string u.1, .string u.2] 42)).drew).alloc (.cells #[] 54)).drew)).but _).trans hg3⟩
end Go.Proofs.YtfdifdlhnekkkaaDoor
