/- Identifiers as keys of a map. -/
import Derived.Test.YtfdifdlhnekkkaaDoorBase
import Derived.Maps.OwnSet
import Derived.Maps.RangeWalk
import Derived.DeepKeys4
namespace Go.Proofs.YtfdifdlhnekkkaaDoor
open Go.RowKit Go.Maps Go.WideMaps

theorem laidOutP : laidOutB Tryd.prog = true := by kernel_rfl
theorem row42 : (42 : TypeId) < Tryd.prog.types.size := of_decide_eq_true (by kernel_rfl)
theorem wide42 : (match Tryd.prog.underlying 42 with | some (.array _ _) | some (.struct _) => true | _ => false) = true := by kernel_rfl
theorem law42 : Keyed Tryd.prog 42 := Keyed.of_law (deep_law_laid laidOutP (m := 3) (by omega) row42 (by kernel_rfl) wide42)

abbrev UID := ByteArray × ByteArray
def uv (u : UID) : Value := .agg #[.string u.1, .string u.2]
def Ok (u : UID) : Prop := u.1.size ≤ maxLen ∧ u.2.size ≤ maxLen

theorem under39 : Tryd.prog.underlying 39 = some .string := by kernel_rfl
theorem under40 : Tryd.prog.underlying 40 = some .string := by kernel_rfl
theorem cells42 : Tryd.prog.cellsOf 42 = 2 := by kernel_rfl
theorem cells39 : Tryd.prog.cellsOf 39 = 1 := by kernel_rfl
theorem cells40 : Tryd.prog.cellsOf 40 = 1 := by kernel_rfl
theorem keyT42 : Tryd.prog.keyType 42 = true := by kernel_rfl
theorem keyLits42 (u : UID) (d : Nat) (h : Ok u) : Tryd.prog.keyLits (d + 2) 42 [.string u.1, .string u.2] = some [.string u.1.data.toList, .string u.2.data.toList] := by
  obtain ⟨h1, h2⟩ := h
  simp [Program.keyLits, Tryd.underlying42, cells42, cells39, cells40, h1, h2]
theorem typesN : Tryd.prog.types.size + 1 = (Tryd.prog.types.size - 1) + 2 := by have h : (42 : Nat) < Tryd.prog.types.size := row42; omega
theorem key_some (u : UID) (h : Ok u) : ∃ kl, keyOf Tryd.prog 42 (uv u) = some kl := by
  refine ⟨.string (keyBytes [.string u.1.data.toList, .string u.2.data.toList]), ?_⟩
  unfold keyOf
  rw [Tryd.underlying42]
  simp only [keyT42, uv, Value.formed, Tryd.underlying42, cells42]
  rw [typesN]
  simp [Value.cells, keyLits42 u _ h]
noncomputable def kk (u : UID) : Lit := (keyOf Tryd.prog 42 (uv u)).getD (.bool false)
theorem key_ok {u : UID} (h : Ok u) : keyOf Tryd.prog 42 (uv u) = some (kk u) := by
  obtain ⟨kl, e⟩ := key_some u h
  rw [kk, e]; rfl
theorem uv_inj {u v : UID} (h : uv u = uv v) : u = v := by
  simp only [uv, Value.agg.injEq, Array.mk.injEq, List.cons.injEq, Value.string.injEq, and_true] at h
  exact Prod.ext h.1 h.2
theorem kk_inj {u v : UID} (hu : Ok u) (hv : Ok v) (e : kk u = kk v) : u = v :=
  uv_inj (law42.inj (key_ok hu) (e ▸ key_ok hv))
theorem lit_inv {d t : Nat} {a : Value} {ls : List Lit} (ht : Tryd.prog.underlying t = some .string) (h : Tryd.prog.keyLits (d + 1) t [a] = some ls) : ∃ s : ByteArray, a = .string s ∧ s.size ≤ maxLen := by
  unfold Program.keyLits at h; rw [ht] at h
  cases a <;> simp at h
  exact ⟨_, rfl, h.1⟩
theorem step42 {d : Nat} {a b : Value} {ls : List Lit} (h : Tryd.prog.keyLits (d + 2) 42 [a, b] = some ls) : ∃ l1 l2, Tryd.prog.keyLits (d + 1) 39 [a] = some l1 ∧ Tryd.prog.keyLits (d + 1) 40 [b] = some l2 := by
  unfold Program.keyLits at h; rw [Tryd.underlying42] at h
  simp only [] at h
  split at h
  · obtain ⟨l, hl, _⟩ := Option.map_eq_some_iff.1 h
    simp only [List.mapM_cons, List.mapM_nil, cells39, cells40, List.drop_zero, List.take_succ_cons, List.take_zero, List.drop_succ_cons] at hl
    generalize Tryd.prog.keyLits (d + 1) 39 [a] = X at *
    generalize Tryd.prog.keyLits (d + 1) 40 [b] = Y at *
    cases X <;> simp at hl
    cases Y <;> simp at hl
    exact ⟨_, _, rfl, rfl⟩
  · cases h
theorem key_inv {key : Value} {kl : Lit} (h : keyOf Tryd.prog 42 key = some kl) : ∃ u, key = uv u ∧ Ok u ∧ kl = kk u := by
  have h0 := h
  unfold keyOf at h
  rw [Tryd.underlying42] at h
  simp only [keyT42, Bool.true_and] at h
  split at h
  · rename_i hf
    obtain ⟨ls, hls, _⟩ := Option.map_eq_some_iff.1 h
    rw [typesN] at hls
    cases key <;> simp [Value.formed, Tryd.underlying42] at hf
    rename_i cs
    rw [cells42] at hf
    obtain ⟨l⟩ := cs
    match l, hf with
    | [a, b], _ =>
      simp only [Value.cells] at hls
      have hs : (∃ s, a = .string s ∧ s.size ≤ maxLen) ∧ (∃ s, b = .string s ∧ s.size ≤ maxLen) := by
        obtain ⟨l1, l2, e1, e2⟩ := step42 hls
        exact ⟨lit_inv under39 e1, lit_inv under40 e2⟩
      obtain ⟨⟨s, rfl, h1⟩, ⟨t, rfl, h2⟩⟩ := hs
      have hok : Ok (s, t) := ⟨h1, h2⟩
      refine ⟨(s, t), rfl, hok, ?_⟩
      exact Option.some.inj (h0.symm.trans (key_ok hok))
  · cases h
end Go.Proofs.YtfdifdlhnekkkaaDoor
