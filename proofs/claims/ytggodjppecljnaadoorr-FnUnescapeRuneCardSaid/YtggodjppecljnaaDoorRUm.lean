/- What Unquote reads, in plain Lean. -/
import Derived.Test.YtggodjppecljnaaDoorRHex
namespace Go.Proofs.YtggodjppecljnaaDoorR
open Go.RowKit

/-- The next rune of a text and its length, if it is one. -/
def nx (s : List UInt8) : Option (Nat × Nat) :=
  if (Lib.decodeGo (bs s)).1 = 65533 then none else some (Lib.decodeGo (bs s))

theorem nx_nil : nx [] = none := by rfl

theorem nx_fit {s : List UInt8} {c k : Nat} (h : nx s = some (c, k)) : 1 ≤ k ∧ k ≤ s.length ∧ c ≤ 1114111 := by
  unfold nx at h
  split at h
  · cases h
  rename_i hn
  have h := Option.some.inj h
  rw [Lib.decodeGo, bs_size] at h hn
  split at h
  · rename_i h0; rw [if_pos h0] at hn; exact absurd rfl hn
  rename_i h0
  rw [if_neg h0] at hn
  rw [Lib.decode_at, bs_size] at h hn
  generalize ((bs s).get! 0).toNat = x0 at *
  generalize ((bs s).get! (0+1)).toNat = x1 at *
  generalize ((bs s).get! (0+2)).toNat = x2 at *
  generalize ((bs s).get! (0+3)).toNat = x3 at *
  revert h hn
  unfold Lib.decodeN
  repeat' split
  all_goals (intro hn h; injection h; omega)

theorem nx_ascii (a : UInt8) (s : List UInt8) (h : a.toNat < 128) : nx (a :: s) = some (a.toNat, 1) := by
  have e : Lib.decodeGo (bs (a :: s)) = (a.toNat, 1) := by
    rw [Lib.decodeGo, bs_size, if_neg (by simp), Lib.decode_at]
    have : (bs (a :: s)).get! 0 = a := rfl
    rw [this]
    simp [Lib.decodeN, h]
  rw [nx, e, if_neg (by simp; omega)]

/-- The digits behind an open brace: so many are read, this is their number. -/
def hexes : Nat → List UInt8 → Nat → Nat → Option (Nat × List UInt8)
  | 0, _, _, _ => none
  | f + 1, s, cnt, v => match nx s with
    | none => none
    | some (c, k) =>
      if c = 125 then (if cnt = 0 ∨ 6 < cnt ∨ Lib.validRune v = false then none else some (v, s.drop k))
      else if isHex c = false then none else hexes f (s.drop k) (cnt + 1) (16 * v + (dig c).toNat)

def uni (s : List UInt8) : Option (Nat × List UInt8) := match nx s with
  | none => none
  | some (c, k) => if c = 123 then hexes s.length (s.drop k) 0 0 else none

def xx (s : List UInt8) : Option (Nat × List UInt8) := match nx s with
  | none => none
  | some (c, k) => if isHex c = false then none else match nx (s.drop k) with
    | none => none
    | some (d, j) => if isHex d = false then none else if 127 < 16 * (dig c).toNat + (dig d).toNat then none
      else some (16 * (dig c).toNat + (dig d).toNat, (s.drop k).drop j)

/-- What stands behind a backslash. -/
def esc (star : Bool) (c : Nat) (r : List UInt8) : Option (Nat × List UInt8) :=
  if c = 110 then some (10, r) else if c = 114 then some (13, r) else if c = 116 then some (9, r) else if c = 92 then some (92, r)
  else if c = 48 then some (0, r) else if c = 39 then some (39, r) else if c = 34 then some (34, r)
  else if c = 120 then xx r else if c = 117 then uni r else if c = 42 then (if star then some (42, r) else none) else none

/-- Unquote, with what is written already. -/
def unq (star : Bool) : Nat → List UInt8 → List UInt8 → Option (List UInt8 × List UInt8)
  | 0, _, _ => none
  | f + 1, acc, s => if s = [] then some (acc, []) else match nx s with
    | none => none
    | some (c, k) =>
      if star = true ∧ c = 42 then some (acc, s.drop (k - 1))
      else if c = 92 then (match nx (s.drop k) with
        | none => none
        | some (d, j) => match esc star d ((s.drop k).drop j) with
          | none => none
          | some (v, r) => unq star f (acc ++ Lib.encodeRune v) r)
      else unq star f (acc ++ Lib.encodeRune c) (s.drop k)

theorem dig_fit {c : Int} (h : isHex c = true) : 0 ≤ dig c ∧ dig c ≤ 15 := by
  unfold isHex at h
  unfold dig isDec at *
  split
  · rename_i k; simp at k; omega
  · split
    · rename_i k; simp at k; omega
    · rename_i a b; simp_all

/-- The ending of a reader of one character behind the place i of l. -/
def Got (l : List UInt8) (o : Option (Nat × List UInt8)) (e : Ending) : Prop := match o with
  | none => ∃ (ch j : Int) (a : Addr), e = .returned (.tuple #[.int .i32 ch, .int .i64 j, .iface 50 (.pointer (some a))])
  | some (v, r) => ∃ j : Nat, j ≤ l.length ∧ l.drop j = r ∧ e = .returned (.tuple #[.int .i32 v, .int .i64 j, .nilIface])

/-- The ending of nextRune at the place i. -/
def GotNx (i : Nat) (o : Option (Nat × Nat)) (e : Ending) : Prop := match o with
  | none => ∃ (ch j : Int) (a : Addr), e = .returned (.tuple #[.int .i32 ch, .int .i64 j, .iface 50 (.pointer (some a))])
  | some (c, k) => e = .returned (.tuple #[.int .i32 c, .int .i64 (i + k : Nat), .nilIface])

theorem nextRune_any (l : List UInt8) (B off i cap : Nat) (w : World) (hT : Tabs w) (hB : BRow w B off l) (hi : i ≤ l.length) (hc : l.length ≤ cap) (hl : l.length ≤ 1000000000) :
    Calls Tryd.prog 8 #[.slice (some ⟨B, off, none⟩) l.length cap, .int .i64 i] w fun e w' => GotNx i (nx (l.drop i)) e ∧ Ext w w' := by
  obtain ⟨n, hn⟩ : ∃ n, l.length = n := ⟨_, rfl⟩
  have D := fun (wx : World) (x : Ext w wx) => decode_any l B off i (cap - i) wx (hT.ext x) (hB.ext x) hi
  have hfit := @nx_fit (l.drop i)
  rw [List.length_drop] at hfit
  obtain ⟨p, hp⟩ : ∃ p, Lib.decodeGo (bs (l.drop i)) = p := ⟨_, rfl⟩
  obtain ⟨c, k⟩ := p
  unfold nx at *
  simp only [hp] at D hfit ⊢
  rw [hn] at hi hc hl D hfit ⊢
  clear hn hp
  by_cases h5 : c = 65533
  · clear hfit
    rw [if_pos h5]
    by_cases he : i = cap
    · obtain rfl : i = n := by omega
      subst he
      have D0 := fun (wx : World) (x : Ext w wx) => decode_any [] B off 0 0 wx (hT.ext x) ⟨Nat.lt_of_lt_of_le hB.1 x.size, fun j hj => by cases hj⟩ (Nat.le_refl _)
      have e0 : Lib.decodeGo (bs (([] : List UInt8).drop 0)) = (65533, 0) := rfl
      simp only [e0, List.length_nil] at D0
      clear D hi hc h5 e0
      go_enter Tryd.func8, Tryd.ntmps8
      go_wp2_with fail
      refine (D0 _ (Ext.refl _)).mono ?_
      rintro e w1 ⟨rfl, x1⟩
      go_wp2_with fail
      refine (errNew_any _ _).mono ?_
      rintro e w2 ⟨⟨a, rfl⟩, x2⟩
      go_wp2_with fail
      go_ret3
      exact ⟨⟨_, _, _, rfl⟩, x1.trans x2⟩
    · have h5' : (c : Int) = 65533 := by omega
      generalize (c : Int) = cc at D h5'
      clear h5
      go_enter Tryd.func8, Tryd.ntmps8
      go_wp2_with fail
      refine (D _ (Ext.refl _)).mono ?_
      rintro e w1 ⟨rfl, x1⟩
      go_wp2_with fail
      refine (errNew_any _ _).mono ?_
      rintro e w2 ⟨⟨a, rfl⟩, x2⟩
      go_wp2_with fail
      go_ret3
      exact ⟨⟨_, _, _, rfl⟩, x1.trans x2⟩
  · obtain ⟨k1, k2, k3⟩ := hfit (c := c) (k := k) (by rw [if_neg h5])
    clear hfit
    rw [if_neg h5]
    have he : i ≠ cap := by omega
    go_enter Tryd.func8, Tryd.ntmps8
    go_wp2_with fail
    refine (D _ (Ext.refl _)).mono ?_
    rintro e w1 ⟨rfl, x1⟩
    go_wp2_with fail
    go_ret3
    exact ⟨by simp [GotNx], x1⟩
end Go.Proofs.YtggodjppecljnaaDoorR
