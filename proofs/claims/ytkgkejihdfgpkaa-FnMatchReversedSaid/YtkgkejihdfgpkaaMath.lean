/- Patterns with wildcards, in plain lists of bytes: no program. -/
namespace Go.Proofs.Ytkgkejihdfgpkaa.PatM
abbrev Bs := List UInt8

/-- What is left of s behind the chunk c, if s begins with it. -/
def strip : Bs → Bs → Option Bs
  | [], s => some s
  | _ :: _, [] => none
  | a :: c, b :: s => if a = b then strip c s else none

theorem strip_some {c s t : Bs} : strip c s = some t ↔ s = c ++ t := by
  induction c generalizing s with
  | nil => simp [strip, eq_comm]
  | cons a c ih =>
    cases s with
    | nil => simp [strip]
    | cons b s =>
      simp only [strip]
      split
      · rename_i h; subst h; simp [ih]
      · rename_i h; simp; intro e; exact absurd e.symm h

/-- The first place behind the first byte at which the chunk stands; if it is the last chunk, one at which it ends the text. -/
def findC (last : Bool) (c : Bs) : Bs → Option Bs
  | [] => none
  | _ :: s => match strip c s with
    | some t => if last && !t.isEmpty then findC last c s else some t
    | none => findC last c s

def matchC : List (Bool × Bs) → Bs → Bool
  | [], s => s.isEmpty
  | (wild, c) :: rest, s =>
    if wild && c.isEmpty then true
    else match strip c s with
      | some t =>
        if t.isEmpty || !rest.isEmpty then matchC rest t
        else if wild then (match findC rest.isEmpty c s with | some t => matchC rest t | none => false) else false
      | none => if wild then (match findC rest.isEmpty c s with | some t => matchC rest t | none => false) else false

/-- The components that the pieces make. -/
def tailC : List Bs → List (Bool × Bs)
  | [] => []
  | [p] => [(true, p)]
  | p :: q :: r => if p = [] then tailC (q :: r) else (true, p) :: tailC (q :: r)
def compsOf : List Bs → List (Bool × Bs)
  | [] => []
  | p :: ps => if p = [] then tailC ps else (false, p) :: tailC ps

/-- The language of a pattern. -/
def tl : List Bs → Bs → Prop
  | [], t => t = []
  | p :: ps, t => ∃ f t', t = f ++ (p ++ t') ∧ tl ps t'
def lang : List Bs → Bs → Prop
  | [], s => s = []
  | p :: ps, s => ∃ t, s = p ++ t ∧ tl ps t

theorem tl_absorb {p : Bs} {ps : List Bs} {t : Bs} (f : Bs) (h : tl (p :: ps) t) : tl (p :: ps) (f ++ t) := by
  obtain ⟨g, t', e, h⟩ := h
  exact ⟨f ++ g, t', by rw [e, List.append_assoc], h⟩

theorem tl_empty {q : Bs} {r : List Bs} {t : Bs} : tl ([] :: q :: r) t ↔ tl (q :: r) t := by
  constructor
  · rintro ⟨f, t', rfl, h⟩
    simpa using tl_absorb f h
  · intro h
    exact ⟨[], t, by simp, h⟩

theorem findC_some {last : Bool} {c s t : Bs} (h : findC last c s = some t) :
    (∃ a f, s = a :: f ++ (c ++ t)) ∧ (last = true → t = []) ∧ ∀ a f t', s = a :: f ++ (c ++ t') → (last = true → t' = []) → t'.length ≤ t.length := by
  induction s with
  | nil => simp [findC] at h
  | cons x s ih =>
    simp only [findC] at h
    cases hs : strip c s with
    | none =>
      rw [hs] at h
      obtain ⟨⟨a, f, e⟩, hl, hm⟩ := ih h
      refine ⟨⟨x, a :: f, by rw [e]; simp⟩, hl, ?_⟩
      intro b g t' e' hl'
      cases g with
      | nil =>
        simp at e'
        have := (strip_some (c := c) (s := s) (t := t')).2 e'.2
        rw [hs] at this; cases this
      | cons b g => simp at e'; exact hm b g t' (by rw [e'.2]; simp) hl'
    | some u =>
      have hu := strip_some.1 hs
      rw [hs] at h
      simp only [] at h
      split at h
      · rename_i hl0
        obtain ⟨⟨a, f, e⟩, hl, hm⟩ := ih h
        refine ⟨⟨x, a :: f, by rw [e]; simp⟩, hl, ?_⟩
        intro b g t' e' hl'
        cases g with
        | nil =>
          simp at e' hl0
          have := hl' hl0.1
          subst this
          exact Nat.zero_le _
        | cons b g => simp at e'; exact hm b g t' (by rw [e'.2]; simp) hl'
      · rename_i hl0
        simp at h
        subst h
        refine ⟨⟨x, [], by rw [hu]; simp⟩, ?_, ?_⟩
        · intro hl'; subst hl'; simpa using hl0
        · intro b g t' e' _
          simp at e'
          have := congrArg List.length (hu.symm.trans e'.2)
          simp at this; omega

theorem findC_none {last : Bool} {c s : Bs} (h : findC last c s = none) : ∀ a f t, s = a :: f ++ (c ++ t) → last = true ∧ t ≠ [] := by
  induction s with
  | nil => simp
  | cons x s ih =>
    simp only [findC] at h
    intro a f t e
    cases hs : strip c s with
    | none =>
      rw [hs] at h
      cases f with
      | nil =>
        simp at e
        have := (strip_some (c := c) (s := s) (t := t)).2 e.2
        rw [hs] at this; cases this
      | cons b f => simp at e; exact ih h b f t (by rw [e.2]; simp)
    | some u =>
      have hu := strip_some.1 hs
      rw [hs] at h
      simp only [] at h
      split at h
      · rename_i hl
        simp at hl
        cases f with
        | nil =>
          simp at e
          have h2 : u = t := by
            have := e.2; rw [hu] at this; exact List.append_cancel_left this
          subst h2
          exact hl
        | cons b f => simp at e; exact ih h b f t (by rw [e.2]; simp)
      · cases h

/-- The leftmost way is the best one. -/
theorem suffix_of {s t a b t' : Bs} (h1 : s = a ++ t) (h2 : s = b ++ t') (hl : t'.length ≤ t.length) : ∃ g, t = g ++ t' := by
  have e1 : t = s.drop (s.length - t.length) := by rw [h1]; simp
  have e2 : t' = s.drop (s.length - t'.length) := by rw [h2]; simp
  refine ⟨t.take (t.length - t'.length), ?_⟩
  have : t' = t.drop (t.length - t'.length) := by
    rw [e2, e1]
    rw [List.drop_drop]
    congr 1
    simp
    have hls : t.length ≤ s.length := by rw [h1]; simp
    omega
  conv => lhs; rw [← List.take_append_drop (t.length - t'.length) t]
  rw [← this]
theorem tailC_ne (p : Bs) (ps : List Bs) : (tailC (p :: ps)).isEmpty = false := by
  induction ps generalizing p with
  | nil => rfl
  | cons q r ih =>
    simp only [tailC]
    split
    · exact ih q
    · rfl

theorem matchC_tail (ps : List Bs) : ∀ (p t : Bs), matchC (tailC (p :: ps)) t = true ↔ tl (p :: ps) t := by
  induction ps with
  | nil =>
    intro p t
    simp only [tailC, matchC, Bool.true_and, List.isEmpty_nil, Bool.not_true, Bool.or_false, if_true]
    by_cases hp : p = []
    · subst hp
      simp [tl]
    · have hp' : p.isEmpty = false := by simpa using hp
      rw [if_neg (by simp [hp'])]
      have key : (match findC true p t with | some t => t.isEmpty | none => false) = true ↔ ∃ a f, t = a :: f ++ p := by
        cases hf : findC true p t with
        | none =>
          simp
          intro a f e
          have := (findC_none hf a f [] (by simpa using e)).2
          exact this rfl
        | some u =>
          obtain ⟨⟨a, f, e⟩, hl, _⟩ := findC_some hf
          have := hl rfl
          subst this
          simp at e ⊢
          exact ⟨a, f, e⟩
      have hd : tl [p] t ↔ t = p ∨ ∃ a f, t = a :: f ++ p := by
        simp only [tl]
        constructor
        · rintro ⟨f, t', rfl, rfl⟩
          cases f with
          | nil => left; simp
          | cons a f => right; exact ⟨a, f, by simp⟩
        · rintro (rfl | ⟨a, f, rfl⟩)
          · exact ⟨[], [], by simp, rfl⟩
          · exact ⟨a :: f, [], by simp, rfl⟩
      rw [hd]
      cases hs : strip p t with
      | none =>
        simp only []
        rw [key]
        constructor
        · exact Or.inr
        · rintro (rfl | h)
          · have := (strip_some (c := t) (s := t) (t := [])).2 (by simp)
            rw [hs] at this; cases this
          · exact h
      | some u =>
        have hu := strip_some.1 hs
        simp only []
        split
        · rename_i h
          simp at h
          subst h
          simp at hu ⊢
          exact Or.inl hu
        · rename_i h
          rw [key]
          constructor
          · exact Or.inr
          · rintro (rfl | h')
            · have hn := congrArg List.length hu
              simp at hn h
              exact absurd hn h
            · exact h'
  | cons q r ih =>
    intro p t
    simp only [tailC]
    by_cases hp : p = []
    · subst hp
      rw [if_pos rfl, ih q t, tl_empty]
    · rw [if_neg hp]
      have hp' : p.isEmpty = false := by simpa using hp
      have hne := tailC_ne q r
      simp only [matchC]
      rw [if_neg (by simp [hp'])]
      cases hs : strip p t with
      | some u =>
        have hu := strip_some.1 hs
        simp only [hne, Bool.not_false, Bool.or_true, if_true]
        rw [ih q u]
        constructor
        · intro h; exact ⟨[], u, by simpa using hu, h⟩
        · rintro ⟨f, t', e, h⟩
          have hl : t'.length ≤ u.length := by
            have := congrArg List.length (hu.symm.trans e)
            simp at this; omega
          obtain ⟨g, rfl⟩ := suffix_of (a := p) (b := f ++ p) hu (by rw [e]; simp) hl
          exact tl_absorb g h
      | none =>
        simp only [if_true, hne]
        cases hf : findC false p t with
        | none =>
          simp
          rintro ⟨f, t', e, h⟩
          cases f with
          | nil =>
            have := (strip_some (c := p) (s := t) (t := t')).2 (by simpa using e)
            rw [hs] at this; cases this
          | cons a f => have := (findC_none hf a f t' e).1; cases this
        | some u =>
          obtain ⟨⟨a, f, e⟩, _, hm⟩ := findC_some hf
          simp only []
          rw [ih q u]
          constructor
          · intro h; exact ⟨a :: f, u, e, h⟩
          · rintro ⟨f', t', e', h⟩
            cases f' with
            | nil =>
              have := (strip_some (c := p) (s := t) (t := t')).2 (by simpa using e')
              rw [hs] at this; cases this
            | cons a' f' =>
              have hl := hm a' f' t' e' (by simp)
              obtain ⟨g, rfl⟩ := suffix_of (s := t) (a := a :: f ++ p) (b := a' :: f' ++ p) (by rw [e]; simp) (by rw [e']; simp) hl
              exact tl_absorb g h

theorem matchC_comps (p : Bs) (ps : List Bs) (s : Bs) : matchC (compsOf (p :: ps)) s = true ↔ lang (p :: ps) s := by
  have nilcase : ∀ t : Bs, matchC (tailC []) t = true ↔ tl [] t := by intro t; simp [tailC, matchC, tl]
  have all : ∀ t : Bs, matchC (tailC ps) t = true ↔ tl ps t := by
    intro t
    cases ps with
    | nil => exact nilcase t
    | cons q r => exact matchC_tail r q t
  simp only [compsOf]
  by_cases hp : p = []
  · subst hp
    rw [if_pos rfl, all]
    simp [lang]
  · rw [if_neg hp]
    simp only [matchC, Bool.false_and, Bool.false_eq_true, if_false]
    cases hs : strip p s with
    | none =>
      simp
      rintro ⟨t, e, _⟩
      have := strip_some.2 e
      rw [hs] at this; cases this
    | some u =>
      have hu := strip_some.1 hs
      have hl : lang (p :: ps) s ↔ tl ps u := by
        constructor
        · rintro ⟨t, e, h⟩
          have : u = t := by rw [hu] at e; exact List.append_cancel_left e
          rw [this]; exact h
        · intro h; exact ⟨u, hu, h⟩
      rw [hl]
      simp only []
      split
      · exact all u
      · rename_i h
        simp at h
        constructor
        · intro h'; cases h'
        · intro h'
          exfalso
          cases ps with
          | nil => exact h.1 h'
          | cons q r => have := tailC_ne q r; rw [h.2] at this; cases this

/-- The pieces with fills between them. -/
def glue : List Bs → List Bs → Bs
  | [], _ => []
  | [p], _ => p
  | p :: q :: r, [] => p ++ glue (q :: r) []
  | p :: q :: r, f :: fs => p ++ (f ++ glue (q :: r) fs)

theorem tl_glue (ps : List Bs) : ∀ (p f : Bs) (fs : List Bs), tl (p :: ps) (f ++ glue (p :: ps) fs) := by
  induction ps with
  | nil => intro p f fs; exact ⟨f, [], by simp [glue], rfl⟩
  | cons q r ih =>
    intro p f fs
    cases fs with
    | nil => exact ⟨f, glue (q :: r) [], rfl, by simpa using ih q [] []⟩
    | cons g gs => exact ⟨f, g ++ glue (q :: r) gs, rfl, ih q g gs⟩
theorem lang_glue (p : Bs) (ps fs : List Bs) : lang (p :: ps) (glue (p :: ps) fs) := by
  cases ps with
  | nil => exact ⟨[], by simp [glue], rfl⟩
  | cons q r =>
    cases fs with
    | nil => exact ⟨glue (q :: r) [], rfl, by simpa using tl_glue r q [] []⟩
    | cons g gs => exact ⟨g ++ glue (q :: r) gs, rfl, tl_glue r q g gs⟩
theorem glue_of_tl (ps : List Bs) : ∀ (p t : Bs), tl (p :: ps) t → ∃ f fs, fs.length = ps.length ∧ t = f ++ glue (p :: ps) fs := by
  induction ps with
  | nil => rintro p t ⟨f, t', rfl, rfl⟩; exact ⟨f, [], rfl, by simp [glue]⟩
  | cons q r ih =>
    rintro p t ⟨f, t', rfl, h⟩
    obtain ⟨g, gs, hl, rfl⟩ := ih q t' h
    exact ⟨f, g :: gs, by simp [hl], rfl⟩
theorem glue_of_lang (p : Bs) (ps : List Bs) (s : Bs) (h : lang (p :: ps) s) : ∃ fs, fs.length = ps.length ∧ s = glue (p :: ps) fs := by
  obtain ⟨t, rfl, h⟩ := h
  cases ps with
  | nil => exact ⟨[], rfl, by have : t = [] := h; simp [this, glue]⟩
  | cons q r =>
    obtain ⟨g, gs, hl, rfl⟩ := glue_of_tl r q t h
    exact ⟨g :: gs, by simp [hl], rfl⟩

theorem glue_snoc : ∀ (ps fs : List Bs) (p f q : Bs), fs.length = ps.length → glue (p :: ps ++ [q]) (fs ++ [f]) = glue (p :: ps) fs ++ (f ++ q) := by
  intro ps
  induction ps with
  | nil => intro fs p f q h; have : fs = [] := by simpa using h
           subst this; simp [glue]
  | cons a r ih =>
    intro fs p f q h
    cases fs with
    | nil => simp at h
    | cons g gs =>
      have := ih gs a f q (by simpa using h)
      simp only [List.cons_append, glue] at this ⊢
      rw [this]
      simp

theorem glue_rev : ∀ (ps fs : List Bs) (p : Bs), fs.length = ps.length → (glue (p :: ps) fs).reverse = glue ((p :: ps).map List.reverse).reverse (fs.map List.reverse).reverse := by
  intro ps
  induction ps with
  | nil => intro fs p h; have : fs = [] := by simpa using h
           subst this; simp [glue]
  | cons a r ih =>
    intro fs p h
    cases fs with
    | nil => simp at h
    | cons g gs =>
      have e := ih gs a (by simpa using h)
      simp only [glue, List.reverse_append, e]
      have hne : ((a :: r).map List.reverse).reverse ≠ [] := by simp
      obtain ⟨x, xs, hx⟩ := List.exists_cons_of_ne_nil hne
      have hl : ((gs.map List.reverse).reverse).length = xs.length := by
        have h2 := congrArg List.length hx
        simp at h2 h ⊢
        omega
      have := glue_snoc xs (gs.map List.reverse).reverse x g.reverse p.reverse hl
      simp only [List.map_cons, List.reverse_cons] at hx ⊢
      rw [hx, this]
      simp

theorem lang_rev (p : Bs) (ps : List Bs) (s : Bs) : lang (p :: ps) s → lang ((p :: ps).map List.reverse).reverse s.reverse := by
  intro h
  obtain ⟨fs, hl, rfl⟩ := glue_of_lang p ps s h
  rw [glue_rev ps fs p hl]
  have hne : ((p :: ps).map List.reverse).reverse ≠ [] := by simp
  obtain ⟨x, xs, hx⟩ := List.exists_cons_of_ne_nil hne
  rw [hx]
  exact lang_glue x xs _

theorem matchC_rev (ps : List Bs) (s : Bs) (h : ps ≠ []) : matchC (compsOf (ps.map List.reverse).reverse) s.reverse = matchC (compsOf ps) s := by
  obtain ⟨p, r, rfl⟩ := List.exists_cons_of_ne_nil h
  have hne : ((p :: r).map List.reverse).reverse ≠ [] := by simp
  obtain ⟨x, xs, hx⟩ := List.exists_cons_of_ne_nil hne
  rw [Bool.eq_iff_iff, hx, matchC_comps, matchC_comps, ← hx]
  constructor
  · intro hr
    rw [hx] at hr
    have h2 := lang_rev x xs _ hr
    rw [← hx] at h2
    simpa [List.map_reverse, Function.comp_def] using h2
  · exact lang_rev p r s

theorem matchC_self (s : Bs) : matchC (compsOf [s]) s = true := by
  rw [matchC_comps]
  exact ⟨[], by simp, rfl⟩
theorem matchC_glue (p : Bs) (ps fs : List Bs) : matchC (compsOf (p :: ps)) (glue (p :: ps) fs) = true := by
  rw [matchC_comps]
  exact lang_glue p ps fs
end Go.Proofs.Ytkgkejihdfgpkaa.PatM
