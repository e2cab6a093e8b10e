import Derived.Test.Qxb6616016aFmtZz
namespace Go.Proofs.Qxb6616016aFmt.Plain

/-- a byte that may stand anywhere in a bare word. -/
def bare (c : UInt8) : Bool := !(c == 32 || c == 9 || c == 13 || c == 10 || c == 11 || c == 12 || c == 34 || c == 39)
/-- a bare word. -/
def Bare (x : List UInt8) : Prop := x ≠ [] ∧ ∀ c ∈ x, bare c = true

theorem bare_facts {c : UInt8} (h : bare c = true) : isSpace c = false ∧ ¬ (c = 32 ∨ c = 9 ∨ c = 13 ∨ c = 10) ∧ ¬ (c = 34 ∨ c = 39) ∧ c ≠ 10 ∧ c ≠ 13 := by
  unfold bare at h
  simp at h
  obtain ⟨⟨⟨⟨⟨⟨⟨h1, h2⟩, h3⟩, h4⟩, h5⟩, h6⟩, h7⟩, h8⟩ := h
  refine ⟨by simp [isSpace, *], by simp [*], by simp [*], h4, h3⟩

theorem word_bare : ∀ (x m : List UInt8), (∀ c ∈ x, bare c = true) → (m = [] ∨ ∃ t, m = 32 :: t) → word (x ++ m) = some (x, m)
  | [], m, _, hm => by
    rcases hm with rfl | ⟨t, rfl⟩
    · rfl
    · simp [word]
  | c :: x, m, h, hm => by
    have hc := bare_facts (h c (by simp))
    rw [List.cons_append, word, if_neg hc.2.1, if_neg hc.2.2.1, word_bare x m (fun d hd => h d (by simp [hd])) hm]
    rfl

theorem split_bare (x m : List UInt8) (h : Bare x) : split (x ++ 32 :: m) = (split m).map (x :: ·) := by
  obtain ⟨hne, hb⟩ := h
  match x, hne, hb with
  | c :: t, _, hb =>
    have hw := word_bare (c :: t) (32 :: m) hb (.inr ⟨m, rfl⟩)
    rw [List.cons_append] at hw ⊢
    rw [split_yes c _ _ _ (bare_facts (hb c (by simp))).1 hw, split_space 32 m (by decide)]
theorem split_alone (x : List UInt8) (h : Bare x) : split x = some [x] := by
  obtain ⟨hne, hb⟩ := h
  match x, hne, hb with
  | c :: t, _, hb =>
    have hw := word_bare (c :: t) [] hb (.inl rfl)
    rw [List.append_nil] at hw
    rw [split_yes c _ _ _ (bare_facts (hb c (by simp))).1 hw, split_nil]; rfl

theorem trim_snoc (l : List UInt8) (c : UInt8) : trim (l ++ [c]) = if c = 13 then l else l ++ [c] := by
  unfold trim Lib.trimSuffix Lib.hasSuffix
  by_cases hc : c = 13
  · subst hc
    rw [if_pos (by rw [List.isSuffixOf_iff_suffix]; exact ⟨l, rfl⟩), if_pos rfl]
    simp
  · rw [if_neg hc, if_neg]
    rw [List.isSuffixOf_iff_suffix]
    rintro ⟨t, ht⟩
    have := congrArg List.getLast? ht
    simp at this
    exact hc this.symm
theorem trim_nil : trim [] = [] := by decide
theorem trim_cons (x : List UInt8) (l : List UInt8) : trim (x ++ 32 :: l) = x ++ 32 :: trim l := by
  rcases List.eq_nil_or_concat l with rfl | ⟨l', c, rfl⟩
  · rw [trim_snoc, if_neg (by decide), trim_nil]
  · rw [List.concat_eq_append, show x ++ 32 :: (l' ++ [c]) = (x ++ 32 :: l') ++ [c] by simp, trim_snoc, trim_snoc]
    split
    · rfl
    · simp
theorem trim_bare (x : List UInt8) (h : Bare x) : trim x = x := by
  obtain ⟨hne, hb⟩ := h
  rcases List.eq_nil_or_concat x with rfl | ⟨l', c, rfl⟩
  · exact absurd rfl hne
  · rw [List.concat_eq_append, trim_snoc, if_neg (bare_facts (hb c (by simp))).2.2.2.2]

theorem line_app : ∀ (x l : List UInt8), 10 ∉ x → line (x ++ l) = (line l).map fun lr => (x ++ lr.1, lr.2)
  | [], l, _ => by rw [List.nil_append]; cases line l <;> rfl
  | c :: x, l, h => by
    simp at h
    rw [List.cons_append, line, if_neg (fun e => h.1 e.symm), line_app x l h.2, Option.map_map]
    rfl

theorem bare_no {x : List UInt8} (h : Bare x) : 10 ∉ x := fun hm => (bare_facts (h.2 10 hm)).2.2.2.1 rfl

/-- THE LAW of FnReadInlineWordPrefix. -/
theorem req_prefix (x d : List UInt8) (h : Bare x) : req (x ++ 32 :: d) = (req d).map (Option.map (x :: ·)) := by
  have hn : 10 ∉ x ++ [32] := by simp; exact bare_no h
  have e : x ++ 32 :: d = (x ++ [32]) ++ d := by simp
  unfold req
  rw [e, line_app _ d hn, Option.map_map, Option.map_map]
  congr 1
  funext lr
  show split (trim (x ++ [32] ++ lr.1)) = Option.map (x :: ·) (split (trim lr.1))
  rw [show x ++ [32] ++ lr.1 = x ++ 32 :: lr.1 by simp, trim_cons, split_bare x _ h]
end Go.Proofs.Qxb6616016aFmt.Plain
