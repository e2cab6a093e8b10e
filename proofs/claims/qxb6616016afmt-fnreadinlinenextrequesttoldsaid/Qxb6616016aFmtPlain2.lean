import Derived.Test.Qxb6616016aFmtPlain
namespace Go.Proofs.Qxb6616016aFmt.Plain

theorem quoted_next (q : UInt8) (n : Nat) : ∀ (l x r : List UInt8), l.length ≤ n → quoted q l = some (x, r) → (∃ m, m ≤ l.length ∧ r = l.drop m) ∧ (r = [] ∨ ∃ d t, r = d :: t ∧ isSpace d = true) := by
  induction n with
  | zero =>
    intro l x r hl h
    match l with
    | [] => rw [quoted_nil] at h; cases h
    | _ :: _ => simp at hl
  | succ n ih =>
    intro l x r hl h
    match l with
    | [] => rw [quoted_nil] at h; cases h
    | c :: t =>
      simp only [List.length_cons] at hl
      by_cases hc : c = q
      · subst hc
        match t with
        | [] =>
          rw [quoted_end] at h; simp only [Option.some.injEq, Prod.mk.injEq] at h; obtain ⟨rfl, rfl⟩ := h
          exact ⟨⟨1, by simp, by simp⟩, .inl rfl⟩
        | d :: t' =>
          rw [quoted_end2] at h
          split at h
          · rename_i hs
            simp only [Option.some.injEq, Prod.mk.injEq] at h; obtain ⟨rfl, rfl⟩ := h
            exact ⟨⟨1, by simp, by simp⟩, .inr ⟨d, t', rfl, hs⟩⟩
          · cases h
      · rw [quoted_cons q c t hc] at h
        cases hq : quoted q (t.drop (look q c t).2) with
        | none => rw [hq] at h; simp [push] at h
        | some p =>
          obtain ⟨x', r'⟩ := p
          rw [hq] at h
          simp only [push, Option.map_some, Option.some.injEq, Prod.mk.injEq] at h
          obtain ⟨rfl, rfl⟩ := h
          obtain ⟨⟨m, hm, e⟩, hn⟩ := ih _ x' r' (by rw [List.length_drop]; omega) hq
          rw [List.length_drop] at hm
          by_cases hd : (look q c t).2 ≤ t.length
          · refine ⟨⟨(look q c t).2 + m + 1, by simp only [List.length_cons]; omega, ?_⟩, hn⟩
            rw [List.drop_succ_cons, e, List.drop_drop]
          · refine ⟨⟨t.length + 1, by simp, ?_⟩, hn⟩
            rw [List.drop_succ_cons, List.drop_length, e, List.drop_drop, List.drop_of_length_le (by omega)]

theorem word_next : ∀ (l x r : List UInt8), word l = some (x, r) → (∃ m, m ≤ l.length ∧ r = l.drop m) ∧ (r = [] ∨ ∃ d t, r = d :: t ∧ isSpace d = true)
  | [], x, r, h => by
    simp only [word, Option.some.injEq, Prod.mk.injEq] at h; obtain ⟨rfl, rfl⟩ := h
    exact ⟨⟨0, by simp, rfl⟩, .inl rfl⟩
  | c :: t, x, r, h => by
    rw [word] at h
    split at h
    · rename_i hc
      simp only [Option.some.injEq, Prod.mk.injEq] at h; obtain ⟨rfl, rfl⟩ := h
      exact ⟨⟨0, by simp, rfl⟩, .inr ⟨c, t, rfl, by rcases hc with rfl | rfl | rfl | rfl <;> decide⟩⟩
    · split at h
      · obtain ⟨⟨m, hm, e⟩, hn⟩ := quoted_next c t.length t x r (Nat.le_refl _) h
        exact ⟨⟨m + 1, by simp; omega, by rw [List.drop_succ_cons, e]⟩, hn⟩
      · cases hw : word t with
        | none => rw [hw] at h; simp [push] at h
        | some p =>
          obtain ⟨x', r'⟩ := p
          rw [hw] at h
          simp only [push, Option.map_some, Option.some.injEq, Prod.mk.injEq] at h
          obtain ⟨rfl, rfl⟩ := h
          obtain ⟨⟨m, hm, e⟩, hn⟩ := word_next t x' r' hw
          exact ⟨⟨m + 1, by simp; omega, by rw [List.drop_succ_cons, e]⟩, hn⟩

/-- where a word's rest lies in the line. -/
theorem word_rest (L : List UInt8) (k : Nat) (x r : List UInt8) (h : word (L.drop k) = some (x, r)) : r = L.drop (L.length - r.length) ∧ r.length ≤ L.length := by
  obtain ⟨⟨m, hm, e⟩, _⟩ := word_next _ x r h
  rw [List.drop_drop] at e
  have hl : r.length = L.length - (k + m) := by rw [e, List.length_drop]
  constructor
  · by_cases hkm : k + m ≤ L.length
    · rw [hl, show L.length - (L.length - (k + m)) = k + m from by omega]; exact e
    · rw [hl, show L.length - (L.length - (k + m)) = L.length from by omega, List.drop_length, e, List.drop_of_length_le (by omega)]
  · omega

theorem split_no (c : UInt8) (t : List UInt8) (h : isSpace c = false) (hw : word (c :: t) = none) : split (c :: t) = none := by rw [split_word c t h, hw]
theorem split_yes (c : UInt8) (t x r : List UInt8) (h : isSpace c = false) (hw : word (c :: t) = some (x, r)) : split (c :: t) = (split r).map (x :: ·) := by rw [split_word c t h, hw]

end Go.Proofs.Qxb6616016aFmt.Plain
