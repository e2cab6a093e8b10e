/- PLAIN FUNCTIONS ON LISTS OF BYTES: how an inline request is split; their laws. Nothing of the dump. -/
namespace Go.Proofs.Qxb6616016aFmt.Plain

def isSpace (c : UInt8) : Bool := c == 32 || c == 9 || c == 10 || c == 11 || c == 12 || c == 13
def isHex (c : UInt8) : Bool := (48 ≤ c && c ≤ 57) || (97 ≤ c && c ≤ 102) || (65 ≤ c && c ≤ 70)
def hexValue (c : UInt8) : UInt8 := if c ≤ 57 then c - 48 else if c ≤ 70 then c - 65 + 10 else c - 97 + 10
def unescape (c : UInt8) : UInt8 := bif c == 110 then 10 else bif c == 114 then 13 else bif c == 116 then 9 else bif c == 98 then 8 else bif c == 97 then 7 else c
/-- the byte that two hex digits stand for. -/
def hexByte (h1 h2 : UInt8) : UInt8 := (hexValue h1 <<< 4) ||| hexValue h2

/-- a word behind one byte more. -/
def push (c : UInt8) (x : Option (List UInt8 × List UInt8)) : Option (List UInt8 × List UInt8) := x.map fun p => (c :: p.1, p.2)

/-- inside quotes q, at a byte c that is not q, t behind it: the byte that is appended, and how many bytes of t go with it. -/
def look (q c : UInt8) (t : List UInt8) : UInt8 × Nat :=
  if c = 92 ∧ q = 39 ∧ t.head? = some 39 then (39, 1)
  else if c = 92 ∧ q = 34 then
    (match t with
     | [] => (c, 0)
     | d :: h1 :: h2 :: _ => if d = 120 ∧ isHex h1 = true ∧ isHex h2 = true then (hexByte h1 h2, 3) else (unescape d, 1)
     | d :: _ => (unescape d, 1))
  else (c, 0)

theorem look_hex (h1 h2 : UInt8) (t : List UInt8) (a : isHex h1 = true) (b : isHex h2 = true) : look 34 92 (120 :: h1 :: h2 :: t) = (hexByte h1 h2, 3) := by simp [look, a, b]
theorem look_esc (d : UInt8) (t : List UInt8) (h : ¬ ∃ h1 h2 t', t = h1 :: h2 :: t' ∧ d = 120 ∧ isHex h1 = true ∧ isHex h2 = true) : look 34 92 (d :: t) = (unescape d, 1) := by
  match t with
  | [] => simp [look]
  | [_] => simp [look]
  | h1 :: h2 :: t' =>
    have : ¬ (d = 120 ∧ isHex h1 = true ∧ isHex h2 = true) := fun e => h ⟨h1, h2, t', rfl, e⟩
    simp only [look]
    rw [if_neg (by simp), if_pos (by simp), if_neg this]
theorem look_one (t : List UInt8) : look 39 92 (39 :: t) = (39, 1) := by simp [look]
theorem look_plain39 (c : UInt8) (t : List UInt8) (h : t.head? ≠ some 39) : look 39 c t = (c, 0) := by simp [look, h]
theorem look_end (c : UInt8) : look 34 c [] = (c, 0) := by simp [look]
theorem look_other (q c : UInt8) (t : List UInt8) (h : q ≠ 39) (h2 : q ≠ 34) : look q c t = (c, 0) := by simp [look, h, h2]

/-- appendQuoted: what it appends, and what is left behind the closing quote (behind k bytes that are passed over). -/
def quotedK (q : UInt8) : Nat → List UInt8 → Option (List UInt8 × List UInt8)
  | _, [] => none
  | k + 1, _ :: t => quotedK q k t
  | 0, c :: t => if c = q then (match t with
      | [] => some ([], [])
      | d :: t' => if isSpace d then some ([], d :: t') else none) else push (look q c t).1 (quotedK q (look q c t).2 t)
def quoted (q : UInt8) (l : List UInt8) : Option (List UInt8 × List UInt8) := quotedK q 0 l

theorem quotedK_drop (q : UInt8) : ∀ (k : Nat) (l : List UInt8), quotedK q k l = quoted q (l.drop k)
  | 0, l => by simp [quoted]
  | k + 1, [] => by simp [quoted, quotedK]
  | k + 1, c :: t => by rw [quotedK, quotedK_drop q k t, List.drop_succ_cons]

theorem quoted_nil (q : UInt8) : quoted q [] = none := rfl
theorem quoted_end (q : UInt8) : quoted q [q] = some ([], []) := by simp [quoted, quotedK]
theorem quoted_end2 (q d : UInt8) (t : List UInt8) : quoted q (q :: d :: t) = if isSpace d then some ([], d :: t) else none := by simp [quoted, quotedK]
theorem quoted_cons (q c : UInt8) (t : List UInt8) (h : c ≠ q) : quoted q (c :: t) = push (look q c t).1 (quoted q (t.drop (look q c t).2)) := by
  rw [← quotedK_drop]
  cases t with
  | nil => simp [quoted, quotedK, h]
  | cons d t => simp only [quoted, quotedK, if_neg h]

/-- appendWord: what it appends, and what is left. -/
def word : List UInt8 → Option (List UInt8 × List UInt8)
  | [] => some ([], [])
  | c :: t => if c = 32 ∨ c = 9 ∨ c = 13 ∨ c = 10 then some ([], c :: t) else if c = 34 ∨ c = 39 then quoted c t else push c (word t)

/-- splitInline, with fuel. -/
def splitF : Nat → List UInt8 → Option (List (List UInt8))
  | 0, _ => some []
  | _ + 1, [] => some []
  | n + 1, c :: t => if isSpace c then splitF n t else
      match word (c :: t) with
      | none => none
      | some (x, r) => (splitF n r).map (x :: ·)
def split (l : List UInt8) : Option (List (List UInt8)) := splitF l.length l

theorem quoted_len (q : UInt8) (n : Nat) : ∀ (l x r : List UInt8), l.length ≤ n → quoted q l = some (x, r) → x.length + r.length + 1 ≤ l.length := by
  induction n with
  | zero =>
    intro l x r hl h
    match l with
    | [] => rw [quoted_nil] at h; cases h
    | _ :: _ => simp at hl
  | succ n ih =>
    intro l x r hl h
    match l with
    | [] => rw [quoted_nil] at h; cases h
    | c :: t =>
      simp only [List.length_cons] at hl ⊢
      by_cases hc : c = q
      · subst hc
        match t with
        | [] => rw [quoted_end] at h; simp only [Option.some.injEq, Prod.mk.injEq] at h; obtain ⟨rfl, rfl⟩ := h; simp
        | d :: t' =>
          rw [quoted_end2] at h
          split at h
          · simp only [Option.some.injEq, Prod.mk.injEq] at h; obtain ⟨rfl, rfl⟩ := h; simp
          · cases h
      · rw [quoted_cons q c t hc] at h
        cases hq : quoted q (t.drop (look q c t).2) with
        | none => rw [hq] at h; simp [push] at h
        | some p =>
          obtain ⟨x', r'⟩ := p
          rw [hq] at h
          simp only [push, Option.map_some, Option.some.injEq, Prod.mk.injEq] at h
          obtain ⟨rfl, rfl⟩ := h
          have := ih _ x' r' (by rw [List.length_drop]; omega) hq
          rw [List.length_drop] at this
          simp only [List.length_cons]; omega

theorem word_len : ∀ (l x r : List UInt8), word l = some (x, r) → x.length + r.length ≤ l.length
  | [], x, r, h => by simp only [word, Option.some.injEq, Prod.mk.injEq] at h; obtain ⟨rfl, rfl⟩ := h; simp
  | c :: t, x, r, h => by
    rw [word] at h
    split at h
    · simp only [Option.some.injEq, Prod.mk.injEq] at h; obtain ⟨rfl, rfl⟩ := h; simp
    · split at h
      · have := quoted_len c t.length t x r (Nat.le_refl _) h; simp only [List.length_cons]; omega
      · cases hw : word t with
        | none => rw [hw] at h; simp [push] at h
        | some p =>
          obtain ⟨x', r'⟩ := p
          rw [hw] at h
          simp only [push, Option.map_some, Option.some.injEq, Prod.mk.injEq] at h
          obtain ⟨rfl, rfl⟩ := h
          have := word_len t x' r' hw
          simp only [List.length_cons]; omega

/-- a word that opens with no blank takes a byte. -/
theorem word_lt (c : UInt8) (t x r : List UInt8) (hc : isSpace c = false) (h : word (c :: t) = some (x, r)) : r.length ≤ t.length := by
  rw [word] at h
  simp only [isSpace, Bool.or_eq_false_iff, beq_eq_false_iff_ne] at hc
  rw [if_neg (by rintro (h | h | h | h) <;> simp_all)] at h
  split at h
  · have := quoted_len c t.length t x r (Nat.le_refl _) h; omega
  · cases hw : word t with
    | none => rw [hw] at h; simp [push] at h
    | some p =>
      obtain ⟨x', r'⟩ := p
      rw [hw] at h
      simp only [push, Option.map_some, Option.some.injEq, Prod.mk.injEq] at h
      obtain ⟨rfl, rfl⟩ := h
      have := word_len t x' r' hw
      omega

theorem splitF_fuel (n : Nat) : ∀ (l : List UInt8) (m : Nat), l.length ≤ n → l.length ≤ m → splitF n l = splitF m l := by
  induction n with
  | zero =>
    intro l m h _
    match l, m with
    | [], 0 => rfl
    | [], _ + 1 => rfl
    | _ :: _, _ => simp at h
  | succ n ih =>
    intro l m h hm
    match l, m with
    | [], 0 => rfl
    | [], _ + 1 => rfl
    | c :: t, 0 => simp at hm
    | c :: t, m + 1 =>
      simp only [List.length_cons] at h hm
      rw [splitF, splitF]
      cases hs : isSpace c with
      | true => simp only [if_true]; exact ih t m (by omega) (by omega)
      | false =>
        simp only [Bool.false_eq_true, if_false]
        cases hw : word (c :: t) with
        | none => rfl
        | some p =>
          obtain ⟨x, r⟩ := p
          have := word_lt c t x r hs hw
          simp only [ih r m (by omega) (by omega)]

theorem split_nil : split [] = some [] := rfl
theorem split_space (c : UInt8) (t : List UInt8) (h : isSpace c = true) : split (c :: t) = split t := by
  show splitF (t.length + 1) (c :: t) = _
  rw [splitF, if_pos h]; rfl
theorem split_word (c : UInt8) (t : List UInt8) (h : isSpace c = false) : split (c :: t) = match word (c :: t) with
    | none => none
    | some (x, r) => (split r).map (x :: ·) := by
  show splitF (t.length + 1) (c :: t) = _
  rw [splitF, if_neg (by rw [h]; exact Bool.false_ne_true)]
  cases hw : word (c :: t) with
  | none => rfl
  | some p =>
    obtain ⟨x, r⟩ := p
    have := word_lt c t x r h hw
    simp only [split, splitF_fuel t.length r r.length this (Nat.le_refl _)]

end Go.Proofs.Qxb6616016aFmt.Plain
