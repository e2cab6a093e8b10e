/- PLAIN FUNCTIONS ON LISTS OF BYTES, AND THEIR LAWS. Nothing of the dump. -/
namespace Go.Proofs.Qxb6617118a.Plain

/-- '*', '?', '[', the backslash. -/
def isGlob (c : UInt8) : Bool := c == 42 || c == 63 || c == 91 || c == 92

/-- what is written for a quoted byte. -/
def quoted (c : UInt8) : List UInt8 := if isGlob c then [92, c] else [c]

/-- globPattern's loop, on what is left of the text. -/
def gp : List UInt8 → List UInt8
  | [] => []
  | [c] => if c = 92 then [92, 92] else [c]
  | c :: d :: rest => if c = 92 then quoted d ++ gp rest else if c = 91 ∧ d = 33 then 91 :: 94 :: gp rest else c :: gp (d :: rest)

/-- zzBashReadingB1's loop: 'esc': the run of backslashes ahead is odd; 'op': the byte ahead is a '[' that is not quoted. -/
def br (esc op : Bool) : List UInt8 → List UInt8
  | [] => []
  | c :: rest => (if esc then quoted c else if c = 92 then (if rest = [] then [92, 92] else []) else if c = 33 ∧ op = true then [94] else [c]) ++ br (!esc && c == 92) (c == 91 && !esc) rest

/-- escapeGlob. -/
def eg : List UInt8 → List UInt8
  | [] => []
  | c :: rest => quoted c ++ eg rest

/-- zzStrictUnescapeB1: none: refused. -/
def su : List UInt8 → Option (List UInt8)
  | [] => some []
  | [c] => if isGlob c then none else some [c]
  | c :: d :: rest => if c = 92 then (if isGlob d then (su rest).map (d :: ·) else none) else if isGlob c then none else (su (d :: rest)).map (c :: ·)

theorem br_op (c : UInt8) (rest : List UInt8) (h : c ≠ 33) : br false true (c :: rest) = br false false (c :: rest) := by
  simp [br, h]

theorem gp_br_aux (n : Nat) : ∀ l : List UInt8, l.length ≤ n → gp l = br false false l := by
  induction n with
  | zero => intro l h; match l with | [] => rfl | _ :: _ => simp at h
  | succ n ih =>
    intro l h
    match l with
    | [] => rfl
    | [c] =>
      by_cases hc : c = 92
      · subst hc; rfl
      · simp [gp, br, hc]
    | c :: d :: rest =>
      simp only [List.length_cons] at h
      by_cases hc : c = 92
      · subst hc
        rw [gp, if_pos rfl, ih rest (by omega)]
        simp [br]
      · by_cases hb : c = 91 ∧ d = 33
        · obtain ⟨rfl, rfl⟩ := hb
          rw [gp, if_neg (by decide), if_pos ⟨rfl, rfl⟩, ih rest (by omega)]
          simp [br]
        · rw [gp, if_neg hc, if_neg hb, ih (d :: rest) (by simp; omega)]
          by_cases hb2 : c = 91
          · subst hb2
            have hd : d ≠ 33 := fun e => hb ⟨rfl, e⟩
            rw [← br_op d rest hd]
            conv => rhs; rw [br]
            simp
          · have e1 : (c == 92) = false := by simp [hc]
            have e2 : (c == 91) = false := by simp [hb2]
            conv => rhs; rw [br]
            simp [hc, e1, e2]

/-- the two readings of a word are one. -/
theorem gp_br (l : List UInt8) : gp l = br false false l := gp_br_aux l.length l (Nat.le_refl _)

/-- a text with no backslash and no '[' is its own pattern. -/
theorem gp_plain (l : List UInt8) (h : ∀ c ∈ l, c ≠ 92 ∧ c ≠ 91) : gp l = l := by
  induction l with
  | nil => rfl
  | cons c r ih =>
    have hc := h c (by simp)
    have hr := ih (fun d hd => h d (by simp [hd]))
    match r, hr with
    | [], _ => simp [gp, hc.1]
    | d :: r', hr => rw [gp, if_neg hc.1, if_neg (fun e => hc.2 e.1), hr]

theorem eg_plain (l : List UInt8) (h : ∀ c ∈ l, isGlob c = false) : eg l = l := by
  induction l with
  | nil => rfl
  | cons c r ih => simp [eg, quoted, h c (by simp), ih (fun d hd => h d (by simp [hd]))]

theorem eg_append (a b : List UInt8) : eg (a ++ b) = eg a ++ eg b := by
  induction a with
  | nil => rfl
  | cons c r ih => simp [eg, ih]

theorem isGlob_92 : isGlob 92 = true := by decide

/-- reading back what escapeGlob wrote. -/
theorem su_eg (l : List UInt8) : su (eg l) = some l := by
  induction l with
  | nil => rfl
  | cons c r ih =>
    rw [eg, quoted]
    by_cases hc : isGlob c = true
    · rw [if_pos hc]
      show su (92 :: c :: eg r) = _
      rw [su, if_pos rfl, if_pos hc, ih]; rfl
    · have hc92 : c ≠ 92 := by intro e; subst e; exact hc isGlob_92
      rw [if_neg hc]
      show su (c :: eg r) = _
      match hr : eg r with
      | [] =>
        rw [hr] at ih
        simp only [su, Option.some.injEq] at ih
        subst ih
        rw [su, if_neg hc]
      | d :: r' =>
        rw [su, if_neg hc92, if_neg hc, ← hr, ih]; rfl

/-- every byte behind a backslash. -/
def bs (l : List UInt8) : List UInt8 := l.flatMap fun c => [92, c]

theorem gp_bs (l : List UInt8) : gp (bs l) = eg l := by
  induction l with
  | nil => rfl
  | cons c r ih =>
    show gp (92 :: c :: bs r) = _
    rw [gp, if_pos rfl, ih]; rfl

theorem quoted_len (c : UInt8) : (quoted c).length ≤ 2 := by unfold quoted; split <;> simp
theorem gp_len_aux (n : Nat) : ∀ l : List UInt8, l.length ≤ n → (gp l).length ≤ 2 * l.length := by
  induction n with
  | zero => intro l h; match l with | [] => simp [gp] | _ :: _ => simp at h
  | succ n ih =>
    intro l h
    match l with
    | [] => simp [gp]
    | [c] => simp only [gp]; split <;> simp
    | c :: d :: rest =>
      simp only [List.length_cons] at h ⊢
      have h1 := ih rest (by omega)
      have h2 := ih (d :: rest) (by simp; omega)
      have h3 := quoted_len d
      simp only [List.length_cons] at h2
      rw [gp]
      split
      · simp only [List.length_append]; omega
      · split <;> (simp only [List.length_cons]; omega)
theorem gp_len (l : List UInt8) : (gp l).length ≤ 2 * l.length := gp_len_aux l.length l (Nat.le_refl _)
theorem eg_len (l : List UInt8) : (eg l).length ≤ 2 * l.length := by
  induction l with
  | nil => simp [eg]
  | cons c r ih => have := quoted_len c; simp only [eg, List.length_append, List.length_cons]; omega
theorem bs_len (l : List UInt8) : (bs l).length = 2 * l.length := by
  induction l with
  | nil => rfl
  | cons c r ih => show (92 :: c :: bs r).length = _; simp only [List.length_cons, ih]; omega

/-- one step of the strict reading. -/
theorem su_cons (c : UInt8) (t r : List UInt8) (h : su (c :: t) = some r) :
    (c = 92 ∧ ∃ d t' x, t = d :: t' ∧ isGlob d = true ∧ su t' = some x ∧ r = d :: x) ∨ (c ≠ 92 ∧ isGlob c = false ∧ ∃ x, su t = some x ∧ r = c :: x) := by
  match t, h with
  | [], h =>
    rw [su] at h
    split at h
    · cases h
    · rename_i hg
      refine .inr ⟨fun e => hg (by rw [e]; exact isGlob_92), by simpa using hg, [], rfl, by simpa using h.symm⟩
  | d :: t', h =>
    rw [su] at h
    split at h
    · rename_i hc
      split at h
      · rename_i hd
        cases hx : su t' with
        | none => rw [hx] at h; cases h
        | some x => rw [hx] at h; simp only [Option.map_some, Option.some.injEq] at h; exact .inl ⟨hc, d, t', x, rfl, hd, hx, h.symm⟩
      · cases h
    · rename_i hc
      split at h
      · cases h
      · rename_i hg
        cases hx : su (d :: t') with
        | none => rw [hx] at h; cases h
        | some x => rw [hx] at h; simp only [Option.map_some, Option.some.injEq] at h; exact .inr ⟨hc, by simpa using hg, x, rfl, h.symm⟩

theorem gp_two (d : UInt8) (t : List UInt8) : gp (92 :: d :: t) = quoted d ++ gp t := by rw [gp, if_pos rfl]
theorem gp_neg (t : List UInt8) : gp (91 :: 33 :: t) = [91, 94] ++ gp t := by rw [gp, if_neg (by decide), if_pos ⟨rfl, rfl⟩]; rfl
theorem gp_else (c : UInt8) (t : List UInt8) (h : c ≠ 92) (h2 : ¬ (c = 91 ∧ ∃ t', t = 33 :: t')) : gp (c :: t) = [c] ++ gp t := by
  match t with
  | [] => simp [gp, h]
  | d :: t' => rw [gp, if_neg h, if_neg (fun e => h2 ⟨e.1, t', by rw [e.2]⟩)]; rfl

end Go.Proofs.Qxb6617118a.Plain
