import Derived.Test.Qxb6617118aWalkA
import Derived.Lib.UnsafeStr
namespace Go.Proofs.Qxb6617118a
open Go.RowKit

theorem Try.info5 : (Try.prog.info? 5).map (fun i => (i.zero, i.size, i.bytes)) = some (some (.int .u8 0), 1, 1) := by kernel_rfl

theorem own_bytes {w : World} {base g cap : Nat} {e : TypeId} {l : List UInt8} (h : w.ownsRow base e 1 (.slice (some ⟨g, 0, none⟩) l.length cap) l.length (Lib.byteCells l)) :
    ∀ (j : Nat) (hj : j < l.length), w.cell? ((⟨g, 0, none⟩ : Addr).add j) = some (.int .u8 l[j].toNat) := fun j hj =>
  h.cells (g := g) rfl j _ (by simp [Lib.byteCells, hj])

/-- the byte ahead of place k is a '[' and was not quoted. -/
def opAt (s : ByteArray) (k : Nat) (pe : Bool) : Bool := decide (0 < k) && (s.data.toList.getD (k - 1) 0 == 91) && !pe

theorem drop_at (s : ByteArray) (k : Nat) (h : k < s.size) : s.data.toList.drop k = s[k] :: s.data.toList.drop (k + 1) := by
  rw [List.drop_eq_getElem_cons (by simpa using h)]; rfl

theorem cell_one {w : World} {x : Value} {t : TypeId} : ∀ (j : Nat) (u : Value), [x][j]? = some u → (w.alloc (.cells #[x] t)).cell? ((⟨w.heap.size, 0, none⟩ : Addr).add j) = some u := by
  intro j u hj
  match j, hj with
  | 0, hj => simp at hj; subst hj; simp [Addr.add]

theorem cell_two {w : World} {x y : Value} {t : TypeId} : ∀ (j : Nat) (u : Value), [x, y][j]? = some u → (w.alloc (.cells #[x, y] t)).cell? ((⟨w.heap.size, 0, none⟩ : Addr).add j) = some u := by
  intro j u hj
  match j, hj with
  | 0, hj => simp at hj; subst hj; simp [Addr.add]
  | 1, hj => simp at hj; subst hj; simp [Addr.add]

theorem one_u8 (a : Int) : ∀ u ∈ [Value.int .u8 a], u.oneCell' = true := by intro u hu; simp at hu; subst hu; rfl
theorem two_u8 (a b : Int) : ∀ u ∈ [Value.int .u8 a, Value.int .u8 b], u.oneCell' = true := by intro u hu; simp at hu; rcases hu with rfl | rfl <;> rfl

/-- what zzBashReadingB1 writes for one byte. -/
def brOut (esc op : Bool) (c : UInt8) (last : Bool) : List UInt8 :=
  if esc then Plain.quoted c else if c = 92 then (if last then [92, 92] else []) else if c = 33 ∧ op = true then [94] else [c]

theorem opAt_succ (s : ByteArray) (k : Nat) (h : k < s.size) (e : Bool) : opAt s (k + 1) e = (s[k] == 91 && !e) := by
  have hl : k < s.data.toList.length := by simpa using h
  have : s.data.toList.getD k 0 = s[k] := by
    rw [List.getD_eq_getElem?_getD, List.getElem?_eq_getElem hl]; rfl
  simp only [opAt, Nat.add_sub_cancel, this]; simp

theorem opAt_pos (s : ByteArray) (k : Nat) (h0 : 0 < k) (h : k - 1 < s.size) (e : Bool) : opAt s k e = (s[k - 1] == 91 && !e) := by
  have hl : k - 1 < s.data.toList.length := by simpa using h
  have : s.data.toList.getD (k - 1) 0 = s[k - 1] := by
    rw [List.getD_eq_getElem?_getD, List.getElem?_eq_getElem hl]; rfl
  simp only [opAt, this]; simp [h0]

theorem rel_step {s : ByteArray} {k r : Nat} {p : Bool} {acc T : List UInt8} {c : UInt8} (hlt : k < s.size) (hc : s[k] = c)
    (HX : acc ++ Plain.br (r % 2 == 1) (opAt s k p) (s.data.toList.drop k) = T) (e : Bool) (he : (r % 2 == 1) = e)
    (out : List UInt8) (hout : brOut e (opAt s k p) c (decide (k + 1 = s.size)) = out) (r' : Nat) (hr' : (r' % 2 == 1) = (!e && c == 92)) :
    (acc ++ out) ++ Plain.br (r' % 2 == 1) (opAt s (k + 1) e) (s.data.toList.drop (k + 1)) = T := by
  rw [drop_at s k hlt, hc, Plain.br, he] at HX
  have hl : (s.data.toList.drop (k + 1) = []) ↔ k + 1 = s.size := by
    rw [List.drop_eq_nil_iff]; simp; omega
  rw [opAt_succ s k hlt, hc, hr', List.append_assoc, ← HX, ← hout, brOut]
  simp [hl]

set_option maxHeartbeats 4000000 in
set_option maxRecDepth 100000 in
/-- zzBashReadingB1 -/
theorem bash_any (s : ByteArray) (w : World) (hs : s.size ≤ 16777216) :
    Calls Try.prog 13 #[.string s] w fun e w' => e = .returned (.string ⟨(Plain.br false false s.data.toList).toArray⟩) ∧ Below w.heap.size w w' := by
  obtain ⟨i0, hi, hz0, hz1, hz2⟩ := info_parts Try.info5
  go_enter Try.func13, Try.ntmps13
  go_wp2_with (at_make; refine wpList_make_own _ rfl _ _ 27 rfl w.heap.size 5 i0 (.int .u8 0) 1 Try.underlying27 hi hz0 hz1 _ _ _ (2 * s.size + 2) rfl rfl (by omega) ?b2 ?b3 (Nat.le_refl _) ?_)
  case b2 => rw [hz2]; omega
  case b3 => unfold maxLen; omega
  intro w0 hown0 hgrow0
  go_wp2
  go_loopw [3, 4, 5, 6] (fun out run pe sj wr => ∃ (k r : Nat) (p : Bool) (acc : List UInt8), k ≤ s.size ∧ sj = .int .i64 k ∧ run = .int .i64 r ∧ r ≤ k ∧ pe = .bool p ∧
      out = .slice (some ⟨w.heap.size, 0, none⟩) acc.length (2 * s.size + 2) ∧ wr.ownsRow w.heap.size 5 1 (.slice (some ⟨w.heap.size, 0, none⟩) acc.length (2 * s.size + 2)) acc.length (Lib.byteCells acc) ∧ acc.length ≤ 2 * k ∧
      acc ++ Plain.br (r % 2 == 1) (opAt s k p) (s.data.toList.drop k) = Plain.br false false s.data.toList ∧ Below w.heap.size w wr)
    (fun _ _ _ sj _ => s.size - (intOf sj).toNat)
  case atStart => exact ⟨0, 0, false, [], Nat.zero_le _, rfl, rfl, Nat.le_refl _, rfl, rfl, hown0, Nat.le_refl _, by simp [opAt], (Below.refl _ _).grown hgrow0 (Nat.le_refl _) (fun k h => by cases h)⟩
  case round =>
    obtain ⟨k, r, p, acc, hk, rfl, rfl, hr, rfl, rfl, hown, hal, hx, hnx⟩ := hrel
    by_cases hlt : k < s.size
    · obtain ⟨c, hc⟩ : ∃ c : UInt8, s[k]'hlt = c := ⟨_, rfl⟩
      have HX : Hid (acc ++ Plain.br (r % 2 == 1) (opAt s k p) (s.data.toList.drop k) = Plain.br false false s.data.toList) := hx
      clear hx
      have hsz := hnx.size
      by_cases he : r % 2 = 1
      · have heb : ((r : Int) % 2 == 1) = true := beq_iff_eq.2 (by omega)
        have HE : Hid ((r % 2 == 1) = true) := by show (r % 2 == 1) = true; simp [he]
        clear he
        cases hg : Plain.isGlob c
        · have HG : Hid (Plain.isGlob c = false) := hg
          have h92 : ((c.toNat : Int) == 92) = false := by
            rw [show ((92 : Int)) = (((92 : UInt8).toNat : Nat) : Int) from rfl, beq_u8]
            simp only [Plain.isGlob, Bool.or_eq_false_iff] at hg; exact hg.2
          have H92 : Hid ((c == 92) = false) := by simp only [Plain.isGlob, Bool.or_eq_false_iff] at hg; exact hg.2
          clear hg
          go_wp2_with (first
            | (go_at_call 16; refine (isGlob_any c _).mono ?_; rintro e w' ⟨rfl, rfl⟩; rw [HG.out])
            | (at_builtin; refine wpList_append_fits _ rfl (.tmp 32) (.tmp 34) 27 rfl w.heap.size 5 i0 1 Try.underlying27 hi hz1 w.heap.size acc.length (2 * s.size + 2) _ rfl (hown.alloc _) ⟨_, 0, none⟩ 1 1 [.int .u8 c.toNat] rfl rfl cell_one (one_u8 _) (by omega) ?_; intro w1 hown1 hgrow1))
          go_roundw
          case rel => exact ⟨k + 1, 0, true, acc ++ [c], by omega, by go_num, rfl, by omega, rfl, by simp, by simpa [Lib.byteCells] using hown1, by simp; omega, by
              have := rel_step hlt hc HX.out true HE.out [c] (by simp [brOut, Plain.quoted, HG.out]) 0 (by simp)
              exact this, (hnx.alloc hsz _).grown hgrow1 (by simp; omega) (fun k hk => by cases hk; exact Nat.le_refl _)⟩
          case measure => simp [intOf]; omega
        · have HG : Hid (Plain.isGlob c = true) := hg
          clear hg
          by_cases h9 : c = 92
          · have h92 : ((c.toNat : Int) == 92) = true := by subst h9; rfl
            have H92 : Hid (c = 92) := h9
            clear h9
            go_wp2_with (first
              | (go_at_call 16; refine (isGlob_any c _).mono ?_; rintro e w' ⟨rfl, rfl⟩; rw [HG.out])
              | (at_builtin; refine wpList_append_fits _ rfl (.tmp 29) (.tmp 30) 27 rfl w.heap.size 5 i0 1 Try.underlying27 hi hz1 w.heap.size acc.length (2 * s.size + 2) _ rfl (hown.alloc _) ⟨_, 0, none⟩ 1 1 [.int .u8 92] rfl rfl cell_one (one_u8 _) (by omega) ?_; intro w1 hown1 hgrow1)
              | (at_builtin; refine wpList_append_fits _ rfl (.tmp 32) (.tmp 34) 27 rfl w.heap.size 5 i0 1 Try.underlying27 hi hz1 w.heap.size (acc.length + 1) (2 * s.size + 2) _ rfl (hown1.alloc _) ⟨_, 0, none⟩ 1 1 [.int .u8 c.toNat] rfl rfl cell_one (one_u8 _) (by omega) ?_; intro w2 hown2 hgrow2))
            have hsz1 := hgrow1.size
            simp at hsz1
            go_roundw
            case rel => exact ⟨k + 1, r + 1, true, acc ++ [92, c], by omega, by go_num, by go_num, by omega, rfl, by simp, by simpa [Lib.byteCells] using hown2, by simp; omega, by
                have e2 : (r + 1) % 2 = 0 := by have := HE.out; simp at this; omega
                have := rel_step hlt hc HX.out true HE.out [92, c] (by simp [brOut, Plain.quoted, HG.out]) (r + 1) (by simp [e2])
                exact this, (((hnx.alloc hsz _).grown hgrow1 (by simp; omega) (fun k hk => by cases hk; exact Nat.le_refl _)).alloc (by omega) _).grown hgrow2 (by simp; omega) (fun k hk => by cases hk; exact Nat.le_refl _)⟩
            case measure => simp [intOf]; omega
          · have h92 : ((c.toNat : Int) == 92) = false := by
              rw [show ((92 : Int)) = (((92 : UInt8).toNat : Nat) : Int) from rfl, beq_u8]; simp [h9]
            have H92 : Hid (¬ c = 92) := h9
            clear h9
            go_wp2_with (first
              | (go_at_call 16; refine (isGlob_any c _).mono ?_; rintro e w' ⟨rfl, rfl⟩; rw [HG.out])
              | (at_builtin; refine wpList_append_fits _ rfl (.tmp 29) (.tmp 30) 27 rfl w.heap.size 5 i0 1 Try.underlying27 hi hz1 w.heap.size acc.length (2 * s.size + 2) _ rfl (hown.alloc _) ⟨_, 0, none⟩ 1 1 [.int .u8 92] rfl rfl cell_one (one_u8 _) (by omega) ?_; intro w1 hown1 hgrow1)
              | (at_builtin; refine wpList_append_fits _ rfl (.tmp 32) (.tmp 34) 27 rfl w.heap.size 5 i0 1 Try.underlying27 hi hz1 w.heap.size (acc.length + 1) (2 * s.size + 2) _ rfl (hown1.alloc _) ⟨_, 0, none⟩ 1 1 [.int .u8 c.toNat] rfl rfl cell_one (one_u8 _) (by omega) ?_; intro w2 hown2 hgrow2))
            have hsz1 := hgrow1.size
            simp at hsz1
            go_roundw
            case rel => exact ⟨k + 1, 0, true, acc ++ [92, c], by omega, by go_num, rfl, by omega, rfl, by simp, by simpa [Lib.byteCells] using hown2, by simp; omega, by
                have := rel_step hlt hc HX.out true HE.out [92, c] (by simp [brOut, Plain.quoted, HG.out]) 0 (by simp)
                exact this, (((hnx.alloc hsz _).grown hgrow1 (by simp; omega) (fun k hk => by cases hk; exact Nat.le_refl _)).alloc (by omega) _).grown hgrow2 (by simp; omega) (fun k hk => by cases hk; exact Nat.le_refl _)⟩
            case measure => simp [intOf]; omega
      · have heb : ((r : Int) % 2 == 1) = false := beq_eq_false_iff_ne.2 (by omega)
        have HE : Hid ((r % 2 == 1) = false) := by show (r % 2 == 1) = false; simp [he]
        have hr2 : r % 2 = 0 := by omega
        have HR : Hid (r % 2 = 0) := hr2
        clear he hr2
        by_cases h9 : c = 92
        · have h92 : ((c.toNat : Int) == 92) = true := by subst h9; rfl
          have H92 : Hid (c = 92) := h9
          clear h9
          by_cases hl : k + 1 = s.size
          · have hlb : ((k : Int) == (s.size : Int) - 1) = true := beq_iff_eq.2 (by omega)
            have HL : Hid (k + 1 = s.size) := hl
            clear hl
            go_wp2_with (at_builtin; refine wpList_append_fits _ rfl (.tmp 43) (.tmp 44) 27 rfl w.heap.size 5 i0 1 Try.underlying27 hi hz1 w.heap.size acc.length (2 * s.size + 2) _ rfl (hown.alloc _) ⟨_, 0, none⟩ 2 2 [.int .u8 92, .int .u8 92] rfl rfl cell_two (two_u8 _ _) (by omega) ?_; intro w1 hown1 hgrow1)
            go_roundw
            case rel => exact ⟨k + 1, r + 1, false, acc ++ [92, 92], by omega, by go_num, by go_num, by omega, rfl, by simp, by simpa [Lib.byteCells] using hown1, by simp; omega, by
                have e2 : (r + 1) % 2 = 1 := by have := HR.out; omega
                have := rel_step hlt hc HX.out false HE.out [92, 92] (by simp [brOut, H92.out, HL.out]) (r + 1) (by simp [e2, H92.out])
                exact this, (hnx.alloc hsz _).grown hgrow1 (by simp; omega) (fun k hk => by cases hk; exact Nat.le_refl _)⟩
            case measure => simp [intOf]; omega
          · have hlb : ((k : Int) == (s.size : Int) - 1) = false := beq_eq_false_iff_ne.2 (by omega)
            have HL : Hid (¬ k + 1 = s.size) := hl
            clear hl
            go_wp2
            go_roundw
            case rel => exact ⟨k + 1, r + 1, false, acc, by omega, by go_num, by go_num, by omega, rfl, rfl, hown, by omega, by
                have e2 : (r + 1) % 2 = 1 := by have := HR.out; omega
                have := rel_step hlt hc HX.out false HE.out [] (by simp [brOut, H92.out, HL.out]) (r + 1) (by simp [e2, H92.out])
                rw [List.append_nil] at this
                exact this, hnx⟩
            case measure => simp [intOf]; omega
        · have h92 : ((c.toNat : Int) == 92) = false := by
            rw [show ((92 : Int)) = (((92 : UInt8).toNat : Nat) : Int) from rfl, beq_u8]; simp [h9]
          have H92 : Hid (¬ c = 92) := h9
          clear h9
          have plain : ∀ w1 : World, w1.ownsRow w.heap.size 5 1 (.slice (some ⟨w.heap.size, 0, none⟩) (acc.length + 1) (2 * s.size + 2)) (acc.length + 1) (Lib.byteCells acc ++ [.int .u8 c.toNat]) → (wr.alloc (.cells #[.int .u8 c.toNat] 5)).grownBy w1 (some w.heap.size) → ¬ (c = 33 ∧ opAt s k p = true) →
              ∃ (k' r' : Nat) (p' : Bool) (acc' : List UInt8), k' ≤ s.size ∧ Value.int .i64 ((k : Int) + 1) = .int .i64 k' ∧ Value.int .i64 0 = .int .i64 r' ∧ r' ≤ k' ∧ Value.bool false = .bool p' ∧
      Value.slice (some ⟨w.heap.size, 0, none⟩) (acc.length + 1) (2 * s.size + 2) = .slice (some ⟨w.heap.size, 0, none⟩) acc'.length (2 * s.size + 2) ∧ w1.ownsRow w.heap.size 5 1 (.slice (some ⟨w.heap.size, 0, none⟩) acc'.length (2 * s.size + 2)) acc'.length (Lib.byteCells acc') ∧ acc'.length ≤ 2 * k' ∧
      acc' ++ Plain.br (r' % 2 == 1) (opAt s k' p') (s.data.toList.drop k') = Plain.br false false s.data.toList ∧ Below w.heap.size w w1 := by
            intro w1 hown1 hgrow1 hn
            exact ⟨k + 1, 0, false, acc ++ [c], by omega, by go_num, rfl, by omega, rfl, by simp, by simpa [Lib.byteCells] using hown1, by simp; omega, by
                have := rel_step hlt hc HX.out false HE.out [c] (by simp only [brOut, if_neg H92.out, if_neg hn]; rfl) 0 (by simp [H92.out])
                exact this, (hnx.alloc hsz _).grown hgrow1 (by simp; omega) (fun k hk => by cases hk; exact Nat.le_refl _)⟩
          have PL : Hid _ := plain
          clear plain
          by_cases h3 : c = 33
          · have h33 : ((c.toNat : Int) == 33) = true := by subst h3; rfl
            have H33 : Hid (c = 33) := h3
            clear h3
            by_cases hk0 : 0 < k
            · have hk1 : k - 1 < s.size := by omega
              have HO : Hid (opAt s k p = (s[k - 1] == 91 && !p)) := opAt_pos s k hk0 hk1 p
              obtain ⟨d, hd⟩ : ∃ d : UInt8, s[k - 1]'hk1 = d := ⟨_, rfl⟩
              by_cases hd91 : d = 91
              · have hdb : ((d.toNat : Int) == 91) = true := by subst hd91; rfl
                have HD : Hid (d = 91) := hd91
                clear hd91
                cases p
                · go_wp2_with (at_builtin; refine wpList_append_fits _ rfl (.tmp 63) (.tmp 64) 27 rfl w.heap.size 5 i0 1 Try.underlying27 hi hz1 w.heap.size acc.length (2 * s.size + 2) _ rfl (hown.alloc _) ⟨_, 0, none⟩ 1 1 [.int .u8 94] rfl rfl cell_one (one_u8 _) (by omega) ?_; intro w1 hown1 hgrow1)
                  go_roundw
                  case rel => exact ⟨k + 1, 0, false, acc ++ [94], by omega, by go_num, rfl, by omega, rfl, by simp, by simpa [Lib.byteCells] using hown1, by simp; omega, by
                      have hop : opAt s k false = true := by rw [HO.out, hd, HD.out]; rfl
                      have := rel_step hlt hc HX.out false HE.out [94] (by simp [brOut, H33.out, hop]) 0 (by simp [H33.out])
                      exact this, (hnx.alloc hsz _).grown hgrow1 (by simp; omega) (fun k hk => by cases hk; exact Nat.le_refl _)⟩
                  case measure => simp [intOf]; omega
                · go_wp2_with (at_builtin; refine wpList_append_fits _ rfl (.tmp 66) (.tmp 68) 27 rfl w.heap.size 5 i0 1 Try.underlying27 hi hz1 w.heap.size acc.length (2 * s.size + 2) _ rfl (hown.alloc _) ⟨_, 0, none⟩ 1 1 [.int .u8 c.toNat] rfl rfl cell_one (one_u8 _) (by omega) ?_; intro w1 hown1 hgrow1)
                  go_roundw
                  case rel => exact PL.out w1 hown1 hgrow1 (by rw [HO.out]; simp)
                  case measure => simp [intOf]; omega
              · have hdb : ((d.toNat : Int) == 91) = false := by
                  rw [show ((91 : Int)) = (((91 : UInt8).toNat : Nat) : Int) from rfl, beq_u8]; simp [hd91]
                have HD : Hid (¬ d = 91) := hd91
                clear hd91
                go_wp2_with (at_builtin; refine wpList_append_fits _ rfl (.tmp 66) (.tmp 68) 27 rfl w.heap.size 5 i0 1 Try.underlying27 hi hz1 w.heap.size acc.length (2 * s.size + 2) _ rfl (hown.alloc _) ⟨_, 0, none⟩ 1 1 [.int .u8 c.toNat] rfl rfl cell_one (one_u8 _) (by omega) ?_; intro w1 hown1 hgrow1)
                go_roundw
                case rel => exact PL.out w1 hown1 hgrow1 (by rw [HO.out, hd]; simp [HD.out])
                case measure => simp [intOf]; omega
            · have HO : Hid (opAt s k p = false) := by show opAt s k p = false; simp [opAt, hk0]
              go_wp2_with (at_builtin; refine wpList_append_fits _ rfl (.tmp 66) (.tmp 68) 27 rfl w.heap.size 5 i0 1 Try.underlying27 hi hz1 w.heap.size acc.length (2 * s.size + 2) _ rfl (hown.alloc _) ⟨_, 0, none⟩ 1 1 [.int .u8 c.toNat] rfl rfl cell_one (one_u8 _) (by omega) ?_; intro w1 hown1 hgrow1)
              go_roundw
              case rel => exact PL.out w1 hown1 hgrow1 (by rw [HO.out]; simp)
              case measure => simp [intOf]; omega
          · have h33 : ((c.toNat : Int) == 33) = false := by
              rw [show ((33 : Int)) = (((33 : UInt8).toNat : Nat) : Int) from rfl, beq_u8]; simp [h3]
            have H33 : Hid (¬ c = 33) := h3
            clear h3
            go_wp2_with (at_builtin; refine wpList_append_fits _ rfl (.tmp 66) (.tmp 68) 27 rfl w.heap.size 5 i0 1 Try.underlying27 hi hz1 w.heap.size acc.length (2 * s.size + 2) _ rfl (hown.alloc _) ⟨_, 0, none⟩ 1 1 [.int .u8 c.toNat] rfl rfl cell_one (one_u8 _) (by omega) ?_; intro w1 hown1 hgrow1)
            go_roundw
            case rel => exact PL.out w1 hown1 hgrow1 (fun h => H33.out h.1)
            case measure => simp [intOf]; omega
    · have hcv := run_convert_bytes_back (P := Try.prog) wr 27 9 5 ⟨w.heap.size, 0, none⟩ (2 * s.size + 2) acc Try.underlying27 Try.underlying5 Try.underlying9 (own_bytes hown)
      rw [List.drop_of_length_le (by simp; omega)] at hx
      simp only [Plain.br, List.append_nil] at hx
      have HX : Hid (acc = Plain.br false false s.data.toList) := hx
      clear hx
      go_wp2
      go_ret
      exact ⟨by rw [← HX.out]; rfl, hnx⟩
end Go.Proofs.Qxb6617118a
