import Derived.Test.Qxb6616016aFmtPlain3
import Derived.Test.Qxb6616016aFmtCut
namespace Go.Proofs.Qxb6616016aFmt
open Go.RowKit

theorem Plain.splitF_bounds : ∀ (n : Nat) (l : List UInt8) (ws : List (List UInt8)), Plain.splitF n l = some ws → ws.length ≤ n ∧ ∀ x ∈ ws, x.length ≤ l.length
  | 0, l, ws, h => by
    simp only [Plain.splitF, Option.some.injEq] at h
    subst h; simp
  | n + 1, [], ws, h => by
    simp only [Plain.splitF, Option.some.injEq] at h
    subst h; simp
  | n + 1, c :: t, ws, h => by
    rw [Plain.splitF] at h
    split at h
    · obtain ⟨h1, h2⟩ := Plain.splitF_bounds n t ws h
      exact ⟨by omega, fun x hx => by have := h2 x hx; simp; omega⟩
    · cases hw : Plain.word (c :: t) with
      | none => rw [hw] at h; cases h
      | some p =>
        obtain ⟨x, r⟩ := p
        rw [hw] at h
        simp only [Option.map_eq_some_iff] at h
        obtain ⟨ws', h', rfl⟩ := h
        have hl := Plain.word_len _ x r hw
        obtain ⟨h1, h2⟩ := Plain.splitF_bounds n r ws' h'
        refine ⟨by simp; omega, fun y hy => ?_⟩
        rcases List.mem_cons.1 hy with rfl | hy
        · omega
        · have := h2 y hy; omega
theorem Plain.req_bounds {P : List UInt8} {ws : List (List UInt8)} (h : Plain.req P = some (some ws)) : ws.length ≤ P.length ∧ ∀ x ∈ ws, x.length ≤ P.length := by
  rcases line_cases P with hn | ⟨l, rest, rfl, hnl⟩
  · rw [Plain.req, Plain.line_not P hn] at h; cases h
  · rw [Plain.req, Plain.line_yes l rest hnl] at h
    have h' : Plain.split (Plain.trim l) = some ws := by simpa using h
    obtain ⟨h1, h2⟩ := Plain.splitF_bounds _ _ _ h'
    have := trim_le l
    exact ⟨by simp; omega, fun x hx => by have := h2 x hx; simp; omega⟩

/-- the slice's address A leads to the bytes P. -/
def Leads (w : World) (A : Option Addr) (P : List UInt8) : Prop := P ≠ [] → ∃ ad, A = some ad ∧ CellsAt w ad P

theorem CellsAt.at {w : World} {ad : Addr} {P : List UInt8} (h : CellsAt w ad P) (j : Nat) (hj : j < P.length) : w.cell? (ad.add j) = some (.int .u8 (P[j].toNat : Int)) :=
  h j _ (by simp [Lib.byteCells, List.getElem?_eq_getElem hj])

set_option maxHeartbeats 1000000 in
/-- zzEq of the same bytes. -/
theorem eq_any (w : World) (A A' : Option Addr) (n c c' : Nat) (P : List UInt8) (hn : P.length = n) (hbig : n ≤ 1000000) (h : Leads w A P) (h' : Leads w A' P) :
    Calls Tryf.prog 9 #[.slice A n c, .slice A' n c'] w fun e w' => e = .returned (.bool true) ∧ ∃ m, w' = w.drewN m := by
  by_cases h0 : n = 0
  · subst h0
    clear h h'
    go_enter Tryf.func9, Tryf.ntmps9
    go_wp2
    refine wp_loop_rounds 1 ?_
    rw [rounds_succ]
    go_wp2
    go_ret
    exact ⟨rfl, 0, rfl⟩
  · have hne : P ≠ [] := by intro e; subst e; simp at hn; omega
    obtain ⟨ad, rfl, ha⟩ := h hne
    obtain ⟨ad', rfl, ha'⟩ := h' hne
    have HA : Hid (CellsAt w ad P) := ha
    have HA' : Hid (CellsAt w ad' P) := ha'
    clear ha ha' h h'
    go_enter Tryf.func9, Tryf.ntmps9
    go_wp2
    go_loopw [5] (fun t wr => ∃ (k m : Nat), t = .int .i64 k ∧ k ≤ n ∧ wr = w.drewN m) (fun t _ => n - (intOf t).toNat)
    case atStart => exact ⟨0, 0, rfl, Nat.zero_le _, rfl⟩
    case round =>
      obtain ⟨k, m, rfl, hk, rfl⟩ := hrel
      by_cases hlt : k < n
      · have e1 := HA.out.at k (by omega)
        have e2 := HA'.out.at k (by omega)
        generalize P[k] = x at e1 e2
        have hkz : (k : Int) < n := by omega
        go_wp2_with fail
        go_quiet (fail)
        go_wp2
        go_roundw
        case rel => exact ⟨k + 1, _, by go_num, by omega, rfl⟩
        case measure => simp [intOf]; omega
      · go_wp2
        go_ret
        exact ⟨rfl, m, rfl⟩

/-- the slice value v holds the words ws, wherever they begin. -/
def WordsAt (w : World) (a : Option Addr) (ws : List (List UInt8)) : Prop := ws ≠ [] → ∃ b o, a = some ⟨b, o, none⟩ ∧ ∀ (j : Nat) (x : List UInt8), ws[j]? = some x → ∃ a' c', w.cell? ⟨b, o + j, none⟩ = some (.slice a' x.length c') ∧ Leads w a' x

theorem IsBytesF.leads {base : Nat} {w : World} {v : Value} {x : List UInt8} (h : IsBytesF base w v x) : ∃ a c, v = .slice a x.length c ∧ Leads w a x := by
  obtain ⟨a, c, hv, h1⟩ := h
  refine ⟨a, c, hv, fun hn => ?_⟩
  obtain ⟨b, o, _, ha, hB⟩ := h1 hn
  exact ⟨⟨b, o, none⟩, ha, bytesAt_cells hB⟩
theorem Words.at {w : World} {a : Option Addr} {n c : Nat} {ws : List (List UInt8)} (h : Words w (.slice a n c) ws) : n = ws.length ∧ n ≤ c ∧ WordsAt w a ws := by
  obtain ⟨a', c', hv, hle, h1⟩ := h
  simp only [Value.slice.injEq] at hv
  obtain ⟨rfl, rfl, rfl⟩ := hv
  refine ⟨rfl, hle, fun hn => ?_⟩
  obtain ⟨b, _, ha, hW⟩ := h1 hn
  refine ⟨b, 0, ha, fun j x hx => ?_⟩
  obtain ⟨u, hu, hI⟩ := hW j x hx
  obtain ⟨a', c', rfl, hL⟩ := hI.leads
  exact ⟨a', c', by rw [Nat.zero_add]; exact hu, hL⟩
theorem Leads.below {w w' : World} {A : Option Addr} {P : List UInt8} (h : Leads w A P) (hb : Below w.heap.size w w') : Leads w' A P := fun hn => by
  obtain ⟨ad, ha, hc⟩ := h hn
  refine ⟨ad, ha, fun j v hv => ?_⟩
  have := hc j v hv
  rw [World.cell?_of_block (hb.block _ (World.block_lt_of_cell? w _ this))]; exact this

set_option maxHeartbeats 1000000 in
set_option maxRecDepth 100000 in
/-- zzSameWords of the same words. -/
theorem same_any (w : World) (A A' : Option Addr) (n c c' : Nat) (ws : List (List UInt8)) (hn : ws.length = n) (hbig : n ≤ 1000000) (hx : ∀ x ∈ ws, x.length ≤ 1000000) (h : WordsAt w A ws) (h' : WordsAt w A' ws) :
    Calls Tryf.prog 10 #[.slice A n c, .slice A' n c'] w fun e w' => e = .returned (.bool true) ∧ ∃ m, w' = w.drewN m := by
  by_cases h0 : n = 0
  · subst h0
    clear h h'
    go_enter Tryf.func10, Tryf.ntmps10
    go_wp2
    refine wp_loop_rounds 1 ?_
    rw [rounds_succ]
    go_wp2
    go_ret
    exact ⟨rfl, 0, rfl⟩
  · have hne : ws ≠ [] := by intro e; subst e; simp at hn; omega
    obtain ⟨b, o, rfl, ha⟩ := h hne
    obtain ⟨b', o', rfl, ha'⟩ := h' hne
    clear h h'
    go_enter Tryf.func10, Tryf.ntmps10
    go_wp2
    go_loopw [5] (fun t wr => ∃ (k m : Nat), t = .int .i64 k ∧ k ≤ n ∧ wr = w.drewN m) (fun t _ => n - (intOf t).toNat)
    case atStart => exact ⟨0, 0, rfl, Nat.zero_le _, rfl⟩
    case round =>
      obtain ⟨k, m, rfl, hk, rfl⟩ := hrel
      by_cases hlt : k < n
      · obtain ⟨x, hxk⟩ : ∃ x, ws[k]? = some x := ⟨_, List.getElem?_eq_getElem (by omega)⟩
        obtain ⟨a1, c1, e1, l1⟩ := ha k x hxk
        obtain ⟨a2, c2, e2, l2⟩ := ha' k x hxk
        have hxl := hx x (List.mem_of_getElem? hxk)
        have HE : Hid (∀ m, Calls Tryf.prog 9 #[.slice a1 x.length c1, .slice a2 x.length c2] (w.drewN m) fun e w' => e = .returned (.bool true) ∧ ∃ j, w' = (w.drewN m).drewN j) := fun m => eq_any (w.drewN m) a1 a2 x.length c1 c2 x rfl hxl (fun hn => l1 hn) (fun hn => l2 hn)
        clear l1 l2 hxk
        have hkz : (k : Int) < n := by omega
        go_wp2_with fail
        go_quiet (first | (go_at_call 9; refine (HE.out _).mono ?_; rintro e w'' ⟨rfl, j, rfl⟩; first | exact ⟨rfl, _, drew_two _ _ _⟩ | exact ⟨rfl, _, drew_mix _ _ _ _⟩))
        go_wp2
        go_roundw
        case rel => exact ⟨k + 1, _, by go_num, by omega, rfl⟩
        case measure => simp [intOf]; omega
      · go_wp2
        go_ret
        exact ⟨rfl, m, rfl⟩

set_option maxHeartbeats 1000000 in
/-- zzBareByte -/
theorem bareByte_any (c : UInt8) (w : World) :
    Calls Tryf.prog 14 #[.int .u8 c.toNat] w fun e w' => e = .returned (.bool (Plain.bare c)) ∧ w' = w := by
  have h1 := beq_u8 c 32
  have h2 := beq_u8 c 9
  have h3 := beq_u8 c 13
  have h4 := beq_u8 c 10
  have h5 := beq_u8 c 11
  have h6 := beq_u8 c 12
  have h7 := beq_u8 c 34
  have h8 := beq_u8 c 39
  simp at h1 h2 h3 h4 h5 h6 h7 h8
  go_enter Tryf.func14, Tryf.ntmps14
  go_wp2
  all_goals
    go_ret
    exact ⟨ret_bool (by first | (exfalso; simp_all; done) | (simp [Plain.bare, *]; done)), rfl⟩

set_option maxHeartbeats 1000000 in
/-- zzBareWord -/
theorem bareWord_any (w : World) (A : Option Addr) (n c : Nat) (P : List UInt8) (hn : P.length = n) (hbig : n ≤ 1000000) (h : Leads w A P) :
    Calls Tryf.prog 7 #[.slice A n c] w fun e w' => (∃ b, e = .returned (.bool b) ∧ (b = true → Plain.Bare P)) ∧ w' = w := by
  by_cases h0 : n = 0
  · subst h0
    clear h
    go_enter Tryf.func7, Tryf.ntmps7
    go_wp2
    go_ret
    exact ⟨⟨_, rfl, fun h => by cases h⟩, rfl⟩
  · have hne : P ≠ [] := by intro e; subst e; simp at hn; omega
    obtain ⟨ad, rfl, ha⟩ := h hne
    have HA : Hid (CellsAt w ad P) := ha
    clear ha h
    have hn0 : ((n : Int) == 0) = false := by simp; omega
    go_enter Tryf.func7, Tryf.ntmps7
    go_wp2
    go_loopw [3] (fun t wr => ∃ k : Nat, t = .int .i64 k ∧ k ≤ n ∧ (∀ x ∈ P.take k, Plain.bare x = true) ∧ wr = w) (fun t _ => n - (intOf t).toNat)
    case atStart => exact ⟨0, rfl, Nat.zero_le _, by simp, rfl⟩
    case round =>
      obtain ⟨k, rfl, hk, hall, rfl⟩ := hrel
      have HL : Hid (∀ x ∈ P.take k, Plain.bare x = true) := hall
      clear hall
      by_cases hlt : k < n
      · have e1 := HA.out.at k (by omega)
        obtain ⟨x, hx⟩ : ∃ x : UInt8, P[k]'(by omega) = x := ⟨_, rfl⟩
        rw [hx] at e1
        have hkz : (k : Int) < n := by omega
        rcases (Bool.eq_false_or_eq_true (Plain.bare x)).symm with hb | hb
        · have HB : Hid (Plain.bare x = false) := hb
          clear hb hx
          go_wp2_with (go_at_call 14; refine (bareByte_any x _).mono ?_; rintro e w' ⟨rfl, hw⟩; rw [hw, HB.out]; clear hw)
          go_ret
          exact ⟨⟨_, rfl, fun h => by cases h⟩, rfl⟩
        · have HB : Hid (Plain.bare x = true) := hb
          have HL2 : Hid (∀ y ∈ P.take (k + 1), Plain.bare y = true) := by
            show ∀ y ∈ P.take (k + 1), Plain.bare y = true
            rw [List.take_add_one, List.getElem?_eq_getElem (by omega), hx]
            intro y hy
            simp at hy
            rcases hy with hy | rfl
            · exact HL.out y hy
            · exact hb
          clear hb hx
          go_wp2_with (go_at_call 14; refine (bareByte_any x _).mono ?_; rintro e w' ⟨rfl, hw⟩; rw [hw, HB.out]; clear hw)
          go_roundw
          case rel => exact ⟨k + 1, by go_num, by omega, HL2.out, trivial⟩
          case measure => simp [intOf]; omega
      · obtain rfl : k = n := by omega
        go_wp2
        go_ret
        refine ⟨⟨_, rfl, fun _ => ⟨hne, ?_⟩⟩, rfl⟩
        have := HL.out
        rwa [List.take_of_length_le (by omega)] at this

set_option maxHeartbeats 1000000 in
/-- the bound of FnReadInlineWordPrefix -/
theorem bound6 (w : World) (A D : Option Addr) (n c dn dc : Nat) :
    Calls Tryf.prog 6 #[.slice A n c, .slice D dn dc] w fun e w' => (∃ b, e = .returned (.bool b)) ∧ w' = w := by
  by_cases h1 : n ≤ 1048576
  · by_cases h2 : dn ≤ 1048576
    · by_cases h3 : n + dn ≤ 1048576
      · have hz : (n : Int) + dn ≤ 1048576 := by omega
        go_enter Tryf.func6, Tryf.ntmps6
        go_wp2
        go_ret
        exact ⟨⟨_, rfl⟩, rfl⟩
      · have hz : (1048576 : Int) < (n : Int) + dn := by omega
        go_enter Tryf.func6, Tryf.ntmps6
        go_wp2
        go_ret
        exact ⟨⟨_, rfl⟩, rfl⟩
    · have hz : (1048576 : Int) < dn := by omega
      go_enter Tryf.func6, Tryf.ntmps6
      go_wp2
      go_ret
      exact ⟨⟨_, rfl⟩, rfl⟩
  · have hz : (1048576 : Int) < n := by omega
    go_enter Tryf.func6, Tryf.ntmps6
    go_wp2
    go_ret
    exact ⟨⟨_, rfl⟩, rfl⟩

set_option maxHeartbeats 1000000 in
/-- the bound of FnReadInlineNextRequest -/
theorem bound11 (w : World) (A D : Option Addr) (n c dn dc : Nat) :
    Calls Tryf.prog 11 #[.slice A n c, .slice D dn dc] w fun e w' => (∃ b, e = .returned (.bool b)) ∧ w' = w := by
  by_cases h1 : n ≤ 1048576
  · by_cases h2 : dn ≤ 1048576
    · by_cases h3 : n + dn ≤ 1048576
      · have hz : (n : Int) + dn ≤ 1048576 := by omega
        go_enter Tryf.func11, Tryf.ntmps11
        go_wp2
        go_ret
        exact ⟨⟨_, rfl⟩, rfl⟩
      · have hz : (1048576 : Int) < (n : Int) + dn := by omega
        go_enter Tryf.func11, Tryf.ntmps11
        go_wp2
        go_ret
        exact ⟨⟨_, rfl⟩, rfl⟩
    · have hz : (1048576 : Int) < dn := by omega
      go_enter Tryf.func11, Tryf.ntmps11
      go_wp2
      go_ret
      exact ⟨⟨_, rfl⟩, rfl⟩
  · have hz : (1048576 : Int) < n := by omega
    go_enter Tryf.func11, Tryf.ntmps11
    go_wp2
    go_ret
    exact ⟨⟨_, rfl⟩, rfl⟩
end Go.Proofs.Qxb6616016aFmt
