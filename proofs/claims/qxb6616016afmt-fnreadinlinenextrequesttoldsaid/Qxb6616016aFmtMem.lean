import Derived.Test.Qxb6616016aFmtProg
import Derived.Test.Qxb6616016aFmtPlain
import Derived.WalkKit
import Derived.WalkSpells
import Derived.WalkLawsBesides
import Derived.Lib.UnsafeStr
import Derived.Lib.SmallJoins
namespace Go.Proofs.Qxb6616016aFmt
open Go.RowKit

theorem beq_u8 (c d : UInt8) : ((c.toNat : Int) == (d.toNat : Int)) = (c == d) := by
  rw [Bool.eq_iff_iff, beq_iff_eq, beq_iff_eq, ← UInt8.toNat_inj]; omega
theorem beq_no (c : UInt8) (n : Nat) (h : n < 256) (hc : c ≠ UInt8.ofNat n) : ((c.toNat : Int) == (n : Int)) = false := by
  rw [beq_eq_false_iff_ne]
  intro e
  apply hc
  rw [← UInt8.toNat_inj, UInt8.toNat_ofNat']; omega

theorem ret_bool {a b : Bool} (h : a = b) : Ending.returned (.bool a) = .returned (.bool b) := by rw [h]
theorem ret_u8 {a b : Int} (h : a = b) : Ending.returned (.int .u8 a) = .returned (.int .u8 b) := by rw [h]

/-- the bytes l lie in block b from o on. -/
def BytesAt (w : World) (b o : Nat) (l : List UInt8) : Prop := ∀ (j : Nat) (x : UInt8), l[j]? = some x → w.cell? ⟨b, o + j, none⟩ = some (.int .u8 (x.toNat : Int))

theorem BytesAt.at {w : World} {b o : Nat} {l : List UInt8} (h : BytesAt w b o l) (j : Nat) (hj : j < l.length) : w.cell? ⟨b, o + j, none⟩ = some (.int .u8 (l[j].toNat : Int)) :=
  h j _ (List.getElem?_eq_getElem hj)
theorem BytesAt.drop {w : World} {b o : Nat} {l : List UInt8} (h : BytesAt w b o l) (k : Nat) : BytesAt w b (o + k) (l.drop k) := fun j x hx => by
  rw [List.getElem?_drop] at hx
  have := h (k + j) x hx
  rwa [← Nat.add_assoc] at this
theorem BytesAt.take {w : World} {b o : Nat} {l : List UInt8} (h : BytesAt w b o l) (k : Nat) : BytesAt w b o (l.take k) := fun j x hx => by
  rw [List.getElem?_take] at hx
  split at hx
  · exact h j x hx
  · cases hx
theorem BytesAt.block {w w' : World} {b o : Nat} {l : List UInt8} (h : BytesAt w b o l) (hb : w'.heap[b]? = w.heap[b]?) : BytesAt w' b o l := fun j x hx =>
  (World.cell?_of_block hb).trans (h j x hx)
theorem BytesAt.lt {w : World} {b o : Nat} {l : List UInt8} (h : BytesAt w b o l) (hl : l ≠ []) : b < w.heap.size := by
  cases l with
  | nil => exact absurd rfl hl
  | cons c t => exact World.block_lt_of_cell? w _ (h 0 c rfl)

theorem grown_trans {w w1 w2 : World} {r : Option Nat} (h : w.grownBy w1 r) (k : w1.grownBy w2 r) : w.grownBy w2 r :=
  ⟨k.os.trans h.os, k.tape.trans h.tape, k.output.trans h.output, Nat.le_trans h.size k.size, fun i hi hn => (k.block i (Nat.lt_of_lt_of_le hi h.size) hn).trans (h.block i hi hn)⟩
theorem grown_refl (w : World) (r : Option Nat) : w.grownBy w r := ⟨rfl, rfl, rfl, Nat.le_refl _, fun _ _ _ => rfl⟩
theorem grown_none {w w1 : World} (h : w.grownBy w1 none) (r : Option Nat) : w.grownBy w1 r :=
  ⟨h.os, h.tape, h.output, h.size, fun i hi _ => h.block i hi (by simp)⟩
theorem grown_drewN (w : World) (n : Nat) (r : Option Nat) : w.grownBy (w.drewN n) r := ⟨rfl, rfl, rfl, Nat.le_refl _, fun _ _ _ => rfl⟩
theorem grown_below {w w1 : World} {g B : Nat} (h : w.grownBy w1 (some g)) (hB : B ≤ w.heap.size) (hg : B ≤ g) : Below B w w1 :=
  ⟨h.os, h.tape, h.output, h.size, fun k hk => h.block k (by omega) (by simp; omega)⟩
theorem grown_of_below {w w1 : World} (h : Below w.heap.size w w1) (r : Option Nat) : w.grownBy w1 r :=
  ⟨h.os, h.tape, h.output, h.size, fun k hk _ => h.block k hk⟩
theorem BytesAt.grown {w w' : World} {b o g : Nat} {l : List UInt8} (h : BytesAt w b o l) (hl : l ≠ []) (hg : w.grownBy w' (some g)) (hn : b ≠ g) : BytesAt w' b o l :=
  h.block (hg.block b (h.lt hl) (by simpa using hn))

theorem Tryf.info5 : (Tryf.prog.info? 5).map (fun i => (i.zero, i.size, i.bytes)) = some (some (.int .u8 0), 1, 1) := by kernel_rfl
theorem Tryf.info22 : (Tryf.prog.info? 22).map (fun i => (i.zero, i.size, i.bytes)) = some (some (.slice none 0 0), 1, 24) := by kernel_rfl

theorem cell_one {w : World} {x : Value} {t : TypeId} : ∀ (j : Nat) (u : Value), [x][j]? = some u → (w.alloc (.cells #[x] t)).cell? ((⟨w.heap.size, 0, none⟩ : Addr).add j) = some u := by
  intro j u hj
  match j, hj with
  | 0, hj => simp at hj; subst hj; simp [Addr.add]
theorem one_u8 (a : Int) : ∀ u ∈ [Value.int .u8 a], u.oneCell' = true := by intro u hu; simp at hu; subst hu; rfl

set_option maxHeartbeats 400000 in
/-- isSpace -/
theorem isSpace_any (c : UInt8) (w : World) :
    Calls Tryf.prog 35 #[.int .u8 c.toNat] w fun e w' => e = .returned (.bool (Plain.isSpace c)) ∧ w' = w := by
  have h1 := beq_u8 c 32
  have h2 := beq_u8 c 9
  have h3 := beq_u8 c 10
  have h4 := beq_u8 c 11
  have h5 := beq_u8 c 12
  have h6 := beq_u8 c 13
  simp at h1 h2 h3 h4 h5 h6
  go_enter Tryf.func35, Tryf.ntmps35
  go_wp2
  all_goals
    go_ret
    exact ⟨ret_bool (by simp [Plain.isSpace, *]), rfl⟩

set_option maxHeartbeats 400000 in
/-- unescape -/
theorem unescape_any (c : UInt8) (w : World) :
    Calls Tryf.prog 43 #[.int .u8 c.toNat] w fun e w' => e = .returned (.int .u8 (Plain.unescape c).toNat) ∧ w' = w := by
  have h1 := beq_u8 c 110
  have h2 := beq_u8 c 114
  have h3 := beq_u8 c 116
  have h4 := beq_u8 c 98
  have h5 := beq_u8 c 97
  simp at h1 h2 h3 h4 h5
  go_enter Tryf.func43, Tryf.ntmps43
  go_wp2
  all_goals
    go_ret
    exact ⟨ret_u8 (by simp only [Plain.unescape, *]; simp), rfl⟩

set_option maxHeartbeats 400000 in
/-- isHex -/
theorem isHex_any (c : UInt8) (w : World) :
    Calls Tryf.prog 41 #[.int .u8 c.toNat] w fun e w' => e = .returned (.bool (Plain.isHex c)) ∧ w' = w := by
  go_enter Tryf.func41, Tryf.ntmps41
  go_wp2
  all_goals
    go_ret
    exact ⟨ret_bool (by rw [Bool.eq_iff_iff]; simp [Plain.isHex, UInt8.le_iff_toNat_le]; try omega), rfl⟩

set_option maxHeartbeats 400000 in
/-- hexValue of a hex digit -/
theorem hexValue_any (c : UInt8) (w : World) (h : Plain.isHex c = true) :
    Calls Tryf.prog 42 #[.int .u8 c.toNat] w fun e w' => e = .returned (.int .u8 (Plain.hexValue c).toNat) ∧ w' = w := by
  have hc : 48 ≤ c.toNat ∧ c.toNat ≤ 57 ∨ 97 ≤ c.toNat ∧ c.toNat ≤ 102 ∨ 65 ≤ c.toNat ∧ c.toNat ≤ 70 := by
    simp [Plain.isHex, UInt8.le_iff_toNat_le] at h; omega
  clear h
  have HV : Hid ((Plain.hexValue c).toNat = if c.toNat ≤ 57 then c.toNat - 48 else if c.toNat ≤ 70 then c.toNat - 55 else c.toNat - 87) := by
    show (Plain.hexValue c).toNat = _
    unfold Plain.hexValue
    simp only [UInt8.le_iff_toNat_le]
    rcases hc with h | h | h
    · rw [if_pos (show c.toNat ≤ (57 : UInt8).toNat from h.2), if_pos (by omega), UInt8.toNat_sub_of_le _ _ (by rw [UInt8.le_iff_toNat_le]; exact h.1)]; rfl
    · rw [if_neg (by simp; omega), if_neg (by simp; omega), if_neg (by omega), if_neg (by omega), UInt8.toNat_add, UInt8.toNat_sub_of_le _ _ (by rw [UInt8.le_iff_toNat_le]; exact h.1)]; simp; omega
    · rw [if_neg (by simp; omega), if_pos (by simp; omega), if_neg (by omega), if_pos (by omega), UInt8.toNat_add, UInt8.toNat_sub_of_le _ _ (by rw [UInt8.le_iff_toNat_le]; exact h.1)]; simp; omega
  rcases hc with h | h | h
  all_goals
    go_enter Tryf.func42, Tryf.ntmps42
    go_wp2
    all_goals
      go_ret
      exact ⟨ret_u8 (by rw [HV.out]; split <;> (try split) <;> omega), rfl⟩
end Go.Proofs.Qxb6616016aFmt
