import Derived.Test.Qxb6616016aFmtWord
import Derived.Laws.CopyOwn
namespace Go.Proofs.Qxb6616016aFmt
open Go.RowKit

theorem Tryf.size22 : (Tryf.prog.info? 22).map (·.size) = some 1 := by kernel_rfl

/-- the row behind a copy of xs into a row of room cells. -/
theorem own_spliced {w : World} {base g r : Nat} {xs cur : List Value} (hb : base ≤ g) (hg : w.heap[g]? = some (.cells (splice cur 0 xs).toArray 22 (0, 0))) (hr : cur.length = r) (hx : xs.length ≤ r) (hm : r ≤ maxLen) :
    w.ownsRow base 22 1 (.slice (some ⟨g, 0, none⟩) xs.length r) xs.length xs := by
  refine ⟨by simp, .inr ⟨g, r, _, rfl, hb, hg, hx, hm, ?_, ?_⟩⟩
  · rw [List.size_toArray, length_splice _ _ _ (by omega)]; omega
  · simp [splice]

set_option maxHeartbeats 1000000 in
set_option maxRecDepth 100000 in
/-- grow of a full slice of words that the call has made. -/
theorem grow_any (base n total : Nat) (v : Value) (xs : List Value) (w : World) (hown : w.ownsRow base 22 1 v n xs) (h1 : ∀ u ∈ xs, u.oneCell' = true) (hn : n < total) (ht : total ≤ 1000000) (hbase : base ≤ w.heap.size) :
    Calls Tryf.prog 37 #[v, .int .i64 total, .int .i64 8] w fun e w' => ∃ g cap, e = .returned (.slice (some ⟨g, 0, none⟩) n cap) ∧ n < cap ∧ w'.ownsRow base 22 1 (.slice (some ⟨g, 0, none⟩) n cap) n xs ∧ Below w.heap.size w w' := by
  obtain ⟨i0, hinfo, hz0, hz1, hz2⟩ := info_parts Tryf.info22
  have hxl : xs.length = n := by have := hown.1; omega
  have hform : (∃ g cap, v = .slice (some ⟨g, 0, none⟩) n cap ∧ n < cap) ∨ ∃ ad, v = .slice ad n n ∧ (0 < n → ∃ g, ad = some ⟨g, 0, none⟩) := by
    rcases hown.2 with ⟨rfl, rfl⟩ | ⟨g, cap, cur, rfl, _, _, hnc, _⟩
    · exact .inr ⟨none, rfl, fun h => absurd h (by omega)⟩
    · by_cases h : n < cap
      · exact .inl ⟨g, cap, rfl, h⟩
      · obtain rfl : n = cap := by omega
        exact .inr ⟨_, rfl, fun _ => ⟨g, rfl⟩⟩
  rcases hform with ⟨g, cap, rfl, hlt⟩ | ⟨ad, rfl, had⟩
  · have HO : Hid _ := hown
    clear hown
    go_enter Tryf.func37, Tryf.ntmps37
    go_wp2
    go_ret
    exact ⟨g, cap, rfl, hlt, HO.out, Below.refl _ _⟩
  · have hcells : ∀ g, ad = some ⟨g, 0, none⟩ → ∀ j u, xs[j]? = some u → w.cell? ((⟨g, 0, none⟩ : Addr).add j) = some u := fun g hg => by
      subst hg
      exact hown.cells (g := g) rfl
    clear hown
    go_enter Tryf.func37, Tryf.ntmps37
    go_wp2
    go_loop [7] (fun t => ∃ r : Nat, t = .int .i64 r ∧ n < r ∧ r ≤ total) (fun t => (intOf t).toNat)
    case atStart => exact ⟨total, rfl, hn, Nat.le_refl _⟩
    case round =>
      obtain ⟨r, rfl, hr1, hr2⟩ := hrel
      by_cases h8 : 8 < r
      · by_cases h2 : n < (r + 1) / 2
        · have h2z : (n : Int) < ((r : Int) + 1) / 2 := by omega
          go_wp2
          go_round
          case rel => exact ⟨(r + 1) / 2, by go_num, h2, by omega⟩
          case measure => simp [intOf]; omega
        · have h2z : decide ((n : Int) < ((r : Int) + 1) / 2) = false := decide_eq_false (by omega)
          have hmk := run_make (P := Tryf.prog) w 25 22 i0 (.slice none 0 0) Tryf.underlying25 hinfo hz0 .i64 .i64 n r (by omega) (by omega) (by rw [hz2]; omega) (by omega)
          simp only [Int.toNat_natCast, hz1, Nat.mul_one] at hmk
          generalize hmc : madeCells (Value.slice none 0 0).cells r = mc at hmk
          have HMC : Hid (mc.size = r) := by show mc.size = r; rw [← hmc, size_madeCells]
          clear hmc
          have HFT : Hid (0 + xs.length ≤ mc.toList.length) := by show 0 + xs.length ≤ mc.toList.length; rw [show mc.toList.length = mc.size from by simp, HMC.out]; omega
          have HG0 : Hid ((w.alloc (.cells mc 22)).heap[w.heap.size]? = some (.cells mc.toList.toArray 22 (0, 0))) := by
            show (w.alloc (.cells mc 22)).heap[w.heap.size]? = some (.cells mc.toList.toArray 22 (0, 0))
            rw [Array.toArray_toList]
            exact heap_alloc_new w _
          go_wp2_with (refine wpList_copy_splice (by rfl) (.tmp 34) (.tmp 35) 25 25 (by rfl) 22 Tryf.underlying25 Tryf.size22 _ _ _ _ _ _ (by rfl) (by rfl) w.heap.size 0 mc.toList 22 HG0.out xs (by rw [hxl]; exact (Nat.min_self n).symm) (fun hp => ⟨rfl, by obtain ⟨g, hg⟩ := had (by omega); exact ⟨_, hg, fun j u hu => cell_later ((Below.refl _ w).alloc (Nat.le_refl _) _) (hcells g hg j u hu)⟩⟩) HFT.out h1 w.heap.size w ((Below.refl _ w).alloc (Nat.le_refl _) _) (Nat.le_refl _) ?_; intro w2 HG2 hB2)
          go_ret
          refine ⟨w.heap.size, r, rfl, hr1, ?_, hB2⟩
          have := own_spliced (base := base) hbase HG2.out (r := r) (by rw [show mc.toList.length = mc.size from by simp, HMC.out]) (by omega) (by unfold maxLen; omega)
          rw [hxl] at this
          exact this
      · have h8z : decide ((8 : Int) < (r : Int)) = false := decide_eq_false (by omega)
        have hmk := run_make (P := Tryf.prog) w 25 22 i0 (.slice none 0 0) Tryf.underlying25 hinfo hz0 .i64 .i64 n r (by omega) (by omega) (by rw [hz2]; omega) (by omega)
        simp only [Int.toNat_natCast, hz1, Nat.mul_one] at hmk
        generalize hmc : madeCells (Value.slice none 0 0).cells r = mc at hmk
        have HMC : Hid (mc.size = r) := by show mc.size = r; rw [← hmc, size_madeCells]
        clear hmc
        have HFT : Hid (0 + xs.length ≤ mc.toList.length) := by show 0 + xs.length ≤ mc.toList.length; rw [show mc.toList.length = mc.size from by simp, HMC.out]; omega
        have HG0 : Hid ((w.alloc (.cells mc 22)).heap[w.heap.size]? = some (.cells mc.toList.toArray 22 (0, 0))) := by
          show (w.alloc (.cells mc 22)).heap[w.heap.size]? = some (.cells mc.toList.toArray 22 (0, 0))
          rw [Array.toArray_toList]
          exact heap_alloc_new w _
        go_wp2_with (refine wpList_copy_splice (by rfl) (.tmp 34) (.tmp 35) 25 25 (by rfl) 22 Tryf.underlying25 Tryf.size22 _ _ _ _ _ _ (by rfl) (by rfl) w.heap.size 0 mc.toList 22 HG0.out xs (by rw [hxl]; exact (Nat.min_self n).symm) (fun hp => ⟨rfl, by obtain ⟨g, hg⟩ := had (by omega); exact ⟨_, hg, fun j u hu => cell_later ((Below.refl _ w).alloc (Nat.le_refl _) _) (hcells g hg j u hu)⟩⟩) HFT.out h1 w.heap.size w ((Below.refl _ w).alloc (Nat.le_refl _) _) (Nat.le_refl _) ?_; intro w2 HG2 hB2)
        go_ret
        refine ⟨w.heap.size, r, rfl, hr1, ?_, hB2⟩
        have := own_spliced (base := base) hbase HG2.out (r := r) (by rw [show mc.toList.length = mc.size from by simp, HMC.out]) (by omega) (by unfold maxLen; omega)
        rw [hxl] at this
        exact this
end Go.Proofs.Qxb6616016aFmt
