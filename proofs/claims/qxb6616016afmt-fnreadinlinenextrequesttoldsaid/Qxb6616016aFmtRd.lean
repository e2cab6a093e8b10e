import Derived.Test.Qxb6616016aFmtSplit
import Derived.Laws.CopyOwn
import Derived.BigQuiet
import Derived.Deep.QuietTactic
namespace Go.Proofs.Qxb6616016aFmt
open Go.RowKit

/-- block b holds the cells cs, none frozen. -/
def Cells (w : World) (b : Nat) (cs : List Value) (t : TypeId) : Prop := w.heap[b]? = some (.cells cs.toArray t (0, 0))

theorem Cells.cell {w : World} {b : Nat} {cs : List Value} {t : TypeId} (h : Cells w b cs t) (j : Nat) {v : Value} (hv : cs[j]? = some v) : w.cell? ⟨b, j, none⟩ = some v := by
  unfold Cells at h
  simp [World.cell?, h, hv]
theorem Cells.frozen {w : World} {b : Nat} {cs : List Value} {t : TypeId} (h : Cells w b cs t) (j : Nat) : w.frozen? ⟨b, j, none⟩ = false := frozen_of_row w b j _ t h
theorem Cells.set {w : World} {b : Nat} {cs : List Value} {t : TypeId} (h : Cells w b cs t) (j : Nat) (v : Value) : Cells (w.setCell ⟨b, j, none⟩ v) b (cs.set j v) t := by
  unfold Cells
  rw [heap_setCell_same w b j _ t v h]
  simp
theorem Cells.other {w : World} {b : Nat} {cs : List Value} {t : TypeId} (h : Cells w b cs t) (a : Addr) (v : Value) (hne : b ≠ a.block) : Cells (w.setCell a v) b cs t := by
  unfold Cells
  rw [heap_setCell_other w a b v hne]; exact h
theorem Cells.ne {w : World} {b b' : Nat} {cs cs' : List Value} {t t' : TypeId} (h : Cells w b cs t) (h' : Cells w b' cs' t') (ht : t ≠ t') : b ≠ b' := by
  intro e
  subst e
  unfold Cells at h h'
  rw [h] at h'
  simp at h'
  exact ht h'.2
theorem Cells.lt {w : World} {b : Nat} {cs : List Value} {t : TypeId} (h : Cells w b cs t) : b < w.heap.size := by
  rcases Nat.lt_or_ge b w.heap.size with hb | hb
  · exact hb
  · unfold Cells at h
    rw [Array.getElem?_eq_none hb] at h
    cases h

/-- all blocks but those of S stay. -/
structure Kept (S : List Nat) (w w' : World) : Prop where
  os : w'.os = w.os
  tape : w'.tape = w.tape
  output : w'.output = w.output
  size : w.heap.size ≤ w'.heap.size
  block : ∀ k, k < w.heap.size → k ∉ S → w'.heap[k]? = w.heap[k]?

theorem Kept.refl (S : List Nat) (w : World) : Kept S w w := ⟨rfl, rfl, rfl, Nat.le_refl _, fun _ _ _ => rfl⟩
theorem Kept.trans {S : List Nat} {w w1 w2 : World} (h : Kept S w w1) (k : Kept S w1 w2) : Kept S w w2 :=
  ⟨k.os.trans h.os, k.tape.trans h.tape, k.output.trans h.output, Nat.le_trans h.size k.size, fun i hi hn => (k.block i (Nat.lt_of_lt_of_le hi h.size) hn).trans (h.block i hi hn)⟩
theorem Kept.mono {S S' : List Nat} {w w1 : World} (h : Kept S w w1) (hs : ∀ k, k ∈ S → k ∈ S') : Kept S' w w1 :=
  ⟨h.os, h.tape, h.output, h.size, fun i hi hn => h.block i hi (fun hm => hn (hs i hm))⟩
theorem Kept.setCell {S : List Nat} {w w1 : World} (h : Kept S w w1) (a : Addr) (v : Value) (ha : a.block ∈ S) : Kept S w (w1.setCell a v) :=
  h.trans ⟨rfl, rfl, rfl, by simp, fun k _ hn => heap_setCell_other w1 a k v (fun e => hn (e ▸ ha))⟩
theorem Kept.drew {S : List Nat} {w w1 : World} (h : Kept S w w1) : Kept S w w1.drew := ⟨h.os, h.tape, h.output, h.size, h.block⟩
theorem Kept.drewN {S : List Nat} {w w1 : World} (h : Kept S w w1) (n : Nat) : Kept S w (w1.drewN n) := ⟨h.os, h.tape, h.output, h.size, h.block⟩
theorem Kept.below {S : List Nat} {w w1 w2 : World} (h : Kept S w w1) (hb : Below w1.heap.size w1 w2) : Kept S w w2 :=
  h.trans ⟨hb.os, hb.tape, hb.output, hb.size, fun k hk _ => hb.block k hk⟩
theorem Kept.cells {S : List Nat} {w w1 : World} (h : Kept S w w1) {b : Nat} {cs : List Value} {t : TypeId} (hc : Cells w b cs t) (hb : b ∉ S) : Cells w1 b cs t :=
  (h.block b hc.lt hb).trans hc
theorem Kept.bytes {S : List Nat} {w w1 : World} (h : Kept S w w1) {b o : Nat} {l : List UInt8} (hc : BytesAt w b o l) (hb : b ∉ S) : BytesAt w1 b o l := fun j x hx => by
  have hj := hc j x hx
  rw [World.cell?_of_block (h.block b (World.block_lt_of_cell? w _ hj) hb)]; exact hj
theorem Kept.cell {S : List Nat} {w w1 : World} (h : Kept S w w1) {a : Addr} {v : Value} (hc : w.cell? a = some v) (hb : a.block ∉ S) : w1.cell? a = some v := by
  rw [World.cell?_of_block (h.block a.block (World.block_lt_of_cell? w _ hc) hb)]; exact hc
theorem Kept.setRow {S : List Nat} {w w1 : World} (h : Kept S w w1) (g : Nat) (cs : Array Value) (ha : g ∈ S) : Kept S w (w1.setRow g cs) :=
  h.trans ⟨rfl, rfl, rfl, by simp, fun k _ hn => setRow_other w1 g k cs (fun e => hn (e ▸ ha))⟩
theorem Kept.to_below {S : List Nat} {w w1 : World} {B : Nat} (h : Kept S w w1) (hB : B ≤ w.heap.size) (hS : ∀ k ∈ S, B ≤ k) : Below B w w1 :=
  ⟨h.os, h.tape, h.output, h.size, fun k hk => h.block k (by omega) (fun hm => absurd (hS k hm) (by omega))⟩
theorem Cells.drew {w : World} {b : Nat} {cs : List Value} {t : TypeId} (h : Cells w b cs t) : Cells w.drew b cs t := h
theorem Cells.drewN {w : World} {b : Nat} {cs : List Value} {t : TypeId} (h : Cells w b cs t) (n : Nat) : Cells (w.drewN n) b cs t := h

/-- a copy in a drawn region: the row of g is spliced; all else stays. -/
theorem step_copy_kept {P : Program} {ops : Array Oper} {o : Oper} {a : Act} {w : World} {K : Act → World → Prop} {Q : Exit → Act → World → Prop} {E : Prop} (hgd : o.guard = none) (d s : Operand) (dT sT : TypeId)
    (ho : o.op = .call { callee := .builtin .copy, args := #[d, s], argTypes := #[dT, sT] }) (elem : TypeId) (hu : P.underlying dT = some (.slice elem)) (hsz : (P.info? elem).map (·.size) = some 1)
    (dp sp : Option Addr) (dLen dCap sLen sCap : Nat) (hd : a.eval d = .slice dp dLen dCap) (hs : a.eval s = .slice sp sLen sCap)
    (g off : Nat) (cur : List Value) (t : TypeId) (hg : Cells w g cur t) (cs : List Value) (hn : cs.length = Nat.min sLen dLen)
    (hpos : 0 < cs.length → dp = some ⟨g, off, none⟩ ∧ ∃ ad, sp = some ad ∧ ∀ j v, cs[j]? = some v → w.cell? (ad.add j) = some v)
    (hfit : off + cs.length ≤ cur.length) (h1 : ∀ v ∈ cs, v.oneCell' = true)
    (h : ∀ w', Hid (Cells w' g (splice cur off cs) t) → Hid (Kept [g] w w') → K (a.put o.dst (goInt cs.length)) w') :
    if Region.wanted o (yielded ops a.tmps) = true then Oper.wp P o a w K Q else E := by
  have hw : Region.wanted o (yielded ops a.tmps) = true := by simp [Region.wanted, hgd]
  rw [if_pos hw]
  by_cases h0 : cs.length = 0
  · obtain rfl : cs = [] := List.eq_nil_of_length_eq_zero h0
    have hrun := run_copy_none (P := P) w dT sT o.type elem dp sp dLen dCap sLen sCap hu hsz (by simpa using hn.symm)
    unfold Oper.wp
    simp [execOp, ho, resolve, invoke, builtin, hd, hs, hrun, Result.andThen]
    exact h w (show Cells _ _ _ _ by simpa [splice] using hg) (Kept.refl _ _)
  · obtain ⟨rfl, ad, rfl, hsrc⟩ := hpos (by omega)
    have hrun := run_copy_row (P := P) w dT sT o.type elem g off dLen dCap ad sLen sCap cur.toArray t cs hu hsz hg hn hsrc (by simpa using hfit) h1
    unfold Oper.wp
    simp [execOp, ho, resolve, invoke, builtin, hd, hs, hrun, Result.andThen]
    refine h _ ?_ ((Kept.refl _ _).setRow g _ (by simp))
    show Cells _ _ _ _
    unfold Cells
    rw [setRow_heap w g cur.toArray _ t (0, 0) hg]
    simp [splice]
end Go.Proofs.Qxb6616016aFmt
