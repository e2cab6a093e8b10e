import Derived.Test.Qxb6616016aFmtGrow
import Derived.Test.Qxb6616016aFmtPlain2
namespace Go.Proofs.Qxb6616016aFmt
open Go.RowKit

/-- the slice value v holds the bytes l, in a block from base on. -/
def IsBytesF (base : Nat) (w : World) (v : Value) (l : List UInt8) : Prop := ∃ a c, v = .slice a l.length c ∧ (l ≠ [] → ∃ b o, base ≤ b ∧ a = some ⟨b, o, none⟩ ∧ BytesAt w b o l)
/-- the slice value v holds the words ws, in blocks from base on. -/
def WordsF (base : Nat) (w : World) (v : Value) (ws : List (List UInt8)) : Prop := ∃ a c, v = .slice a ws.length c ∧ ws.length ≤ c ∧ (ws ≠ [] → ∃ b, base ≤ b ∧ a = some ⟨b, 0, none⟩ ∧ ∀ (j : Nat) (x : List UInt8), ws[j]? = some x → ∃ u, w.cell? ⟨b, j, none⟩ = some u ∧ IsBytesF base w u x)
/-- the slice value v holds the words ws. -/
def Words (w : World) (v : Value) (ws : List (List UInt8)) : Prop := WordsF 0 w v ws

theorem BytesAt.below {w w' : World} {b o : Nat} {l : List UInt8} (h : BytesAt w b o l) (hb : Below w.heap.size w w') : BytesAt w' b o l := fun j x hx => by
  have hc := h j x hx
  rw [World.cell?_of_block (hb.block b (World.block_lt_of_cell? w _ hc))]; exact hc
/-- the words stay where their blocks stay. -/
theorem WordsF.stay {base base' : Nat} {w w' : World} {v : Value} {ws : List (List UInt8)} (h : WordsF base w v ws) (hle : base' ≤ base) (hb : ∀ k, base ≤ k → k < w.heap.size → w'.heap[k]? = w.heap[k]?) : WordsF base' w' v ws := by
  obtain ⟨a, c, hv, hc, h1⟩ := h
  refine ⟨a, c, hv, hc, fun hl => ?_⟩
  obtain ⟨b, hbb, ha, hB⟩ := h1 hl
  refine ⟨b, by omega, ha, fun j x hx => ?_⟩
  obtain ⟨u, hu, a', c', hv', h2⟩ := hB j x hx
  refine ⟨u, by rw [World.cell?_of_block (hb b hbb (World.block_lt_of_cell? w _ hu))]; exact hu, a', c', hv', fun hl' => ?_⟩
  obtain ⟨b', o', hbb', ha', hB'⟩ := h2 hl'
  exact ⟨b', o', by omega, ha', hB'.block (hb b' hbb' (hB'.lt hl'))⟩
theorem WordsF.weak {base : Nat} {w : World} {v : Value} {ws : List (List UInt8)} (h : WordsF base w v ws) : Words w v ws := h.stay (Nat.zero_le _) (fun _ _ _ => rfl)
theorem Words.below {w w' : World} {v : Value} {ws : List (List UInt8)} (h : Words w v ws) (hb : Below w.heap.size w w') : Words w' v ws := WordsF.stay h (Nat.le_refl _) (fun k _ hk => hb.block k hk)

/-- the slice values xs lie over the bytes acc of block g, and are the words ws. -/
def WordsIn (g : Nat) (acc : List UInt8) (xs : List Value) (ws : List (List UInt8)) : Prop :=
  xs.length = ws.length ∧ ∀ (j : Nat) (x : List UInt8), ws[j]? = some x → ∃ a c, xs[j]? = some (.slice a x.length c) ∧ (x ≠ [] → ∃ o, a = some ⟨g, o, none⟩ ∧ o + x.length ≤ acc.length ∧ (acc.drop o).take x.length = x)

theorem WordsIn.more {g : Nat} {acc : List UInt8} {xs : List Value} {ws : List (List UInt8)} (h : WordsIn g acc xs ws) (y : List UInt8) : WordsIn g (acc ++ y) xs ws := by
  refine ⟨h.1, fun j x hx => ?_⟩
  obtain ⟨a, c, h1, h2⟩ := h.2 j x hx
  refine ⟨a, c, h1, fun hn => ?_⟩
  obtain ⟨o, ha, hl, he⟩ := h2 hn
  refine ⟨o, ha, by simp; omega, ?_⟩
  rw [List.drop_append_of_le_length (by omega), List.take_append_of_le_length (by rw [List.length_drop]; omega)]; exact he

theorem WordsIn.snoc {g : Nat} {acc : List UInt8} {xs : List Value} {ws : List (List UInt8)} (h : WordsIn g acc xs ws) (x : List UInt8) (u : Value) (a : Option Addr) (c : Nat) (hu : u = .slice a x.length c) (ha : x ≠ [] → a = some ⟨g, acc.length, none⟩) :
    WordsIn g (acc ++ x) (xs ++ [u]) (ws ++ [x]) := by
  refine ⟨by simp [h.1], fun j y hy => ?_⟩
  by_cases hj : j < ws.length
  · rw [List.getElem?_append_left hj] at hy
    obtain ⟨a', c', h1, h2⟩ := (h.more x).2 j y hy
    exact ⟨a', c', by rw [List.getElem?_append_left (by rw [h.1]; exact hj)]; exact h1, h2⟩
  · have hjl : j = ws.length := by
      have := (List.getElem?_eq_some_iff.1 hy).1
      simp at this; omega
    subst hjl
    simp at hy
    subst hy
    refine ⟨a, c, by rw [← h.1]; simp [hu], fun hn => ⟨acc.length, ha hn, by simp, ?_⟩⟩
    simp

theorem WordsIn.one {g : Nat} {acc : List UInt8} {xs : List Value} {ws : List (List UInt8)} (h : WordsIn g acc xs ws) : ∀ u ∈ xs, u.oneCell' = true := by
  intro u hu
  obtain ⟨j, hj, he⟩ := List.getElem_of_mem hu
  have hjw : j < ws.length := by rw [← h.1]; exact hj
  obtain ⟨a, c, h1, _⟩ := h.2 j _ (List.getElem?_eq_getElem hjw)
  rw [List.getElem?_eq_getElem hj, he] at h1
  rw [Option.some.inj h1]; rfl

theorem one_slice (a : Option Addr) (n c : Nat) : ∀ u ∈ [Value.slice a n c], u.oneCell' = true := by intro u hu; simp at hu; subst hu; rfl
theorem cell_one_later {w w2 : World} {x : Value} {t : TypeId} (h : Below (w.alloc (.cells #[x] t)).drew.heap.size (w.alloc (.cells #[x] t)).drew w2) : ∀ (j : Nat) (u : Value), [x][j]? = some u → w2.cell? ((⟨w.heap.size, 0, none⟩ : Addr).add j) = some u := by
  intro j u hj
  have hc := cell_one (w := w) (t := t) j u hj
  have hblk : ((⟨w.heap.size, 0, none⟩ : Addr).add j).block < (w.alloc (.cells #[x] t)).heap.size := World.block_lt_of_cell? _ _ hc
  exact (World.cell?_of_block (h.block _ hblk)).trans hc

theorem own_room {w : World} {base e size g n cap : Nat} {xs : List Value} (h : w.ownsRow base e size (.slice (some ⟨g, 0, none⟩) n cap) n xs) : ∃ cur, w.heap[g]? = some (.cells cur e (0, 0)) := by
  rcases h.2 with ⟨h', _⟩ | ⟨g', cap', cur, h', _, hg, _⟩
  · simp at h'
  · simp only [Value.slice.injEq, Option.some.injEq, Addr.mk.injEq, and_true, true_and] at h'
    obtain ⟨rfl, rfl⟩ := h'
    exact ⟨cur, hg⟩

/-- a row of words is no row of bytes. -/
theorem own_words_kept {w w1 : World} {base g n : Nat} {v : Value} {xs : List Value} {cur : Array Value} (h : w.ownsRow base 22 1 v n xs) (hg : w.heap[g]? = some (.cells cur 5 (0, 0))) (hk : w.grownBy w1 (some g)) : w1.ownsRow base 22 1 v n xs := by
  refine h.kept hk ?_
  rcases h.2 with ⟨rfl, _⟩ | ⟨g', cap', cur', rfl, _, hg', _⟩
  · exact .inl rfl
  · right
    intro e
    simp [Value.ownBlock] at e
    subst e
    rw [hg] at hg'
    simp at hg'

/-- what splitInline hands back. -/
def SplitRes (base : Nat) (res : Option (List (List UInt8))) (e : Ending) (w' : World) : Prop :=
  match res with
  | none => e = .returned (.tuple #[.slice none 0 0, .bool false])
  | some ws => ∃ v, e = .returned (.tuple #[v, .bool true]) ∧ WordsF base w' v ws

theorem add_at (g o j : Nat) : (⟨g, o, none⟩ : Addr).add j = ⟨g, o + j, none⟩ := by unfold Addr.add; split <;> simp_all

/-- a row of bytes is no row of words. -/
theorem own_bytes_kept {w w1 : World} {base g n : Nat} {v : Value} {xs : List Value} {cur : Array Value} (h : w.ownsRow base 5 1 v n xs) (hg : w.heap[g]? = some (.cells cur 22 (0, 0))) (hk : w.grownBy w1 (some g)) : w1.ownsRow base 5 1 v n xs := by
  refine h.kept hk ?_
  rcases h.2 with ⟨rfl, _⟩ | ⟨g', cap', cur', rfl, _, hg', _⟩
  · exact .inl rfl
  · right
    intro e
    simp [Value.ownBlock] at e
    subst e
    rw [hg] at hg'
    simp at hg'
theorem own_below {w w1 : World} {base e size n : Nat} {v : Value} {xs : List Value} (h : w.ownsRow base e size v n xs) (hB : Below w.heap.size w w1) : w1.ownsRow base e size v n xs :=
  h.kept (row := none) (grown_of_below hB none) (by cases hv : v.ownBlock <;> simp)

/-- behind grow and the append, in either order: the bytes stay; nothing below has turned. -/
theorem room_A {w w1 w2 w3 : World} {base B n k cap g2 : Nat} {v : Value} {xs ys : List Value} {o : Obj} (h : w1.ownsRow base 5 1 v n xs) (hb : Below B w w1) (hB1 : B ≤ w1.heap.size) (hB : Below w1.drew.heap.size w1.drew w2) (hb2 : B ≤ g2) (ho2 : w2.ownsRow B 22 1 (.slice (some ⟨g2, 0, none⟩) k cap) k ys) (hg : (w2.alloc o).grownBy w3 (some g2)) :
    w3.ownsRow base 5 1 v n xs ∧ Below B w w3 := by
  have hB' : Below w1.heap.size w1 w2 := ⟨hB.os, hB.tape, hB.output, hB.size, hB.block⟩
  obtain ⟨cur, hcur⟩ := own_room (ho2.alloc o)
  have hsz := hB'.size
  refine ⟨own_bytes_kept ((own_below h hB').alloc o) hcur hg, (hb.trans (hB'.mono hB1)).trans (((Below.refl B w2).alloc (by omega) o).trans (grown_below hg (by simp; omega) hb2))⟩
theorem room_B {w w1 w2 w3 : World} {base B n k cap g2 : Nat} {v : Value} {xs ys : List Value} {o : Obj} (h : w1.ownsRow base 5 1 v n xs) (hb : Below B w w1) (hB1 : B ≤ w1.heap.size) (hB : Below (w1.alloc o).drew.heap.size (w1.alloc o).drew w2) (hb2 : B ≤ g2) (ho2 : w2.ownsRow B 22 1 (.slice (some ⟨g2, 0, none⟩) k cap) k ys) (hg : w2.grownBy w3 (some g2)) :
    w3.ownsRow base 5 1 v n xs ∧ Below B w w3 := by
  have hB' : Below (w1.alloc o).heap.size (w1.alloc o) w2 := ⟨hB.os, hB.tape, hB.output, hB.size, hB.block⟩
  obtain ⟨cur, hcur⟩ := own_room ho2
  have hsz := hB'.size
  simp at hsz
  refine ⟨own_bytes_kept (own_below (h.alloc o) hB') hcur hg, (hb.trans (((Below.refl B w1).alloc hB1 o).trans (hB'.mono (by simp; omega)))).trans (grown_below hg (by omega) hb2)⟩
theorem own_base {w : World} {B g n cap : Nat} {e : TypeId} {size : Nat} {xs : List Value} (h : w.ownsRow B e size (.slice (some ⟨g, 0, none⟩) n cap) n xs) : B ≤ g := (h.lt g rfl).1

/-- one word more. -/
theorem split_step {w w3 : World} {G k n m cap2 g2 : Nat} {L acc x r t : List UInt8} {c : UInt8} {ws : List (List UInt8)} {xs : List Value} {u : Value} {a : Option Addr} {cu : Nat} (hD : L.drop k = c :: t) (hS : Plain.isSpace c = false) (hW : Plain.word (L.drop k) = some (x, r)) (hlt : k < L.length)
    (hn : acc.length = n) (hm : n + x.length = m) (hnk : n ≤ k) (hX : Plain.split L = (Plain.split (L.drop k)).map (ws ++ ·)) (hcnt : 2 * ws.length ≤ k) (hwi : WordsIn G acc xs ws) (hu : u = .slice a x.length cu) (ha : x ≠ [] → a = some ⟨G, n, none⟩)
    (hO3 : w3.ownsRow G 5 1 (.slice (some ⟨G, 0, none⟩) (acc ++ x).length L.length) (acc ++ x).length (Lib.byteCells (acc ++ x)) ∧ Below G w w3) (hown3 : w3.ownsRow G 22 1 (.slice (some ⟨g2, 0, none⟩) (ws.length + 1) cap2) (ws.length + 1) (xs ++ [u])) :
    ∃ (k' : Nat) (acc' : List UInt8) (ws' : List (List UInt8)) (xs' : List Value), k' ≤ L.length ∧ Value.int .i64 ((L.length - r.length : Nat) : Int) = .int .i64 k' ∧
      Value.slice (some ⟨G, 0, none⟩) m L.length = .slice (some ⟨G, 0, none⟩) acc'.length L.length ∧ w3.ownsRow G 5 1 (.slice (some ⟨G, 0, none⟩) acc'.length L.length) acc'.length (Lib.byteCells acc') ∧ acc'.length ≤ k' ∧
      w3.ownsRow G 22 1 (.slice (some ⟨g2, 0, none⟩) (ws.length + 1) cap2) ws'.length xs' ∧ WordsIn G acc' xs' ws' ∧ (2 * ws'.length ≤ k' ∨ (2 * ws'.length ≤ k' + 1 ∧ (k' = L.length ∨ ∃ d t, L.drop k' = d :: t ∧ Plain.isSpace d = true))) ∧
      Plain.split L = (Plain.split (L.drop k')).map (ws' ++ ·) ∧ Below G w w3 := by
  subst hn
  have hlen := Plain.word_len _ x r hW
  rw [List.length_drop] at hlen
  obtain ⟨hr, hrl⟩ := Plain.word_rest L k x r hW
  have hlt2 : r.length ≤ t.length := Plain.word_lt c t x r hS (by rw [← hD]; exact hW)
  have htl : t.length + 1 = L.length - k := by have := congrArg List.length hD; simp at this; omega
  refine ⟨L.length - r.length, acc ++ x, ws ++ [x], xs ++ [u], by omega, rfl, by rw [List.length_append, hm], hO3.1, by rw [List.length_append]; omega, by simpa using hown3, hwi.snoc x u a cu hu ha, .inr ⟨by simp; omega, ?_⟩, ?_, hO3.2⟩
  · rw [← hr]
    rcases (Plain.word_next _ x r hW).2 with h | h
    · left; rw [h]; simp
    · exact .inr h
  · rw [hX, hD, Plain.split_yes c t x r hS (by rw [← hD]; exact hW), ← hr]
    cases Plain.split r with
    | none => rfl
    | some z => simp

theorem words_of {w : World} {base g n cap : Nat} {v : Value} {acc : List UInt8} {xs : List Value} {ws : List (List UInt8)} (hr : w.ownsRow base 5 1 (.slice (some ⟨g, 0, none⟩) n cap) n (Lib.byteCells acc)) (ho : w.ownsRow base 22 1 v ws.length xs) (h : WordsIn g acc xs ws) : WordsF base w v ws := by
  rcases ho.2 with ⟨rfl, h0⟩ | ⟨g', cap', cur', rfl, _, hg', hnc, _⟩
  · exact ⟨none, 0, by rw [h0], by omega, fun hn => absurd (List.length_eq_zero_iff.1 h0) hn⟩
  · refine ⟨_, _, rfl, hnc, fun _ => ⟨g', own_base ho, rfl, fun j x hx => ?_⟩⟩
    obtain ⟨a, c, h1, h2⟩ := h.2 j x hx
    refine ⟨_, by have := ho.cells (g := g') rfl j _ h1; rw [add_at, Nat.zero_add] at this; exact this, a, c, rfl, fun hn => ?_⟩
    obtain ⟨o, ha, hl, he⟩ := h2 hn
    refine ⟨g, o, own_base hr, ha, fun i y hy => ?_⟩
    have hy' : acc[o + i]? = some y := by
      rw [← he, List.getElem?_take] at hy
      split at hy
      · rwa [List.getElem?_drop] at hy
      · cases hy
    have := hr.cells (g := g) rfl (o + i) (.int .u8 (y.toNat : Int)) (by simp [Lib.byteCells, hy'])
    rw [add_at, Nat.zero_add] at this; exact this

/-- grow's contract, its number as a letter. -/
theorem grow_at (base n total : Nat) (z : Int) (v : Value) (xs : List Value) (w : World) (hz : z = (total : Int)) (hown : w.ownsRow base 22 1 v n xs) (h1 : ∀ u ∈ xs, u.oneCell' = true) (hn : n < total) (ht : total ≤ 1000000) (hbase : base ≤ w.heap.size) :
    Calls Tryf.prog 37 #[v, .int .i64 z, .int .i64 8] w fun e w' => ∃ g cap, e = .returned (.slice (some ⟨g, 0, none⟩) n cap) ∧ n < cap ∧ w'.ownsRow base 22 1 (.slice (some ⟨g, 0, none⟩) n cap) n xs ∧ Below w.heap.size w w' := by
  subst hz
  exact grow_any base n total v xs w hown h1 hn ht hbase

/-- appendWord's contract, its numbers as letters. -/
theorem word_at (base g cap lb lo lcap n : Nat) (z : Int) (L acc : List UInt8) (i : Nat) (w : World) (hn : acc.length = n) (hz : z = (i : Int))
    (hown : w.ownsRow base 5 1 (.slice (some ⟨g, 0, none⟩) n cap) n (Lib.byteCells acc)) (hL : BytesAt w lb lo L) (hne : lb ≠ g) (hi : i ≤ L.length) (hcap : n + (L.length - i) ≤ cap) (hlc : L.length ≤ lcap) (hbig : L.length ≤ 1000000) :
    Calls Tryf.prog 36 #[.slice (some ⟨g, 0, none⟩) n cap, .slice (some ⟨lb, lo, none⟩) L.length lcap, .int .i64 z] w fun e w' =>
      WordRes base g cap L acc (Plain.word (L.drop i)) e w' ∧ w.grownBy w' (some g) := by
  subst hn hz
  exact word_any base g cap lb lo lcap L acc i w hown hL hne hi hcap hlc hbig

set_option maxHeartbeats 1000000 in
set_option maxRecDepth 100000 in
/-- splitInline of a line that is not empty. -/
theorem split_some (lb lo lcap : Nat) (L : List UInt8) (w : World) (hL : BytesAt w lb lo L) (h0 : L ≠ []) (hlc : L.length ≤ lcap) (hbig : L.length ≤ 1000000) :
    Calls Tryf.prog 24 #[.slice (some ⟨lb, lo, none⟩) L.length lcap] w fun e w' => SplitRes w.heap.size (Plain.split L) e w' ∧ Below w.heap.size w w' := by
  obtain ⟨i0, hinfo, hz0, hz1, hz2⟩ := info_parts Tryf.info5
  have hlb : lb < w.heap.size := hL.lt h0
  have hne : lb ≠ w.heap.size := by omega
  go_enter Tryf.func24, Tryf.ntmps24
  go_wp2_with (at_make; refine wpList_make_own _ rfl _ _ 22 rfl w.heap.size 5 i0 (.int .u8 0) 1 Tryf.underlying22 hinfo hz0 hz1 _ _ _ L.length rfl rfl (by omega) ?b2 ?b3 (Nat.le_refl _) ?_)
  case b2 => rw [hz2]; omega
  case b3 => unfold maxLen; omega
  intro w0 hown0 hgrow0
  go_wp2
  go_loopw [2, 4, 5] (fun v room si wr => ∃ (k : Nat) (acc : List UInt8) (ws : List (List UInt8)) (xs : List Value), k ≤ L.length ∧ si = .int .i64 k ∧
      room = .slice (some ⟨w.heap.size, 0, none⟩) acc.length L.length ∧ wr.ownsRow w.heap.size 5 1 (.slice (some ⟨w.heap.size, 0, none⟩) acc.length L.length) acc.length (Lib.byteCells acc) ∧ acc.length ≤ k ∧
      wr.ownsRow w.heap.size 22 1 v ws.length xs ∧ WordsIn w.heap.size acc xs ws ∧ (2 * ws.length ≤ k ∨ (2 * ws.length ≤ k + 1 ∧ (k = L.length ∨ ∃ d t, L.drop k = d :: t ∧ Plain.isSpace d = true))) ∧
      Plain.split L = (Plain.split (L.drop k)).map (ws ++ ·) ∧ Below w.heap.size w wr)
    (fun _ _ si _ => L.length - (intOf si).toNat)
  case atStart => exact ⟨0, [], [], [], Nat.zero_le _, rfl, rfl, hown0, Nat.le_refl _, World.ownsRow_nil _ _ _ _, ⟨rfl, fun j x hx => by simp at hx⟩, .inl (by simp), by simp, (Below.refl _ _).grown hgrow0 (Nat.le_refl _) (fun k h => by cases h)⟩
  case round =>
    obtain ⟨k, acc, ws, xs, hk, rfl, rfl, hownr, hal, hownw, hwi, hcnt, hx, hbw⟩ := hrel
    have HX : Hid (Plain.split L = (Plain.split (L.drop k)).map (ws ++ ·)) := hx
    clear hx
    have hszr := hbw.size
    by_cases hlt : k < L.length
    · have hLr : BytesAt wr lb lo L := hL.block (hbw.block lb hlb)
      have hc0 := hLr.at k hlt
      obtain ⟨c, hc⟩ : ∃ c : UInt8, L[k]'hlt = c := ⟨_, rfl⟩
      rw [hc] at hc0
      have HD : Hid (L.drop k = c :: L.drop (k + 1)) := by show L.drop k = _; rw [List.drop_eq_getElem_cons hlt, hc]
      clear hc
      rcases (Bool.eq_false_or_eq_true (Plain.isSpace c)).symm with hs | hs
      · have HS : Hid (Plain.isSpace c = false) := hs
        clear hs
        have hcnt2 : 2 * ws.length ≤ k := by
          rcases hcnt with h | ⟨_, h | ⟨d, t, hd, hds⟩⟩
          · exact h
          · omega
          · rw [HD.out] at hd
            rw [← (List.cons.inj hd).1, HS.out] at hds
            cases hds
        clear hcnt
        generalize hn : acc.length = n at *
        go_wp2_with fail
        refine (isSpace_any c _).mono ?_
        rintro e w' ⟨rfl, hw⟩
        rw [hw, HS.out]
        go_wp2_with fail
        refine (word_at w.heap.size w.heap.size L.length lb lo lcap n _ L acc k _ hn (by omega) hownr hLr hne (by omega) (by omega) hlc hbig).mono ?_
        rintro e w1 ⟨hres, hg1⟩
        have hb1 : Below w.heap.size w w1 := hbw.trans (grown_below hg1 hszr (Nat.le_refl _))
        obtain ⟨cur, hcur⟩ := own_room hownr
        have hownw1 := own_words_kept hownw hcur hg1
        cases hwr : Plain.word (L.drop k) with
        | none =>
          rw [hwr] at hres
          have he : e = .returned (.tuple #[.slice none 0 0, .int .i64 0, .bool false]) := hres
          subst he
          clear hres
          have HWR : Hid (Plain.word (L.drop k) = none) := hwr
          clear hwr
          go_wp2
          go_ret2
          exact ⟨by rw [HX.out, HD.out, Plain.split_no c _ HS.out (by rw [← HD.out]; exact HWR.out)]; exact rfl, hb1⟩
        | some xr =>
          obtain ⟨x, r⟩ := xr
          rw [hwr] at hres
          obtain ⟨he, ho⟩ := hres
          subst he
          have HWR : Hid (Plain.word (L.drop k) = some (x, r)) := hwr
          clear hwr
          have HO : Hid (w1.ownsRow w.heap.size 5 1 (.slice (some ⟨w.heap.size, 0, none⟩) (acc ++ x).length L.length) (acc ++ x).length (Lib.byteCells (acc ++ x))) := ho
          clear ho hownr hownw
          have hml : n + x.length ≤ L.length := by
            have h1 := Plain.word_len _ x r HWR.out
            rw [List.length_drop] at h1
            omega
          have hone : ∀ u ∈ xs, u.oneCell' = true := WordsIn.one hwi
          have j1 : IntKind.i64.wrap ((L.length : Int) + 1) = (L.length : Int) + 1 := wrap_small _ (by omega) (by omega)
          have hs1 := hb1.size
          have J4 : Hid (IntKind.i64.wrap (((L.length : Int) + 1).tdiv 2) = (((L.length + 1) / 2 : Nat) : Int)) := by
            show IntKind.i64.wrap (((L.length : Int) + 1).tdiv 2) = (((L.length + 1) / 2 : Nat) : Int)
            rw [Int.tdiv_eq_ediv_of_nonneg (by omega), wrap_small _ (by omega) (by omega)]
            omega
          obtain ⟨i2, hinfo2, hy0, hy1, hy2⟩ := info_parts Tryf.info22
          by_cases hx0 : x = []
          · subst hx0
            go_wp2_with fail
            have j2 : (n : Int) ≤ (n : Int) := by omega
            have j3 : (n : Int) ≤ (L.length : Int) := by omega
            go_region_held3 (fun _ => True) (trivial) (first | (go_at_call 37; refine (grow_at w.heap.size ws.length ((L.length + 1) / 2) _ u2 xs _ J4.out (by first | exact own_drew hownw1 | exact own_drew (hownw1.alloc _)) hone (by omega) (by omega) (by simp; omega)).mono ?_; rintro e w2 ⟨g2, cap2, rfl, hc2, ho2, hB2⟩) | (refine step_append_fits (by rfl) (.tmp 38) (.tmp 46) 25 (by rfl) w.heap.size 22 i2 1 Tryf.underlying25 hinfo2 hy1 g2 ws.length cap2 _ (by rfl) (ho2.alloc _) ⟨_, 0, none⟩ 1 1 [.slice (some ⟨w.heap.size, 0, none⟩) (0) (0)] (by rfl) (by rfl) cell_one (one_slice _ _ _) (by omega) ?_; intro w3 hown3 hgrow3) | (refine step_append_fits (by rfl) (.tmp 38) (.tmp 46) 25 (by rfl) w.heap.size 22 i2 1 Tryf.underlying25 hinfo2 hy1 g2 ws.length cap2 _ (by rfl) ho2 ⟨w1.heap.size, 0, none⟩ 1 1 [.slice (some ⟨w.heap.size, 0, none⟩) (0) (0)] (by rfl) (by rfl) (cell_one_later hB2) (one_slice _ _ _) (by omega) ?_; intro w3 hown3 hgrow3))
            all_goals
              go_wp2
              go_roundw
              case rel => exact split_step HD.out HS.out HWR.out hlt hn (by simp) hal HX.out hcnt2 hwi rfl (fun h => absurd rfl h) (by first | exact room_A HO.out hb1 hs1 hB2 (own_base ho2) ho2 hgrow3 | exact room_B HO.out hb1 hs1 hB2 (own_base ho2) ho2 hgrow3) hown3
              case measure => simp [intOf]; have := Plain.word_lt c (L.drop (k + 1)) _ r HS.out (by rw [← HD.out]; exact HWR.out); rw [List.length_drop] at this; omega
          · have HX0 : Hid (x ≠ []) := hx0
            generalize hm : n + x.length = m at *
            have hmn : ¬ m = n := by have := List.length_pos_iff.2 hx0; omega
            go_wp2_with fail
            have j2 : (n : Int) ≤ (m : Int) := by omega
            have j3 : (m : Int) ≤ (L.length : Int) := by omega
            go_region_held3 (fun _ => True) (trivial) (first | (go_at_call 37; refine (grow_at w.heap.size ws.length ((L.length + 1) / 2) _ u2 xs _ J4.out (by first | exact own_drew hownw1 | exact own_drew (hownw1.alloc _)) hone (by omega) (by omega) (by simp; omega)).mono ?_; rintro e w2 ⟨g2, cap2, rfl, hc2, ho2, hB2⟩) | (refine step_append_fits (by rfl) (.tmp 38) (.tmp 46) 25 (by rfl) w.heap.size 22 i2 1 Tryf.underlying25 hinfo2 hy1 g2 ws.length cap2 _ (by rfl) (ho2.alloc _) ⟨_, 0, none⟩ 1 1 [.slice (some ⟨w.heap.size, n, none⟩) (m - n) (m - n)] (by rfl) (by rfl) cell_one (one_slice _ _ _) (by omega) ?_; intro w3 hown3 hgrow3) | (refine step_append_fits (by rfl) (.tmp 38) (.tmp 46) 25 (by rfl) w.heap.size 22 i2 1 Tryf.underlying25 hinfo2 hy1 g2 ws.length cap2 _ (by rfl) ho2 ⟨w1.heap.size, 0, none⟩ 1 1 [.slice (some ⟨w.heap.size, n, none⟩) (m - n) (m - n)] (by rfl) (by rfl) (cell_one_later hB2) (one_slice _ _ _) (by omega) ?_; intro w3 hown3 hgrow3))
            all_goals
              go_wp2
              go_roundw
              case rel => exact split_step HD.out HS.out HWR.out hlt hn hm hal HX.out hcnt2 hwi (by rw [show m - n = x.length from by omega]) (fun _ => rfl) (by first | exact room_A HO.out hb1 hs1 hB2 (own_base ho2) ho2 hgrow3 | exact room_B HO.out hb1 hs1 hB2 (own_base ho2) ho2 hgrow3) hown3
              case measure => simp [intOf]; have := Plain.word_lt c (L.drop (k + 1)) _ r HS.out (by rw [← HD.out]; exact HWR.out); rw [List.length_drop] at this; omega
      · have HS : Hid (Plain.isSpace c = true) := hs
        clear hs
        go_wp2_with (go_at_call 35; refine (isSpace_any c _).mono ?_; rintro e w' ⟨rfl, hw⟩; rw [hw, HS.out])
        go_roundw
        case rel => exact ⟨k + 1, acc, ws, xs, by omega, by go_num, rfl, hownr, by omega, hownw, hwi, .inl (by omega), by rw [HX.out, HD.out, Plain.split_space c _ HS.out], hbw⟩
        case measure => simp [intOf]; omega
    · go_wp2
      go_ret2
      refine ⟨?_, hbw⟩
      rw [HX.out, List.drop_of_length_le (by omega), Plain.split_nil]
      exact ⟨_, rfl, by show WordsF _ _ _ (ws ++ []); rw [List.append_nil]; exact words_of hownr hownw hwi⟩

set_option maxHeartbeats 1000000 in
set_option maxRecDepth 100000 in
/-- splitInline of an empty line. -/
theorem split_none (la : Option Addr) (lcap : Nat) (w : World) :
    Calls Tryf.prog 24 #[.slice la 0 lcap] w fun e w' => SplitRes w.heap.size (Plain.split []) e w' ∧ Below w.heap.size w w' := by
  obtain ⟨i0, hinfo, hz0, hz1, hz2⟩ := info_parts Tryf.info5
  go_enter Tryf.func24, Tryf.ntmps24
  go_wp2_with (at_make; refine wpList_make_own _ rfl _ _ 22 rfl w.heap.size 5 i0 (.int .u8 0) 1 Tryf.underlying22 hinfo hz0 hz1 _ _ _ 0 rfl rfl (by omega) ?b2 ?b3 (Nat.le_refl _) ?_)
  case b2 => rw [hz2]; omega
  case b3 => unfold maxLen; omega
  intro w0 hown0 hgrow0
  go_wp2
  refine wp_loop_rounds 1 ?_
  rw [rounds_succ]
  go_wp2
  go_ret2
  exact ⟨⟨_, rfl, none, 0, rfl, Nat.le_refl _, fun h => absurd rfl h⟩, (Below.refl _ _).grown hgrow0 (Nat.le_refl _) (fun k h => by cases h)⟩

/-- splitInline. -/
theorem split_any (la : Option Addr) (lcap : Nat) (L : List UInt8) (w : World) (hL : L ≠ [] → ∃ lb lo, la = some ⟨lb, lo, none⟩ ∧ BytesAt w lb lo L) (hlc : L.length ≤ lcap) (hbig : L.length ≤ 1000000) :
    Calls Tryf.prog 24 #[.slice la L.length lcap] w fun e w' => SplitRes w.heap.size (Plain.split L) e w' ∧ Below w.heap.size w w' := by
  by_cases h : L = []
  · subst h; exact split_none la lcap w
  · obtain ⟨lb, lo, rfl, hB⟩ := hL h
    exact split_some lb lo lcap L w hB h hlc hbig
end Go.Proofs.Qxb6616016aFmt
