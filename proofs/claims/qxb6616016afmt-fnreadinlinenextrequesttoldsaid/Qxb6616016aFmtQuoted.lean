import Derived.Test.Qxb6616016aFmtMem
import Derived.Deep.RegionHeld3
import Derived.BigQuiet
import Derived.Deep.RegionWith
namespace Go.Proofs.Qxb6616016aFmt
open Go.RowKit

/-- what a word's reader hands back. -/
def WordRes (base g cap : Nat) (L acc : List UInt8) (res : Option (List UInt8 × List UInt8)) (e : Ending) (w' : World) : Prop :=
  match res with
  | none => e = .returned (.tuple #[.slice none 0 0, .int .i64 0, .bool false])
  | some (x, r) => e = .returned (.tuple #[.slice (some ⟨g, 0, none⟩) (acc ++ x).length cap, .int .i64 ((L.length - r.length : Nat) : Int), .bool true]) ∧
      w'.ownsRow base 5 1 (.slice (some ⟨g, 0, none⟩) (acc ++ x).length cap) (acc ++ x).length (Lib.byteCells (acc ++ x))

/-- bytes ahead of a word. -/
def pushL (p : List UInt8) (x : Option (List UInt8 × List UInt8)) : Option (List UInt8 × List UInt8) := x.map fun z => (p ++ z.1, z.2)
theorem pushL_nil (x : Option (List UInt8 × List UInt8)) : pushL [] x = x := by cases x <;> simp [pushL]
theorem pushL_push (p : List UInt8) (c : UInt8) (x : Option (List UInt8 × List UInt8)) : pushL p (Plain.push c x) = pushL (p ++ [c]) x := by cases x <;> simp [pushL, Plain.push]

theorem WordRes.none {base g cap : Nat} {L acc : List UInt8} {res : Option (List UInt8 × List UInt8)} {w' : World} (h : res = Option.none) :
    WordRes base g cap L acc res (.returned (.tuple #[.slice Option.none 0 0, .int .i64 0, .bool false])) w' := by subst h; rfl
theorem WordRes.some {base g cap n : Nat} {z : Int} {L acc x r : List UInt8} {res : Option (List UInt8 × List UInt8)} {w' : World} (h : res = Option.some (x, r)) (hn : (acc ++ x).length = n) (hz : z = ((L.length - r.length : Nat) : Int))
    (ho : w'.ownsRow base 5 1 (.slice (Option.some ⟨g, 0, Option.none⟩) n cap) n (Lib.byteCells (acc ++ x))) :
    WordRes base g cap L acc res (.returned (.tuple #[.slice (Option.some ⟨g, 0, Option.none⟩) n cap, .int .i64 z, .bool true])) w' := by subst h hn hz; exact ⟨rfl, ho⟩

/-- one more byte has been appended, m bytes of the line taken. -/
theorem rel_push {base g cap : Nat} {L acc p : List UInt8} {k m n : Nat} {z : Int} {x : UInt8} {w wr w1 : World} {f : List UInt8 → Option (List UInt8 × List UInt8)} {T : Option (List UInt8 × List UInt8)} (hk : k + m ≤ L.length) (hm : 1 ≤ m) (hz : z = ((k + m : Nat) : Int)) (hn : (acc ++ p).length = n) (hcapr : n + (L.length - k) ≤ cap)
    (HX : T = pushL p (f (L.drop k))) (hst : f (L.drop k) = Plain.push x (f (L.drop (k + m)))) (hgr : w.grownBy wr (some g))
    (hown1 : w1.ownsRow base 5 1 (.slice (some ⟨g, 0, none⟩) (n + 1) cap) (n + 1) (Lib.byteCells (acc ++ p) ++ [.int .u8 (x.toNat : Int)])) (hg1 : wr.grownBy w1 (some g)) :
    ∃ (k' : Nat) (p' : List UInt8), k' ≤ L.length ∧ Value.int .i64 z = .int .i64 k' ∧ Value.slice (some ⟨g, 0, none⟩) (n + 1) cap = .slice (some ⟨g, 0, none⟩) (acc ++ p').length cap ∧
      w1.ownsRow base 5 1 (.slice (some ⟨g, 0, none⟩) (acc ++ p').length cap) (acc ++ p').length (Lib.byteCells (acc ++ p')) ∧ (acc ++ p').length + (L.length - k') ≤ cap ∧
      T = pushL p' (f (L.drop k')) ∧ w.grownBy w1 (some g) := by
  subst hz hn
  have hl : (acc ++ (p ++ [x])).length = (acc ++ p).length + 1 := by simp; omega
  refine ⟨k + m, p ++ [x], hk, rfl, by rw [hl], ?_, by rw [hl]; omega, by rw [HX, hst, pushL_push], grown_trans hgr hg1⟩
  rw [hl]
  have e : Lib.byteCells (acc ++ p) ++ [Value.int .u8 (x.toNat : Int)] = Lib.byteCells (acc ++ (p ++ [x])) := by simp [Lib.byteCells]
  rw [← e]
  exact hown1

theorem grown_alloc1 {w w1 : World} {o : Obj} {r : Option Nat} (h : (w.alloc o).grownBy w1 r) : w.grownBy w1 r := grown_trans (World.grownBy_alloc w o r) h

/-- append WITHIN THE CAPACITY, as one step of a region that draws. -/
theorem step_append_fits {P : Program} {ops : Array Oper} {o : Oper} {a : Act} {w : World} {K : Act → World → Prop} {Q : Exit → Act → World → Prop} {E : Prop}
    (hg : o.guard = none) (s x : Operand) (t : TypeId) (hop : o.op = Op.call { callee := Callee.builtin Builtin.append, args := #[s, x], argTypes := #[t, t] })
    (base : Nat) (e : TypeId) (i : TypeInfo) (size : Nat) (h1 : P.underlying t = some (.slice e)) (h2 : P.info? e = some i) (h4 : i.size = size)
    (g n cap : Nat) (xs : List Value) (hs : a.eval s = .slice (some ⟨g, 0, none⟩) n cap) (hown : w.ownsRow base e size (.slice (some ⟨g, 0, none⟩) n cap) n xs)
    (ad : Addr) (m c : Nat) (news : List Value) (hx : a.eval x = .slice (some ad) m c) (hn : news.length = m * size) (hc : ∀ j u, news[j]? = some u → w.cell? (ad.add j) = some u) (h1c : ∀ u ∈ news, u.oneCell' = true)
    (hroom : n + m ≤ cap)
    (hK : ∀ w', w'.ownsRow base e size (.slice (some ⟨g, 0, none⟩) (n + m) cap) (n + m) (xs ++ news) → w.grownBy w' (some g) → K (a.put o.dst (.slice (some ⟨g, 0, none⟩) (n + m) cap)) w') :
    if Region.wanted o (yielded ops a.tmps) = true then Oper.wp P o a w K Q else E := by
  have hw : Region.wanted o (yielded ops a.tmps) = true := by simp [Region.wanted, hg]
  rw [if_pos hw]
  obtain ⟨w', hrun, h5, h6⟩ := run_append_fits (P := P) w base t o.type e i size h1 h2 h4 g n cap xs hown ad m c news hn hc h1c hroom
  unfold Oper.wp
  simp [execOp, hop, resolve, invoke, builtin, hs, hx, hrun, Result.andThen]
  exact hK w' h5 h6

theorem hex16 : ∀ x y : Fin 16, bits .or .u8 (IntKind.u8.wrap ((x.val : Int) * 16)) (y.val : Int) = (((UInt8.ofNat x.val <<< 4) ||| UInt8.ofNat y.val).toNat : Int) := by decide +kernel
theorem hexValue_lt (c : UInt8) (h : Plain.isHex c = true) : (Plain.hexValue c).toNat < 16 := by
  have : ∀ n : Fin 256, Plain.isHex (UInt8.ofNat n.val) = true → (Plain.hexValue (UInt8.ofNat n.val)).toNat < 16 := by decide +kernel
  have h1 := this ⟨c.toNat, UInt8.toNat_lt c⟩
  simp only [UInt8.ofNat_toNat] at h1
  exact h1 h
theorem hex_eq (a b : UInt8) (ha : Plain.isHex a = true) (hb : Plain.isHex b = true) :
    bits .or .u8 (IntKind.u8.wrap (((Plain.hexValue a).toNat : Int) * 16)) ((Plain.hexValue b).toNat : Int) = ((Plain.hexByte a b).toNat : Int) := by
  have := hex16 ⟨_, hexValue_lt a ha⟩ ⟨_, hexValue_lt b hb⟩
  simp only [UInt8.ofNat_toNat] at this
  exact this
theorem grown_cell {w w1 : World} {o : Obj} {g b j : Nat} {v : Value} (h : (w.alloc o).drew.grownBy w1 (some g)) (hc : w.cell? ⟨b, j, none⟩ = some v) (hn : b ≠ g) : w1.cell? ⟨b, j, none⟩ = some v := by
  have hb : b < w.heap.size := World.block_lt_of_cell? w _ hc
  exact (World.cell?_of_block ((h.block b (by show b < (w.alloc o).heap.size; simp; omega) (by simpa using hn)).trans (heap_alloc_old w o hb))).trans hc
theorem own_drew {w : World} {base : Nat} {e : TypeId} {size : Nat} {v : Value} {n : Nat} {xs : List Value} (h : w.ownsRow base e size v n xs) : w.drew.ownsRow base e size v n xs := h
theorem cell_one_drew {w : World} {x : Value} {t : TypeId} : ∀ (j : Nat) (u : Value), [x][j]? = some u → (w.alloc (.cells #[x] t)).drew.cell? ((⟨w.heap.size, 0, none⟩ : Addr).add j) = some u := cell_one
theorem grown_drew1 {w w1 : World} {r : Option Nat} (h : w.drew.grownBy w1 r) : w.grownBy w1 r := ⟨h.os, h.tape, h.output, h.size, h.block⟩

set_option maxHeartbeats 4000000 in
set_option maxRecDepth 100000 in
/-- appendQuoted -/
theorem quoted_any (base g cap lb lo lcap : Nat) (L acc : List UInt8) (i : Nat) (q : UInt8) (w : World)
    (hown : w.ownsRow base 5 1 (.slice (some ⟨g, 0, none⟩) acc.length cap) acc.length (Lib.byteCells acc)) (hL : BytesAt w lb lo L) (hne : lb ≠ g) (hi : i ≤ L.length) (hcap : acc.length + (L.length - i) ≤ cap) (hlc : L.length ≤ lcap) (hbig : L.length ≤ 1000000) :
    Calls Tryf.prog 40 #[.slice (some ⟨g, 0, none⟩) acc.length cap, .slice (some ⟨lb, lo, none⟩) L.length lcap, .int .i64 i, .int .u8 q.toNat] w fun e w' =>
      WordRes base g cap L acc (Plain.quoted q (L.drop i)) e w' ∧ w.grownBy w' (some g) := by
  obtain ⟨i0, hinfo, hz0, hz1, hz2⟩ := info_parts Tryf.info5
  go_enter Tryf.func40, Tryf.ntmps40
  go_wp2
  go_loopw [0, 2] (fun room si wr => ∃ (k : Nat) (p : List UInt8), k ≤ L.length ∧ si = .int .i64 k ∧ room = .slice (some ⟨g, 0, none⟩) (acc ++ p).length cap ∧
      wr.ownsRow base 5 1 (.slice (some ⟨g, 0, none⟩) (acc ++ p).length cap) (acc ++ p).length (Lib.byteCells (acc ++ p)) ∧ (acc ++ p).length + (L.length - k) ≤ cap ∧
      Plain.quoted q (L.drop i) = pushL p (Plain.quoted q (L.drop k)) ∧ w.grownBy wr (some g))
    (fun _ si _ => L.length - (intOf si).toNat)
  case atStart => exact ⟨i, [], hi, rfl, by simp, by simpa using hown, by simpa using hcap, by rw [pushL_nil], grown_refl _ _⟩
  case round =>
    obtain ⟨k, p, hk, rfl, rfl, hownr, hcapr, hx, hgr⟩ := hrel
    have HX : Hid (Plain.quoted q (L.drop i) = pushL p (Plain.quoted q (L.drop k))) := hx
    clear hx
    by_cases hlt : k < L.length
    · have hLr : BytesAt wr lb lo L := hL.grown (by rintro rfl; simp at hlt) hgr hne
      have hc0 := hLr.at k hlt
      obtain ⟨c, hc⟩ : ∃ c : UInt8, L[k]'hlt = c := ⟨_, rfl⟩
      rw [hc] at hc0
      have HD : Hid (L.drop k = c :: L.drop (k + 1)) := by show L.drop k = _; rw [List.drop_eq_getElem_cons hlt, hc]
      clear hc
      generalize hn : (acc ++ p).length = n at *
      by_cases hcq : c = q
      · have hcqb : ((c.toNat : Int) == (q.toNat : Int)) = true := by rw [beq_u8]; simp [hcq]
        have HQ : Hid (c = q) := hcq
        clear hcq
        by_cases hl1 : k + 1 < L.length
        · have hd0 := hLr.at (k + 1) hl1
          obtain ⟨d, hd⟩ : ∃ d : UInt8, L[k + 1]'hl1 = d := ⟨_, rfl⟩
          rw [hd] at hd0
          have HD2 : Hid (L.drop (k + 1) = d :: L.drop (k + 1 + 1)) := by show L.drop (k + 1) = _; rw [List.drop_eq_getElem_cons hl1, hd]
          clear hd
          rcases (Bool.eq_false_or_eq_true (Plain.isSpace d)).symm with hs | hs
          · have HS : Hid (Plain.isSpace d = false) := hs
            clear hs
            go_wp2_with (go_at_call 35; refine (isSpace_any d _).mono ?_; rintro e w' ⟨rfl, hw⟩; rw [hw, HS.out])
            go_ret3
            exact ⟨WordRes.none (by rw [HX.out, HD.out, HD2.out, HQ.out, Plain.quoted_end2, HS.out]; rfl), hgr⟩
          · have HS : Hid (Plain.isSpace d = true) := hs
            clear hs
            go_wp2_with (go_at_call 35; refine (isSpace_any d _).mono ?_; rintro e w' ⟨rfl, hw⟩; rw [hw, HS.out])
            go_ret3
            exact ⟨WordRes.some (x := p) (r := L.drop (k + 1)) (by rw [HX.out, HD.out, HD2.out, HQ.out, Plain.quoted_end2, HS.out]; simp [pushL]) hn (by rw [List.length_drop]; omega) hownr, hgr⟩
        · go_wp2
          go_ret3
          exact ⟨WordRes.some (x := p) (r := []) (by rw [HX.out, HD.out, List.drop_of_length_le (by omega), HQ.out, Plain.quoted_end]; simp [pushL]) hn (by simp; omega) hownr, hgr⟩
      · have HQ : Hid (c ≠ q) := hcq
        have hcqb : ((c.toNat : Int) == (q.toNat : Int)) = false := by rw [beq_u8]; simp [hcq]
        clear hcq
        have HST : Hid (Plain.quoted q (L.drop k) = Plain.push (Plain.look q c (L.drop (k + 1))).1 (Plain.quoted q (L.drop (k + 1 + (Plain.look q c (L.drop (k + 1))).2)))) := by
          show Plain.quoted q (L.drop k) = _
          rw [HD.out, Plain.quoted_cons q c _ HQ.out, List.drop_drop]
        by_cases h92 : c = 92
        · have hc92 : ((c.toNat : Int) == 92) = true := by subst h92; rfl
          have H92 : Hid (c = 92) := h92
          clear h92
          by_cases h39 : q = 39
          · have hq39 : ((q.toNat : Int) == 39) = true := by subst h39; rfl
            have hq34 : ((q.toNat : Int) == 34) = false := by subst h39; rfl
            have H39 : Hid (q = 39) := h39
            clear h39
            by_cases hl1 : k + 1 < L.length
            · have hd0 := hLr.at (k + 1) hl1
              obtain ⟨d, hd⟩ : ∃ d : UInt8, L[k + 1]'hl1 = d := ⟨_, rfl⟩
              rw [hd] at hd0
              have HD2 : Hid (L.drop (k + 1) = d :: L.drop (k + 1 + 1)) := by show L.drop (k + 1) = _; rw [List.drop_eq_getElem_cons hl1, hd]
              clear hd
              by_cases hd39 : d = 39
              · have hd39b : ((d.toNat : Int) == 39) = true := by subst hd39; rfl
                have HLK : Hid (Plain.look q c (L.drop (k + 1)) = (39, 1)) := by
                  show Plain.look q c (L.drop (k + 1)) = (39, 1)
                  rw [H39.out, H92.out, HD2.out, hd39, Plain.look_one]
                clear hd39
                go_wp2_with (at_builtin; refine wpList_append_fits _ rfl (.tmp 69) (.tmp 70) 22 rfl base 5 i0 1 Tryf.underlying22 hinfo hz1 g n cap _ rfl (hownr.alloc _) ⟨_, 0, none⟩ 1 1 [.int .u8 39] rfl rfl cell_one (one_u8 _) (by omega) ?_; intro w1 hown1 hgrow1)
                go_roundw
                case rel => exact rel_push (m := 2) (x := 39) (by omega) (by omega) (by omega) hn hcapr HX.out (by have := HST.out; rw [HLK.out] at this; exact this) hgr hown1 (grown_alloc1 hgrow1)
                case measure => simp [intOf]; omega
              · have hd39b : ((d.toNat : Int) == 39) = false := beq_no d 39 (by omega) hd39
                have HD39 : Hid (d ≠ 39) := hd39
                clear hd39
                have HLK : Hid (Plain.look q c (L.drop (k + 1)) = (c, 0)) := by show Plain.look q c (L.drop (k + 1)) = (c, 0); rw [H39.out, HD2.out]; exact Plain.look_plain39 c _ (by simpa using HD39.out)
                go_wp2_with (at_builtin; refine wpList_append_fits _ rfl (.tmp 20) (.tmp 22) 22 rfl base 5 i0 1 Tryf.underlying22 hinfo hz1 g n cap _ rfl (hownr.alloc _) ⟨_, 0, none⟩ 1 1 [.int .u8 c.toNat] rfl rfl cell_one (one_u8 _) (by omega) ?_; intro w1 hown1 hgrow1)
                go_roundw
                case rel => exact rel_push (m := 1) (by omega) (by omega) (by omega) hn hcapr HX.out (by have := HST.out; rw [HLK.out] at this; exact this) hgr hown1 (grown_alloc1 hgrow1)
                case measure => simp [intOf]; omega
            · have hl1z : decide ((k : Int) + 1 < (L.length : Int)) = false := decide_eq_false (by omega)
              have HLK : Hid (Plain.look q c (L.drop (k + 1)) = (c, 0)) := by show Plain.look q c (L.drop (k + 1)) = (c, 0); rw [H39.out, List.drop_of_length_le (by omega)]; exact Plain.look_plain39 c _ (by simp)
              go_wp2_with (at_builtin; refine wpList_append_fits _ rfl (.tmp 20) (.tmp 22) 22 rfl base 5 i0 1 Tryf.underlying22 hinfo hz1 g n cap _ rfl (hownr.alloc _) ⟨_, 0, none⟩ 1 1 [.int .u8 c.toNat] rfl rfl cell_one (one_u8 _) (by omega) ?_; intro w1 hown1 hgrow1)
              go_roundw
              case rel => exact rel_push (m := 1) (by omega) (by omega) (by omega) hn hcapr HX.out (by have := HST.out; rw [HLK.out] at this; exact this) hgr hown1 (grown_alloc1 hgrow1)
              case measure => simp [intOf]; omega
          · have hq39 : ((q.toNat : Int) == 39) = false := beq_no q 39 (by omega) h39
            by_cases h34 : q = 34
            · have hq34 : ((q.toNat : Int) == 34) = true := by subst h34; rfl
              have H34 : Hid (q = 34) := h34
              clear h34 h39
              by_cases hl1 : k + 1 < L.length
              · have hd0 := hLr.at (k + 1) hl1
                obtain ⟨d, hd⟩ : ∃ d : UInt8, L[k + 1]'hl1 = d := ⟨_, rfl⟩
                rw [hd] at hd0
                have HD2 : Hid (L.drop (k + 1) = d :: L.drop (k + 1 + 1)) := by show L.drop (k + 1) = _; rw [List.drop_eq_getElem_cons hl1, hd]
                clear hd
                by_cases hl3 : k + 3 < L.length
                · have hl2 : k + 2 < L.length := by omega
                  have ha0 := hLr.at (k + 2) hl2
                  have hb0 := hLr.at (k + 3) hl3
                  obtain ⟨a, ha⟩ : ∃ a : UInt8, L[k + 2]'hl2 = a := ⟨_, rfl⟩
                  obtain ⟨b, hb⟩ : ∃ b : UInt8, L[k + 3]'hl3 = b := ⟨_, rfl⟩
                  rw [ha] at ha0
                  rw [hb] at hb0
                  have HD3 : Hid (L.drop (k + 1 + 1) = a :: b :: L.drop (k + 4)) := by
                    show L.drop (k + 2) = _
                    rw [List.drop_eq_getElem_cons hl2, List.drop_eq_getElem_cons hl3, ha, hb]
                  clear ha hb
                  by_cases hd120 : d = 120
                  · have hdb : ((d.toNat : Int) == 120) = true := by subst hd120; rfl
                    have HD120 : Hid (d = 120) := hd120
                    clear hd120
                    rcases (Bool.eq_false_or_eq_true (Plain.isHex a)).symm with hxa | hxa
                    · have HXA : Hid (Plain.isHex a = false) := hxa
                      clear hxa
                      have HLK : Hid (Plain.look q c (L.drop (k + 1)) = (Plain.unescape d, 1)) := by
                        show Plain.look q c (L.drop (k + 1)) = (Plain.unescape d, 1)
                        rw [H34.out, H92.out, HD2.out]
                        refine Plain.look_esc d _ ?_
                        rintro ⟨h1, h2, t', ht, _, hh, _⟩; rw [HD3.out] at ht; have := (List.cons.inj ht).1; rw [← this, HXA.out] at hh; cases hh
                      go_wp2_with fail
                      refine (isHex_any a _).mono ?_
                      rintro e wa ⟨rfl, hwwa⟩
                      rw [hwwa, HXA.out]
                      go_wp2_with (first
                        | (go_at_call 43; refine (unescape_any d _).mono ?_; rintro e w' ⟨rfl, hw'⟩; rw [hw'])
                        | (at_builtin; refine wpList_append_fits _ rfl (.tmp 145) (.tmp 152) 22 rfl base 5 i0 1 Tryf.underlying22 hinfo hz1 g n cap _ rfl (hownr.alloc _) ⟨_, 0, none⟩ 1 1 [.int .u8 (Plain.unescape d).toNat] rfl rfl cell_one (one_u8 _) (by omega) ?_; intro w1 hown1 hgrow1))
                      go_roundw
                      case rel => exact rel_push (m := 2) (by omega) (by omega) (by omega) hn hcapr HX.out (by have := HST.out; rw [HLK.out] at this; exact this) hgr hown1 (grown_alloc1 hgrow1)
                      case measure => simp [intOf]; omega
                    · have HXA : Hid (Plain.isHex a = true) := hxa
                      clear hxa
                      rcases (Bool.eq_false_or_eq_true (Plain.isHex b)).symm with hxb | hxb
                      · have HXB : Hid (Plain.isHex b = false) := hxb
                        clear hxb
                        have HLK : Hid (Plain.look q c (L.drop (k + 1)) = (Plain.unescape d, 1)) := by
                          show Plain.look q c (L.drop (k + 1)) = (Plain.unescape d, 1)
                          rw [H34.out, H92.out, HD2.out]
                          refine Plain.look_esc d _ ?_
                          rintro ⟨h1, h2, t', ht, _, _, hh⟩; rw [HD3.out] at ht; have := (List.cons.inj (List.cons.inj ht).2).1; rw [← this, HXB.out] at hh; cases hh
                        go_wp2_with fail
                        refine (isHex_any a _).mono ?_
                        rintro e wa ⟨rfl, hwwa⟩
                        rw [hwwa, HXA.out]
                        go_wp2_with fail
                        refine (isHex_any b _).mono ?_
                        rintro e wb ⟨rfl, hwwb⟩
                        rw [hwwb, HXB.out]
                        go_wp2_with (first
                          | (go_at_call 43; refine (unescape_any d _).mono ?_; rintro e w' ⟨rfl, hw'⟩; rw [hw'])
                          | (at_builtin; refine wpList_append_fits _ rfl (.tmp 145) (.tmp 152) 22 rfl base 5 i0 1 Tryf.underlying22 hinfo hz1 g n cap _ rfl (hownr.alloc _) ⟨_, 0, none⟩ 1 1 [.int .u8 (Plain.unescape d).toNat] rfl rfl cell_one (one_u8 _) (by omega) ?_; intro w1 hown1 hgrow1))
                        go_roundw
                        case rel => exact rel_push (m := 2) (by omega) (by omega) (by omega) hn hcapr HX.out (by have := HST.out; rw [HLK.out] at this; exact this) hgr hown1 (grown_alloc1 hgrow1)
                        case measure => simp [intOf]; omega
                      · have HXB : Hid (Plain.isHex b = true) := hxb
                        clear hxb
                        have HLK : Hid (Plain.look q c (L.drop (k + 1)) = (Plain.hexByte a b, 3)) := by
                          show Plain.look q c (L.drop (k + 1)) = (Plain.hexByte a b, 3)
                          rw [H34.out, H92.out, HD2.out, HD3.out, HD120.out]
                          exact Plain.look_hex a b _ HXA.out HXB.out
                        go_wp2_with fail
                        refine (isHex_any a _).mono ?_
                        rintro e wa ⟨rfl, hwa⟩
                        rw [hwa, HXA.out]
                        go_wp2_with fail
                        refine (isHex_any b _).mono ?_
                        rintro e wb ⟨rfl, hwb⟩
                        rw [hwb, HXB.out]
                        go_wp2_with fail
                        have i1 : IntKind.i64.wrap ((k : Int) + 2) = (k : Int) + 2 := wrap_small _ (by omega) (by omega)
                        have i2 : IntKind.i64.wrap ((k : Int) + 3) = (k : Int) + 3 := wrap_small _ (by omega) (by omega)
                        have i3 : (0 : Int) ≤ (k : Int) + 2 := by omega
                        have i4 : (k : Int) + 2 < (L.length : Int) := by omega
                        have i5 : (0 : Int) ≤ (k : Int) + 3 := by omega
                        have i6 : (k : Int) + 3 < (L.length : Int) := by omega
                        have i7 : ((k : Int) + 2).toNat = k + 2 := by omega
                        have i8 : ((k : Int) + 3).toNat = k + 3 := by omega
                        have hxe := hex_eq a b HXA.out HXB.out
                        go_region_held3 (fun w' => w'.cell? ⟨lb, lo + (k + 2), none⟩ = some (.int .u8 (a.toNat : Int)) ∧ w'.cell? ⟨lb, lo + (k + 3), none⟩ = some (.int .u8 (b.toNat : Int)))
                          (first | go_keep | (exact ⟨grown_cell hgrow1 ha0 hne, grown_cell hgrow1 hb0 hne⟩))
                          (first | (go_at_call_of 42 (Value.int IntKind.u8 (a.toNat : Int)); refine (hexValue_any a _ HXA.out).mono ?_; rintro e w' ⟨rfl, rfl⟩) | (go_at_call_of 42 (Value.int IntKind.u8 (b.toNat : Int)); refine (hexValue_any b _ HXB.out).mono ?_; rintro e w' ⟨rfl, rfl⟩) | (refine step_append_fits (by rfl) (.tmp 112) (.tmp 127) 22 (by rfl) base 5 i0 1 Tryf.underlying22 hinfo hz1 g n cap _ (by rfl) (own_drew (hownr.alloc _)) ⟨_, 0, none⟩ 1 1 [.int .u8 ((Plain.hexByte a b).toNat : Int)] (by rfl) (by rfl) cell_one_drew (one_u8 _) (by omega) ?_; intro w1 hown1 hgrow1))
                        go_wp2
                        go_roundw
                        case rel => exact rel_push (m := 4) (by omega) (by omega) (by omega) hn hcapr HX.out (by have := HST.out; rw [HLK.out] at this; exact this) hgr hown1 (grown_alloc1 (grown_drew1 hgrow1))
                        case measure => simp [intOf]; omega
                  · have hdb : ((d.toNat : Int) == 120) = false := beq_no d 120 (by omega) hd120
                    have HD120 : Hid (d ≠ 120) := hd120
                    clear hd120
                    have HLK : Hid (Plain.look q c (L.drop (k + 1)) = (Plain.unescape d, 1)) := by
                      show Plain.look q c (L.drop (k + 1)) = (Plain.unescape d, 1)
                      rw [H34.out, H92.out, HD2.out]
                      refine Plain.look_esc d _ ?_
                      rintro ⟨h1, h2, t', _, hh, _⟩; exact HD120.out hh
                    go_wp2_with (first
                      | (go_at_call 43; refine (unescape_any d _).mono ?_; rintro e w' ⟨rfl, hw'⟩; rw [hw'])
                      | (at_builtin; refine wpList_append_fits _ rfl (.tmp 145) (.tmp 152) 22 rfl base 5 i0 1 Tryf.underlying22 hinfo hz1 g n cap _ rfl (hownr.alloc _) ⟨_, 0, none⟩ 1 1 [.int .u8 (Plain.unescape d).toNat] rfl rfl cell_one (one_u8 _) (by omega) ?_; intro w1 hown1 hgrow1))
                    go_roundw
                    case rel => exact rel_push (m := 2) (by omega) (by omega) (by omega) hn hcapr HX.out (by have := HST.out; rw [HLK.out] at this; exact this) hgr hown1 (grown_alloc1 hgrow1)
                    case measure => simp [intOf]; omega
                · have hl3z : decide ((k : Int) + 3 < (L.length : Int)) = false := decide_eq_false (by omega)
                  have HLK : Hid (Plain.look q c (L.drop (k + 1)) = (Plain.unescape d, 1)) := by
                    show Plain.look q c (L.drop (k + 1)) = (Plain.unescape d, 1)
                    rw [H34.out, H92.out, HD2.out]
                    refine Plain.look_esc d _ ?_
                    rintro ⟨h1, h2, t', ht, _⟩; have := congrArg List.length ht; simp at this; omega
                  go_wp2_with (first
                    | (go_at_call 43; refine (unescape_any d _).mono ?_; rintro e w' ⟨rfl, hw'⟩; rw [hw'])
                    | (at_builtin; refine wpList_append_fits _ rfl (.tmp 145) (.tmp 152) 22 rfl base 5 i0 1 Tryf.underlying22 hinfo hz1 g n cap _ rfl (hownr.alloc _) ⟨_, 0, none⟩ 1 1 [.int .u8 (Plain.unescape d).toNat] rfl rfl cell_one (one_u8 _) (by omega) ?_; intro w1 hown1 hgrow1))
                  go_roundw
                  case rel => exact rel_push (m := 2) (by omega) (by omega) (by omega) hn hcapr HX.out (by have := HST.out; rw [HLK.out] at this; exact this) hgr hown1 (grown_alloc1 hgrow1)
                  case measure => simp [intOf]; omega
              · have hl1z : decide ((k : Int) + 1 < (L.length : Int)) = false := decide_eq_false (by omega)
                have hl3z : decide ((k : Int) + 3 < (L.length : Int)) = false := decide_eq_false (by omega)
                have HLK : Hid (Plain.look q c (L.drop (k + 1)) = (c, 0)) := by show Plain.look q c (L.drop (k + 1)) = (c, 0); rw [H34.out, List.drop_of_length_le (by omega)]; exact Plain.look_end c
                go_wp2_with (at_builtin; refine wpList_append_fits _ rfl (.tmp 20) (.tmp 22) 22 rfl base 5 i0 1 Tryf.underlying22 hinfo hz1 g n cap _ rfl (hownr.alloc _) ⟨_, 0, none⟩ 1 1 [.int .u8 c.toNat] rfl rfl cell_one (one_u8 _) (by omega) ?_; intro w1 hown1 hgrow1)
                go_roundw
                case rel => exact rel_push (m := 1) (by omega) (by omega) (by omega) hn hcapr HX.out (by have := HST.out; rw [HLK.out] at this; exact this) hgr hown1 (grown_alloc1 hgrow1)
                case measure => simp [intOf]; omega
            · have hq34 : ((q.toNat : Int) == 34) = false := beq_no q 34 (by omega) h34
              have HO : Hid (q ≠ 39 ∧ q ≠ 34) := ⟨h39, h34⟩
              clear h34 h39
              have HLK : Hid (Plain.look q c (L.drop (k + 1)) = (c, 0)) := by show Plain.look q c (L.drop (k + 1)) = (c, 0); exact Plain.look_other q c _ HO.out.1 HO.out.2
              go_wp2_with (at_builtin; refine wpList_append_fits _ rfl (.tmp 20) (.tmp 22) 22 rfl base 5 i0 1 Tryf.underlying22 hinfo hz1 g n cap _ rfl (hownr.alloc _) ⟨_, 0, none⟩ 1 1 [.int .u8 c.toNat] rfl rfl cell_one (one_u8 _) (by omega) ?_; intro w1 hown1 hgrow1)
              go_roundw
              case rel => exact rel_push (m := 1) (by omega) (by omega) (by omega) hn hcapr HX.out (by have := HST.out; rw [HLK.out] at this; exact this) hgr hown1 (grown_alloc1 hgrow1)
              case measure => simp [intOf]; omega
        · have hc92 : ((c.toNat : Int) == 92) = false := beq_no c 92 (by omega) h92
          have HLK : Hid (Plain.look q c (L.drop (k + 1)) = (c, 0)) := by show Plain.look q c (L.drop (k + 1)) = (c, 0); simp [Plain.look, h92]
          clear h92
          go_wp2_with (at_builtin; refine wpList_append_fits _ rfl (.tmp 20) (.tmp 22) 22 rfl base 5 i0 1 Tryf.underlying22 hinfo hz1 g n cap _ rfl (hownr.alloc _) ⟨_, 0, none⟩ 1 1 [.int .u8 c.toNat] rfl rfl cell_one (one_u8 _) (by omega) ?_; intro w1 hown1 hgrow1)
          go_roundw
          case rel => exact rel_push (m := 1) (by omega) (by omega) (by omega) hn hcapr HX.out (by have := HST.out; rw [HLK.out] at this; exact this) hgr hown1 (grown_alloc1 hgrow1)
          case measure => simp [intOf]; omega
    · go_wp2
      go_ret3
      exact ⟨WordRes.none (by rw [HX.out, List.drop_of_length_le (by omega), Plain.quoted_nil]; rfl), hgr⟩
end Go.Proofs.Qxb6616016aFmt
