import Derived.Test.Qxb6616016aFmtPlain3
namespace Go.Proofs.Qxb6616016aFmt
open Go.RowKit Go.Extern.Stop Go.Stop Go.Extern

theorem results_tmp8 {fn : Func} {a b c d e f g h : Tmp} (hr : fn.results = #[.tmp a, .tmp b, .tmp c, .tmp d, .tmp e, .tmp f, .tmp g, .tmp h]) (tmps : Array Value) (P : Program) (w : World) :
    (results fn tmps).run P w = .ok (.tuple #[tmps.getD a undef, tmps.getD b undef, tmps.getD c undef, tmps.getD d undef, tmps.getD e undef, tmps.getD f undef, tmps.getD g undef, tmps.getD h undef]) w := by
  simp [results, hr]

set_option maxHeartbeats 4000000 in
set_option maxRecDepth 100000 in
/-- ZZreadInlineTwice of a bare word, a line feed, and a stream. -/
theorem twice_any (F : Interp) (w : World) (B dn dc db od : Nat) (x d : List UInt8) (a0 a1 a2 a3 : Addr) (s0 : ByteArray) (hF : F.answers w.tape) (hdn : (x ++ 10 :: d).length = dn) (hN : dn < 65536) (hdc : dn ≤ dc) (hD : BytesAt w db od (x ++ 10 :: d)) (hs : Sent w B a0 a1 a2 a3 s0) (hbare : Plain.Bare x) :
    Calls Tryf.prog 12 #[.slice (some ⟨db, od, none⟩) dn dc] w fun r w' => ∃ a c p1 u1 v f p u, r = .returned (.tuple #[.slice a 1 c, .bool false, .bool p1, .bool u1, v, .bool f, .bool p, .bool u]) ∧ Words w' (.slice a 1 c) [x] ∧ Out w' (Plain.req d) v f p u ∧ Below w.heap.size w w' := by
  have HS : Hid (Sent w B a0 a1 a2 a3 s0) := hs
  have HD : Hid (BytesAt w db od (x ++ 10 :: d)) := hD
  have HBare : Hid (Plain.Bare x) := hbare
  clear hs hD hbare
  have HLn : Hid (Plain.line (x ++ 10 :: d) = some (x, d)) := Plain.line_yes x d (Plain.bare_no HBare.out)
  have HSp : Hid (Plain.split (Plain.trim x) = some [x]) := by show Plain.split (Plain.trim x) = some [x]; rw [Plain.trim_bare x HBare.out]; exact Plain.split_alone x HBare.out
  have HNe : Hid (x ++ 10 :: d ≠ []) := by show x ++ 10 :: d ≠ []; simp
  generalize x ++ 10 :: d = P at *
  go_enter Tryf.func12, Tryf.ntmps12
  go_wp2_with fail
  refine (bytesNew_any w (some ⟨db, od, none⟩) dn dc).mono ?_
  rintro e w1 ⟨rfl, hw1⟩
  have hs1 : w1.heap.size = w.heap.size + 1 := by rw [hw1]; simp
  have H1 : Hid (Cells w1 w.heap.size [.slice (some ⟨db, od, none⟩) dn dc, .int .i64 0, .int .i64 (-1)] 51) := by rw [hw1]; exact heap_alloc_new w _
  have B1 : Hid (Below w.heap.size w w1) := by rw [hw1]; exact (Below.refl _ w).alloc (Nat.le_refl _) _
  clear hw1
  go_wp2_with fail
  refine (newReader_N w1 w.heap.size _ _).mono ?_
  rintro e w2 ⟨qb, N, hN1, hN2, rfl, hqb, hq, hr, hk, hb, hB2⟩
  have hbb : w1.heap.size + 2 < w2.heap.size := by obtain ⟨cur, hcur, _⟩ := hb; exact hcur.lt
  have S2 : Hid (Cells w2 w.heap.size [.slice (some ⟨db, od, none⟩) dn dc, .int .i64 0, .int .i64 (-1)] 51) := (hB2.block _ (by omega)).trans H1.out
  have B2 : Hid (Below w.heap.size w w2) := B1.out.trans (hB2.mono (by omega))
  have ST : Hid (Start w2 (w1.heap.size + 1) (w1.heap.size + 2) w1.heap.size w.heap.size N (some ⟨db, od, none⟩) dn dc 0 P) :=
    start_state w1 w2 w.heap.size N dn dc (some ⟨db, od, none⟩) P hdn (by omega) hN2 (fun hP => ⟨db, od, rfl, HD.out.block (B2.out.block db (HD.out.lt hP)), HD.out.lt hP⟩) hdc S2.out hs1 hr hk hb
  have HS2 : Hid (Sent w2 B a0 a1 a2 a3 s0) := HS.out.kept ((Kept.refl [] w).below B2.out) (by simp)
  clear hr hk hb hB2
  have HBk : Hid (∀ k ∈ [w1.heap.size + 1, w1.heap.size + 2, w1.heap.size, w.heap.size], B ≤ k) := by
    have := HS.out.hB
    intro k hk
    simp at hk
    omega
  have HSm : Hid (∀ k ∈ [w1.heap.size + 1, w1.heap.size + 2, w1.heap.size, w.heap.size], w.heap.size ≤ k ∧ k < w2.heap.size ∧ k ≠ qb) := by
    intro k hk
    simp at hk
    omega
  go_wp2_with fail
  refine (readInline_any F w2 B qb _ _ _ _ N dn dc 0 (some ⟨db, od, none⟩) P a0 a1 a2 a3 s0 (by rw [B2.out.tape]; exact hF) hq ST.out HS2.out HBk.out).mono ?_
  rintro e w3 ⟨hres, hK3⟩
  have HS3 : Hid (Sent w3 B a0 a1 a2 a3 s0) := HS2.out.kept hK3 HBk.out
  have B3 : Hid (Below w.heap.size w w3) := B2.out.trans (hK3.to_below (B2.out.size) (fun k hk => (HSm.out k hk).1))
  have hq3 : w3.cell? ⟨qb, 0, none⟩ = some (.pointer (some ⟨w1.heap.size + 1, 0, none⟩)) := hK3.cell hq (fun hm => (HSm.out _ hm).2.2 rfl)
  have hs3 : w2.heap.size ≤ w3.heap.size := hK3.size
  clear hK3 hq
  obtain ⟨l, rest, hP, hnl, hR, hsub⟩ : ∃ l rest, P = l ++ 10 :: rest ∧ 10 ∉ l ∧ Rd w3 (w1.heap.size + 1) (w1.heap.size + 2) w1.heap.size w.heap.size N (some ⟨db, od, none⟩) dn dc dn (0 + (l.length + 1)) rest .nilIface ∧
      ((Plain.split (Plain.trim l) = none ∧ ∃ pb, e = .returned (.tuple #[.slice none 0 0, .iface 73 (.pointer (some ⟨pb, 0, none⟩))]) ∧ w3.cell? ⟨pb, 1, none⟩ = some (.iface 89 (.pointer (some a0)))) ∨
       ∃ ws a c, Plain.split (Plain.trim l) = some ws ∧ e = .returned (.tuple #[.slice a ws.length c, .nilIface]) ∧ WordsF w2.heap.size w3 (.slice a ws.length c) ws) := by
    rcases hres with h | ⟨hnot, _⟩
    · exact h
    · have := HLn.out
      rw [Plain.line_not P hnot] at this
      cases this
  clear hres
  obtain ⟨rfl, rfl⟩ : l = x ∧ rest = d := by
    have h1 := HLn.out
    rw [hP, Plain.line_yes l rest hnl] at h1
    simpa using h1
  obtain ⟨va, vc, rfl, hwd⟩ : ∃ a c, e = .returned (.tuple #[.slice a 1 c, .nilIface]) ∧ WordsF w2.heap.size w3 (.slice a 1 c) [l] := by
    rcases hsub with ⟨hn, _⟩ | ⟨ws, a, c, hsome, he, hw⟩
    · have := HSp.out; rw [hn] at this; cases this
    · have := HSp.out
      rw [hsome] at this
      obtain rfl : ws = [l] := by simpa using this
      exact ⟨a, c, he, hw⟩
  have HW3 : Hid (WordsF w2.heap.size w3 (.slice va 1 vc) [l]) := hwd
  have HR : Hid (Rd w3 (w1.heap.size + 1) (w1.heap.size + 2) w1.heap.size w.heap.size N (some ⟨db, od, none⟩) dn dc dn (0 + (l.length + 1)) rest .nilIface) := hR
  clear hsub hwd hR hP
  go_wp2_with fail
  refine (readInline_any F w3 B qb _ _ _ _ N dn dc (0 + (l.length + 1)) (some ⟨db, od, none⟩) rest a0 a1 a2 a3 s0 (by rw [B3.out.tape]; exact hF) hq3 (.inl HR.out) HS3.out HBk.out).mono ?_
  rintro e w4 ⟨hres, hK4⟩
  have HS4 : Hid (Sent w4 B a0 a1 a2 a3 s0) := HS3.out.kept hK4 HBk.out
  have B4 : Hid (Below w.heap.size w w4) := B3.out.trans (hK4.to_below (B3.out.size) (fun k hk => (HSm.out k hk).1))
  have HW4 : Hid (Words w4 (.slice va 1 vc) [l]) := (HW3.out.stay (Nat.le_refl _) (fun k h1 h2 => hK4.block k h2 (fun hm => absurd (HSm.out k hm).2.1 (by omega)))).weak
  clear hK4
  have g0 := HS4.out.g0
  have g1 := HS4.out.g1
  have HI1 : Hid (∀ n t, (t = a0 ∨ t = a1) → Calls Tryf.prog 18 #[.nilIface, .iface 89 (.pointer (some t))] (w4.drewN n) fun e w' => e = .returned (.bool false) ∧ w' = w4.drewN n) := fun n t ht => (is_answers w4 B a0 a1 a2 a3 s0 HS4.out n t ht).1
  rcases hres with ⟨l2, rest2, hP2, hnl2, hR2, ⟨hsp2, pb, rfl, hpb⟩ | ⟨ws, wa, wc, hsp2, rfl, hws⟩⟩ | ⟨hnot, rfl⟩
  · have HP : Hid (Plain.req rest = some none) := by show Plain.req rest = some none; rw [hP2, Plain.req, Plain.line_yes l2 rest2 hnl2, ← hsp2]; rfl
    clear hP2 hR2 hsp2
    have HI : Hid (∀ n t, (t = a0 ∨ t = a1) → Calls Tryf.prog 18 #[.iface 73 (.pointer (some ⟨pb, 0, none⟩)), .iface 89 (.pointer (some t))] (w4.drewN n) fun e w' => e = .returned (.bool (decide (t = a0))) ∧ w' = w4.drewN n) := fun n t ht => (is_answers w4 B a0 a1 a2 a3 s0 HS4.out n t ht).2.2 pb hpb
    clear hpb
    go_wp2_with fail
    go_quiet (first | (go_at_call_of 18 (Value.nilIface); refine (HI1.out _ _ (by first | exact .inl rfl | exact .inr rfl)).mono ?_; rintro e w'' ⟨rfl, rfl⟩; exact ⟨rfl, _, rfl⟩) | (go_at_call 18; refine (HI.out _ _ (by first | exact .inl rfl | exact .inr rfl)).mono ?_; rintro e w'' ⟨rfl, rfl⟩; exact ⟨rfl, _, rfl⟩))
    go_wp2
    (try simp only [Exit.inBlock, Exit.then]); refine bodyPost_ret (results_tmp8 rfl _ _ _) rfl ?_
    refine ⟨_, _, _, _, _, _, _, _, rfl, HW4.out, ?_, ⟨B4.out.os, B4.out.tape, B4.out.output, B4.out.size, B4.out.block⟩⟩
    rw [HP.out]
    exact ⟨rfl, rfl, by simp, by simpa using HS4.out.n10⟩
  · have HP : Hid (Plain.req rest = some (some ws)) := by show Plain.req rest = some (some ws); rw [hP2, Plain.req, Plain.line_yes l2 rest2 hnl2, ← hsp2]; rfl
    clear hP2 hR2 hsp2
    have HW : Hid (Words w4 (.slice wa ws.length wc) ws) := hws.weak
    clear hws
    go_wp2_with fail
    go_quiet (first | (go_at_call_of 18 (Value.nilIface); refine (HI1.out _ _ (by first | exact .inl rfl | exact .inr rfl)).mono ?_; rintro e w'' ⟨rfl, rfl⟩; exact ⟨rfl, _, rfl⟩))
    go_wp2
    (try simp only [Exit.inBlock, Exit.then]); refine bodyPost_ret (results_tmp8 rfl _ _ _) rfl ?_
    refine ⟨_, _, _, _, _, _, _, _, rfl, HW4.out, ?_, ⟨B4.out.os, B4.out.tape, B4.out.output, B4.out.size, B4.out.block⟩⟩
    rw [HP.out]
    exact ⟨⟨_, _, rfl⟩, rfl, rfl, rfl, HW.out⟩
  · have HP : Hid (Plain.req rest = none) := by show Plain.req rest = none; rw [Plain.req, Plain.line_not rest hnot]; rfl
    have HI : Hid (∀ n t, (t = a0 ∨ t = a1) → Calls Tryf.prog 18 #[.iface 89 (.pointer (some a1)), .iface 89 (.pointer (some t))] (w4.drewN n) fun e w' => e = .returned (.bool (decide (t = a1))) ∧ w' = w4.drewN n) := fun n t ht => (is_answers w4 B a0 a1 a2 a3 s0 HS4.out n t ht).2.1
    go_wp2_with fail
    go_quiet (first | (go_at_call_of 18 (Value.nilIface); refine (HI1.out _ _ (by first | exact .inl rfl | exact .inr rfl)).mono ?_; rintro e w'' ⟨rfl, rfl⟩; exact ⟨rfl, _, rfl⟩) | (go_at_call 18; refine (HI.out _ _ (by first | exact .inl rfl | exact .inr rfl)).mono ?_; rintro e w'' ⟨rfl, rfl⟩; exact ⟨rfl, _, rfl⟩))
    go_wp2
    (try simp only [Exit.inBlock, Exit.then]); refine bodyPost_ret (results_tmp8 rfl _ _ _) rfl ?_
    refine ⟨_, _, _, _, _, _, _, _, rfl, HW4.out, ?_, ⟨B4.out.os, B4.out.tape, B4.out.output, B4.out.size, B4.out.block⟩⟩
    rw [HP.out]
    exact ⟨rfl, rfl, by simpa using fun e => HS4.out.n10 e.symm, by simp⟩
end Go.Proofs.Qxb6616016aFmt
