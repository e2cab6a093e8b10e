import Derived.Test.Qxb6616016aFmtInline
namespace Go.Proofs.Qxb6616016aFmt
open Go.RowKit Go.Extern.Stop Go.Stop Go.Extern

/-- what lies ahead of the first line feed, and behind it. -/
def Plain.line : List UInt8 → Option (List UInt8 × List UInt8)
  | [] => none
  | c :: t => if c = 10 then some ([], t) else (Plain.line t).map fun lr => (c :: lr.1, lr.2)
theorem Plain.line_not : ∀ (P : List UInt8), 10 ∉ P → Plain.line P = none
  | [], _ => rfl
  | c :: t, h => by
    simp at h
    unfold Plain.line
    rw [if_neg (fun e => h.1 e.symm), Plain.line_not t h.2]; rfl
theorem Plain.line_yes : ∀ (l rest : List UInt8), 10 ∉ l → Plain.line (l ++ 10 :: rest) = some (l, rest)
  | [], _, _ => rfl
  | c :: t, rest, h => by
    simp at h
    rw [List.cons_append]
    unfold Plain.line
    rw [if_neg (fun e => h.1 e.symm), Plain.line_yes t rest h.2]; rfl

/-- the first request of the stream: none: cut off; some none: refused; else its words. -/
def Plain.req (P : List UInt8) : Option (Option (List (List UInt8))) := (Plain.line P).map fun lr => Plain.split (Plain.trim lr.1)

/-- the four answers. -/
def Out (w : World) (o : Option (Option (List (List UInt8)))) (v : Value) (f p u : Bool) : Prop :=
  match o with
  | none => v = .slice none 0 0 ∧ f = true ∧ p = false ∧ u = true
  | some none => v = .slice none 0 0 ∧ f = true ∧ p = true ∧ u = false
  | some (some ws) => (∃ a c, v = .slice a ws.length c) ∧ f = false ∧ p = false ∧ u = false ∧ Words w v ws

def Start (w : World) (rb bb kb sb N : Nat) (D : Option Addr) (dn dc r : Nat) (P : List UInt8) : Prop := Rd w rb bb kb sb N D dn dc dn r P .nilIface ∨ (r = 0 ∧ Fresh w rb bb kb sb N D dn dc P)

theorem results_tmp4 {fn : Func} {a b c d : Tmp} (h : fn.results = #[.tmp a, .tmp b, .tmp c, .tmp d]) (tmps : Array Value) (P : Program) (w : World) :
    (results fn tmps).run P w = .ok (.tuple #[tmps.getD a undef, tmps.getD b undef, tmps.getD c undef, tmps.getD d undef]) w := by
  simp [results, h]

/-- a new reader over the data P. -/
theorem start_state (w w' : World) (sb N dn dc : Nat) (D : Option Addr) (P : List UInt8) (hdn : P.length = dn) (hN1 : dn < N) (hN2 : N ≤ 100000) (hD : P ≠ [] → ∃ db od, D = some ⟨db, od, none⟩ ∧ BytesAt w' db od P ∧ db < sb) (hdc : dn ≤ dc)
    (hs : Cells w' sb [.slice D dn dc, .int .i64 0, .int .i64 (-1)] 51) (hsz : w.heap.size = sb + 1)
    (hr : Cells w' (w.heap.size + 1) [.slice (some ⟨w.heap.size + 2, 0, none⟩) N N, .iface 43 (.pointer (some ⟨w.heap.size, 0, none⟩)), .int .i64 0, .int .i64 0, .nilIface, .int .i64 (-1), .int .i64 (-1)] 66)
    (hk : Cells w' w.heap.size [.iface 34 (.pointer (some ⟨sb, 0, none⟩)), .slice none 0 0, .int .i64 0] 45) (hb : ∃ cur, Cells w' (w.heap.size + 2) cur 5 ∧ cur.length = N) :
    Start w' (w.heap.size + 1) (w.heap.size + 2) w.heap.size sb N D dn dc 0 P := by
  have h0 : Rd w' (w.heap.size + 1) (w.heap.size + 2) w.heap.size sb N D dn dc 0 0 [] .nilIface :=
    ⟨⟨_, _, hr⟩, hk, ⟨_, hs⟩, hb, fun j x hx => by simp at hx, by simp; omega, hN2⟩
  by_cases hP : P = []
  · subst hP
    obtain rfl : dn = 0 := by simpa using hdn.symm
    exact .inl h0
  · obtain ⟨db, od, rfl, hB, hlt⟩ := hD hP
    exact .inr ⟨rfl, h0, hP, hdn, hdc, hN1, db, od, rfl, hB, by simp; omega⟩

theorem newReader_N (w : World) (sb : Nat) (m1 m2 : Int) :
    Calls Tryf.prog 15 #[.iface 34 (.pointer (some ⟨sb, 0, none⟩)), .int .i64 m1, .int .i64 m2] w fun x w' => ∃ qb N, 65536 ≤ N ∧ N ≤ 100000 ∧ x = .returned (.pointer (some ⟨qb, 0, none⟩)) ∧ w.heap.size + 3 ≤ qb ∧
      w'.cell? ⟨qb, 0, none⟩ = some (.pointer (some ⟨w.heap.size + 1, 0, none⟩)) ∧
      Cells w' (w.heap.size + 1) [.slice (some ⟨w.heap.size + 2, 0, none⟩) N N, .iface 43 (.pointer (some ⟨w.heap.size, 0, none⟩)), .int .i64 0, .int .i64 0, .nilIface, .int .i64 (-1), .int .i64 (-1)] 66 ∧
      Cells w' w.heap.size [.iface 34 (.pointer (some ⟨sb, 0, none⟩)), .slice none 0 0, .int .i64 0] 45 ∧
      (∃ cur, Cells w' (w.heap.size + 2) cur 5 ∧ cur.length = N) ∧ Below w.heap.size w w' := by
  refine (newReader_any w sb m1 m2).mono ?_
  rintro x w' ⟨qb, h1, h2, h3, h4, h5, h6, h7⟩
  exact ⟨qb, _, Nat.le_refl _, by omega, h1, h2, h3, h4, h5, h6, h7⟩

/-- errors.Is of what readInline hands back. -/
theorem is_answers (w : World) (B : Nat) (a0 a1 a2 a3 : Addr) (s0 : ByteArray) (hs : Sent w B a0 a1 a2 a3 s0) (n : Nat) (t : Addr) (ht : t = a0 ∨ t = a1) :
    (Calls Tryf.prog 18 #[.nilIface, .iface 89 (.pointer (some t))] (w.drewN n) fun e w' => e = .returned (.bool false) ∧ w' = w.drewN n) ∧
    (Calls Tryf.prog 18 #[.iface 89 (.pointer (some a1)), .iface 89 (.pointer (some t))] (w.drewN n) fun e w' => e = .returned (.bool (decide (t = a1))) ∧ w' = w.drewN n) ∧
    (∀ pb, w.cell? ⟨pb, 1, none⟩ = some (.iface 89 (.pointer (some a0))) → Calls Tryf.prog 18 #[.iface 73 (.pointer (some ⟨pb, 0, none⟩)), .iface 89 (.pointer (some t))] (w.drewN n) fun e w' => e = .returned (.bool (decide (t = a0))) ∧ w' = w.drewN n) := by
  obtain ⟨c0, t0, r0⟩ := hs.r0
  obtain ⟨c1, t1, r1⟩ := hs.r1
  refine ⟨is_nil t _, ?_, fun pb hpb => ?_⟩
  · rcases ht with rfl | rfl
    · rw [decide_eq_false (fun e => hs.n10 e.symm)]
      exact is_other a1 t c1 c0 t1 t0 _ hs.n10 r1 r0
    · rw [decide_eq_true rfl]; exact is_same t _
  · rcases ht with rfl | rfl
    · rw [decide_eq_true rfl]; exact is_wrap_same pb 0 t _ hpb
    · rw [decide_eq_false hs.n10]
      exact is_wrap_other pb 0 t a0 c0 c1 t0 t1 _ hpb hs.n10.symm r0 r1

set_option maxHeartbeats 2000000 in
set_option maxRecDepth 100000 in
/-- ZZreadInline. -/
theorem zz_any (F : Interp) (w : World) (B dn dc : Nat) (D : Option Addr) (P : List UInt8) (a0 a1 a2 a3 : Addr) (s0 : ByteArray) (hF : F.answers w.tape) (hdn : P.length = dn) (hN : dn < 65536) (hdc : dn ≤ dc) (hD : P ≠ [] → ∃ db od, D = some ⟨db, od, none⟩ ∧ BytesAt w db od P) (hs : Sent w B a0 a1 a2 a3 s0) :
    Calls Tryf.prog 8 #[.slice D dn dc] w fun x w' => ∃ v f p u, x = .returned (.tuple #[v, .bool f, .bool p, .bool u]) ∧ Out w' (Plain.req P) v f p u ∧ Below w.heap.size w w' := by
  have HS : Hid (Sent w B a0 a1 a2 a3 s0) := hs
  clear hs
  go_enter Tryf.func8, Tryf.ntmps8
  go_wp2_with fail
  refine (bytesNew_any w D dn dc).mono ?_
  rintro e w1 ⟨rfl, hw1⟩
  have hs1 : w1.heap.size = w.heap.size + 1 := by rw [hw1]; simp
  have H1 : Hid (Cells w1 w.heap.size [.slice D dn dc, .int .i64 0, .int .i64 (-1)] 51) := by rw [hw1]; exact heap_alloc_new w _
  have B1 : Hid (Below w.heap.size w w1) := by rw [hw1]; exact (Below.refl _ w).alloc (Nat.le_refl _) _
  clear hw1
  go_wp2_with fail
  refine (newReader_N w1 w.heap.size _ _).mono ?_
  rintro e w2 ⟨qb, N, hN1, hN2, rfl, hqb, hq, hr, hk, hb, hB2⟩
  have S2 : Hid (Cells w2 w.heap.size [.slice D dn dc, .int .i64 0, .int .i64 (-1)] 51) := (hB2.block _ (by omega)).trans H1.out
  have B2 : Hid (Below w.heap.size w w2) := B1.out.trans (hB2.mono (by omega))
  have ST : Hid (Start w2 (w1.heap.size + 1) (w1.heap.size + 2) w1.heap.size w.heap.size N D dn dc 0 P) :=
    start_state w1 w2 w.heap.size N dn dc D P hdn (by omega) hN2 (fun hP => by obtain ⟨db, od, h1, h2⟩ := hD hP; exact ⟨db, od, h1, h2.block (B2.out.block db (h2.lt hP)), h2.lt hP⟩) hdc S2.out hs1 hr hk hb
  have HS2 : Hid (Sent w2 B a0 a1 a2 a3 s0) := HS.out.kept ((Kept.refl [] w).below B2.out) (by simp)
  clear hr hk hb hB2
  have hBk : ∀ k ∈ [w1.heap.size + 1, w1.heap.size + 2, w1.heap.size, w.heap.size], B ≤ k := by
    have := HS.out.hB
    intro k hk
    simp at hk
    omega
  go_wp2_with fail
  refine (readInline_any F w2 B qb _ _ _ _ N dn dc 0 D P a0 a1 a2 a3 s0 (by rw [B2.out.tape]; exact hF) hq ST.out HS2.out hBk).mono ?_
  rintro e w3 ⟨hres, hK3⟩
  have HS3 : Hid (Sent w3 B a0 a1 a2 a3 s0) := HS2.out.kept hK3 hBk
  have B3 : Hid (Below w.heap.size w w3) := B2.out.trans (hK3.to_below (B2.out.size) (by intro k hk; simp at hk; omega))
  clear hK3
  have g0 := HS3.out.g0
  have g1 := HS3.out.g1
  rcases hres with ⟨l, rest, hP, hnl, hR, ⟨hsp, pb, rfl, hpb⟩ | ⟨ws, wa, wc, hsp, rfl, hws⟩⟩ | ⟨hnot, rfl⟩
  · have HP : Hid (Plain.req P = some none) := by show Plain.req P = some none; rw [hP, Plain.req, Plain.line_yes l rest hnl, ← hsp]; rfl
    clear hP hR hsp
    have HI : Hid (∀ n t, (t = a0 ∨ t = a1) → Calls Tryf.prog 18 #[.iface 73 (.pointer (some ⟨pb, 0, none⟩)), .iface 89 (.pointer (some t))] (w3.drewN n) fun e w' => e = .returned (.bool (decide (t = a0))) ∧ w' = w3.drewN n) := fun n t ht => (is_answers w3 B a0 a1 a2 a3 s0 HS3.out n t ht).2.2 pb hpb
    clear hpb
    go_wp2_with fail
    go_quiet (first | (go_at_call 18; refine (HI.out _ _ (by first | exact .inl rfl | exact .inr rfl)).mono ?_; rintro e w'' ⟨rfl, rfl⟩; exact ⟨rfl, _, rfl⟩))
    go_wp2
    (try simp only [Exit.inBlock, Exit.then]); refine bodyPost_ret (results_tmp4 rfl _ _ _) rfl ?_
    refine ⟨_, _, _, _, rfl, ?_, ⟨B3.out.os, B3.out.tape, B3.out.output, B3.out.size, B3.out.block⟩⟩
    rw [HP.out]
    exact ⟨rfl, rfl, by simp, by simpa using HS3.out.n10⟩
  · have HP : Hid (Plain.req P = some (some ws)) := by show Plain.req P = some (some ws); rw [hP, Plain.req, Plain.line_yes l rest hnl, ← hsp]; rfl
    clear hP hR hsp
    have HW : Hid (Words w3 (.slice wa ws.length wc) ws) := hws.weak
    clear hws
    have HI : Hid (∀ n t, (t = a0 ∨ t = a1) → Calls Tryf.prog 18 #[.nilIface, .iface 89 (.pointer (some t))] (w3.drewN n) fun e w' => e = .returned (.bool false) ∧ w' = w3.drewN n) := fun n t ht => (is_answers w3 B a0 a1 a2 a3 s0 HS3.out n t ht).1
    go_wp2_with fail
    go_quiet (first | (go_at_call 18; refine (HI.out _ _ (by first | exact .inl rfl | exact .inr rfl)).mono ?_; rintro e w'' ⟨rfl, rfl⟩; exact ⟨rfl, _, rfl⟩))
    go_wp2
    (try simp only [Exit.inBlock, Exit.then]); refine bodyPost_ret (results_tmp4 rfl _ _ _) rfl ?_
    refine ⟨_, _, _, _, rfl, ?_, ⟨B3.out.os, B3.out.tape, B3.out.output, B3.out.size, B3.out.block⟩⟩
    rw [HP.out]
    exact ⟨⟨_, _, rfl⟩, rfl, rfl, rfl, HW.out⟩
  · have HP : Hid (Plain.req P = none) := by show Plain.req P = none; rw [Plain.req, Plain.line_not P hnot]; rfl
    have HI : Hid (∀ n t, (t = a0 ∨ t = a1) → Calls Tryf.prog 18 #[.iface 89 (.pointer (some a1)), .iface 89 (.pointer (some t))] (w3.drewN n) fun e w' => e = .returned (.bool (decide (t = a1))) ∧ w' = w3.drewN n) := fun n t ht => (is_answers w3 B a0 a1 a2 a3 s0 HS3.out n t ht).2.1
    go_wp2_with fail
    go_quiet (first | (go_at_call 18; refine (HI.out _ _ (by first | exact .inl rfl | exact .inr rfl)).mono ?_; rintro e w'' ⟨rfl, rfl⟩; exact ⟨rfl, _, rfl⟩))
    go_wp2
    (try simp only [Exit.inBlock, Exit.then]); refine bodyPost_ret (results_tmp4 rfl _ _ _) rfl ?_
    refine ⟨_, _, _, _, rfl, ?_, ⟨B3.out.os, B3.out.tape, B3.out.output, B3.out.size, B3.out.block⟩⟩
    rw [HP.out]
    exact ⟨rfl, rfl, by simpa using fun e => HS3.out.n10 e.symm, by simp⟩
end Go.Proofs.Qxb6616016aFmt
