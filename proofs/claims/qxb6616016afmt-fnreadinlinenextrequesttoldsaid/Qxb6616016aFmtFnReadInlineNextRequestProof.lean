import Derived.Test.Qxb6616016aFmtNext
import Derived.Test.Qxb6616016aFmtOpen
import Derived.Test.Qxb6616016aFmtCards
import Derived.Test.Qxb6616016aFmtTie
import Derived.ProofKit
import Derived.OpenShut
import Derived.Carry
import Derived.OpenVars
import Derived.Below
import Derived.Stop.JoinedTold
import Derived.SevenTiedAt
namespace Go.Proofs.Qxb6616016aFmt.fnReadInlineNextRequest
open Go.ChangeShapes Go.WideShapes Go.ChangeAt Go.RowKit
open Go.Extern.Stop Go.Stop Go.Extern

theorem params4 : Tryf.f4.params = #[22, 22] := by kernel_rfl

set_option maxRecDepth 100000 in
theorem lifted (os : Os) (started : os.Started) (H : Type) (enc : TypeId × Value → H) :
    ReturnsInTold none {} Tryf.checked os 4 .any Input.okWide ((OpenSpec.ofChange Rows.fnReadInlineNextRequestSpec).preRow enc Tryf.prog Tryf.f4 [] false Rows.fnReadInlineNextRequestRow.laid) (fun F => ((OpenSpec.ofChange Rows.fnReadInlineNextRequestSpec).at F).post enc Tryf.prog Tryf.f4 false true false false) (aloneAtReturn Tryf.prog) nothingAlways := by
  refine returnsInTold_of_row (C := Tryf.checked) (s := OpenSpec.ofChange Rows.fnReadInlineNextRequestSpec) (by kernel_rfl) Tryf.own started (by kernel_rfl) Tryf.func4
    (OpenSpec.witness_stopped_at (enc := enc) (C := Tryf.checked) false (laidWorld os) #[.slice none 0 0, .slice none 0 0] rfl (by kernel_rfl) (by kernel_rfl) (by kernel_rfl)
      (OpenSpec.preRow_of_B rfl 8 (by kernel_rfl) (by kernel_rfl) (laid_met os _))) ?_
  intro F W base args ds gs before _ hF hval0 hW _ _ _ hL _
  have hval : ∀ (j : Nat) t v, Tryf.f4.params[j]? = some t → args[j]? = some v → Value.okWide Tryf.prog W .any base t v := hval0
  have hW' := hW
  obtain ⟨p, q, hA0, hV0, rfl, hfz, hnd⟩ := hW
  have hA : DataW.TrodAll enc Tryf.prog W 0 (fun _ => true) true Tryf.f4.params.toList args.toList ds p := hA0
  have hV : DataW.TrodVars enc Tryf.prog W (fun _ => true) ["example.com/logtide/logtide/internal/resp.ErrProtocol"] gs q := hV0
  rw [params4] at hA hval
  obtain ⟨v0, v1, d0, d1, p0, p1, rfl, rfl, rfl, h0, h1⟩ := trodAll_two hA
  have hL' : laidMet Tryf.prog laidList W := hL
  obtain ⟨a0, a1, a2, a3, s0, hs⟩ := sent_of_laid hL'
  have k0 := h0
  have lt0 : ∀ x ∈ p0, x.block < W.heap.size := by obtain ⟨m, hm⟩ := k0; exact DataW.trod_lt m _ _ _ hm
  have k1 := h1
  have lt1 : ∀ x ∈ p1, x.block < W.heap.size := by obtain ⟨m, hm⟩ := k1; exact DataW.trod_lt m _ _ _ hm
  have hcalls : Calls Tryf.prog 4 #[v0, v1] W fun x W' => x = .returned (.bool true) ∧ Below W.heap.size W W' := by
    obtain ⟨A, n, c, Px, rfl, hn, hx⟩ : ∃ (A : Option Addr) (n c : Nat) (Px : List UInt8), v0 = .slice A n c ∧ Px.length = n ∧ Leads W A Px := by
      rcases open_bytes (hval 0 22 v0 rfl rfl) h0 with rfl | ⟨ad, dn, dc, P, rfl, _, hP, hC⟩
      · exact ⟨none, 0, 0, [], rfl, rfl, fun h => absurd rfl h⟩
      · exact ⟨some ad, dn, dc, P, rfl, hP, fun _ => ⟨ad, rfl, hC⟩⟩
    rcases open_bytes (hval 1 22 v1 rfl rfl) h1 with rfl | ⟨ad, dn, dc, P, rfl, _, hP, hC⟩
    · exact next_nil F.told W W.heap.size n c A Px a0 a1 a2 a3 s0 hF hs hx hn
    · exact next_some F.told W W.heap.size n c dn dc A ad Px P a0 a1 a2 a3 s0 hF hs hx hn hC hP
  refine hcalls.mono fun e W' ⟨he, bel⟩ => ?_
  subst he
  match gs, hV, hV0, hW' with
  | [g], hV, hV0, hW' =>
    exact ⟨_, rfl, _, _, _, [], _, _, hW', trodAll_mk1 (shut_bool Tryf.underlying4 _), trodAll_mk2 (Below.trod Tryf.laidOut (by kernel_rfl) (of_decide_eq_true (by kernel_rfl)) k0 bel lt0) (Below.trod Tryf.laidOut (by kernel_rfl) (of_decide_eq_true (by kernel_rfl)) k1 bel lt1), Below.trodVars Tryf.laidOut bel (by kernel_rfl) hV, bel.frame _, fun h => by cases h⟩

/-- THE STATEMENT -/
theorem proved : Rows.FnReadInlineNextRequestToldSaid :=
  Claim7.holds_of_told_tied_any_at .later 4 Tryf.f4 "fmt.errorf" [] [] _ _ _ _ _ (by kernel_rfl) rfl rfl rfl Tryf.laidOut (by kernel_rfl) rfl ⟨rfl, rfl, rfl, rfl, rfl, rfl, rfl⟩ rfl rfl (by kernel_rfl) (by kernel_rfl) Tryf.func4 (by kernel_rfl)
    (of_decide_eq_true (by kernel_rfl)) (of_decide_eq_true (by kernel_rfl)) Tryf.stops.symm rfl Tryf.stopKnobs.symm (by kernel_rfl)
    (by kernel_rfl) (by kernel_rfl) (by kernel_rfl) (by kernel_rfl) (by kernel_rfl) (by kernel_rfl) (by kernel_rfl) (by kernel_rfl) (by kernel_rfl) rfl (by kernel_rfl) rfl rfl
    rfl rfl
    rfl (by kernel_rfl) (by kernel_rfl) (by kernel_rfl) (by decide) (by kernel_rfl) fnReadInlineNextRequest_row_tie
    (OpenClaim.moreEntering_of (by kernel_rfl) (by kernel_rfl) (by kernel_rfl) (by kernel_rfl) (by kernel_rfl) (by kernel_rfl) (by kernel_rfl) (by kernel_rfl) (by kernel_rfl) (by kernel_rfl))
    ⟨_, WideRow.started_initial, Tryf.quiet _⟩
    (fun os started _ H enc _ => lifted os started H enc)
end Go.Proofs.Qxb6616016aFmt.fnReadInlineNextRequest
