/-
  THE CARD 'LawS3635BRaiseToldSaid', PROVED.
-/
import Derived.Test.YbulkbwgiFmtRaiseWalk
import Derived.Test.YbulkbwgiFmtCards
import Derived.SevenToldRow
import Derived.ProofKit
import Derived.OpenShut
import Derived.Below
import Derived.ShutString
import Derived.ChangeOld
namespace Go.Proofs.YbulkbwgiFmt
open Go.ChangeShapes Go.WideShapes Go.ChangeAt Go.RowKit
open Go.Extern.Stop Go.Stop Go.Extern

theorem Ha.own : ownKnob Ybaf.prog.godebug = none := by kernel_rfl
theorem Ha.laidOut : laidOutB Ybaf.pinned.checked.prog = true := by kernel_rfl
theorem Ha.stopKnobs : Ybaf.pinned.checked.prog.stopKnobs = [] := by kernel_rfl
theorem Ha.quiet (os : Os) : Stop.quiet Ybaf.pinned.checked.prog os := by
  intro k hk
  rw [Ha.stopKnobs] at hk
  cases hk
theorem Ha.bd_u64 {z : Int} (h : (Lit.int .u64 z).wf = true) : 0 ≤ z ∧ z ≤ 18446744073709551615 := by
  have e1 : IntKind.u64.min = 0 := rfl
  have e2 : IntKind.u64.max = 18446744073709551615 := rfl
  simpa [Lit.wf, e1, e2] using h
theorem Ha.bd_u8 {z : Int} (h : (Lit.int .u8 z).wf = true) : 0 ≤ z ∧ z ≤ 255 := by
  have e1 : IntKind.u8.min = 0 := rfl
  have e2 : IntKind.u8.max = 255 := rfl
  simpa [Lit.wf, e1, e2] using h

set_option maxRecDepth 100000 in
theorem raise_lifted (os : Os) (started : os.Started) (H : Type) (enc : TypeId × Value → H) :
    ReturnsInTold none {} Ybaf.checked os 4 .any Input.okWide ((OpenSpec.ofChange Rows.lawS3635BRaiseSpec).preRow enc Ybaf.prog Ybaf.f4 [] false Rows.lawS3635BRaiseRow.laid)
      (fun F => ((OpenSpec.ofChange Rows.lawS3635BRaiseSpec).at F).post enc Ybaf.prog Ybaf.f4 false true false false) (aloneAtReturn Ybaf.prog) nothingAlways := by
  refine returnsInTold_of_row (C := Ybaf.checked) (s := OpenSpec.ofChange Rows.lawS3635BRaiseSpec) (by kernel_rfl) Ha.own started (by kernel_rfl) Ybaf.func4
    (OpenSpec.witness_stopped (enc := enc) (C := Ybaf.checked) false ⟨#[], #[.bool false, .bool false, .int .u64 0, .slice none 0 0, .int .u8 0, .int .u32 0, .int .u32 0], []⟩ 8 (by kernel_rfl) (by kernel_rfl) (by kernel_rfl) (by kernel_rfl)) ?_
  intro F W base args ds gs before _ hF hval0 hW _ _ _ hL _
  have hval : ∀ (j : Nat) t v, Ybaf.f4.params[j]? = some t → args[j]? = some v → Value.okWide Ybaf.prog W .any base t v := hval0
  have hW' := hW
  obtain ⟨p, q, hA0, hV, rfl, hfz, hnd⟩ := hW
  have hA : DataW.TrodAll enc Ybaf.prog W 0 (fun _ => true) true Ybaf.f4.params.toList args.toList ds p := hA0
  rw [Ybaf.params4] at hA hval
  obtain ⟨v0, vs0, d0, ds0, p0, q0, hargs, rfl, rfl, h0, r0⟩ := trodAll_cons hA
  obtain ⟨v1, vs1, d1, ds1, p1, q1, rfl, rfl, rfl, h1, r1⟩ := trodAll_cons r0
  obtain ⟨v2, vs2, d2, ds2, p2, q2, rfl, rfl, rfl, h2, r2⟩ := trodAll_cons r1
  obtain ⟨v3, vs3, d3, ds3, p3, q3, rfl, rfl, rfl, h3, r3⟩ := trodAll_cons r2
  obtain ⟨v4, vs4, d4, ds4, p4, q4, rfl, rfl, rfl, h4, r4⟩ := trodAll_cons r3
  obtain ⟨v5, vs5, d5, ds5, p5, q5, rfl, rfl, rfl, h5, r5⟩ := trodAll_cons r4
  obtain ⟨v6, vs6, d6, ds6, p6, q6, rfl, rfl, rfl, h6, r6⟩ := trodAll_cons r5
  obtain ⟨rfl, rfl, rfl⟩ := trodAll_nil r6
  obtain rfl : args = #[v0, v1, v2, v3, v4, v5, v6] := by cases args; simp_all
  obtain ⟨rfl, rfl⟩ := trodVars_none hV
  obtain ⟨a3, len3, cap3, rfl⟩ := okWide_slice Ybaf.underlying50 (hval 3 50 v3 rfl rfl)
  have k3 := h3
  have lt3 : ∀ x ∈ p3, x.block < W.heap.size := by obtain ⟨m, hm⟩ := k3; exact DataW.trod_lt m _ _ _ hm
  obtain ⟨outs, ho1, ho2, ho3⟩ : ∃ outs : List Int, outs.length = len3 ∧ (∀ z ∈ outs, 0 ≤ z ∧ z ≤ 18446744073709551615) ∧ ∀ k, k < len3 → ∃ ad, a3 = some ad ∧ ad.block < W.heap.size ∧ W.cell? (ad.add k) = some (.int .u64 (outs.getD k 0)) := by
    obtain ⟨fuel, hf⟩ := h3
    rcases open_ints Ybaf.underlying50 Ybaf.underlying26 (by kernel_rfl) hf with ⟨hcs, _⟩ | ⟨x, l, c, zs, hcs, _, hl, hm, hz, _, hcell, hwz⟩
    · simp [Value.cells] at hcs
      obtain ⟨rfl, rfl, rfl⟩ := hcs
      exact ⟨[], rfl, (fun z hz => by cases hz), fun k hk => by omega⟩
    · simp [Value.cells] at hcs
      obtain ⟨rfl, rfl, rfl⟩ := hcs
      have hz' : zs.length = cap3 := by simpa using hz
      refine ⟨zs.take len3, by simp; omega, fun z hz => Ha.bd_u64 (hwz z (List.mem_of_mem_take hz)), fun k hk => ⟨x, rfl, ?_, ?_⟩⟩
      · have := hcell k (by omega)
        have := World.block_lt_of_cell? W _ this
        rwa [Ha.add_block] at this
      · rw [hcell k (by omega)]
        simp [hk]
  obtain ⟨b0, rfl, rfl, rfl⟩ := open_bool Ybaf.underlying4 (hval 0 4 v0 rfl rfl) h0
  obtain ⟨b1, rfl, rfl, rfl⟩ := open_bool Ybaf.underlying4 (hval 1 4 v1 rfl rfl) h1
  obtain ⟨z2, rfl, rfl, rfl, w2⟩ := open_int Ybaf.underlying26 (hval 2 26 v2 rfl rfl) h2
  obtain ⟨z4, rfl, rfl, rfl, w4⟩ := open_int Ybaf.underlying5 (hval 4 5 v4 rfl rfl) h4
  obtain ⟨z5, rfl, rfl, rfl, w5⟩ := open_int Ybaf.underlying22 (hval 5 22 v5 rfl rfl) h5
  obtain ⟨z6, rfl, rfl, rfl, w6⟩ := open_int Ybaf.underlying22 (hval 6 22 v6 rfl rfl) h6
  clear hA0 hval0
  refine (braise_law b0 b1 z2 a3 len3 cap3 outs z4 z5 z6 W ho1 (Ha.bd_u64 w2).1 (Ha.bd_u64 w2).2 (Ha.bd_u8 w4).1 (Ha.bd_u8 w4).2 ho2 ho3).mono ?_
  rintro e W' ⟨rfl, bel⟩
  exact ⟨_, rfl, _, _, _, [], _, [], hW', trodAll_mk1 (shut_bool Ybaf.underlying4 true), (trodAll_cons_mk (shut_bool Ybaf.underlying4 _) (trodAll_cons_mk (shut_bool Ybaf.underlying4 _) (trodAll_cons_mk (shut_int Ybaf.underlying26 w2) (trodAll_cons_mk (Below.trod Ha.laidOut (by kernel_rfl) (of_decide_eq_true (by kernel_rfl)) k3 bel lt3) (trodAll_cons_mk (shut_int Ybaf.underlying5 w4) (trodAll_cons_mk (shut_int Ybaf.underlying22 w5) (trodAll_cons_mk (shut_int Ybaf.underlying22 w6) trodAll_mk0))))))), rfl, bel.frame _, fun h => by cases h⟩

theorem raise_told : Rows.LawS3635BRaiseToldSaid :=
  Claim7.holds_of_told_any 4 Ybaf.f4 _ _ [] _ _ _ (by kernel_rfl) rfl rfl rfl Ha.laidOut (by kernel_rfl) rfl ⟨rfl, rfl, rfl, rfl, rfl, rfl, rfl⟩ rfl rfl (by kernel_rfl) (by kernel_rfl) Ybaf.func4 (by kernel_rfl)
    (of_decide_eq_true (by kernel_rfl)) (of_decide_eq_true (by kernel_rfl)) (by kernel_rfl) rfl Ha.stopKnobs.symm (by kernel_rfl)
    (by kernel_rfl) (by kernel_rfl) (by kernel_rfl) (by kernel_rfl) (by kernel_rfl) (by kernel_rfl) (by kernel_rfl) (by kernel_rfl) (by kernel_rfl) rfl (by kernel_rfl) rfl rfl
    rfl rfl
    rfl (by kernel_rfl) (by kernel_rfl) (by kernel_rfl) (by decide) (by kernel_rfl)
    (OpenClaim.moreEntering_of (by kernel_rfl) (by kernel_rfl) (by kernel_rfl) (by kernel_rfl) (by kernel_rfl) (by kernel_rfl) (by kernel_rfl) (by kernel_rfl) (by kernel_rfl) (by kernel_rfl))
    ⟨_, WideRow.started_initial, Ha.quiet _⟩
    (fun os started _ H enc _ => raise_lifted os started H enc)

end Go.Proofs.YbulkbwgiFmt
