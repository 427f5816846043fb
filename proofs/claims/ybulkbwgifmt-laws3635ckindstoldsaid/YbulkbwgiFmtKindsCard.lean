/-
  THE CARD 'LawS3635CKindsToldSaid', PROVED.
-/
import Derived.Test.YbulkbwgiFmtNamesLaid
import Derived.Test.YbulkbwgiFmtKindsWalks
import Derived.Test.YbulkbwgiFmtTie
import Derived.Test.YbulkbwgiFmtCards
import Derived.SevenToldRow
import Derived.SevenTiedAt
namespace Go.Proofs.YbulkbwgiFmt
open Go.ChangeShapes Go.WideShapes Go.ChangeAt Go.RowKit Go.Kit
open Go.Extern.Stop Go.Stop Go.Extern

theorem Ck.witness_row (os : Os) {H : Type} (enc : TypeId × Value → H) :
    (OpenSpec.ofChange Rows.lawS3635CKindsSpec).preRow enc Ybaf.prog Ybaf.f6 [] false Rows.lawS3635CKindsRow.laid ((Cn.laidWorld Ybaf.prog os).forCall (fun _ _ => 0) ⟨#[], #[], []⟩).memory #[] := by
  have hw : (DataW.whole enc Ybaf.prog ((Cn.laidWorld Ybaf.prog os).forCall (fun _ _ => 0) ⟨#[], #[], []⟩).memory Ybaf.f6.params.toList (OpenSpec.ofChange Rows.lawS3635CKindsSpec).vars false #[].toList 8).map (fun x => (x.1, x.2.1)) =
      some ([], [Cn.tab]) := by kernel_rfl
  obtain ⟨⟨x1, x2, x3⟩, hx, hx1⟩ := Option.map_eq_some_iff.1 hw
  simp only [Prod.mk.injEq] at hx1
  obtain ⟨rfl, rfl⟩ := hx1
  exact OpenSpec.preRow_of_cond 8 hx (by kernel_rfl) (fun k hk => by cases hk) (by kernel_rfl) (Cn.laid_met os _)

set_option maxRecDepth 100000 in
theorem kinds_lifted (os : Os) (started : os.Started) (H : Type) (enc : TypeId × Value → H) :
    ReturnsInTold none {} Ybaf.checked os 6 .any Input.okWide ((OpenSpec.ofChange Rows.lawS3635CKindsSpec).preRow enc Ybaf.prog Ybaf.f6 [] false Rows.lawS3635CKindsRow.laid)
      (fun F => ((OpenSpec.ofChange Rows.lawS3635CKindsSpec).at F).post enc Ybaf.prog Ybaf.f6 false true false false) (aloneAtReturn Ybaf.prog) nothingAlways := by
  refine returnsInTold_of_row (C := Ybaf.checked) (s := OpenSpec.ofChange Rows.lawS3635CKindsSpec) (by kernel_rfl) Ybaf.own started (by kernel_rfl) Ybaf.func6
    (OpenSpec.witness_stopped_at (enc := enc) (C := Ybaf.checked) false (Cn.laidWorld Ybaf.prog os) #[] rfl (by kernel_rfl) (by kernel_rfl) (by kernel_rfl) (Ck.witness_row os enc)) ?_
  intro F W base args ds gs before _ hF hval0 hW _ _ _ hL _
  have hval : ∀ (j : Nat) t v, Ybaf.f6.params[j]? = some t → args[j]? = some v → Value.okWide Ybaf.prog W .any base t v := hval0
  have hW' := hW
  obtain ⟨p, q, hA0, hV0, rfl, _, _⟩ := hW
  have hA : DataW.TrodAll enc Ybaf.prog W 0 (fun _ => true) true Ybaf.f6.params.toList args.toList ds p := hA0
  have hV : DataW.TrodVars enc Ybaf.prog W (fun _ => true) [Cn.gv] gs q := hV0
  rw [Ybaf.params6] at hA hval
  obtain ⟨rfl, rfl, rfl⟩ := trodAll_none hA
  obtain ⟨g, t, cs, fuel, d, p', rfl, hg, ht, hvar, hd, rfl⟩ := trodVars_one hV
  obtain rfl := Option.some.inj (Cn.gN.symm.trans hg)
  obtain rfl := Option.some.inj (Cn.gT.symm.trans ht)
  have hcells := Cn.cells_of_laid (W := W) hL
  obtain rfl : cs = Cn.cells5 := Option.some.inj (hvar.symm.trans hcells)
  obtain ⟨rfl, rfl⟩ := DataW.Trod.unique (v := .agg Cn.cells5) ⟨fuel, hd⟩ ⟨3, Cn.reads_table enc W _⟩
  have h0W : 0 < W.heap.size := by
    have hc := Cn.nm_cell hcells 1 (by omega) (by omega)
    rcases Nat.eq_zero_or_pos W.heap.size with h | h
    · simp [World.cell?, Array.getElem?_eq_none (Nat.le_of_eq h)] at hc
    · exact h
  have e1 : ((OpenSpec.ofChange Rows.lawS3635CKindsSpec).at F.told).fn H ([] ++ [Cn.tab]) = { results := [.lit (.bool true)], args := [], vars := [Cn.tab] } := rfl
  clear hA0 hV0 hval0
  refine (law_kinds W h0W (fun i h1 h4 => Cn.nm_cell hcells i h1 h4)).mono ?_
  rintro e W' ⟨rfl, bel⟩
  have hvar' : W'.var? Ybaf.prog Cn.gv = some Cn.cells5 := var?_below bel Cn.gN h0W hcells
  refine ⟨_, rfl, _, _, _, [], [], MemPlace.row ⟨0, 0, none⟩ Cn.cells5.size ++ [] ++ [], hW', ?_, ?_, ?_, bel.frame _, fun h => by cases h⟩
  · rw [e1]; exact trodAll_mk1 (shut_bool Ybaf.underlying4 true)
  · rw [e1]; rfl
  · rw [e1]; exact ⟨0, 80, Cn.cells5, 3, [], [], Cn.gN, Cn.gT, hvar', Cn.reads_table enc W' _, rfl, rfl⟩

theorem kinds_told : Rows.LawS3635CKindsToldSaid :=
  Claim7.holds_of_told_tied_any_at .later 6 Ybaf.f6 _ _ [] _ _ _ _ _ (by kernel_rfl) rfl rfl rfl Ybaf.laidOut (by kernel_rfl) rfl ⟨rfl, rfl, rfl, rfl, rfl, rfl, rfl⟩ rfl rfl (by kernel_rfl) (by kernel_rfl) Ybaf.func6 (by kernel_rfl)
    (of_decide_eq_true (by kernel_rfl)) (of_decide_eq_true (by kernel_rfl)) (by kernel_rfl) rfl Ybaf.stopKnobs.symm (by kernel_rfl)
    (by kernel_rfl) (by kernel_rfl) (by kernel_rfl) (by kernel_rfl) (by kernel_rfl) (by kernel_rfl) (by kernel_rfl) (by kernel_rfl) (by kernel_rfl) rfl (by kernel_rfl) rfl rfl
    rfl rfl
    rfl (by kernel_rfl) (by kernel_rfl) (by kernel_rfl) (by decide) (by kernel_rfl) lawS3635CKinds_row_tie
    (OpenClaim.moreEntering_of (by kernel_rfl) (by kernel_rfl) (by kernel_rfl) (by kernel_rfl) (by kernel_rfl) (by kernel_rfl) (by kernel_rfl) (by kernel_rfl) (by kernel_rfl) (by kernel_rfl))
    ⟨_, WideRow.started_initial, Ybaf.quiet _⟩
    (fun os started _ H enc _ => kinds_lifted os started H enc)

end Go.Proofs.YbulkbwgiFmt
