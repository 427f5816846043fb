/-
  FROM 'laid' (the five names of pmipv6.eventNames) TO THE CELLS; a world that meets the condition.
-/
import Derived.Test.YbulkbwgiFmtNamesWalks
import Derived.ProofKit
import Derived.ChangeVars
import Derived.Stop.JoinedAt
import Derived.Stop.JoinedTold
import Derived.WalkSmall
namespace Go.Proofs.YbulkbwgiFmt
open Go.ChangeShapes Go.WideShapes Go.ChangeAt Go.RowKit Go.Kit
open Go.Extern.Stop Go.Stop Go.Extern

theorem Ybaf.own : ownKnob Ybaf.prog.godebug = none := by kernel_rfl
theorem Ybaf.laidOut : laidOutB Ybaf.pinned.checked.prog = true := by kernel_rfl
theorem Ybaf.stopKnobs : Ybaf.pinned.checked.prog.stopKnobs = [] := by kernel_rfl
theorem Ybaf.quiet (os : Os) : Stop.quiet Ybaf.pinned.checked.prog os := by
  intro k hk
  rw [Ybaf.stopKnobs] at hk
  cases hk

namespace Cn
/-- The variable's name, off the given row. -/
abbrev gv : String := Rows.lawS3635CNamesRow.named.headD ""
theorem gN : Ybaf.prog.globalNamed gv = some 0 := by kernel_rfl
theorem gT : (Ybaf.prog.globals[0]?).map (·.type) = some 80 := by kernel_rfl
theorem cells80 : Ybaf.prog.cellsOf 80 = 5 := by kernel_rfl
theorem cells9 : Ybaf.prog.cellsOf 9 = 1 := by kernel_rfl
def cells5 : Array Value := #[.string ⟨#[]⟩, .string n1, .string n2, .string n3, .string n4]
abbrev tab {H : Type} : DataW H := Rows.laid_example_com_pulsewire_pulsewire_pmipv6_eventNames

theorem string_of_trod {H : Type} {enc : TypeId × Value → H} {P : Program} {w : World} {base : Nat} {sp : Nat → Bool} {held : Bool} {fuel : Nat} {t : TypeId} {c : Value} {y : DataW H × List MemPlace}
    (ht : P.underlying t = some .string) (h : DataW.trod enc P w base sp held fuel t [c] = some y) : ∃ s : ByteArray, c = .string s ∧ y = (.lit (.string s.data.toList), []) := by
  obtain ⟨s, hs, hy, _⟩ := DataW.trod_string ht h
  simp at hs
  exact ⟨s, hs, hy⟩

theorem bytes_of {s : ByteArray} {l : List UInt8} (h : s.data.toList = l) : s = ⟨l.toArray⟩ := by
  cases s; simp at h; simp [← h]

theorem cells_of_laid {W : World} (h : laidMet Ybaf.prog Rows.lawS3635CNamesRow.laid W) : W.var? Ybaf.prog gv = some cells5 := by
  obtain ⟨ps, ⟨g, t, cs, fuel, p, q, hg, ht, hvar, hd, _, _⟩, _⟩ := h
  obtain rfl := Option.some.inj (gN.symm.trans hg)
  obtain rfl := Option.some.inj (gT.symm.trans ht)
  refine Eq.trans hvar ?_
  congr 1
  obtain ⟨l⟩ := cs
  cases fuel with
  | zero => simp [DataW.trod] at hd
  | succ fuel =>
    simp only [DataW.trod, Ybaf.underlying80, cells80, cells9] at hd
    split at hd
    · rename_i hl
      obtain ⟨c0, c1, c2, c3, c4, rfl⟩ : ∃ c0 c1 c2 c3 c4, l = [c0, c1, c2, c3, c4] := by
        match l, hl with
        | [a, b, c, d, e], _ => exact ⟨a, b, c, d, e, rfl⟩
      have e : List.range 5 = [0, 1, 2, 3, 4] := rfl
      rw [e] at hd
      simp only [Option.map_eq_some_iff, List.mapM_cons, List.mapM_nil, Option.bind_eq_bind, Option.bind_eq_some_iff, Option.pure_def, Option.some.injEq] at hd
      obtain ⟨xs, ⟨y0, h0, _, ⟨y1, h1, _, ⟨y2, h2, _, ⟨y3, h3, _, ⟨y4, h4, _, rfl, rfl⟩, rfl⟩, rfl⟩, rfl⟩, rfl⟩, hx⟩ := hd
      obtain ⟨s0, rfl, rfl⟩ := string_of_trod Ybaf.underlying9 h0
      obtain ⟨s1, rfl, rfl⟩ := string_of_trod Ybaf.underlying9 h1
      obtain ⟨s2, rfl, rfl⟩ := string_of_trod Ybaf.underlying9 h2
      obtain ⟨s3, rfl, rfl⟩ := string_of_trod Ybaf.underlying9 h3
      obtain ⟨s4, rfl, rfl⟩ := string_of_trod Ybaf.underlying9 h4
      simp only [Rows.laid_example_com_pulsewire_pulsewire_pmipv6_eventNames, Prod.mk.injEq, List.map_cons, List.map_nil, DataW.agg.injEq, List.cons.injEq, DataW.lit.injEq, Lit.string.injEq] at hx
      obtain ⟨⟨e0, e1, e2, e3, e4, _⟩, _⟩ := hx
      rw [bytes_of e0, bytes_of e1, bytes_of e2, bytes_of e3, bytes_of e4]
      rfl
    · cases hd

theorem reads_table {H : Type} (enc : TypeId × Value → H) (W : World) (sp : Nat → Bool) : DataW.trod enc Ybaf.prog W 0 sp true 3 80 cells5.toList = some (tab, []) := by kernel_rfl

def laidWorld (P : Program) (os : Os) : World :=
  { World.holding P os ⟨#[], #[], []⟩ with heap := (World.holding P os ⟨#[], #[], []⟩).heap.modify 0 fun
      | .cells _ t frozen => .cells cells5 t frozen
      | o => o }

set_option maxRecDepth 100000 in
theorem laid_met (os : Os) (args : Array Value) : laidMet Ybaf.prog Rows.lawS3635CNamesRow.laid ((laidWorld Ybaf.prog os).forCall (fun _ _ => 0) ⟨#[], args, []⟩).memory := by
  have hrow : ((laidWorld Ybaf.prog os).forCall (fun _ _ => 0) ⟨#[], args, []⟩).memory.heap[0]? = some (.cells cells5 80 (0, 0)) := by kernel_rfl
  refine ⟨_, ⟨0, 80, cells5, 8, [], [], by kernel_rfl, by kernel_rfl, by kernel_rfl, by kernel_rfl, rfl, rfl⟩, by decide, fun b off h => ?_⟩
  have h' : MemPlace.cell b off ∈ [MemPlace.cell 0 0, .cell 0 1, .cell 0 2, .cell 0 3, .cell 0 4] := h
  have hb : b = 0 := by
    simp at h'
    omega
  subst hb
  refine ⟨⟨_, _, hrow⟩, fun u v hc => ?_⟩
  simp only [World.cell?, hrow] at hc
  simp at h'
  rcases h' with rfl | rfl | rfl | rfl | rfl <;> simp [cells5] at hc

set_option maxRecDepth 100000 in
theorem nm_cell {W : World} (hv : W.var? Ybaf.prog gv = some cells5) (i : Nat) (h0 : 1 ≤ i) (h4 : i ≤ 4) : W.cell? ⟨0, i, none⟩ = some (.string (nm i)) := by
  obtain rfl | rfl | rfl | rfl : i = 1 ∨ i = 2 ∨ i = 3 ∨ i = 4 := by omega
  · exact World.var?_cell gN hv 1
  · exact World.var?_cell gN hv 2
  · exact World.var?_cell gN hv 3
  · exact World.var?_cell gN hv 4
end Cn
end Go.Proofs.YbulkbwgiFmt
