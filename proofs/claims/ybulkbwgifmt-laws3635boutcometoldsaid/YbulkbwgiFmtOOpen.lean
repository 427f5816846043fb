/-
  THE LAW's TWO SLICES OF STRUCTS, OPENED.
-/
import Derived.Test.YbulkbwgiFmtRows
import Derived.WalkKit
import Derived.Deep.Slices
import Derived.Deep.Strs
import Derived.ChangeSame
namespace Go.Proofs.YbulkbwgiFmt
open Go.ChangeShapes Go.WideShapes Go.RowKit Go.Deep

namespace Ho
theorem spot_none {w : World} {a : Addr} {v : Value} (h : w.cell? a = some v) : a.spot = none := by
  unfold World.cell? at h
  split at h
  · cases hs : a.spot with
    | none => rfl
    | some q => simp [hs] at h
  · simp at h
theorem add_plain {a : Addr} (h : a.spot = none) (i : Nat) : a.add i = ⟨a.block, a.off + i, none⟩ := by
  obtain ⟨b, o, sp⟩ := a
  simp only at h
  subst h
  unfold Addr.add
  split
  · rename_i hi; simp [hi]
  · rfl
theorem bd_u64 {z : Int} (h : (Lit.int .u64 z).wf = true) : 0 ≤ z ∧ z ≤ 18446744073709551615 := by
  have e1 : IntKind.u64.min = 0 := rfl
  have e2 : IntKind.u64.max = 18446744073709551615 := rfl
  simpa [Lit.wf, e1, e2] using h
theorem bd_u8 {z : Int} (h : (Lit.int .u8 z).wf = true) : 0 ≤ z ∧ z ≤ 255 := by
  have e1 : IntKind.u8.min = 0 := rfl
  have e2 : IntKind.u8.max = 255 := rfl
  simpa [Lit.wf, e1, e2] using h
theorem cells28 : Ybaf.prog.cellsOf 28 = 2 := by kernel_rfl
theorem cells32 : Ybaf.prog.cellsOf 32 = 3 := by kernel_rfl
theorem cells4 : Ybaf.prog.cellsOf 4 = 1 := by kernel_rfl
theorem cells5 : Ybaf.prog.cellsOf 5 = 1 := by kernel_rfl
theorem cells26 : Ybaf.prog.cellsOf 26 = 1 := by kernel_rfl

section
variable {H : Type} {enc : TypeId × Value → H} {w : World} {base : Nat} {held : Bool}

set_option maxRecDepth 100000 in
theorem open_kids {a : Option Addr} {len cap fuel : Nat} {x : DataW H × List MemPlace} (h : DataW.trod enc Ybaf.prog w base (fun _ => true) held fuel 23 [.slice a len cap] = some x) :
    ∃ kz : List (Bool × Int), kz.length = len ∧ (∀ z ∈ kz, 0 ≤ z.2 ∧ z.2 ≤ 18446744073709551615) ∧
      ∀ k (h : k < kz.length), ∃ kb ko, a = some ⟨kb, ko, none⟩ ∧ kb < w.heap.size ∧ w.cell? ⟨kb, ko + k * 2, none⟩ = some (.bool kz[k].1) ∧ w.cell? ⟨kb, ko + k * 2 + 1, none⟩ = some (.int .u64 kz[k].2) := by
  rcases open_slice Ybaf.underlying23 h with ⟨hcs, _⟩ | ⟨ad, l, c, m, n, D, Pl, hcs, _, hl, _, hm, _, hx⟩
  · simp at hcs
    obtain ⟨rfl, rfl, rfl⟩ := hcs
    exact ⟨[], rfl, (fun z hz => by cases hz), fun k hk => by simp at hk⟩
  · simp at hcs
    obtain ⟨rfl, rfl, rfl⟩ := hcs
    have hmm : len ≤ m := by rw [hm]; simpa using hl
    have each : ∀ i, i < len → ∃ z : Bool × Int, (0 ≤ z.2 ∧ z.2 ≤ 18446744073709551615) ∧ w.cell? (ad.add (i * 2)) = some (.bool z.1) ∧ w.cell? (ad.add (i * 2 + 1)) = some (.int .u64 z.2) := by
      intro i hi
      obtain ⟨cs', h1, h2⟩ := hx i (by omega)
      rw [cells28] at h1
      obtain ⟨_, hlen, hc⟩ := World.cells?_some h1
      obtain ⟨y0, y1, n', _, _, t0, t1⟩ := trod_struct2 Ybaf.underlying28 h2
      match cs', hlen with
      | [c0, c1], _ =>
        simp only [cells4, cells26] at t0 t1
        obtain ⟨b, hb, _⟩ := DataW.trod_bool Ybaf.underlying4 t0
        obtain ⟨z, hz, _, hw⟩ := DataW.trod_int Ybaf.underlying26 t1
        simp at hb hz
        subst hb hz
        have e0 := hc 0 (by omega)
        have e1 := hc 1 (by omega)
        rw [add_add] at e0 e1
        exact ⟨(b, z), bd_u64 hw, by simpa using e0, by simpa using e1⟩
    obtain ⟨f, hf⟩ := choose_lt each
    refine ⟨(List.range len).map f, by simp, ?_, ?_⟩
    · intro z hz
      obtain ⟨i, hi, rfl⟩ := List.mem_map.1 hz
      exact (hf i (by simpa using hi)).1
    · intro k hk
      have hk' : k < len := by simpa using hk
      have hsp : ad.spot = none := by
        have := (hf 0 (by omega)).2.1
        rw [show 0 * 2 = 0 from rfl, show ad.add 0 = ad by unfold Addr.add; simp] at this
        exact spot_none this
      obtain ⟨_, g0, g1⟩ := hf k hk'
      rw [add_plain hsp] at g0 g1
      refine ⟨ad.block, ad.off, ?_, ?_, by simpa using g0, by simpa [Nat.add_assoc] using g1⟩
      · obtain ⟨b, o, sp⟩ := ad; simp only at hsp; subst hsp; rfl
      · exact World.block_lt_of_cell? w ⟨ad.block, _, none⟩ g0

set_option maxRecDepth 100000 in
theorem open_steps {a : Option Addr} {len cap fuel : Nat} {x : DataW H × List MemPlace} (h : DataW.trod enc Ybaf.prog w base (fun _ => true) held fuel 24 [.slice a len cap] = some x) :
    ∃ st : List (Int × Int × Int), st.length = len ∧ (∀ z ∈ st, (0 ≤ z.1 ∧ z.1 ≤ 255) ∧ (0 ≤ z.2.1 ∧ z.2.1 ≤ 18446744073709551615) ∧ (0 ≤ z.2.2 ∧ z.2.2 ≤ 255)) ∧
      ∀ k (h : k < st.length), ∃ sb so, a = some ⟨sb, so, none⟩ ∧ sb < w.heap.size ∧ w.cell? ⟨sb, so + k * 3, none⟩ = some (.int .u8 st[k].1) ∧ w.cell? ⟨sb, so + k * 3 + 1, none⟩ = some (.int .u64 st[k].2.1) ∧ w.cell? ⟨sb, so + k * 3 + 2, none⟩ = some (.int .u8 st[k].2.2) := by
  rcases open_slice Ybaf.underlying24 h with ⟨hcs, _⟩ | ⟨ad, l, c, m, n, D, Pl, hcs, _, hl, _, hm, _, hx⟩
  · simp at hcs
    obtain ⟨rfl, rfl, rfl⟩ := hcs
    exact ⟨[], rfl, (fun z hz => by cases hz), fun k hk => by simp at hk⟩
  · simp at hcs
    obtain ⟨rfl, rfl, rfl⟩ := hcs
    have hmm : len ≤ m := by rw [hm]; simpa using hl
    have each : ∀ i, i < len → ∃ z : Int × Int × Int, ((0 ≤ z.1 ∧ z.1 ≤ 255) ∧ (0 ≤ z.2.1 ∧ z.2.1 ≤ 18446744073709551615) ∧ (0 ≤ z.2.2 ∧ z.2.2 ≤ 255)) ∧ w.cell? (ad.add (i * 3)) = some (.int .u8 z.1) ∧ w.cell? (ad.add (i * 3 + 1)) = some (.int .u64 z.2.1) ∧ w.cell? (ad.add (i * 3 + 2)) = some (.int .u8 z.2.2) := by
      intro i hi
      obtain ⟨cs', h1, h2⟩ := hx i (by omega)
      rw [cells32] at h1
      obtain ⟨_, hlen, hc⟩ := World.cells?_some h1
      obtain ⟨y0, y1, y2, n', _, _, t0, t1, t2⟩ := trod_struct3 Ybaf.underlying32 h2
      match cs', hlen with
      | [c0, c1, c2], _ =>
        simp only [cells5, cells26] at t0 t1 t2
        obtain ⟨z0, hz0, _, hw0⟩ := DataW.trod_int Ybaf.underlying5 t0
        obtain ⟨z1, hz1, _, hw1⟩ := DataW.trod_int Ybaf.underlying26 t1
        obtain ⟨z2, hz2, _, hw2⟩ := DataW.trod_int Ybaf.underlying5 t2
        simp at hz0 hz1 hz2
        subst hz0 hz1 hz2
        have e0 := hc 0 (by omega)
        have e1 := hc 1 (by omega)
        have e2 := hc 2 (by omega)
        rw [add_add] at e0 e1 e2
        exact ⟨(z0, z1, z2), ⟨bd_u8 hw0, bd_u64 hw1, bd_u8 hw2⟩, by simpa using e0, by simpa using e1, by simpa using e2⟩
    obtain ⟨f, hf⟩ := choose_lt each
    refine ⟨(List.range len).map f, by simp, ?_, ?_⟩
    · intro z hz
      obtain ⟨i, hi, rfl⟩ := List.mem_map.1 hz
      exact (hf i (by simpa using hi)).1
    · intro k hk
      have hk' : k < len := by simpa using hk
      have hsp : ad.spot = none := by
        have := (hf 0 (by omega)).2.1
        rw [show 0 * 3 = 0 from rfl, show ad.add 0 = ad by unfold Addr.add; simp] at this
        exact spot_none this
      obtain ⟨_, g0, g1, g2⟩ := hf k hk'
      rw [add_plain hsp] at g0 g1 g2
      refine ⟨ad.block, ad.off, ?_, ?_, by simpa using g0, by simpa [Nat.add_assoc] using g1, by simpa [Nat.add_assoc] using g2⟩
      · obtain ⟨b, o, sp⟩ := ad; simp only at hsp; subst hsp; rfl
      · exact World.block_lt_of_cell? w ⟨ad.block, _, none⟩ g0
end
end Ho

end Go.Proofs.YbulkbwgiFmt
