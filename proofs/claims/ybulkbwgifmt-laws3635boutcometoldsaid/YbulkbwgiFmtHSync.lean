/-
  replayCounterSync (20), where the notify decodes.
-/
import Derived.Test.YbulkbwgiFmtHParse
namespace Go.Proofs.YbulkbwgiFmt
open Go.RowKit
open Ha (hide unhide)

namespace Ha
theorem beFromZ_bd (L : List Int) (h : ∀ z ∈ L, 0 ≤ z ∧ z ≤ 255) : 0 ≤ Lib.beZ L ∧ Lib.beZ L < 256 ^ L.length := by
  suffices H : ∀ (L : List Int) (a : Int), (∀ z ∈ L, 0 ≤ z ∧ z ≤ 255) → 0 ≤ a → 0 ≤ Lib.beFromZ a L ∧ Lib.beFromZ a L < (a + 1) * 256 ^ L.length by
    have := H L 0 h (by omega)
    simpa [Lib.beZ] using this
  intro L
  induction L with
  | nil => intro a _ ha; simp [Lib.beFromZ]; omega
  | cons z r ih =>
    intro a hz ha
    have hz' := hz z (by simp)
    have := ih (a * 256 + z) (fun y hy => hz y (by simp [hy])) (by omega)
    simp only [Lib.beFromZ, List.length_cons]
    refine ⟨this.1, Int.lt_of_lt_of_le this.2 ?_⟩
    rw [show (256 : Int) ^ (r.length + 1) = 256 * 256 ^ r.length by rw [Int.pow_succ]; omega, ← Int.mul_assoc]
    refine Int.mul_le_mul_of_nonneg_right (by omega) ?_
    exact Int.pow_nonneg (by omega)
abbrev n68 (p0 T : Int) (sa : Option Addr) (s sc : Nat) (da : Option Addr) (m dc : Nat) : Array Value := #[.int .u8 p0, .int .u16 T, .slice sa s sc, .slice da m dc]
abbrev o73 : Obj := .cells #[.int .u64 0, .bool false] 73
end Ha

set_option maxRecDepth 100000 in
set_option maxHeartbeats 400000 in
theorem rcs_four (p0 T : Int) (sa : Option Addr) (sc g o dc : Nat) (D : List Int) (w : World) (hl : D.length = 4) (hD : ∀ z ∈ D, 0 ≤ z ∧ z ≤ 255) (hg : g < w.heap.size)
    (hc : ∀ i, i < 4 → w.cell? ((⟨g, o, none⟩ : Addr).add i) = some (.int .u8 (D.getD i 0))) :
    Calls Ybaf.prog 20 #[.agg (Ha.n68 p0 T sa 0 sc (some ⟨g, o, none⟩) 4 dc)] w fun e w' => e = .returned (.tuple #[.agg #[.int .u64 (Lib.beZ D), .bool false], .nilIface]) ∧ Below w.heap.size w w' := by
  have hbW : Below w.heap.size w ((w.alloc (.cells (Ha.n68 p0 T sa 0 sc (some ⟨g, o, none⟩) 4 dc) 68)).alloc Ha.o73) := ((Below.refl _ w).alloc (Nat.le_refl _) _).alloc (by simp) _
  have HU := hide (Ybaf.binary_BE_Uint32_z ⟨g, o, none⟩ 4 dc D ((w.alloc (.cells (Ha.n68 p0 T sa 0 sc (some ⟨g, o, none⟩) 4 dc) 68)).alloc Ha.o73) (Nat.le_refl _) (by omega)
    (fun i hi => (hbW.cell (p := (⟨g, o, none⟩ : Addr).add i) (by rw [Ha.add_block]; exact hg)).trans (hc i (by omega))) (fun z hz => Ha.wf_u8 (hD z hz)))
  rw [List.take_of_length_le (by omega)] at HU
  have hbd := Ha.beFromZ_bd D hD
  rw [hl] at hbd
  generalize Lib.beZ D = Z at *
  obtain ⟨hz0, hz1⟩ := hbd
  have hz2 : Z ≤ 4294967295 := by omega
  clear hD hc hl hz1
  have HK : Hid (∀ w1, Below ((w.alloc (.cells (Ha.n68 p0 T sa 0 sc (some ⟨g, o, none⟩) 4 dc) 68)).alloc Ha.o73).heap.size ((w.alloc (.cells (Ha.n68 p0 T sa 0 sc (some ⟨g, o, none⟩) 4 dc) 68)).alloc Ha.o73) w1 → w1.cell? ⟨w.heap.size + 1, 0, none⟩ = some (.int .u64 0) ∧ w1.cell? ⟨w.heap.size + 1, 1, none⟩ = some (.bool false) ∧ w1.frozen? ⟨w.heap.size + 1, 0, none⟩ = false ∧ w1.frozen? ⟨w.heap.size + 1, 1, none⟩ = false ∧ Below w.heap.size w w1) := by
    intro w1 hb1
    have hz : ((w.alloc (.cells (Ha.n68 p0 T sa 0 sc (some ⟨g, o, none⟩) 4 dc) 68)).alloc Ha.o73).heap.size = w.heap.size + 1 + 1 := by simp
    rw [hz] at hb1
    exact ⟨(hb1.cell (p := ⟨w.heap.size + 1, 0, none⟩) (by simp)).trans (by go_simp), (hb1.cell (p := ⟨w.heap.size + 1, 1, none⟩) (by simp)).trans (by go_simp), (hb1.frozen (p := ⟨w.heap.size + 1, 0, none⟩) (by simp)).trans (by go_simp), (hb1.frozen (p := ⟨w.heap.size + 1, 1, none⟩) (by simp)).trans (by go_simp), hbW.trans (hb1.mono (by omega))⟩
  go_enter Ybaf.func20, Ybaf.ntmps20
  go_wp2_with (go_at_call 29; refine (unhide HU).mono ?_; rintro e w1 ⟨rfl, hb1⟩; obtain ⟨r0, r1, f0, f1, hbw⟩ := unhide HK w1 hb1; clear hb1)
  exact bodyPost_ret (v := .tuple #[.agg #[.int .u64 Z, .bool false], .nilIface]) (by simp [results, Ybaf.results20, go_sem, r0, r1]) rfl ⟨rfl, (hbw.setCell (by simp) _).setCell (by simp) _⟩

set_option maxRecDepth 100000 in
set_option maxHeartbeats 400000 in
theorem rcs_eight (p0 T : Int) (sa : Option Addr) (sc g o dc : Nat) (D : List Int) (w : World) (hl : D.length = 8) (hD : ∀ z ∈ D, 0 ≤ z ∧ z ≤ 255) (hg : g < w.heap.size)
    (hc : ∀ i, i < 8 → w.cell? ((⟨g, o, none⟩ : Addr).add i) = some (.int .u8 (D.getD i 0))) :
    Calls Ybaf.prog 20 #[.agg (Ha.n68 p0 T sa 0 sc (some ⟨g, o, none⟩) 8 dc)] w fun e w' => e = .returned (.tuple #[.agg #[.int .u64 (Lib.beZ D), .bool true], .nilIface]) ∧ Below w.heap.size w w' := by
  have hbW : Below w.heap.size w ((w.alloc (.cells (Ha.n68 p0 T sa 0 sc (some ⟨g, o, none⟩) 8 dc) 68)).alloc Ha.o73) := ((Below.refl _ w).alloc (Nat.le_refl _) _).alloc (by simp) _
  have HU := hide (Ybaf.binary_BE_Uint64_z ⟨g, o, none⟩ 8 dc D ((w.alloc (.cells (Ha.n68 p0 T sa 0 sc (some ⟨g, o, none⟩) 8 dc) 68)).alloc Ha.o73) (Nat.le_refl _) (by omega)
    (fun i hi => (hbW.cell (p := (⟨g, o, none⟩ : Addr).add i) (by rw [Ha.add_block]; exact hg)).trans (hc i (by omega))) (fun z hz => Ha.wf_u8 (hD z hz)))
  rw [List.take_of_length_le (by omega)] at HU
  generalize Lib.beZ D = Z at *
  clear hD hc hl
  have HK : Hid (∀ w1, Below ((w.alloc (.cells (Ha.n68 p0 T sa 0 sc (some ⟨g, o, none⟩) 8 dc) 68)).alloc Ha.o73).heap.size ((w.alloc (.cells (Ha.n68 p0 T sa 0 sc (some ⟨g, o, none⟩) 8 dc) 68)).alloc Ha.o73) w1 → w1.cell? ⟨w.heap.size + 1, 0, none⟩ = some (.int .u64 0) ∧ w1.cell? ⟨w.heap.size + 1, 1, none⟩ = some (.bool false) ∧ w1.frozen? ⟨w.heap.size + 1, 0, none⟩ = false ∧ w1.frozen? ⟨w.heap.size + 1, 1, none⟩ = false ∧ Below w.heap.size w w1) := by
    intro w1 hb1
    have hz : ((w.alloc (.cells (Ha.n68 p0 T sa 0 sc (some ⟨g, o, none⟩) 8 dc) 68)).alloc Ha.o73).heap.size = w.heap.size + 1 + 1 := by simp
    rw [hz] at hb1
    exact ⟨(hb1.cell (p := ⟨w.heap.size + 1, 0, none⟩) (by simp)).trans (by go_simp), (hb1.cell (p := ⟨w.heap.size + 1, 1, none⟩) (by simp)).trans (by go_simp), (hb1.frozen (p := ⟨w.heap.size + 1, 0, none⟩) (by simp)).trans (by go_simp), (hb1.frozen (p := ⟨w.heap.size + 1, 1, none⟩) (by simp)).trans (by go_simp), hbW.trans (hb1.mono (by omega))⟩
  go_enter Ybaf.func20, Ybaf.ntmps20
  go_wp2_with (go_at_call 30; refine (unhide HU).mono ?_; rintro e w1 ⟨rfl, hb1⟩; obtain ⟨r0, r1, f0, f1, hbw⟩ := unhide HK w1 hb1; clear hb1)
  exact bodyPost_ret (v := .tuple #[.agg #[.int .u64 Z, .bool true], .nilIface]) (by simp [results, Ybaf.results20, go_sem, r0, r1]) rfl ⟨rfl, (hbw.setCell (by simp) _).setCell (by simp) _⟩

end Go.Proofs.YbulkbwgiFmt
