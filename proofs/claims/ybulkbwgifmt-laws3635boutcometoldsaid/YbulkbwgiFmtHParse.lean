/-
  ikev2.ParseNotify (25), where the body parses.
-/
import Derived.Test.YbulkbwgiFmtHLeaf
import Derived.Test.YbulkbwgiFmtShelf
import Derived.Deep.RegionHeld3
namespace Go.Proofs.YbulkbwgiFmt
open Go.RowKit
open Ha (hide unhide)

namespace Ha
abbrev o68 : Obj := .cells #[.int .u8 0, .int .u16 0, .slice none 0 0, .slice none 0 0] 68
theorem wf_u8 {z : Int} (h : 0 ≤ z ∧ z ≤ 255) : (Lit.int .u8 z).wf = true := by
  have e1 : IntKind.u8.min = 0 := rfl
  have e2 : IntKind.u8.max = 255 := rfl
  simp [Lit.wf, e1, e2, h]
theorem slice_lh (g N : Nat) (l h : Int) (lo hi : Nat) (hl : l = (lo : Int)) (hh : h = (hi : Int)) (h1 : lo ≤ hi) (h2 : hi ≤ N) :
    ∃ a, (∀ w, (Instr.slice 34 (.slice (some ⟨g, 0, none⟩) N N) (some (.int .i64 l)) (some (.int .i64 h)) none).run Ybaf.prog w = .ok (.slice a (hi - lo) (N - lo)) w) ∧ (lo < N → a = some ⟨g, lo, none⟩) := by
  subst hl hh
  refine ⟨if N = lo then some ⟨g, 0, none⟩ else some ⟨g, lo, none⟩, fun w => ?_, fun h => by simp [show ¬ N = lo by omega]⟩
  have e0 : (0 : Int) ≤ (lo : Int) := by omega
  have e1 : (lo : Int) ≤ (hi : Int) := by omega
  have e2 : (hi : Int) ≤ (N : Int) := by omega
  go_simp
theorem slice_l (g N : Nat) (l : Int) (lo : Nat) (hl : l = (lo : Int)) (h2 : lo ≤ N) :
    ∃ a, (∀ w, (Instr.slice 34 (.slice (some ⟨g, 0, none⟩) N N) (some (.int .i64 l)) none none).run Ybaf.prog w = .ok (.slice a (N - lo) (N - lo)) w) ∧ (lo < N → a = some ⟨g, lo, none⟩) := by
  subst hl
  refine ⟨if N = lo then some ⟨g, 0, none⟩ else some ⟨g, lo, none⟩, fun w => ?_, fun h => by simp [show ¬ N = lo by omega]⟩
  have e0 : (0 : Int) ≤ (lo : Int) := by omega
  have e2 : (lo : Int) ≤ (N : Int) := by omega
  go_simp
end Ha

set_option maxRecDepth 100000 in
set_option maxHeartbeats 400000 in
theorem parse_ok (g spi m : Nat) (x0 x2 x3 : Int) (w : World) (hg : g < w.heap.size) (hs : spi ≤ 255) (hm : m ≤ 64)
    (c0 : w.cell? ⟨g, 0, none⟩ = some (.int .u8 x0)) (c1 : w.cell? ⟨g, 1, none⟩ = some (.int .u8 (spi : Int))) (c2 : w.cell? ⟨g, 2, none⟩ = some (.int .u8 x2)) (c3 : w.cell? ⟨g, 3, none⟩ = some (.int .u8 x3))
    (h2 : 0 ≤ x2 ∧ x2 ≤ 255) (h3 : 0 ≤ x3 ∧ x3 ≤ 255) :
    Calls Ybaf.prog 25 #[.slice (some ⟨g, 0, none⟩) (4 + spi + m) (4 + spi + m)] w fun e w' => ∃ sa sc da dc, e = .returned (.tuple #[.agg #[.int .u8 x0, .int .u16 (Lib.beZ [x2, x3]), .slice sa spi sc, .slice da m dc], .nilIface]) ∧
      (0 < m → da = some ⟨g, 4 + spi, none⟩) ∧ Below w.heap.size w w' := by
  have hbW : Below w.heap.size w (w.alloc Ha.o68) := (Below.refl _ w).alloc (Nat.le_refl _) _
  have HU := hide (Ybaf.binary_BE_Uint16_z ⟨g, 2, none⟩ 2 (4 + spi + m - 2) [x2, x3] (w.alloc Ha.o68).drew (by omega) (by simp) (by
    intro i hi
    simp at hi
    obtain rfl | rfl : i = 0 ∨ i = 1 := by omega
    · exact (hbW.cell (p := ⟨g, 2, none⟩) hg).trans c2
    · exact (hbW.cell (p := ⟨g, 3, none⟩) hg).trans c3) (by
    intro z hz
    simp at hz
    rcases hz with rfl | rfl
    · exact Ha.wf_u8 h2
    · exact Ha.wf_u8 h3))
  rw [show [x2, x3].take 2 = [x2, x3] from rfl] at HU
  have hn2 : ¬ (4 + spi + m) = 2 := by omega
  generalize Lib.beZ [x2, x3] = T at *
  clear h2 h3 c2 c3
  have HK : Hid (∀ w1, Below (w.alloc Ha.o68).drew.heap.size (w.alloc Ha.o68).drew w1 → w1.cell? ⟨g, 0, none⟩ = some (.int .u8 x0) ∧ w1.cell? ⟨w.heap.size, 0, none⟩ = some (.int .u8 0) ∧ w1.cell? ⟨w.heap.size, 1, none⟩ = some (.int .u16 0) ∧
      w1.cell? ⟨w.heap.size, 2, none⟩ = some (.slice none 0 0) ∧ w1.cell? ⟨w.heap.size, 3, none⟩ = some (.slice none 0 0) ∧ w1.frozen? ⟨w.heap.size, 0, none⟩ = false ∧ w1.frozen? ⟨w.heap.size, 1, none⟩ = false ∧ w1.frozen? ⟨w.heap.size, 2, none⟩ = false ∧ w1.frozen? ⟨w.heap.size, 3, none⟩ = false ∧ Below w.heap.size w w1) := by
    intro w1 hb
    have hz : (w.alloc Ha.o68).drew.heap.size = w.heap.size + 1 := by go_simp
    rw [hz] at hb
    refine ⟨?_, ?_, ?_, ?_, ?_, ?_, ?_, ?_, ?_, ?_⟩
    · exact (hb.cell (p := ⟨g, 0, none⟩) (by show g < _; omega)).trans ((hbW.cell (p := ⟨g, 0, none⟩) hg).trans c0)
    · exact (hb.cell (p := ⟨w.heap.size, 0, none⟩) (by simp)).trans (by go_simp)
    · exact (hb.cell (p := ⟨w.heap.size, 1, none⟩) (by simp)).trans (by go_simp)
    · exact (hb.cell (p := ⟨w.heap.size, 2, none⟩) (by simp)).trans (by go_simp)
    · exact (hb.cell (p := ⟨w.heap.size, 3, none⟩) (by simp)).trans (by go_simp)
    · exact (hb.frozen (p := ⟨w.heap.size, 0, none⟩) (by simp)).trans (by go_simp)
    · exact (hb.frozen (p := ⟨w.heap.size, 1, none⟩) (by simp)).trans (by go_simp)
    · exact (hb.frozen (p := ⟨w.heap.size, 2, none⟩) (by simp)).trans (by go_simp)
    · exact (hb.frozen (p := ⟨w.heap.size, 3, none⟩) (by simp)).trans (by go_simp)
    · exact hbW.drew.trans (hb.mono (by omega))
  have b0 : (0 : Int) < 4 + (spi : Int) + (m : Int) := by omega
  have b1 : (1 : Int) < 4 + (spi : Int) + (m : Int) := by omega
  have b4 : (4 : Int) ≤ 4 + (spi : Int) + (m : Int) := by omega
  have bS : 4 + (spi : Int) ≤ 4 + (spi : Int) + (m : Int) := by omega
  have d4 : decide (4 + (spi : Int) + (m : Int) < 4) = false := by simp; omega
  have dS : decide (4 + (spi : Int) + (m : Int) < 4 + (spi : Int)) = false := by simp; omega
  have b5 : (4 : Int) ≤ 4 + (spi : Int) := by omega
  obtain ⟨a1, hs1, ha1⟩ := Ha.slice_lh g (4 + spi + m) 2 4 2 4 rfl rfl (by omega) (by omega)
  obtain ⟨a2, hs2, ha2⟩ := Ha.slice_lh g (4 + spi + m) 4 (4 + (spi : Int)) 4 (4 + spi) rfl (by omega) (by omega) (by omega)
  obtain ⟨a3, hs3, ha3⟩ := Ha.slice_l g (4 + spi + m) (4 + (spi : Int)) (4 + spi) (by omega) (by omega)
  obtain rfl := ha1 (by omega)
  rw [show 4 - 2 = 2 from rfl] at hs1
  rw [show 4 + spi + m - (4 + spi) = m by omega] at hs3
  rw [show 4 + spi - 4 = spi by omega] at hs2
  have HA := hide ha3
  have hne1 : ¬ g = w.heap.size := by omega
  have hne2 : ¬ w.heap.size = g := by omega
  have hne := World.new_ne w ⟨g, 0, none⟩ c0
  clear hn2 ha1 ha2 ha3
  go_enter Ybaf.func25, Ybaf.ntmps25
  go_wp2
  go_region_held3 (fun w' => w'.cell? ⟨g, 0, none⟩ = some (.int .u8 x0)) (first | go_keep | exact k0) ((go_at_call 34; refine (unhide HU).mono ?_; rintro e w1 ⟨rfl, hb1⟩; obtain ⟨k0, r0, r1, r2, r3, f0, f1, f2, f3, hbf⟩ := unhide HK w1 hb1; clear hb1))
  go_wp2
  refine bodyPost_ret (v := .tuple #[.agg #[.int .u8 x0, .int .u16 T, .slice a2 spi (4 + spi + m - 4), .slice a3 m m], .nilIface]) (by simp [results, Ybaf.results25, go_sem, r0, r1, r2, r3]) rfl
    ⟨a2, _, a3, _, rfl, fun h => unhide HA (by omega), (((hbf.setCell (Nat.le_refl _) _).setCell (Nat.le_refl _) _).setCell (Nat.le_refl _) _).setCell (Nat.le_refl _) _⟩

end Go.Proofs.YbulkbwgiFmt
