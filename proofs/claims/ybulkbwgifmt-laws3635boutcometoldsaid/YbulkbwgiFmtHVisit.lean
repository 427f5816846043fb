/-
  ApplyReplayCounterSync$1 (17), where it returns nil.
-/
import Derived.Test.YbulkbwgiFmtHSync
namespace Go.Proofs.YbulkbwgiFmt
open Go.RowKit
open Ha (hide unhide)

namespace Ha
/-- What the captured variable holds: nothing yet, or a delta and its size. -/
def St (w : World) (r : Nat) : Option (Int × Bool) → Prop
  | none => w.frozen? ⟨r, 0, none⟩ = false ∧ r < w.heap.size ∧ w.cell? ⟨r, 0, none⟩ = some (.pointer none)
  | some (d, e) => w.frozen? ⟨r, 0, none⟩ = false ∧ r < w.heap.size ∧ ∃ q, w.cell? ⟨r, 0, none⟩ = some (.pointer (some ⟨q, 0, none⟩)) ∧ r < q ∧ q < w.heap.size ∧
      w.cell? ⟨q, 0, none⟩ = some (.int .u64 d) ∧ w.cell? ⟨q, 1, none⟩ = some (.bool e)
theorem St.below {w w' : World} {r : Nat} {s : Option (Int × Bool)} (h : St w r s) (hb : Below w.heap.size w w') : St w' r s := by
  match s, h with
  | none, ⟨a, b, c⟩ => exact ⟨(hb.frozen (p := ⟨r, 0, none⟩) b).trans a, Nat.lt_of_lt_of_le b hb.size, (hb.cell (p := ⟨r, 0, none⟩) b).trans c⟩
  | some (d, e), ⟨a, b, q, c, h1, h2, c0, c1⟩ =>
    exact ⟨(hb.frozen (p := ⟨r, 0, none⟩) b).trans a, Nat.lt_of_lt_of_le b hb.size, q, (hb.cell (p := ⟨r, 0, none⟩) b).trans c, h1, Nat.lt_of_lt_of_le h2 hb.size, (hb.cell (p := ⟨q, 0, none⟩) h2).trans c0, (hb.cell (p := ⟨q, 1, none⟩) h2).trans c1⟩
theorem St.lt {w : World} {r : Nat} {s : Option (Int × Bool)} (h : St w r s) : r < w.heap.size := by
  match s, h with
  | none, ⟨_, b, _⟩ => exact b
  | some (d, e), ⟨_, b, _⟩ => exact b
end Ha

set_option maxRecDepth 100000 in
set_option maxHeartbeats 400000 in
theorem visit_other (i p0 T : Int) (sa : Option Addr) (s sc : Nat) (da : Option Addr) (m dc : Nat) (r : Nat) (w : World) (h1 : T ≠ 16422) (h2 : T ≠ 16423) :
    Calls Ybaf.prog 17 #[.int .i64 i, .agg (Ha.n68 p0 T sa s sc da m dc), .pointer (some ⟨r, 0, none⟩)] w fun e w' => e = .returned .nilIface ∧ Below w.heap.size w w' := by
  go_enter Ybaf.func17, Ybaf.ntmps17
  go_wp2
  go_ret
  exact ⟨rfl, (Below.refl _ w).alloc (Nat.le_refl _) _⟩

set_option maxRecDepth 100000 in
set_option maxHeartbeats 800000 in
theorem visit_sync (b : Bool) (n : Nat) (i p0 : Int) (sa : Option Addr) (sc g o dc : Nat) (D : List Int) (r : Nat) (w : World) (hn : n = bif b then 8 else 4) (hl : D.length = n) (hD : ∀ z ∈ D, 0 ≤ z ∧ z ≤ 255) (hg : g < w.heap.size)
    (hc : ∀ i, i < n → w.cell? ((⟨g, o, none⟩ : Addr).add i) = some (.int .u8 (D.getD i 0))) (hst : Ha.St w r none) :
    Calls Ybaf.prog 17 #[.int .i64 i, .agg (Ha.n68 p0 16423 sa 0 sc (some ⟨g, o, none⟩) n dc), .pointer (some ⟨r, 0, none⟩)] w fun e w' => e = .returned .nilIface ∧ Ha.St w' r (some (Lib.beZ D, b)) ∧ Below r w w' := by
  have hbW : Below w.heap.size w (w.alloc (.cells (Ha.n68 p0 16423 sa 0 sc (some ⟨g, o, none⟩) n dc) 68)) := (Below.refl _ w).alloc (Nat.le_refl _) _
  have HC : Hid (Calls Ybaf.prog 20 #[.agg (Ha.n68 p0 16423 sa 0 sc (some ⟨g, o, none⟩) n dc)] (w.alloc (.cells (Ha.n68 p0 16423 sa 0 sc (some ⟨g, o, none⟩) n dc) 68)) fun e w' => e = .returned (.tuple #[.agg #[.int .u64 (Lib.beZ D), .bool b], .nilIface]) ∧ Below (w.alloc (.cells (Ha.n68 p0 16423 sa 0 sc (some ⟨g, o, none⟩) n dc) 68)).heap.size (w.alloc (.cells (Ha.n68 p0 16423 sa 0 sc (some ⟨g, o, none⟩) n dc) 68)) w') := by
    have hc' : ∀ i, i < n → (w.alloc (.cells (Ha.n68 p0 16423 sa 0 sc (some ⟨g, o, none⟩) n dc) 68)).cell? ((⟨g, o, none⟩ : Addr).add i) = some (.int .u8 (D.getD i 0)) := fun i hi => (hbW.cell (p := (⟨g, o, none⟩ : Addr).add i) (by rw [Ha.add_block]; exact hg)).trans (hc i hi)
    cases b
    · simp at hn
      subst hn
      exact rcs_four p0 16423 sa sc g o dc D _ hl hD (by simp; omega) hc'
    · simp at hn
      subst hn
      exact rcs_eight p0 16423 sa sc g o dc D _ hl hD (by simp; omega) hc'
  obtain ⟨hf, hr, hp⟩ := hst
  generalize Lib.beZ D = Z at *
  clear hc hD hl hn
  have HK : Hid (∀ w1, Below (w.alloc (.cells (Ha.n68 p0 16423 sa 0 sc (some ⟨g, o, none⟩) n dc) 68)).heap.size (w.alloc (.cells (Ha.n68 p0 16423 sa 0 sc (some ⟨g, o, none⟩) n dc) 68)) w1 → Below w.heap.size w w1 ∧ w1.cell? ⟨r, 0, none⟩ = some (.pointer none) ∧ w1.frozen? ⟨r, 0, none⟩ = false ∧ r < w1.heap.size) := by
    intro w1 h
    have hb : Below w.heap.size w w1 := hbW.trans (h.mono (by simp))
    exact ⟨hb, (hb.cell (p := ⟨r, 0, none⟩) hr).trans hp, (hb.frozen (p := ⟨r, 0, none⟩) hr).trans hf, Nat.lt_of_lt_of_le hr hb.size⟩
  go_enter Ybaf.func17, Ybaf.ntmps17
  go_wp2_with (go_at_call 20; refine (unhide HC).mono ?_; rintro e w1 ⟨rfl, hb1⟩; obtain ⟨hb, hp1, hf1, hr1⟩ := unhide HK w1 hb1; clear hb1)
  go_ret
  clear HC HK
  have hne : ¬ w1.heap.size = r := by omega
  have hne' : ¬ r = w1.heap.size := by omega
  refine ⟨rfl, ⟨by go_simp, by simp; omega, w1.heap.size, by go_simp, by omega, by simp, by go_simp, by go_simp⟩, ?_⟩
  exact ((hb.mono (Nat.le_of_lt hr)).setCell (Nat.le_refl _) _).alloc (by simp; omega) _

end Go.Proofs.YbulkbwgiFmt
