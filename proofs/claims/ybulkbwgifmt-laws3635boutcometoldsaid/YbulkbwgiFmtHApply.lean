/-
  apply (22), where all is well.
-/
import Derived.Test.YbulkbwgiFmtHRaise
namespace Go.Proofs.YbulkbwgiFmt
open Go.RowKit
open Ha (hide unhide)

set_option maxRecDepth 100000 in
set_option maxHeartbeats 400000 in
theorem apply_ok (g n c : Nat) (ch : List (Bool × Int)) (b : Bool) (d : Int) (w : World) (hn : ch.length = n) (hn' : n ≤ 4096) (hg : g < w.heap.size) (hat : Ha.At w g (Ha.chCells ch)) (hb : ∀ x ∈ ch, x.1 = b)
    (hd0 : 0 ≤ d) (hd1 : d ≤ 18446744073709551615) (hbd : ∀ x ∈ ch, 0 ≤ x.2 ∧ x.2 ≤ 18446744073709551615) (e : Bool) (hbe : n = 0 ∨ b = e) :
    Calls Ybaf.prog 22 #[.agg #[.int .u64 d, .bool e], .slice (some ⟨g, 0, none⟩) n c] w fun r w' => ∃ g' c', r = .returned (.tuple #[.slice (some ⟨g', 0, none⟩) n c', .nilIface]) ∧ w.heap.size ≤ g' ∧ g' < w'.heap.size ∧
      Ha.At w' g' (Ha.chCells (Ha.up ch d n)) ∧ Below w.heap.size w w' := by
  have hbW : Below w.heap.size w (w.alloc (.cells #[.int .u64 d, .bool e] 73)) := (Below.refl _ w).alloc (Nat.le_refl _) _
  have HE := hide (esn_ok g n c ch b (w.alloc (.cells #[.int .u64 d, .bool e] 73)) hn hn' (by simp; omega) (hat.below hbW hg) hb)
  have HR : Hid (∀ w2, Below w.heap.size w w2 → Calls Ybaf.prog 33 #[.slice (some ⟨g, 0, none⟩) n c, .int .u64 d] w2 fun e w' => ∃ g' c', e = .returned (.slice (some ⟨g', 0, none⟩) n c') ∧
      w'.ownsRow w2.heap.size 29 2 (.slice (some ⟨g', 0, none⟩) n c') n (Ha.chCells (Ha.up ch d n)) ∧ Below w2.heap.size w2 w') := fun w2 hb2 => raise_any g n c ch d w2 hn hn' (Nat.lt_of_lt_of_le hg hb2.size) (hat.below hb2 hg) hd0 hd1 hbd
  have Hlen := hide (show (Ha.chCells (Ha.up ch d n)).length = n * 2 by rw [Ha.chCells_length, Ha.up_length, hn])
  clear hat hn hbd hb
  have hfin : ∀ (w2 w' : World) (g' c' : Nat), Below w.heap.size w w2 → w'.ownsRow w2.heap.size 29 2 (.slice (some ⟨g', 0, none⟩) n c') n (Ha.chCells (Ha.up ch d n)) → Below w2.heap.size w2 w' →
      w.heap.size ≤ g' ∧ g' < w'.heap.size ∧ Ha.At w' g' (Ha.chCells (Ha.up ch d n)) ∧ Below w.heap.size w w' := by
    intro w2 w' g' c' h1 h2 h3
    refine ⟨Nat.le_trans h1.size (h2.lt g' rfl).1, (h2.lt g' rfl).2, fun j u hj => ?_, h1.trans (h3.mono h1.size)⟩
    have hjl : j < n * 2 := by rw [← unhide Hlen]; exact (List.getElem?_eq_some_iff.1 hj).1
    rw [h2.cellAt j hjl]; exact hj
  have HF := hide hfin
  clear hfin
  have hcase : (decide ((0 : Int) < (n : Int)) = false ∧ n = 0) ∨ ((0 : Int) < (n : Int) ∧ 0 < n ∧ b = e) := by
    rcases hbe with h | h
    · left; subst h; simp
    · by_cases h0 : 0 < n
      · right; exact ⟨by omega, h0, h⟩
      · left; exact ⟨by simp; omega, by omega⟩
  clear hbe
  rcases hcase with ⟨h0, rfl⟩ | ⟨h0, h1, rfl⟩
  · go_enter Ybaf.func22, Ybaf.ntmps22
    go_wp2_with fail
    refine (unhide HE).mono ?_
    rintro r w2 ⟨rfl, hb2⟩
    have hc0 : w2.cell? ⟨w.heap.size, 0, none⟩ = some (.int .u64 d) := (hb2.cell (p := ⟨w.heap.size, 0, none⟩) (by simp)).trans (by go_simp)
    have hbw2 : Below w.heap.size w w2 := hbW.trans (hb2.mono (by simp))
    have HR2 := hide (unhide HR w2 hbw2)
    clear HE HR
    go_wp2_with (go_at_call 33; refine (unhide HR2).mono ?_; rintro r w3 ⟨g', c', rfl, hown3, hb3⟩)
    go_ret2
    exact ⟨g', c', rfl, unhide HF w2 _ g' c' hbw2 hown3 hb3⟩
  · go_enter Ybaf.func22, Ybaf.ntmps22
    go_wp2_with fail
    refine (unhide HE).mono ?_
    rintro r w2 ⟨rfl, hb2⟩
    have hc0 : w2.cell? ⟨w.heap.size, 0, none⟩ = some (.int .u64 d) := (hb2.cell (p := ⟨w.heap.size, 0, none⟩) (by simp)).trans (by go_simp)
    have hc1 : w2.cell? ⟨w.heap.size, 1, none⟩ = some (.bool b) := (hb2.cell (p := ⟨w.heap.size, 1, none⟩) (by simp)).trans (by go_simp)
    have hbw2 : Below w.heap.size w w2 := hbW.trans (hb2.mono (by simp))
    have HR2 := hide (unhide HR w2 hbw2)
    clear HE HR
    go_wp2_with (go_at_call 33; refine (unhide HR2).mono ?_; rintro r w3 ⟨g', c', rfl, hown3, hb3⟩)
    go_ret2
    exact ⟨g', c', rfl, unhide HF w2 _ g' c' hbw2 hown3 hb3⟩

end Go.Proofs.YbulkbwgiFmt
