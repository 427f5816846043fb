/-
  raise (33).
-/
import Derived.Test.YbulkbwgiFmtHKids
import Derived.Deep.LoopGhost
namespace Go.Proofs.YbulkbwgiFmt
open Go.RowKit
open Ha (hide unhide)

namespace Ha
/-- Child SAs with the first k counters raised by d. -/
def up (ch : List (Bool × Int)) (d : Int) (k : Nat) : List (Bool × Int) := ((ch.take k).map fun c => (c.1, rz c.2 d c.1)) ++ ch.drop k
theorem up_length (ch : List (Bool × Int)) (d : Int) (k : Nat) : (up ch d k).length = ch.length := by simp [up]; omega
theorem up_get (ch : List (Bool × Int)) (d : Int) (k : Nat) (h : k < ch.length) : (up ch d k)[k]? = some ch[k] := by
  simp [up, List.getElem?_append, Nat.min_eq_left (Nat.le_of_lt h)]
theorem chCells_set (L : List (Bool × Int)) (k : Nat) (x : Int) (h : k < L.length) : (chCells L).set (k * 2 + 1) (.int .u64 x) = chCells (L.set k (L[k].1, x)) := by
  induction L generalizing k with
  | nil => simp at h
  | cons c r ih =>
    cases k with
    | zero => simp [chCells]
    | succ k =>
      have := ih k (by simpa using h)
      simpa [chCells, show (k + 1) * 2 + 1 = k * 2 + 1 + 1 + 1 from by omega] using this
theorem up_succ (ch : List (Bool × Int)) (d : Int) (k : Nat) (h : k < ch.length) : (up ch d k).set k (ch[k].1, rz ch[k].2 d ch[k].1) = up ch d (k + 1) := by
  apply List.ext_getElem?
  intro i
  rcases Nat.lt_trichotomy i k with hi | hi | hi
  · rw [List.getElem?_set_ne (by omega)]
    have h1 : i < min k ch.length := by omega
    have h2 : i < min (k + 1) ch.length := by omega
    simp [up, List.getElem?_append, h1, h2]
  · subst hi
    rw [List.getElem?_set_self (by rw [up_length]; exact h)]
    have h2 : i < min (i + 1) ch.length := by omega
    simp [up, List.getElem?_append, h2]
  · rw [List.getElem?_set_ne (by omega)]
    simp only [up, List.getElem?_append, List.length_map, List.length_take, List.getElem?_drop]
    rw [if_neg (by omega), if_neg (by omega)]
    congr 1
    omega
end Ha

set_option maxRecDepth 100000 in
set_option maxHeartbeats 800000 in
theorem raise_any (g n c : Nat) (ch : List (Bool × Int)) (d : Int) (w : World) (hn : ch.length = n) (hn' : n ≤ 4096) (hg : g < w.heap.size) (hat : Ha.At w g (Ha.chCells ch))
    (hd0 : 0 ≤ d) (hd1 : d ≤ 18446744073709551615) (hbd : ∀ x ∈ ch, 0 ≤ x.2 ∧ x.2 ≤ 18446744073709551615) :
    Calls Ybaf.prog 33 #[.slice (some ⟨g, 0, none⟩) n c, .int .u64 d] w fun e w' => ∃ g' c', e = .returned (.slice (some ⟨g', 0, none⟩) n c') ∧
      w'.ownsRow w.heap.size 29 2 (.slice (some ⟨g', 0, none⟩) n c') n (Ha.chCells (Ha.up ch d n)) ∧ Below w.heap.size w w' := by
  have HC := hide (clone_any g n c ch w hn hn' hg hat)
  have Hn := hide hn
  have Hbd := hide hbd
  clear hat hn hbd
  go_enter Ybaf.func33, Ybaf.ntmps33
  go_wp2_with (go_at_call 35; refine (unhide HC).mono ?_; rintro e w1 ⟨g', c', rfl, hown, hb1⟩)
  go_loopg [13] n (fun gk i wr => ∃ k : Nat, k ≤ n ∧ n ≤ k + gk ∧ i = .int .i64 (k : Int) ∧ wr.ownsRow w.heap.size 29 2 (.slice (some ⟨g', 0, none⟩) n c') n (Ha.chCells (Ha.up ch d k)) ∧ Below w.heap.size w wr)
  case atStart => exact ⟨0, by omega, by omega, rfl, by simpa [Ha.up] using hown, hb1⟩
  case round =>
    obtain ⟨k, hk, hkg, rfl, howr, hbel⟩ := hrel
    clear hown hb1 HC
    have hgw := (howr.lt g' rfl).1
    have hgr := (howr.lt g' rfl).2
    by_cases hlt : k < n
    · have hk' : k < ch.length := by rw [unhide Hn]; exact hlt
      have hku : k < (Ha.up ch d k).length := by rw [Ha.up_length]; exact hk'
      have hget : (Ha.up ch d k)[k] = ch[k] := by have := Ha.up_get ch d k hk'; rw [List.getElem?_eq_getElem hku] at this; exact Option.some.inj this
      have e0 : wr.cell? ⟨g', k * 2, none⟩ = some (.bool ch[k].1) := by
        rw [howr.cellAt (k * 2) (by omega), Ha.ch_esn _ k hku, hget]
      have e1 : wr.cell? ⟨g', k * 2 + 1, none⟩ = some (.int .u64 ch[k].2) := by
        rw [howr.cellAt (k * 2 + 1) (by omega), Ha.ch_out _ k hku, hget]
      have f1 := howr.frozenAt (k * 2 + 1)
      obtain ⟨ho0, ho1⟩ := unhide Hbd _ (List.getElem_mem hk')
      have HS := hide (howr.stored (k * 2 + 1) (.int .u64 (Ha.rz ch[k].2 d ch[k].1)))
      have HE : Hid ((Ha.chCells (Ha.up ch d k)).set (k * 2 + 1) (.int .u64 (Ha.rz ch[k].2 d ch[k].1)) = Ha.chCells (Ha.up ch d (k + 1))) := by
        rw [Ha.chCells_set _ _ _ hku, hget, Ha.up_succ _ _ _ hk']; exact rfl
      generalize ch[k].2 = o at *
      generalize ch[k].1 = b at *
      have hl := Ha.lastOf_bd b
      obtain ⟨hl0, hl1⟩ := hl
      clear hget hku hk'
      go_wp2_with fail
      go_cut [8] from 14 to 35 (fun v wx => v = .int .u64 (min o (Ha.lastOf b)) ∧ wx = ((wr.alloc (.cells #[.bool b, .int .u64 o] 29)).alloc (.cells #[.bool b, .int .u64 o] 29)).drew)
      case first =>
        go_region_with (go_at_call 36; refine (last_any _ _ _).mono ?_; rintro e w' ⟨rfl, rfl⟩)
        all_goals go_wp2_with fail
        all_goals go_meet
        all_goals exact ⟨by congr 1; omega, rfl⟩
      case rest =>
        obtain ⟨rfl, rfl⟩ := hcut
        have hm0 : 0 ≤ min o (Ha.lastOf b) := by omega
        have hm1 : min o (Ha.lastOf b) ≤ Ha.lastOf b := by omega
        have HR := hide (Ha.rz_min o d b)
        generalize min o (Ha.lastOf b) = f at *
        have hm2 : f ≤ 18446744073709551615 := by omega
        have hg1 : g' < wr.heap.size + 1 := by omega
        have hg2 : g' < wr.heap.size + 1 + 1 := by omega
        have hg3 : g' < wr.heap.size + 1 + 1 + 1 := by omega
        by_cases hc : Ha.lastOf b - f < d
        · have HX := hide (show f + (Ha.lastOf b - f) = Ha.rz o d b by rcases unhide HR with h | h <;> omega)
          go_wp2_with (go_at_call 36; refine (last_any _ _ _).mono ?_; rintro e w' ⟨rfl, rfl⟩)
          rw [unhide HX]
          go_roundg (gk - 1)
          case measure => omega
          case rel =>
            refine ⟨k + 1, by omega, by omega, by go_num, ?_, ?_⟩
            · rw [← unhide HE]
              exact ((((unhide HS).1.alloc _).alloc _).alloc _).drew
            · exact ((((hbel.setCell hgw _).alloc (by simp; omega) _).alloc (by simp; omega) _).alloc (by simp; omega) _).drew
        · have HX := hide (show f + d = Ha.rz o d b by rcases unhide HR with h | h <;> omega)
          go_wp2_with (go_at_call 36; refine (last_any _ _ _).mono ?_; rintro e w' ⟨rfl, rfl⟩)
          rw [unhide HX]
          go_roundg (gk - 1)
          case measure => omega
          case rel =>
            refine ⟨k + 1, by omega, by omega, by go_num, ?_, ?_⟩
            · rw [← unhide HE]
              exact ((((unhide HS).1.alloc _).alloc _).alloc _).drew
            · exact ((((hbel.setCell hgw _).alloc (by simp; omega) _).alloc (by simp; omega) _).alloc (by simp; omega) _).drew
    · obtain rfl : k = n := by omega
      go_wp2
      go_ret
      exact ⟨g', c', rfl, howr, hbel⟩

end Go.Proofs.YbulkbwgiFmt
