/-
  slices.Clone (35), raise (33), esn (31, where all agree), apply (22, where all is well).
-/
import Derived.Test.YbulkbwgiFmtHLeaf
import Derived.BigQuiet
import Derived.Deep.QuietTactic
import Derived.Deep.RegionWith
import Derived.Deep.CutRange
namespace Go.Proofs.YbulkbwgiFmt
open Go.RowKit
open Ha (hide unhide)

namespace Ha
theorem info29 : (Ybaf.prog.info? 29).map (fun i => (i.zero, i.size, i.bytes)) = some (some (.agg #[.bool false, .int .u64 0]), 2, 16) := by kernel_rfl
/-- The cells of Child SAs. -/
def chCells (ch : List (Bool × Int)) : List Value := ch.flatMap fun c => [.bool c.1, .int .u64 c.2]
theorem chCells_length (ch : List (Bool × Int)) : (chCells ch).length = ch.length * 2 := by
  induction ch with
  | nil => rfl
  | cons c r ih => simp [chCells] at ih ⊢; omega
theorem chCells_one (ch : List (Bool × Int)) : ∀ u ∈ chCells ch, u.oneCell' = true := by
  intro u hu
  obtain ⟨c, _, hc⟩ := List.mem_flatMap.1 hu
  simp at hc
  rcases hc with rfl | rfl <;> rfl
/-- The cells xs lie at the head of block g. -/
def At (w : World) (g : Nat) (xs : List Value) : Prop := ∀ j u, xs[j]? = some u → w.cell? ⟨g, j, none⟩ = some u
theorem At.below {w w' : World} {g B : Nat} {xs : List Value} (h : At w g xs) (hb : Below B w w') (hg : g < B) : At w' g xs := fun j u hj => (hb.cell (p := ⟨g, j, none⟩) hg).trans (h j u hj)
theorem at_add (g j : Nat) : (⟨g, 0, none⟩ : Addr).add j = ⟨g, j, none⟩ := by unfold Addr.add; split <;> simp_all
end Ha

set_option maxRecDepth 100000 in
set_option maxHeartbeats 400000 in
theorem clone_any (g n c : Nat) (ch : List (Bool × Int)) (w : World) (hn : ch.length = n) (hn' : n ≤ 4096) (hg : g < w.heap.size) (hat : Ha.At w g (Ha.chCells ch)) :
    Calls Ybaf.prog 35 #[.slice (some ⟨g, 0, none⟩) n c] w fun e w' => ∃ g' c', e = .returned (.slice (some ⟨g', 0, none⟩) n c') ∧
      w'.ownsRow w.heap.size 29 2 (.slice (some ⟨g', 0, none⟩) n c') n (Ha.chCells ch) ∧ Below w.heap.size w w' := by
  obtain ⟨i0, hi, hz0, hz1, hz2⟩ := info_parts Ha.info29
  have Hat := hide hat
  have Hn := hide hn
  clear hat hn
  have heq := fun w => Lib.run_eql_slice_nil (P := Ybaf.prog) w 25 29 (some ⟨g, 0, none⟩) n c 0 0 Ybaf.underlying25
  go_enter Ybaf.func35, Ybaf.ntmps35
  go_wp2_with (at_builtin; refine wpList_append_own _ rfl (.tmp 5) (.tmp 6) 25 rfl w.heap.size 29 i0 (.agg #[.bool false, .int .u64 0]) 2 16 Ybaf.underlying25 hi hz0 hz1 hz2 rfl (by decide) (.slice (some ⟨w.heap.size, 0, none⟩) 0 0) 0 [] rfl (World.ownsRow_made w #[] 0 (Nat.le_refl _) (by unfold maxLen; omega) rfl) ⟨g, 0, none⟩ n c (Ha.chCells ch) rfl ?c1 ?c2 ?c3 ?c4 ?c5 ?c6 ?_)
  case c1 => rw [Ha.chCells_length, unhide Hn]
  case c2 =>
    intro j u hj
    rw [Ha.at_add]
    exact (((Below.refl _ w).alloc (Nat.le_refl _) _).cell (p := ⟨g, j, none⟩) hg).trans (unhide Hat j u hj)
  case c3 => exact Ha.chCells_one _
  case c4 => unfold maxLen; omega
  case c5 => omega
  case c6 => simp
  intro v' w1 hown1 hgrow1 hnil
  have hb1 : Below w.heap.size w w1 := ((Below.refl _ w).alloc (Nat.le_refl _) _).grown hgrow1 (by simp) (by intro k hk; cases hk; exact Nat.le_refl _)
  obtain ⟨g', cap, hv⟩ : ∃ g' cap, v' = .slice (some ⟨g', 0, none⟩) n cap := by
    rcases hown1.2 with ⟨h, _⟩ | ⟨g', cap, cur, h, _⟩
    · exact absurd h hnil
    · exact ⟨g', cap, by simpa using h⟩
  subst hv
  have HO := hide hown1
  clear hown1 hgrow1 hnil
  go_wp2
  go_ret
  exact ⟨g', cap, rfl, by simpa using unhide HO, hb1⟩

namespace Ha
theorem ch_esn (ch : List (Bool × Int)) (k : Nat) (h : k < ch.length) : (chCells ch)[k * 2]? = some (.bool ch[k].1) := by
  induction ch generalizing k with
  | nil => simp at h
  | cons c r ih =>
    cases k with
    | zero => simp [chCells]
    | succ k => simpa [chCells, show (k + 1) * 2 = k * 2 + 1 + 1 from by omega] using ih k (by simpa using h)
theorem ch_out (ch : List (Bool × Int)) (k : Nat) (h : k < ch.length) : (chCells ch)[k * 2 + 1]? = some (.int .u64 ch[k].2) := by
  induction ch generalizing k with
  | nil => simp at h
  | cons c r ih =>
    cases k with
    | zero => simp [chCells]
    | succ k => simpa [chCells, show (k + 1) * 2 + 1 = k * 2 + 1 + 1 + 1 from by omega] using ih k (by simpa using h)
end Ha

set_option maxRecDepth 100000 in
set_option maxHeartbeats 400000 in
theorem esn_ok (g n c : Nat) (ch : List (Bool × Int)) (b : Bool) (w : World) (hn : ch.length = n) (hn' : n ≤ 4096) (hg : g < w.heap.size) (hat : Ha.At w g (Ha.chCells ch)) (hb : ∀ x ∈ ch, x.1 = b) :
    Calls Ybaf.prog 31 #[.slice (some ⟨g, 0, none⟩) n c] w fun e w' => e = .returned (.tuple #[.bool (decide (0 < n) && b), .nilIface]) ∧ Below w.heap.size w w' := by
  have Hat := hide hat
  have Hn := hide hn
  have Hb := hide hb
  clear hat hn hb
  go_enter Ybaf.func31, Ybaf.ntmps31
  go_wp2
  go_loopw [8] (fun i wr => ∃ k : Nat, k ≤ n ∧ i = .int .i64 (k : Int) ∧ Below w.heap.size w wr) (fun i _ => n - (intOf i).toNat)
  case atStart => exact ⟨0, by omega, rfl, Below.refl _ _⟩
  case round =>
    obtain ⟨k, hk, rfl, hbel⟩ := hrel
    by_cases hlt : k < n
    · have hk' : k < ch.length := by rw [unhide Hn]; exact hlt
      have h0' : 0 < ch.length := by omega
      have e0 : wr.cell? ⟨g, k * 2, none⟩ = some (.bool b) := by
        have := (unhide Hat).below hbel hg _ _ (Ha.ch_esn ch k hk')
        rw [this, unhide Hb _ (List.getElem_mem hk')]
      have e1 : wr.cell? ⟨g, k * 2 + 1, none⟩ = some (.int .u64 ch[k].2) := (unhide Hat).below hbel hg _ _ (Ha.ch_out ch k hk')
      have e2 : wr.cell? ⟨g, 0, none⟩ = some (.bool b) := by
        have := (unhide Hat).below hbel hg _ _ (Ha.ch_esn ch 0 h0')
        rw [show 0 * 2 = 0 from rfl] at this
        rw [this, unhide Hb _ (List.getElem_mem h0')]
      generalize ch[k].2 = o at e1
      have hgr : g < wr.heap.size := Nat.lt_of_lt_of_le hg hbel.size
      clear h0' hk'
      go_wp2
      go_quiet (fail)
      go_wp2
      go_roundw
      case rel => exact ⟨k + 1, by omega, by go_num, below_drewN (hbel.alloc hbel.size _) _⟩
      case measure => simp [intOf]; omega
    · obtain rfl : k = n := by omega
      by_cases h0 : 0 < k
      · have e2 : wr.cell? ⟨g, 0, none⟩ = some (.bool b) := by
          have h0' : 0 < ch.length := by rw [unhide Hn]; exact h0
          have := (unhide Hat).below hbel hg _ _ (Ha.ch_esn ch 0 h0')
          rw [show 0 * 2 = 0 from rfl] at this
          rw [this, unhide Hb _ (List.getElem_mem h0')]
        go_wp2
        go_ret2
        exact ⟨by simp [h0], hbel⟩
      · have hd : decide ((0 : Int) < (k : Int)) = false := by simp; omega
        go_wp2
        go_ret2
        exact ⟨by simp [h0], hbel⟩

end Go.Proofs.YbulkbwgiFmt
