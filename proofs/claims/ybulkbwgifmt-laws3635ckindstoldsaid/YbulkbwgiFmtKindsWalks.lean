/-
  THE WALKS of pmipv6: EventKinds, LawS3635CKinds.
-/
import Derived.Test.YbulkbwgiFmtNamesWalks
namespace Go.Proofs.YbulkbwgiFmt
open Go.RowKit Go.Extern.Stop Go.Stop Go.Extern

namespace Ck
theorem info55 : (Ybaf.prog.info? 55).map (fun i => (i.zero, i.size, i.bytes)) = some (some (.int .i64 0), 1, 8) := by kernel_rfl
def ks (j : Nat) : List Value := (List.range j).map fun (i : Nat) => Value.int .i64 ((i : Int) + 1)
theorem ks_succ (j : Nat) : ks (j + 1) = ks j ++ [Value.int .i64 ((j : Int) + 1)] := by simp [ks, List.range_succ]
theorem ks_get (j : Nat) (h : j < 4) : (ks 4)[j]? = some (Value.int .i64 ((j : Int) + 1)) := by simp [ks, h]
end Ck

set_option maxRecDepth 100000 in
set_option maxHeartbeats 400000 in
theorem kinds_any (w : World) :
    Calls Ybaf.prog 14 #[] w fun e w' => ∃ g, e = .returned (.slice (some ⟨g, 0, none⟩) 4 4) ∧ w'.ownsRow w.heap.size 55 1 (.slice (some ⟨g, 0, none⟩) 4 4) 4 (Ck.ks 4) ∧ Below w.heap.size w w' := by
  obtain ⟨i0, hi, hz0, hz1, hz2⟩ := info_parts Ck.info55
  go_enter Ybaf.func14, Ybaf.ntmps14
  go_wp2_with (at_make; refine wpList_make_own _ rfl _ _ 59 rfl w.heap.size 55 i0 (.int .i64 0) 1 Ybaf.underlying59 hi hz0 hz1 _ _ _ 4 rfl rfl rfl ?b1 ?b2 ?b3 ?_)
  case b1 => rw [hz2]; omega
  case b2 => unfold maxLen; omega
  case b3 => simp
  intro w1 hown1 hgrow1
  have hb1 : Below w.heap.size w w1 := (Below.refl _ _).grown hgrow1 (Nat.le_refl _) (by intro k hk; cases hk)
  clear hgrow1
  go_wp2
  go_loopw [1, 2] (fun v i wr => ∃ j : Nat, j ≤ 4 ∧ i = .int .i64 ((j : Int) + 1) ∧ v = .slice (some ⟨w.heap.size, 0, none⟩) j 4 ∧ wr.ownsRow w.heap.size 55 1 (.slice (some ⟨w.heap.size, 0, none⟩) j 4) j (Ck.ks j) ∧ Below w.heap.size w wr) (fun _ i _ => (5 - intOf i).toNat)
  case atStart => exact ⟨0, by omega, rfl, rfl, hown1, hb1⟩
  case round =>
    obtain ⟨j, hj, rfl, rfl, hown, hbel⟩ := hrel
    clear hown1 hb1
    by_cases hlt : j < 4
    · go_wp2_with (at_builtin; go_loud (refine wpList_append_fits _ rfl _ _ 59 rfl w.heap.size 55 i0 1 Ybaf.underlying59 hi hz1 w.heap.size j 4 (Ck.ks j) rfl (hown.alloc _) ⟨wr.heap.size, 0, none⟩ 1 1 [.int .i64 ((j : Int) + 1)] rfl rfl ?c1 ?c2 ?c3 ?_))
      case c1 => exact cell_one_new _ _ _
      case c2 => intro u hu; simp at hu; subst hu; rfl
      case c3 => omega
      intro w2 hown2 hgrow2
      have hb2 : Below w.heap.size w w2 := (hbel.alloc hbel.size _).grown hgrow2 (by have := hbel.size; simp; omega) (by intro k hk; cases hk; exact Nat.le_refl _)
      rw [← Ck.ks_succ] at hown2
      clear hgrow2 hown
      go_wp2
      go_roundw
      case rel => exact ⟨j + 1, by omega, by go_num, rfl, hown2, hb2⟩
      case measure => simp [intOf]; omega
    · obtain rfl : j = 4 := by omega
      go_wp2
      go_ret
      exact ⟨_, rfl, hown, hbel⟩

set_option maxRecDepth 100000 in
set_option maxHeartbeats 400000 in
theorem law_kinds (w : World) (h0 : 0 < w.heap.size) (hc : ∀ i : Nat, 1 ≤ i → i ≤ 4 → w.cell? ⟨0, i, none⟩ = some (.string (Cn.nm i))) :
    Calls Ybaf.prog 6 #[] w fun e w' => e = .returned (.bool true) ∧ Below w.heap.size w w' := by
  have Hc := hide hc
  clear hc
  go_enter Ybaf.func6, Ybaf.ntmps6
  go_wp2_with (go_at_call 14; refine (kinds_any _).mono ?_; rintro e w1 ⟨g, rfl, hown, hbel⟩)
  go_loop [2] (fun i => ∃ j : Nat, j ≤ 4 ∧ i = .int .i64 (j : Int)) (fun i => (4 - intOf i).toNat)
  case atStart => exact ⟨0, by omega, rfl⟩
  case round =>
    obtain ⟨j, hj, rfl⟩ := hrel
    by_cases hlt : j < 4
    · have hcell : w1.cell? ⟨g, j, none⟩ = some (.int .i64 ((j : Int) + 1)) := by
        rw [hown.cellAt j (by omega)]
        exact Ck.ks_get j hlt
      have hnm : w1.cell? ⟨0, j + 1, none⟩ = some (.string (Cn.nm (j + 1))) := (hbel.cell (p := ⟨0, j + 1, none⟩) h0).trans (unhide Hc (j + 1) (by omega) (by omega))
      have hs := hide (string_in (j + 1) w1 (by omega) (by omega) _ hnm)
      have hn := hide (cname_in (j + 1) w1 (by omega) (by omega))
      have HB := hide hbel
      clear hnm hbel hown
      rw [show ((j + 1 : Nat) : Int) = (j : Int) + 1 from by omega] at hs hn
      go_wp2_with (first | (go_at_call 12; refine (unhide hs).mono ?_; rintro e w' ⟨rfl, rfl⟩) | (go_at_call 13; refine (unhide hn).mono ?_; rintro e w' ⟨rfl, rfl⟩))
      go_round
      case rel => exact ⟨j + 1, by omega, by go_num⟩
      case measure => simp [intOf]; omega
    · go_wp2
      go_ret
      exact ⟨rfl, hbel⟩

end Go.Proofs.YbulkbwgiFmt
