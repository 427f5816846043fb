/-
  The model law's own helpers: zzs3643acopy (5), zzs3643asame (8).
-/
import Derived.Test.YbulkbwkqPad
import Derived.BigQuiet
import Derived.Deep.QuietTactic
namespace Go.Proofs.Ybulkbwkq
open Go.RowKit
open Pd (hide unhide)

namespace Pd
theorem info5 : (Yba.prog.info? 5).map (fun i => (i.zero, i.size, i.bytes)) = some (some (.int .u8 0), 1, 1) := by kernel_rfl
theorem made_u8 (n : Nat) : (madeCells #[Value.int .u8 0] n).toList = (List.replicate n (0 : Int)).map (Value.int .u8) := by
  apply List.ext_getElem
  · simp [madeCells]
  · intro i h1 h2
    simp [madeCells, Nat.mod_one]
theorem add_block (a : Addr) (j : Nat) : (a.add j).block = a.block := by unfold Addr.add; split <;> rfl
theorem at_add (g j : Nat) : (⟨g, 0, none⟩ : Addr).add j = ⟨g, j, none⟩ := by unfold Addr.add; split <;> simp_all
theorem bd_u8 {z : Int} (h : (Lit.int .u8 z).wf = true) : 0 ≤ z ∧ z ≤ 255 := by
  have e1 : IntKind.u8.min = 0 := rfl
  have e2 : IntKind.u8.max = 255 := rfl
  simpa [Lit.wf, e1, e2] using h
theorem below_drewN {B : Nat} {a w : World} (h : Below B a w) (q : Nat) : Below B a (w.drewN q) := ⟨h.os, h.tape, h.output, h.size, h.block⟩
theorem copy_succ (L : List Int) (n k : Nat) (hL : L.length = n) (hk : k < n) : (L.take k ++ List.replicate (n - k) 0).set k (L.getD k 0) = L.take (k + 1) ++ List.replicate (n - (k + 1)) 0 := by
  rw [List.set_append_right _ _ (by simp; omega)]
  have : k - (L.take k).length = 0 := by simp; omega
  rw [this, show n - k = (n - (k + 1)) + 1 by omega, List.replicate_succ, List.set_cons_zero, List.take_add_one, List.getElem?_eq_getElem (show k < L.length by omega)]
  rw [List.getD_eq_getElem?_getD, List.getElem?_eq_getElem (show k < L.length by omega)]
  simp only [Option.getD_some, Option.toList_some, List.append_assoc, List.cons_append, List.nil_append]
end Pd

set_option maxRecDepth 100000 in
set_option maxHeartbeats 800000 in
theorem copy_any (ad : Addr) (n c : Nat) (L : List Int) (w : World) (hn : n ≤ 4096) (hL : L.length = n) (had : ad.block < w.heap.size) (hc : ∀ k, k < n → w.cell? (ad.add k) = some (.int .u8 (L.getD k 0))) :
    Calls Yba.prog 5 #[.slice (some ad) n c] w fun e w' => e = .returned (.slice (some ⟨w.heap.size, 0, none⟩) n n) ∧ w'.ownsRow w.heap.size 5 1 (.slice (some ⟨w.heap.size, 0, none⟩) n n) n (L.map (Value.int .u8)) ∧ Below w.heap.size w w' := by
  obtain ⟨i0, hi, hz0, hz1, hz2⟩ := info_parts Pd.info5
  have Hc := hide hc
  have HL := hide hL
  clear hc hL
  have heq := fun w => Lib.run_eql_slice_nil (P := Yba.prog) w 22 5 (some ad) n c 0 0 Yba.underlying22
  go_enter Yba.func5, Yba.ntmps5
  go_wp2_with (at_make; refine wpList_make_full _ rfl _ _ 22 rfl w.heap.size 5 i0 (.int .u8 0) 1 Yba.underlying22 hi hz0 hz1 _ _ _ _ n rfl rfl rfl rfl ?b1 ?b2 ?b3 ?_)
  case b1 => rw [hz2]; omega
  case b2 => unfold maxLen; omega
  case b3 => simp
  intro w1 hown1 hgrow1
  have hb1 : Below w.heap.size w w1 := (Below.refl _ _).grown hgrow1 (Nat.le_refl _) (by intro k hk; cases hk)
  clear hgrow1 heq
  go_wp2
  go_loopw [4] (fun i wr => ∃ k : Nat, k ≤ n ∧ i = .int .i64 (k : Int) ∧ wr.ownsRow w.heap.size 5 1 (.slice (some ⟨w.heap.size, 0, none⟩) n n) n ((L.take k ++ List.replicate (n - k) 0).map (Value.int .u8)) ∧ Below w.heap.size w wr) (fun i _ => n - (intOf i).toNat)
  case atStart =>
    refine ⟨0, by omega, rfl, ?_, hb1⟩
    have := hown1
    rw [Pd.made_u8] at this
    simpa using this
  case round =>
    obtain ⟨k, hk, rfl, hown, hbel⟩ := hrel
    clear hown1 hb1
    by_cases hlt : k < n
    · have hcl := (hbel.cell (p := ad.add k) (by rw [Pd.add_block]; exact had)).trans (unhide Hc k hlt)
      have hlen : ((L.take k ++ List.replicate (n - k) 0).map (Value.int .u8)).length = n := by have := hown.1; omega
      obtain ⟨u0, hu0⟩ : ∃ u, wr.cell? ⟨w.heap.size, k, none⟩ = some u := by rw [hown.cellAt k (by omega)]; exact ⟨_, List.getElem?_eq_getElem (by omega)⟩
      have f0 := hown.frozenAt k
      have HO := hide (hown.stored k (.int .u8 (L.getD k 0))).1
      rw [← List.map_set, Pd.copy_succ L n k (unhide HL) hlt] at HO
      generalize L.getD k 0 = z at *
      clear hown hlen
      go_wp2
      go_roundw
      case rel => exact ⟨k + 1, by omega, by go_num, unhide HO, hbel.setCell (Nat.le_refl _) _⟩
      case measure => simp [intOf]; omega
    · obtain rfl : k = n := by omega
      rw [Nat.sub_self, List.replicate_zero, List.append_nil, List.take_of_length_le (by rw [unhide HL]; exact Nat.le_refl _)] at hown
      go_wp2
      go_ret
      exact ⟨rfl, hown, hbel⟩

set_option maxRecDepth 100000 in
set_option maxHeartbeats 800000 in
theorem same_any (ad : Addr) (g n c : Nat) (L : List Int) (w : World) (hn : n ≤ 4096) (hL : L.length = n) (hc : ∀ k, k < n → w.cell? (ad.add k) = some (.int .u8 (L.getD k 0))) (ho : w.ownsRow g 5 1 (.slice (some ⟨g, 0, none⟩) n n) n (L.map (Value.int .u8))) :
    Calls Yba.prog 8 #[.slice (some ⟨g, 0, none⟩) n n, .slice (some ad) n c] w fun e w' => e = .returned (.bool true) ∧ Hid (Below w.heap.size w w') := by
  have hg : ∀ k, k < n → w.cell? ⟨g, k, none⟩ = some (.int .u8 (L.getD k 0)) := by
    intro k hk
    rw [ho.cellAt k (by omega)]
    simp [show k < L.length by omega]
  have Hg := hide hg
  have Hc := hide hc
  have hadlt : ∀ k, k < n → ad.block < w.heap.size := fun k hk => by
    have := World.block_lt_of_cell? w _ (hc k hk)
    rwa [Pd.add_block] at this
  have Had := hide hadlt
  have hglt : ∀ k, k < n → g < w.heap.size := fun k hk => (ho.lt g rfl).2
  have Hgl := hide hglt
  clear hg hc ho hadlt hglt hL
  go_enter Yba.func8, Yba.ntmps8
  go_wp2
  go_loopw [5] (fun i wr => ∃ k : Nat, k ≤ n ∧ i = .int .i64 (k : Int) ∧ Below w.heap.size w wr) (fun i _ => n - (intOf i).toNat)
  case atStart => exact ⟨0, by omega, rfl, Below.refl _ _⟩
  case round =>
    obtain ⟨k, hk, rfl, hbel⟩ := hrel
    by_cases hlt : k < n
    · have e0 := (hbel.cell (p := ⟨g, k, none⟩) (unhide Hgl k hlt)).trans (unhide Hg k hlt)
      have e1 := (hbel.cell (p := ad.add k) (by rw [Pd.add_block]; exact unhide Had k hlt)).trans (unhide Hc k hlt)
      generalize L.getD k 0 = z at *
      go_wp2
      go_quiet (fail)
      go_wp2
      go_roundw
      case rel => exact ⟨k + 1, by omega, by go_num, Pd.below_drewN hbel _⟩
      case measure => simp [intOf]; omega
    · obtain rfl : k = n := by omega
      go_wp2
      go_ret
      exact ⟨rfl, hbel⟩
end Go.Proofs.Ybulkbwkq
