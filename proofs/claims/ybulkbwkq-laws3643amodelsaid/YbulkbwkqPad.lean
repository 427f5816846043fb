/-
  checkSSL30Padding (6) and the constant-time helpers below it; the law's own helpers.
-/
import Derived.Test.YbulkbwkqRows
import Derived.WalkKit
import Derived.WalkSpells
namespace Go.Proofs.Ybulkbwkq
open Go.RowKit

namespace Pd
theorem hide {p : Prop} (h : p) : Hid p := h
theorem unhide {p : Prop} (h : Hid p) : p := h
theorem call13 (b : Bool) (w : World) : (callFunc 13 #[.bool b]).run Yba.prog w = .ok (.value (.int .u8 (if b then 1 else 0))) w := by
  cases b <;> kernel_rfl
theorem tblNo : ∀ x : Fin 257, bits BinOp.or IntKind.i64 (bits BinOp.and IntKind.i64 (bits BinOp.xor IntKind.i64 (-1) (-1)) (x.val : Int)) (bits BinOp.and IntKind.i64 (-1) 0) = 0 := by decide +kernel
theorem tblYes : ∀ x : Fin 257, bits BinOp.or IntKind.i64 (bits BinOp.and IntKind.i64 (bits BinOp.xor IntKind.i64 (-1) 0) (x.val : Int)) (bits BinOp.and IntKind.i64 0 0) = (x.val : Int) := by decide +kernel
theorem no {x : Int} (h0 : 0 ≤ x) (h1 : x ≤ 256) : bits BinOp.or IntKind.i64 (bits BinOp.and IntKind.i64 (bits BinOp.xor IntKind.i64 (-1) (-1)) x) (bits BinOp.and IntKind.i64 (-1) 0) = 0 := by
  obtain ⟨n, rfl⟩ := Int.eq_ofNat_of_zero_le h0
  exact tblNo ⟨n, by omega⟩
theorem yes {x : Int} (h0 : 0 ≤ x) (h1 : x ≤ 256) : bits BinOp.or IntKind.i64 (bits BinOp.and IntKind.i64 (bits BinOp.xor IntKind.i64 (-1) 0) x) (bits BinOp.and IntKind.i64 0 0) = x := by
  obtain ⟨n, rfl⟩ := Int.eq_ofNat_of_zero_le h0
  exact tblYes ⟨n, by omega⟩
theorem and00 : bits BinOp.and IntKind.i64 0 0 = 0 := by decide +kernel
theorem and01 : bits BinOp.and IntKind.i64 0 1 = 0 := by decide +kernel
theorem and10 : bits BinOp.and IntKind.i64 1 0 = 0 := by decide +kernel
theorem and11 : bits BinOp.and IntKind.i64 1 1 = 1 := by decide +kernel
theorem retInt {k : IntKind} {a b : Int} (h : a = b) : Ending.returned (.int k a) = .returned (.int k b) := by rw [h]
end Pd
open Pd (hide unhide)
attribute [local go_sem] Pd.call13

set_option maxHeartbeats 400000 in
theorem leq_no (x y : Int) (w : World) (h : y < x) : Calls Yba.prog 9 #[.int .i64 x, .int .i64 y] w fun e w' => e = .returned (.int .i64 0) ∧ w' = w := by
  go_enter Yba.func9, Yba.ntmps9
  go_wp2
  go_ret
  exact ⟨rfl, rfl⟩
set_option maxHeartbeats 400000 in
theorem leq_yes (x y : Int) (w : World) (h : x ≤ y) : Calls Yba.prog 9 #[.int .i64 x, .int .i64 y] w fun e w' => e = .returned (.int .i64 1) ∧ w' = w := by
  go_enter Yba.func9, Yba.ntmps9
  go_wp2
  go_ret
  exact ⟨rfl, rfl⟩
set_option maxHeartbeats 400000 in
theorem sel_no (x : Int) (w : World) (hx0 : 0 ≤ x) (hx1 : x ≤ 256) : Calls Yba.prog 10 #[.int .i64 0, .int .i64 x, .int .i64 0] w fun e w' => e = .returned (.int .i64 0) ∧ w' = w := by
  go_enter Yba.func10, Yba.ntmps10
  go_wp2
  go_ret
  exact ⟨Pd.retInt (Pd.no hx0 hx1), rfl⟩
set_option maxHeartbeats 400000 in
theorem sel_yes (x : Int) (w : World) (hx0 : 0 ≤ x) (hx1 : x ≤ 256) : Calls Yba.prog 10 #[.int .i64 1, .int .i64 x, .int .i64 0] w fun e w' => e = .returned (.int .i64 x) ∧ w' = w := by
  go_enter Yba.func10, Yba.ntmps10
  go_wp2
  go_ret
  exact ⟨Pd.retInt (Pd.yes hx0 hx1), rfl⟩

/-- What the check answers. -/
def Pd.ok (last : Int) (n : Nat) (mac blk : Int) : Bool := decide (last + 1 + mac ≤ (n : Int)) && decide (last + 1 ≤ blk)

set_option maxHeartbeats 800000 in
theorem check_any (ad : Addr) (n c : Nat) (last mac blk : Int) (w : World) (hn0 : 0 < n) (hn1 : n ≤ 4096) (hl0 : 0 ≤ last) (hl1 : last ≤ 255) (hm0 : 0 ≤ mac) (hm1 : mac ≤ 64) (hb0 : 0 ≤ blk) (hb1 : blk ≤ 256) (hc : w.cell? (ad.add (n - 1)) = some (.int .u8 last)) :
    Calls Yba.prog 6 #[.slice (some ad) n c, .int .i64 mac, .int .i64 blk] w fun e w' => e = .returned (.tuple #[.int .i64 (bif Pd.ok last n mac blk then last + 1 else 0), .int .i64 (bif Pd.ok last n mac blk then 1 else 0)]) ∧ w' = w := by
  obtain ⟨j, rfl⟩ : ∃ j, n = j + 1 := ⟨n - 1, by omega⟩
  simp only [Nat.add_sub_cancel] at hc
  have hcast : ((j + 1 : Nat) : Int) = (j : Int) + 1 := by omega
  by_cases h1 : last + 1 + mac ≤ (j : Int) + 1
  · by_cases h2 : last + 1 ≤ blk
    · have hk : Pd.ok last (j + 1) mac blk = true := by simp [Pd.ok, h1, h2]
      rw [hk]
      clear hk hcast
      go_enter Yba.func6, Yba.ntmps6
      go_wp2_with (first | (go_at_call 9; refine (leq_yes _ _ _ (by omega)).mono ?_; rintro e w' ⟨rfl, rfl⟩) | (go_at_call 10; refine (sel_yes _ _ (by omega) (by omega)).mono ?_; rintro e w' ⟨rfl, rfl⟩))
      go_ret2
      exact ⟨by simp [Pd.and11], rfl⟩
    · have hk : Pd.ok last (j + 1) mac blk = false := by simp [Pd.ok, h2]
      rw [hk]
      clear hk hcast
      go_enter Yba.func6, Yba.ntmps6
      go_wp2_with (first | (go_at_call 9; refine (leq_yes _ _ _ (by omega)).mono ?_; rintro e w' ⟨rfl, rfl⟩) | (go_at_call 9; refine (leq_no _ _ _ (by omega)).mono ?_; rintro e w' ⟨rfl, rfl⟩) | (go_at_call 10; refine (sel_no _ _ (by omega) (by omega)).mono ?_; rintro e w' ⟨rfl, rfl⟩))
      go_ret2
      exact ⟨by simp [Pd.and10], rfl⟩
  · by_cases h2 : last + 1 ≤ blk
    · have hk : Pd.ok last (j + 1) mac blk = false := by simp [Pd.ok, h1]
      rw [hk]
      clear hk hcast
      go_enter Yba.func6, Yba.ntmps6
      go_wp2_with (first | (go_at_call 9; refine (leq_yes _ _ _ (by omega)).mono ?_; rintro e w' ⟨rfl, rfl⟩) | (go_at_call 9; refine (leq_no _ _ _ (by omega)).mono ?_; rintro e w' ⟨rfl, rfl⟩) | (go_at_call 10; refine (sel_no _ _ (by omega) (by omega)).mono ?_; rintro e w' ⟨rfl, rfl⟩))
      go_ret2
      exact ⟨by simp [Pd.and01], rfl⟩
    · have hk : Pd.ok last (j + 1) mac blk = false := by simp [Pd.ok, h1]
      rw [hk]
      clear hk hcast
      go_enter Yba.func6, Yba.ntmps6
      go_wp2_with (first | (go_at_call 9; refine (leq_no _ _ _ (by omega)).mono ?_; rintro e w' ⟨rfl, rfl⟩) | (go_at_call 10; refine (sel_no _ _ (by omega) (by omega)).mono ?_; rintro e w' ⟨rfl, rfl⟩))
      go_ret2
      exact ⟨by simp [Pd.and00], rfl⟩

set_option maxHeartbeats 800000 in
/-- zzs3643amodel (7). -/
theorem model_any (ad : Addr) (n c : Nat) (last mac blk : Int) (w : World) (hn0 : 0 < n) (hn1 : n ≤ 4096) (hl0 : 0 ≤ last) (hl1 : last ≤ 255) (hm0 : 0 ≤ mac) (hm1 : mac ≤ 64) (hb0 : 0 ≤ blk) (hb1 : blk ≤ 256) (hc : w.cell? (ad.add (n - 1)) = some (.int .u8 last)) :
    Calls Yba.prog 7 #[.slice (some ad) n c, .int .i64 mac, .int .i64 blk] w fun e w' => e = .returned (.tuple #[.int .i64 (bif Pd.ok last n mac blk then last + 1 else 0), .int .i64 (bif Pd.ok last n mac blk then 1 else 0)]) ∧ w' = w := by
  obtain ⟨j, rfl⟩ : ∃ j, n = j + 1 := ⟨n - 1, by omega⟩
  simp only [Nat.add_sub_cancel] at hc
  by_cases h1 : last + 1 + mac ≤ (j : Int) + 1
  · by_cases h2 : last + 1 ≤ blk
    · have hk : Pd.ok last (j + 1) mac blk = true := by simp [Pd.ok, h1, h2]
      rw [hk]
      clear hk
      go_enter Yba.func7, Yba.ntmps7
      go_wp2
      go_ret2
      exact ⟨rfl, rfl⟩
    · have hk : Pd.ok last (j + 1) mac blk = false := by simp [Pd.ok, h2]
      rw [hk]
      clear hk
      go_enter Yba.func7, Yba.ntmps7
      go_wp2
      go_ret2
      exact ⟨rfl, rfl⟩
  · have hk : Pd.ok last (j + 1) mac blk = false := by simp [Pd.ok, h1]
    rw [hk]
    clear hk
    go_enter Yba.func7, Yba.ntmps7
    go_wp2
    go_ret2
    exact ⟨rfl, rfl⟩

end Go.Proofs.Ybulkbwkq
