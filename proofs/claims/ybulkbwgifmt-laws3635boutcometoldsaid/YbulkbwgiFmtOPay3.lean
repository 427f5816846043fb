/-
  zzs3635bpayload (7), at every step; what the walk over the payloads makes of it.
-/
import Derived.Test.YbulkbwgiFmtOPay2
namespace Go.Proofs.YbulkbwgiFmt
open Go.RowKit
open Ha (hide unhide)

namespace Ha
def lensOf (j : Nat) : Nat := match j with | 0 => 0 | 1 => 1 | 2 => 3 | 3 => 5 | 4 => 7 | _ => 9
/-- The payload of a step. -/
def plOf (kd dl ex : Int) : Pl :=
  if kd % 8 = 0 then .other 33 else if kd % 8 = 1 then .note 16423 0 (beL 4 dl) else if kd % 8 = 2 then .note 16423 0 (beL 8 dl) else if kd % 8 = 3 then .note 16422 0 (beL 12 dl) else if kd % 8 = 4 then .note ex 0 [ex]
  else if kd % 8 = 5 then (if ex % 2 = 0 then .bad (List.replicate (ex / 2 % 4).toNat 0) else .bad [0, 10, 64, 39]) else if kd % 8 = 6 then .note 16423 (1 + ex % 3).toNat (beL 4 dl) else .note 16423 0 (beL (lensOf (ex % 6).toNat) dl)
/-- What the model does with a step; none: it refuses. -/
def mstep (s : Option (Int × Bool)) (kd dl : Int) : Option (Option (Int × Bool)) :=
  if kd % 8 = 0 ∨ kd % 8 = 4 then some s else if kd % 8 = 1 then (if s = none then some (some (dl % 4294967296, false)) else none) else if kd % 8 = 2 then (if s = none then some (some (dl, true)) else none) else none
theorem lens_cases (j : Nat) (hj : j < 6) : (j = 0 ∧ lensOf j = 0) ∨ (j = 1 ∧ lensOf j = 1) ∨ (j = 2 ∧ lensOf j = 3) ∨ (j = 3 ∧ lensOf j = 5) ∨ (j = 4 ∧ lensOf j = 7) ∨ (j = 5 ∧ lensOf j = 9) := by
  match j, hj with
  | 0, _ => simp [lensOf]
  | 1, _ => simp [lensOf]
  | 2, _ => simp [lensOf]
  | 3, _ => simp [lensOf]
  | 4, _ => simp [lensOf]
  | 5, _ => simp [lensOf]
theorem step_plOf (s : Option (Int × Bool)) (kd dl ex : Int) (h0 : 0 ≤ dl) (h1 : dl ≤ 18446744073709551615) (he0 : 0 ≤ ex) (he1 : ex ≤ 255) : step s (plOf kd dl ex) = mstep s kd dl := by
  have hk : kd % 8 = 0 ∨ kd % 8 = 1 ∨ kd % 8 = 2 ∨ kd % 8 = 3 ∨ kd % 8 = 4 ∨ kd % 8 = 5 ∨ kd % 8 = 6 ∨ kd % 8 = 7 := by omega
  rcases hk with h | h | h | h | h | h | h | h
  · simp [plOf, mstep, h, step]
  · simp [plOf, mstep, h, step, beL_length, beZ4]
  · simp [plOf, mstep, h, step, beL_length, beZ8 _ h0 h1]
  · simp [plOf, mstep, h, step]
  · have e1 : ¬ ex = 16422 := by omega
    have e2 : ¬ ex = 16423 := by omega
    simp [plOf, mstep, h, step, e1, e2]
  · by_cases hx : ex % 2 = 0 <;> simp [plOf, mstep, h, step, hx]
  · have e1 : ¬ (1 + ex % 3).toNat = 0 := by omega
    simp [plOf, mstep, h, step, e1]
  · have e1 : ¬ lensOf (ex % 6).toNat = 4 := by have := lens_cases (ex % 6).toNat (by omega); omega
    have e2 : ¬ lensOf (ex % 6).toNat = 8 := by have := lens_cases (ex % 6).toNat (by omega); omega
    simp [plOf, mstep, h, step, beL_length, e1, e2]
end Ha

set_option maxHeartbeats 400000 in
theorem pay_any (kd dl ex : Int) (w : World) (h0 : 0 ≤ dl) (h1 : dl ≤ 18446744073709551615) (hk0 : 0 ≤ kd) (hk1 : kd ≤ 255) (he0 : 0 ≤ ex) (he1 : ex ≤ 255) :
    Calls Ybaf.prog 7 #[.agg #[.int .u8 kd, .int .u64 dl, .int .u8 ex]] w fun e w' => ∃ bv, e = .returned (.agg #[.int .u8 (Ha.plOf kd dl ex).t8, .bool false, bv]) ∧ Ha.OBody w' (w.heap.size + 1 + 1) (Ha.plOf kd dl ex) bv ∧ Below w.heap.size w w' := by
  have hk : kd % 8 = 0 ∨ kd % 8 = 1 ∨ kd % 8 = 2 ∨ kd % 8 = 3 ∨ kd % 8 = 4 ∨ kd % 8 = 5 ∨ kd % 8 = 6 ∨ kd % 8 = 7 := by omega
  rcases hk with h | h | h | h | h | h | h | h
  · have hp : Ha.plOf kd dl ex = .other 33 := by simp [Ha.plOf, h]
    rw [hp]; exact pay_zero kd dl ex w h h0 h1 hk0 hk1 he0 he1
  · have hp : Ha.plOf kd dl ex = .note 16423 0 (Ha.beL 4 dl) := by simp [Ha.plOf, h]
    rw [hp]; exact pay_one kd dl ex w h h0 h1 hk0 hk1 he0 he1
  · have hp : Ha.plOf kd dl ex = .note 16423 0 (Ha.beL 8 dl) := by simp [Ha.plOf, h]
    rw [hp]; exact pay_two kd dl ex w h h0 h1 hk0 hk1 he0 he1
  · have hp : Ha.plOf kd dl ex = .note 16422 0 (Ha.beL 12 dl) := by simp [Ha.plOf, h]
    rw [hp]; exact pay_three kd dl ex w h h0 h1 hk0 hk1 he0 he1
  · have hp : Ha.plOf kd dl ex = .note ex 0 [ex] := by simp [Ha.plOf, h]
    rw [hp]; exact pay_four kd dl ex w h h0 h1 hk0 hk1 he0 he1
  · by_cases hx : ex % 2 = 0
    · have hp : Ha.plOf kd dl ex = .bad (List.replicate (ex / 2 % 4).toNat 0) := by simp [Ha.plOf, h, hx]
      rw [hp]; exact pay_five_even kd dl ex w h h0 h1 hk0 hk1 he0 he1 hx _ (by omega)
    · have hp : Ha.plOf kd dl ex = .bad [0, 10, 64, 39] := by simp [Ha.plOf, h, hx]
      rw [hp]; exact pay_five_odd kd dl ex w h h0 h1 hk0 hk1 he0 he1 (by omega)
  · have hp : Ha.plOf kd dl ex = .note 16423 (1 + ex % 3).toNat (Ha.beL 4 dl) := by simp [Ha.plOf, h]
    rw [hp]; exact pay_six kd dl ex w h h0 h1 hk0 hk1 he0 he1 _ (by omega)
  · have hp : Ha.plOf kd dl ex = .note 16423 0 (Ha.beL (Ha.lensOf (ex % 6).toNat) dl) := by simp [Ha.plOf, h]
    rw [hp]; exact pay_seven kd dl ex w h h0 h1 hk0 hk1 he0 he1 _ _ (by omega) (Ha.lens_cases _ (by omega))

end Go.Proofs.YbulkbwgiFmt
