/-
  PLAIN FACTS (no program in them) for the hasync laws.
-/
import Derived.WalkKit
import Derived.Lib.EndianZ
namespace Go.Proofs.YbulkbwgiFmt
namespace Ha

/-- The last sequence number. -/
def lastOf (e : Bool) : Int := match e with | true => 18446744073709551615 | false => 4294967295
theorem lastOf_true : lastOf true = 18446744073709551615 := rfl
theorem lastOf_false : lastOf false = 4294967295 := rfl
theorem lastOf_bd (e : Bool) : 4294967295 ≤ lastOf e ∧ lastOf e ≤ 18446744073709551615 := by cases e <;> simp [lastOf]

/-- A counter raised by d, stopping at its last value. -/
def rz (out d : Int) (e : Bool) : Int := if lastOf e ≤ out then lastOf e else if lastOf e - out ≤ d then lastOf e else out + d

theorem rz_min (out d : Int) (e : Bool) : min out (lastOf e) + min d (lastOf e - min out (lastOf e)) = rz out d e ∨ d < 0 := by
  unfold rz
  split <;> (try split) <;> omega

/-- v's n least bytes, the greatest first. -/
def beL : Nat → Int → List Int
  | 0, _ => []
  | n + 1, v => beL n (v / 256) ++ [v % 256]
theorem beL_length (n : Nat) (v : Int) : (beL n v).length = n := by
  induction n generalizing v with
  | zero => rfl
  | succ n ih => simp [beL, ih]
theorem beL_bd (n : Nat) (v : Int) : ∀ z ∈ beL n v, 0 ≤ z ∧ z ≤ 255 := by
  induction n generalizing v with
  | zero => intro z hz; cases hz
  | succ n ih =>
    intro z hz
    rcases List.mem_append.1 hz with h | h
    · exact ih _ z h
    · simp at h; subst h; omega

theorem beZ4 (v : Int) : Lib.beZ (beL 4 v) = v % 4294967296 := by
  simp only [beL, List.nil_append, List.cons_append, Lib.beZ, Lib.beFromZ]; omega
theorem beZ8 (v : Int) (h : 0 ≤ v) (h' : v ≤ 18446744073709551615) : Lib.beZ (beL 8 v) = v := by
  simp only [beL, List.nil_append, List.cons_append, Lib.beZ, Lib.beFromZ]; omega
end Ha
end Go.Proofs.YbulkbwgiFmt
