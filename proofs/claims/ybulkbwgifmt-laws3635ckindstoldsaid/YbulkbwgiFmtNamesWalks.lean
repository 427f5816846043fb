/-
  THE WALKS of pmipv6: (EventKind).String, zzs3635cname, LawS3635CNames.
-/
import Derived.Test.YbulkbwgiFmtFacts
import Derived.WalkKit
import Derived.WalkSpells
import Derived.WalkLawsBesides
namespace Go.Proofs.YbulkbwgiFmt
open Go.RowKit Go.Extern.Stop Go.Stop Go.Extern

attribute [local go_sem] Ybaf.call23 Ybaf.guard Ybaf.fmtEK Ybaf.fmtEKr Ybaf.op3_100

theorem hide {p : Prop} (h : p) : Hid p := h
theorem unhide {p : Prop} (h : Hid p) : p := h

namespace Cn
def n1 : ByteArray := ⟨#[112, 101, 101, 114, 45, 114, 101, 97, 99, 104, 97, 98, 108, 101]⟩
def n2 : ByteArray := ⟨#[112, 101, 101, 114, 45, 117, 110, 114, 101, 97, 99, 104, 97, 98, 108, 101]⟩
def n3 : ByteArray := ⟨#[112, 101, 101, 114, 45, 114, 101, 115, 116, 97, 114, 116, 101, 100]⟩
def n4 : ByteArray := ⟨#[112, 101, 101, 114, 45, 104, 101, 97, 114, 116, 98, 101, 97, 116, 45, 117, 110, 115, 117, 112, 112, 111, 114, 116, 101, 100]⟩
def nm (i : Nat) : ByteArray := match i with | 1 => n1 | 2 => n2 | 3 => n3 | 4 => n4 | _ => ⟨#[]⟩
end Cn

set_option maxHeartbeats 400000 in
theorem string_out (F : Interp) (x : Int) (w : World) (hF : F.answers w.tape) (hx : x < 1 ∨ 4 < x) :
    Calls Ybaf.prog 12 #[.int .i64 x] w fun e w' => (∃ s, e = .returned (.string s)) ∧ Below w.heap.size w w' := by
  have hF' := answers_open hF
  rcases hx with hx | hx
  · go_enter Ybaf.func12, Ybaf.ntmps12
    go_wp2
    go_ret
    exact ⟨⟨_, rfl⟩, ((Below.refl _ _).alloc (Nat.le_refl _) _).drew⟩
  · go_enter Ybaf.func12, Ybaf.ntmps12
    go_wp2
    go_ret
    exact ⟨⟨_, rfl⟩, ((Below.refl _ _).alloc (Nat.le_refl _) _).drew⟩


set_option maxHeartbeats 400000 in
theorem string_in (i : Nat) (w : World) (h0 : 1 ≤ i) (h4 : i ≤ 4) (s : ByteArray) (hc : w.cell? ⟨0, i, none⟩ = some (.string s)) :
    Calls Ybaf.prog 12 #[.int .i64 (i : Int)] w fun e w' => e = .returned (.string s) ∧ w' = w := by
  go_enter Ybaf.func12, Ybaf.ntmps12
  go_wp2
  go_ret
  exact ⟨rfl, rfl⟩

set_option maxHeartbeats 400000 in
theorem cname_in (i : Nat) (w : World) (h0 : 1 ≤ i) (h4 : i ≤ 4) :
    Calls Ybaf.prog 13 #[.int .i64 (i : Int)] w fun e w' => e = .returned (.string (Cn.nm i)) ∧ w' = w := by
  obtain rfl | rfl | rfl | rfl : i = 1 ∨ i = 2 ∨ i = 3 ∨ i = 4 := by omega
  all_goals
    go_enter Ybaf.func13, Ybaf.ntmps13
    go_wp2
    go_ret
    exact ⟨rfl, rfl⟩

set_option maxHeartbeats 400000 in
theorem names_out (F : Interp) (x : Int) (w : World) (hF : F.answers w.tape) (hx : x < 1 ∨ 4 < x) :
    Calls Ybaf.prog 5 #[.int .i64 x] w fun e w' => e = .returned (.bool true) ∧ Below w.heap.size w w' := by
  have hs := hide (string_out F x w hF hx)
  clear hF
  rcases hx with hx | hx
  all_goals
    go_enter Ybaf.func5, Ybaf.ntmps5
    go_wp2_with (go_at_call 12; refine (unhide hs).mono ?_; rintro e w' ⟨⟨s, rfl⟩, hb⟩)
    go_ret
    exact ⟨rfl, hb⟩

set_option maxHeartbeats 400000 in
theorem names_in (i : Nat) (w : World) (h0 : 1 ≤ i) (h4 : i ≤ 4) (hc : w.cell? ⟨0, i, none⟩ = some (.string (Cn.nm i))) :
    Calls Ybaf.prog 5 #[.int .i64 (i : Int)] w fun e w' => e = .returned (.bool true) ∧ w' = w := by
  have hs := hide (string_in i w h0 h4 _ hc)
  clear hc
  go_enter Ybaf.func5, Ybaf.ntmps5
  go_wp2_with (first | (go_at_call 12; refine (unhide hs).mono ?_; rintro e w' ⟨rfl, rfl⟩) | (go_at_call 13; refine (cname_in i _ h0 h4).mono ?_; rintro e w' ⟨rfl, rfl⟩))
  go_ret
  exact ⟨by simp, rfl⟩

end Go.Proofs.YbulkbwgiFmt
