/-
  err (7), LawS3639CErrNil (4).
-/
import Derived.Test.YbulkbwimFmtBJoin
namespace Go.Proofs.YbulkbwimFmt
open Go.RowKit Go.Extern.Stop Go.Stop Go.Extern
open Bs (hide unhide)
set_option linter.unusedSimpArgs false

set_option maxHeartbeats 400000 in
theorem err_none (g : Nat) (w : World) (s1 : w.cell? ⟨g, 1, none⟩ = some (.slice none 0 0)) :
    Calls Ybaf.prog 7 #[.pointer (some ⟨g, 0, none⟩)] w fun e w' => e = .returned .nilIface ∧ w' = w := by
  go_enter Ybaf.func7, Ybaf.ntmps7
  go_wp2_with (go_at_call 9; refine (join_none _).mono ?_; rintro e w' ⟨rfl, rfl⟩)
  go_ret
  exact ⟨rfl, rfl⟩

set_option maxHeartbeats 400000 in
theorem err_any (g g2 m cap : Nat) (bs : List Nat) (w : World) (s1 : w.cell? ⟨g, 1, none⟩ = some (.slice (some ⟨g2, 0, none⟩) m cap)) (hbs : bs.length = m) (hm : 1 ≤ m) (hm' : m ≤ 4096) (hE : Bs.Es w g2 bs) :
    Calls Ybaf.prog 7 #[.pointer (some ⟨g, 0, none⟩)] w fun e w' => ∃ b, e = .returned (.iface 41 (.pointer (some ⟨b, 0, none⟩))) ∧ Below w.heap.size w w' := by
  have HC := hide (join_any g2 m cap bs w hbs hm hm' hE)
  clear hbs hE
  go_enter Ybaf.func7, Ybaf.ntmps7
  go_wp2_with (go_at_call 9; refine (unhide HC).mono ?_; rintro e w' ⟨b, rfl, hb⟩)
  go_ret
  exact ⟨_, rfl, hb⟩

namespace Bs
/-- The struct as the law made it. -/
abbrev W1 (w : World) (sb : ByteArray) : World := w.alloc (.cells #[.string sb, .slice none 0 0] 28)
/-- The struct behind one fault or two. -/
def Kp (w W : World) (sb : ByteArray) (m g2 cap : Nat) (bs : List Nat) : Prop :=
  bs.length = m ∧ W.ownsRow w.heap.size 24 1 (.slice (some ⟨g2, 0, none⟩) m cap) m (ers bs) ∧ Box W w.heap.size sb (.slice (some ⟨g2, 0, none⟩) m cap) ∧ Below w.heap.size w W
theorem Kp.es {w W : World} {sb : ByteArray} {m g2 cap : Nat} {bs : List Nat} (h : Kp w W sb m g2 cap bs) : Es W g2 bs := by
  obtain ⟨h1, h2, h3, h4⟩ := h
  refine ⟨(h2.lt g2 rfl).2, fun k hk => ?_⟩
  rw [h2.cellAt k (by omega), ers_get _ k hk]
theorem kp_first {w W : World} {sb : ByteArray} (h : Added (W1 w sb) w.heap.size w.heap.size 0 sb (.slice none 0 0) [] W) : ∃ g2 cap bs, Kp w W sb 1 g2 cap bs := by
  obtain ⟨g2, cap, b, ho, hbox, hrest, hsz, h1, h2, h3⟩ := h
  have hs : (W1 w sb).heap.size = w.heap.size + 1 := by simp
  refine ⟨g2, cap, [b], rfl, ho, hbox, h1, h2, h3, by omega, fun k hk => ?_⟩
  rw [hrest k (by omega) (by omega) (by simp [Value.ownBlock]), Below.heap_alloc _ _ _ hk]
theorem kp_next {w W W' : World} {sb : ByteArray} {m g2 cap : Nat} {bs : List Nat} (hk : Kp w W sb m g2 cap bs) (h : Added W w.heap.size w.heap.size m sb (.slice (some ⟨g2, 0, none⟩) m cap) (ers bs) W') : ∃ g3 cap3 bs3, Kp w W' sb (m + 1) g3 cap3 bs3 := by
  obtain ⟨k1, k2, k3, k4⟩ := hk
  obtain ⟨g3, cap3, b, ho, hbox, hrest, hsz, h1, h2, h3⟩ := h
  have hg2 := (k2.lt g2 rfl).1
  rw [ers_snoc] at ho
  have hs := k4.size
  refine ⟨g3, cap3, bs ++ [b], by simp [k1], ho, hbox, k4.trans ⟨h1, h2, h3, by omega, fun k hk => ?_⟩⟩
  rw [hrest k (by omega) (by omega) (by simp [Value.ownBlock]; omega)]
theorem w1_cells (w : World) (sb : ByteArray) : Box (W1 w sb) w.heap.size sb (.slice none 0 0) := show (w.heap.push _)[w.heap.size]? = _ by simp
theorem w1_row (w : World) (sb : ByteArray) : (W1 w sb).ownsRow w.heap.size 24 1 (.slice none 0 0) 0 [] := by
  exact ⟨by simp, .inl ⟨rfl, rfl⟩⟩
theorem low_first (F : Interp) (sb nm : ByteArray) (v : Int) (w : World) (hF : F.answers w.tape) (hv : v < 1) :
    Calls Ybaf.prog 6 #[.pointer (some ⟨w.heap.size, 0, none⟩), .string nm, .int .i64 v] (W1 w sb) fun e w' => e = .returned (.tuple #[]) ∧ ∃ g2 cap bs, Kp w w' sb 1 g2 cap bs :=
  (one_low F w.heap.size w.heap.size 0 sb nm v (.slice none 0 0) [] (W1 w sb) hF (w1_cells w sb) (w1_row w sb) (by simp) (by omega) (by simp [Value.ownBlock]) hv).mono fun _ _ h => ⟨h.1, kp_first h.2⟩
theorem low_next (F : Interp) (sb nm : ByteArray) (v : Int) (w W : World) (m g2 cap : Nat) (bs : List Nat) (hF : F.answers w.tape) (hv : v < 1) (hm : m ≤ 4096) (hk : Kp w W sb m g2 cap bs) :
    Calls Ybaf.prog 6 #[.pointer (some ⟨w.heap.size, 0, none⟩), .string nm, .int .i64 v] W fun e w' => e = .returned (.tuple #[]) ∧ ∃ g2 cap bs, Kp w w' sb (m + 1) g2 cap bs :=
  (one_low F w.heap.size w.heap.size m sb nm v (.slice (some ⟨g2, 0, none⟩) m cap) (ers bs) W (by rw [hk.2.2.2.tape]; exact hF) hk.2.2.1 hk.2.1 hk.2.2.2.size hm (by have := row_ne hk.2.2.1 hk.2.1; simpa [Value.ownBlock] using this) hv).mono fun _ _ h => ⟨h.1, kp_next hk h.2⟩
end Bs

set_option maxRecDepth 100000 in
set_option maxHeartbeats 3200000 in
theorem err_ll (F : Interp) (sb n1 n2 : ByteArray) (v1 v2 : Int) (w : World) (HF : Hid (F.answers w.tape)) (h1 : v1 < 1) (h2 : v2 < 1) :
  Calls Ybaf.prog 4 #[.string sb, .string n1, .int .i64 v1, .string n2, .int .i64 v2] w fun r w' => r = .returned (.bool true) ∧ Below w.heap.size w w' := by
  have HC1 := hide (Bs.low_first F sb n1 v1 w (unhide HF) h1)
  go_enter Ybaf.func4, Ybaf.ntmps4
  go_wp2_with (go_at_call 6; first
    | (refine (unhide HC1).mono ?_; clear HC1; rintro e W1 ⟨rfl, g1, cap1, bs1, KP1⟩; replace KP1 := hide KP1)
    | (refine (Bs.low_next F sb n2 v2 w W1 1 g1 cap1 bs1 (unhide HF) h2 (by omega) (unhide KP1)).mono ?_; clear KP1; rintro e W ⟨rfl, g2, cap, bs, KP⟩; have HE := hide KP.es; obtain ⟨kb, ko, kx, kw⟩ := KP; obtain ⟨c0, c1, cf, cg⟩ := kx.cells; have KW := hide kw; have Hbs := hide kb; clear kb ko kx kw cf c0))
  go_loopw [13] (fun i wx => ∃ k5 : Nat, k5 ≤ 2 ∧ i = .int .i64 (k5 : Int) ∧ Hid (Below W.heap.size W wx)) (fun i _ => 2 - (intOf i).toNat)
  case atStart => exact ⟨0, by omega, rfl, hide (Below.refl _ _)⟩
  case round =>
    rename World => wz
    obtain ⟨k5, hk5, rfl, Hbz⟩ := hrel
    have r1 := ((unhide Hbz).cell (p := ⟨w.heap.size, 1, none⟩) cg).trans c1
    have HEz := hide ((unhide HE).below (unhide Hbz))
    have rg := (unhide HEz).1
    by_cases hl5 : k5 < 2
    · have hb5 : k5 < bs.length := by rw [unhide Hbs]; exact hl5
      have q0 := (unhide HEz).2 k5 hb5
      generalize bs[k5] = b at *
      clear hb5
      have hl6 : (k5 : Int) < 2 := by omega
      go_wp2
      go_roundw
      case rel => exact ⟨k5 + 1, by omega, by go_num, Hbz⟩
      case measure => simp [intOf]; omega
    · obtain rfl : k5 = 2 := by omega
      have HCe := hide (err_any w.heap.size g2 2 cap bs wz r1 (unhide Hbs) (by omega) (by omega) (unhide HEz))
      go_wp2_with (go_at_call 7; refine (unhide HCe).mono ?_; rintro e w9 ⟨b9, rfl, Hb9⟩; replace Hb9 := hide Hb9)
      go_ret
      exact ⟨rfl, ((unhide KW).trans ((unhide Hbz).mono (unhide KW).size)).trans ((unhide Hb9).mono (by have := (unhide KW).size; have := (unhide Hbz).size; omega))⟩

set_option maxRecDepth 100000 in
set_option maxHeartbeats 3200000 in
theorem err_lg (F : Interp) (sb n1 n2 : ByteArray) (v1 v2 : Int) (w : World) (HF : Hid (F.answers w.tape)) (h1 : v1 < 1) (h2 : 1 ≤ v2) :
  Calls Ybaf.prog 4 #[.string sb, .string n1, .int .i64 v1, .string n2, .int .i64 v2] w fun r w' => r = .returned (.bool true) ∧ Below w.heap.size w w' := by
  have HC1 := hide (Bs.low_first F sb n1 v1 w (unhide HF) h1)
  go_enter Ybaf.func4, Ybaf.ntmps4
  go_wp2_with (go_at_call 6; first
    | (refine (unhide HC1).mono ?_; clear HC1; rintro e W ⟨rfl, g2, cap, bs, KP⟩; have HE := hide KP.es; obtain ⟨kb, ko, kx, kw⟩ := KP; obtain ⟨c0, c1, cf, cg⟩ := kx.cells; have KW := hide kw; have Hbs := hide kb; clear kb ko kx kw cf c0)
    | (refine (one_ok _ _ _ _ h2).mono ?_; rintro e w5 ⟨rfl, hw5⟩; have hw6 := hw5.symm; clear hw5; subst hw6))
  go_loopw [13] (fun i wx => ∃ k5 : Nat, k5 ≤ 1 ∧ i = .int .i64 (k5 : Int) ∧ Hid (Below W.heap.size W wx)) (fun i _ => 1 - (intOf i).toNat)
  case atStart => exact ⟨0, by omega, rfl, hide (Below.refl _ _)⟩
  case round =>
    rename World => wz
    obtain ⟨k5, hk5, rfl, Hbz⟩ := hrel
    have r1 := ((unhide Hbz).cell (p := ⟨w.heap.size, 1, none⟩) cg).trans c1
    have HEz := hide ((unhide HE).below (unhide Hbz))
    have rg := (unhide HEz).1
    by_cases hl5 : k5 < 1
    · have hb5 : k5 < bs.length := by rw [unhide Hbs]; exact hl5
      have q0 := (unhide HEz).2 k5 hb5
      generalize bs[k5] = b at *
      clear hb5
      have hl6 : (k5 : Int) < 1 := by omega
      go_wp2
      go_roundw
      case rel => exact ⟨k5 + 1, by omega, by go_num, Hbz⟩
      case measure => simp [intOf]; omega
    · obtain rfl : k5 = 1 := by omega
      have HCe := hide (err_any w.heap.size g2 1 cap bs wz r1 (unhide Hbs) (by omega) (by omega) (unhide HEz))
      go_wp2_with (go_at_call 7; refine (unhide HCe).mono ?_; rintro e w9 ⟨b9, rfl, Hb9⟩; replace Hb9 := hide Hb9)
      go_ret
      exact ⟨rfl, ((unhide KW).trans ((unhide Hbz).mono (unhide KW).size)).trans ((unhide Hb9).mono (by have := (unhide KW).size; have := (unhide Hbz).size; omega))⟩

set_option maxRecDepth 100000 in
set_option maxHeartbeats 3200000 in
theorem err_gl (F : Interp) (sb n1 n2 : ByteArray) (v1 v2 : Int) (w : World) (HF : Hid (F.answers w.tape)) (h1 : 1 ≤ v1) (h2 : v2 < 1) :
  Calls Ybaf.prog 4 #[.string sb, .string n1, .int .i64 v1, .string n2, .int .i64 v2] w fun r w' => r = .returned (.bool true) ∧ Below w.heap.size w w' := by
  have HC1 := hide (Bs.low_first F sb n2 v2 w (unhide HF) h2)
  have HC0 := hide (one_ok w.heap.size n1 v1 (Bs.W1 w sb) h1)
  go_enter Ybaf.func4, Ybaf.ntmps4
  go_wp2_with (go_at_call 6; first
    | (refine (unhide HC0).mono ?_; clear HC0; rintro e w5 ⟨rfl, rfl⟩)
    | (refine (unhide HC1).mono ?_; clear HC1; rintro e W ⟨rfl, g2, cap, bs, KP⟩; have HE := hide KP.es; obtain ⟨kb, ko, kx, kw⟩ := KP; obtain ⟨c0, c1, cf, cg⟩ := kx.cells; have KW := hide kw; have Hbs := hide kb; clear kb ko kx kw cf c0))
  go_loopw [13] (fun i wx => ∃ k5 : Nat, k5 ≤ 1 ∧ i = .int .i64 (k5 : Int) ∧ Hid (Below W.heap.size W wx)) (fun i _ => 1 - (intOf i).toNat)
  case atStart => exact ⟨0, by omega, rfl, hide (Below.refl _ _)⟩
  case round =>
    rename World => wz
    obtain ⟨k5, hk5, rfl, Hbz⟩ := hrel
    have r1 := ((unhide Hbz).cell (p := ⟨w.heap.size, 1, none⟩) cg).trans c1
    have HEz := hide ((unhide HE).below (unhide Hbz))
    have rg := (unhide HEz).1
    by_cases hl5 : k5 < 1
    · have hb5 : k5 < bs.length := by rw [unhide Hbs]; exact hl5
      have q0 := (unhide HEz).2 k5 hb5
      generalize bs[k5] = b at *
      clear hb5
      have hl6 : (k5 : Int) < 1 := by omega
      go_wp2
      go_roundw
      case rel => exact ⟨k5 + 1, by omega, by go_num, Hbz⟩
      case measure => simp [intOf]; omega
    · obtain rfl : k5 = 1 := by omega
      have HCe := hide (err_any w.heap.size g2 1 cap bs wz r1 (unhide Hbs) (by omega) (by omega) (unhide HEz))
      go_wp2_with (go_at_call 7; refine (unhide HCe).mono ?_; rintro e w9 ⟨b9, rfl, Hb9⟩; replace Hb9 := hide Hb9)
      go_ret
      exact ⟨rfl, ((unhide KW).trans ((unhide Hbz).mono (unhide KW).size)).trans ((unhide Hb9).mono (by have := (unhide KW).size; have := (unhide Hbz).size; omega))⟩

set_option maxRecDepth 100000 in
set_option maxHeartbeats 3200000 in
theorem err_gg (F : Interp) (sb n1 n2 : ByteArray) (v1 v2 : Int) (w : World) (_HF : Hid (F.answers w.tape)) (h1 : 1 ≤ v1) (h2 : 1 ≤ v2) :
  Calls Ybaf.prog 4 #[.string sb, .string n1, .int .i64 v1, .string n2, .int .i64 v2] w fun r w' => r = .returned (.bool true) ∧ Below w.heap.size w w' := by
  have HC0 := hide (one_ok w.heap.size n1 v1 (Bs.W1 w sb) h1)
  have HC1 := hide (one_ok w.heap.size n2 v2 (Bs.W1 w sb) h2)
  go_enter Ybaf.func4, Ybaf.ntmps4
  go_wp2_with (go_at_call 6; first
    | (refine (unhide HC0).mono ?_; clear HC0; rintro e w5 ⟨rfl, rfl⟩)
    | (refine (unhide HC1).mono ?_; clear HC1; rintro e w5 ⟨rfl, rfl⟩))
  go_loopw [13] (fun i wx => i = .int .i64 0 ∧ wx = Bs.W1 w sb) (fun _ _ => 0)
  case atStart => exact ⟨rfl, rfl⟩
  case round =>
    obtain ⟨rfl, hww⟩ := hrel
    subst hww
    have HCe := hide (err_none w.heap.size (Bs.W1 w sb) (Bs.w1_cells w sb).cells.2.1)
    go_wp2_with (go_at_call 7; refine (unhide HCe).mono ?_; rintro e w9 ⟨rfl, rfl⟩)
    go_ret
    exact ⟨rfl, (Below.refl _ _).alloc (Nat.le_refl _) _⟩

theorem err_law (F : Interp) (sb n1 n2 : ByteArray) (v1 v2 : Int) (w : World) (hF : F.answers w.tape) :
  Calls Ybaf.prog 4 #[.string sb, .string n1, .int .i64 v1, .string n2, .int .i64 v2] w fun r w' => r = .returned (.bool true) ∧ Below w.heap.size w w' := by
  by_cases h1 : v1 < 1 <;> by_cases h2 : v2 < 1
  · exact err_ll F sb n1 n2 v1 v2 w hF h1 h2
  · exact err_lg F sb n1 n2 v1 v2 w hF h1 (by omega)
  · exact err_gl F sb n1 n2 v1 v2 w hF (by omega) h2
  · exact err_gg F sb n1 n2 v1 v2 w hF (by omega) (by omega)

end Go.Proofs.YbulkbwimFmt
