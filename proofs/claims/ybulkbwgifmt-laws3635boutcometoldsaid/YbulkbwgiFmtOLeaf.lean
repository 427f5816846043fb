/-
  THE LEAVES WHERE THEY REFUSE: require (15), ParseNotify (25), replayCounterSync (20), errSecondNotify (19), errNoNotify (21), esn (31), apply (22).
-/
import Derived.Test.YbulkbwgiFmtOErr
import Derived.Test.YbulkbwgiFmtHSync
import Derived.Test.YbulkbwgiFmtHApply
namespace Go.Proofs.YbulkbwgiFmt
open Go.RowKit Go.Extern.Stop Go.Stop Go.Extern
open Ha (hide unhide)

namespace Ha
theorem ErrAt.set {w : World} {b : Nat} (h : ErrAt w b) {a : Addr} (ha : a.block ≠ b) (v : Value) : ErrAt (w.setCell a v) b := by
  obtain ⟨h1, s, h2⟩ := h
  exact ⟨by simpa using h1, s, (World.cell?_setCell_other w a _ v (fun h' => ha (by rw [h']))).trans h2⟩
end Ha

set_option maxHeartbeats 400000 in
theorem require_bad (F : Interp) (m : Bool) (w : World) (hF : F.answers w.tape) :
    Calls Ybaf.prog 15 #[.agg #[.bool m, .bool false], .int .u16 16421] w fun r w' => ∃ b, r = .returned (.iface 99 (.pointer (some ⟨b, 0, none⟩))) ∧ Below w.heap.size w w' := by
  go_enter Ybaf.func15, Ybaf.ntmps15
  go_wp2_with (first | (go_at_call 18; refine (errfn_15 F _ _ _ _ _ (by simp) (by exact hF) (.inl rfl)).mono ?_; rintro e w1 ⟨b, rfl, hb, he, hbel⟩) | (go_at_call 24; go_in))
  go_ret
  exact ⟨b, rfl, ((Below.refl _ w).alloc (Nat.le_refl _) _).trans ((unhide hbel).mono (by simp))⟩

set_option maxHeartbeats 400000 in
theorem second_any (F : Interp) (m : ByteArray) (i t : Int) (w : World) (hF : F.answers w.tape) (ht : t = 16421 ∨ t = 16422 ∨ t = 16423) :
    Calls Ybaf.prog 19 #[.string m, .int .i64 i, .int .u16 t] w fun r w' => ∃ b, r = .returned (.iface 99 (.pointer (some ⟨b, 0, none⟩))) ∧ Below w.heap.size w w' := by
  replace ht := hide ht
  go_enter Ybaf.func19, Ybaf.ntmps19
  go_wp2_with (go_at_call 18; refine (errfn_19 F _ _ _ _ _ _ (by simp) (by exact hF) (unhide ht)).mono ?_; rintro e w1 ⟨b, rfl, hb, he, hbel⟩)
  go_ret
  exact ⟨b, rfl, unhide hbel⟩

set_option maxHeartbeats 400000 in
theorem nonotify_any (F : Interp) (m : ByteArray) (i t : Int) (w : World) (hF : F.answers w.tape) (ht : t = 16421 ∨ t = 16422 ∨ t = 16423) :
    Calls Ybaf.prog 21 #[.string m, .int .i64 i, .int .u16 t] w fun r w' => ∃ b, r = .returned (.iface 99 (.pointer (some ⟨b, 0, none⟩))) ∧ Below w.heap.size w w' := by
  replace ht := hide ht
  go_enter Ybaf.func21, Ybaf.ntmps21
  go_wp2_with (go_at_call 18; refine (errfn_21 F _ _ _ _ _ _ (by simp) (by exact hF) (unhide ht)).mono ?_; rintro e w1 ⟨b, rfl, hb, he, hbel⟩)
  go_ret
  exact ⟨b, rfl, unhide hbel⟩

namespace Ha
/-- What is known of the block of ParseNotify's result behind the call of Errorf. -/
theorem res68 (w w1 : World) (hb : Below (w.alloc o68).heap.size (w.alloc o68) w1) :
    w1.cell? ⟨w.heap.size, 0, none⟩ = some (.int .u8 0) ∧ w1.cell? ⟨w.heap.size, 1, none⟩ = some (.int .u16 0) ∧ w1.cell? ⟨w.heap.size, 2, none⟩ = some (.slice none 0 0) ∧ w1.cell? ⟨w.heap.size, 3, none⟩ = some (.slice none 0 0) ∧
    w1.frozen? ⟨w.heap.size, 0, none⟩ = false ∧ w1.frozen? ⟨w.heap.size, 1, none⟩ = false ∧ w1.frozen? ⟨w.heap.size, 2, none⟩ = false ∧ w1.frozen? ⟨w.heap.size, 3, none⟩ = false ∧ Hid (Below w.heap.size w w1) := by
  have hz : (w.alloc o68).heap.size = w.heap.size + 1 := by simp
  have h0 : Below w.heap.size w (w.alloc o68) := (Below.refl _ w).alloc (Nat.le_refl _) _
  rw [hz] at hb
  have hb' := hb
  refine ⟨?_, ?_, ?_, ?_, ?_, ?_, ?_, ?_, h0.trans (hb.mono (by omega))⟩
  · exact (hb'.cell (p := ⟨w.heap.size, 0, none⟩) (by simp)).trans (by go_simp)
  · exact (hb'.cell (p := ⟨w.heap.size, 1, none⟩) (by simp)).trans (by go_simp)
  · exact (hb'.cell (p := ⟨w.heap.size, 2, none⟩) (by simp)).trans (by go_simp)
  · exact (hb'.cell (p := ⟨w.heap.size, 3, none⟩) (by simp)).trans (by go_simp)
  · exact (hb'.frozen (p := ⟨w.heap.size, 0, none⟩) (by simp)).trans (by go_simp)
  · exact (hb'.frozen (p := ⟨w.heap.size, 1, none⟩) (by simp)).trans (by go_simp)
  · exact (hb'.frozen (p := ⟨w.heap.size, 2, none⟩) (by simp)).trans (by go_simp)
  · exact (hb'.frozen (p := ⟨w.heap.size, 3, none⟩) (by simp)).trans (by go_simp)
end Ha

set_option maxRecDepth 100000 in
set_option maxHeartbeats 400000 in
theorem parse_short (F : Interp) (g n : Nat) (w : World) (hF : F.answers w.tape) (hn : n < 4) :
    Calls Ybaf.prog 25 #[.slice (some ⟨g, 0, none⟩) n n] w fun e w' => ∃ b, e = .returned (.tuple #[.agg (Ha.n68 0 0 none 0 0 none 0 0), .iface 99 (.pointer (some ⟨b, 0, none⟩))]) ∧ Ha.ErrAt w' b ∧ Below w.heap.size w w' := by
  have hd : decide ((n : Int) < 4) = true := by simp; omega
  go_enter Ybaf.func25, Ybaf.ntmps25
  go_wp2_with (go_at_call 18; refine (errfn_25a F _ _ _ _ _ (by simp) (by exact hF)).mono ?_; rintro e w1 ⟨b, rfl, hb, he, hbel⟩; obtain ⟨r0, r1, r2, r3, f0, f1, f2, f3, hbf⟩ := Ha.res68 w w1 (unhide hbel); clear hbel)
  have hb' : w.heap.size ≠ b := by simp at hb; omega
  refine bodyPost_ret (v := .tuple #[.agg (Ha.n68 0 0 none 0 0 none 0 0), .iface 99 (.pointer (some ⟨b, 0, none⟩))]) (by simp [results, Ybaf.results25, go_sem, r0, r1, r2, r3]) rfl
    ⟨b, rfl, (((he.set hb' _).set hb' _).set hb' _).set hb' _, ((((unhide hbf).setCell (Nat.le_refl _) _).setCell (Nat.le_refl _) _).setCell (Nat.le_refl _) _).setCell (Nat.le_refl _) _⟩

set_option maxRecDepth 100000 in
set_option maxHeartbeats 400000 in
theorem parse_spi (F : Interp) (g : Nat) (w : World) (hF : F.answers w.tape) (hg : g < w.heap.size) (c1 : w.cell? ⟨g, 1, none⟩ = some (.int .u8 10)) :
    Calls Ybaf.prog 25 #[.slice (some ⟨g, 0, none⟩) 4 4] w fun e w' => ∃ b, e = .returned (.tuple #[.agg (Ha.n68 0 0 none 0 0 none 0 0), .iface 99 (.pointer (some ⟨b, 0, none⟩))]) ∧ Ha.ErrAt w' b ∧ Below w.heap.size w w' := by
  go_enter Ybaf.func25, Ybaf.ntmps25
  go_wp2_with (go_at_call 18; refine (errfn_25b F _ _ _ _ _ (by simp) (by exact hF)).mono ?_; rintro e w1 ⟨b, rfl, hb, he, hbel⟩; obtain ⟨r0, r1, r2, r3, f0, f1, f2, f3, hbf⟩ := Ha.res68 w w1 (unhide hbel); clear hbel)
  have hb' : w.heap.size ≠ b := by simp at hb; omega
  refine bodyPost_ret (v := .tuple #[.agg (Ha.n68 0 0 none 0 0 none 0 0), .iface 99 (.pointer (some ⟨b, 0, none⟩))]) (by simp [results, Ybaf.results25, go_sem, r0, r1, r2, r3]) rfl
    ⟨b, rfl, (((he.set hb' _).set hb' _).set hb' _).set hb' _, ((((unhide hbf).setCell (Nat.le_refl _) _).setCell (Nat.le_refl _) _).setCell (Nat.le_refl _) _).setCell (Nat.le_refl _) _⟩

end Go.Proofs.YbulkbwgiFmt
