/-
  fmt.Errorf (18) AT EACH OF THE ROAD's FORMATS: a new error, whatever its text; NotifyType.String (28).
-/
import Derived.Test.YbulkbwgiFmtOFmt
import Derived.Test.YbulkbwgiFmtHLeaf
namespace Go.Proofs.YbulkbwgiFmt
open Go.RowKit Go.Extern.Stop Go.Stop Go.Extern
open Ha (hide unhide)

attribute [local go_sem] Hf.call26 Hf.guard Hf.act3_100w Hf.op3_100w Hf.act5_100w Hf.op5_100w Hf.act70_115w Hf.op70_115w Hf.act64_118w Hf.isError64 Hf.str64 Hf.ptr99 Hf.elem99 Hf.isError99 Hf.act99_119w Hf.ptr88 Hf.elem88 Hf.isError88 Hf.fmt15 Hf.fmt15r Hf.fmt16 Hf.fmt16r Hf.fmt17 Hf.fmt17r Hf.fmt19 Hf.fmt19r Hf.fmt21 Hf.fmt21r Hf.fmt20 Hf.fmt20r Hf.fmt22 Hf.fmt22r Hf.fmt31 Hf.fmt31r Hf.fmt25a Hf.fmt25ar Hf.fmt25b Hf.fmt25br

namespace Ha
/-- A new error's block: its text lies at its head. -/
def ErrAt (w : World) (b : Nat) : Prop := b < w.heap.size ∧ ∃ s, w.cell? ⟨b, 0, none⟩ = some (.string s)
theorem ErrAt.below {w w' : World} {b : Nat} (h : ErrAt w b) (hb : Below w.heap.size w w') : ErrAt w' b := by
  obtain ⟨h1, s, h2⟩ := h
  exact ⟨Nat.lt_of_lt_of_le h1 hb.size, s, (hb.cell (p := ⟨b, 0, none⟩) h1).trans h2⟩
theorem errAt_one (w : World) (s : ByteArray) (t : TypeId) : ErrAt (w.alloc (.cells #[.string s] t)).drew w.heap.size := ⟨by simp, s, by go_simp⟩
theorem errAt_two (w : World) (s : ByteArray) (v : Value) (t : TypeId) : ErrAt (w.alloc (.cells #[.string s, v] t)).drew w.heap.size := ⟨by simp, s, by go_simp⟩
theorem below_new (w : World) (o : Obj) : Below w.heap.size w (w.alloc o).drew := ((Below.refl _ _).alloc (Nat.le_refl _) _).drew
end Ha

set_option maxHeartbeats 400000 in
theorem string28 (t : Int) (w : World) (ht : t = 16421 ∨ t = 16422 ∨ t = 16423) : Calls Ybaf.prog 28 #[.int .u16 t] w fun e w' => ∃ s, e = .returned (.string s) ∧ w' = w := by
  rcases ht with rfl | rfl | rfl
  all_goals
    go_enter Ybaf.func28, Ybaf.ntmps28
    go_wp2
    go_ret
    exact ⟨_, rfl, rfl⟩


set_option maxRecDepth 100000 in
set_option maxHeartbeats 1600000 in
theorem errf_15 (F : Interp) (g : Nat) (m0 : ByteArray) (t1 : Int) (w : World) (hF : F.answers w.tape) (ht : t1 = 16421 ∨ t1 = 16422 ∨ t1 = 16423) (c0 : w.cell? ⟨g, 0, none⟩ = some (.iface 70 (.string m0))) (c1 : w.cell? ⟨g, 1, none⟩ = some (.iface 64 (.int .u16 t1))) :
    Calls Ybaf.prog 18 #[.string Hf.s15, .slice (some ⟨g, 0, none⟩) 2 2] w fun e w' => ∃ b, e = .returned (.iface 99 (.pointer (some ⟨b, 0, none⟩))) ∧ w.heap.size ≤ b ∧ Ha.ErrAt w' b ∧ Below w.heap.size w w' := by
  have hF' := answers_open hF
  have HT := hide ht
  clear ht
  go_enter Ybaf.func18, Ybaf.ntmps18
  go_wp2
  apply rows_call Hf.nextTurns
  case hr =>
    go_simp
    exact ⟨⟨rfl, rfl, rfl⟩, rfl⟩
  case hi => exact Hf.invokeString64 _ _
  case hc =>
    refine (string28 t1 _ (unhide HT)).mono fun e w₃ ⟨s, he, hx⟩ => ?_
    subst he; subst hx
    apply rows_value Hf.nextReturned
    case hr =>
      go_simp
      exact ⟨rfl, rfl⟩
    case h =>
      go_wp2
      go_ret
      exact ⟨_, rfl, Nat.le_refl _, Ha.errAt_one _ _ _, Ha.below_new _ _⟩


set_option maxRecDepth 100000 in
set_option maxHeartbeats 1600000 in
theorem errf_16 (F : Interp) (g : Nat) (x0 : Int) (b1 : Nat) (w : World) (hF : F.answers w.tape) (he : Ha.ErrAt w b1) (c0 : w.cell? ⟨g, 0, none⟩ = some (.iface 3 (.int .i64 x0))) (c1 : w.cell? ⟨g, 1, none⟩ = some (.iface 99 (.pointer (some ⟨b1, 0, none⟩)))) :
    Calls Ybaf.prog 18 #[.string Hf.s16, .slice (some ⟨g, 0, none⟩) 2 2] w fun e w' => ∃ b, e = .returned (.iface 88 (.pointer (some ⟨b, 0, none⟩))) ∧ w.heap.size ≤ b ∧ Ha.ErrAt w' b ∧ Below w.heap.size w w' := by
  have hF' := answers_open hF
  obtain ⟨_, es, hes⟩ := he
  have hop := Hf.op99_119w "fmt.errorf" ⟨b1, 0, none⟩ es w hes
  go_enter Ybaf.func18, Ybaf.ntmps18
  go_wp2
  apply rows_value Hf.nextTurns
  case hr =>
    go_simp
    exact ⟨rfl, rfl⟩
  case h =>
    go_wp2
    go_ret
    exact ⟨_, rfl, Nat.le_refl _, Ha.errAt_two _ _ _ _, Ha.below_new _ _⟩


set_option maxRecDepth 100000 in
set_option maxHeartbeats 1600000 in
theorem errf_17 (F : Interp) (g : Nat) (m0 : ByteArray) (x1 : Int) (t2 : Int) (w : World) (hF : F.answers w.tape) (ht : t2 = 16421 ∨ t2 = 16422 ∨ t2 = 16423) (c0 : w.cell? ⟨g, 0, none⟩ = some (.iface 70 (.string m0))) (c1 : w.cell? ⟨g, 1, none⟩ = some (.iface 3 (.int .i64 x1))) (c2 : w.cell? ⟨g, 2, none⟩ = some (.iface 64 (.int .u16 t2))) :
    Calls Ybaf.prog 18 #[.string Hf.s17, .slice (some ⟨g, 0, none⟩) 3 3] w fun e w' => ∃ b, e = .returned (.iface 99 (.pointer (some ⟨b, 0, none⟩))) ∧ w.heap.size ≤ b ∧ Ha.ErrAt w' b ∧ Below w.heap.size w w' := by
  have hF' := answers_open hF
  have HT := hide ht
  clear ht
  go_enter Ybaf.func18, Ybaf.ntmps18
  go_wp2
  apply rows_call Hf.nextTurns
  case hr =>
    go_simp
    exact ⟨⟨rfl, rfl, rfl⟩, rfl⟩
  case hi => exact Hf.invokeString64 _ _
  case hc =>
    refine (string28 t2 _ (unhide HT)).mono fun e w₃ ⟨s, he, hx⟩ => ?_
    subst he; subst hx
    apply rows_value Hf.nextReturned
    case hr =>
      go_simp
      exact ⟨rfl, rfl⟩
    case h =>
      go_wp2
      go_ret
      exact ⟨_, rfl, Nat.le_refl _, Ha.errAt_one _ _ _, Ha.below_new _ _⟩


set_option maxRecDepth 100000 in
set_option maxHeartbeats 1600000 in
theorem errf_19 (F : Interp) (g : Nat) (m0 : ByteArray) (x1 : Int) (t2 : Int) (w : World) (hF : F.answers w.tape) (ht : t2 = 16421 ∨ t2 = 16422 ∨ t2 = 16423) (c0 : w.cell? ⟨g, 0, none⟩ = some (.iface 70 (.string m0))) (c1 : w.cell? ⟨g, 1, none⟩ = some (.iface 3 (.int .i64 x1))) (c2 : w.cell? ⟨g, 2, none⟩ = some (.iface 64 (.int .u16 t2))) :
    Calls Ybaf.prog 18 #[.string Hf.s19, .slice (some ⟨g, 0, none⟩) 3 3] w fun e w' => ∃ b, e = .returned (.iface 99 (.pointer (some ⟨b, 0, none⟩))) ∧ w.heap.size ≤ b ∧ Ha.ErrAt w' b ∧ Below w.heap.size w w' := by
  have hF' := answers_open hF
  have HT := hide ht
  clear ht
  go_enter Ybaf.func18, Ybaf.ntmps18
  go_wp2
  apply rows_call Hf.nextTurns
  case hr =>
    go_simp
    exact ⟨⟨rfl, rfl, rfl⟩, rfl⟩
  case hi => exact Hf.invokeString64 _ _
  case hc =>
    refine (string28 t2 _ (unhide HT)).mono fun e w₃ ⟨s, he, hx⟩ => ?_
    subst he; subst hx
    apply rows_value Hf.nextReturned
    case hr =>
      go_simp
      exact ⟨rfl, rfl⟩
    case h =>
      go_wp2
      go_ret
      exact ⟨_, rfl, Nat.le_refl _, Ha.errAt_one _ _ _, Ha.below_new _ _⟩


set_option maxRecDepth 100000 in
set_option maxHeartbeats 1600000 in
theorem errf_21 (F : Interp) (g : Nat) (m0 : ByteArray) (x1 : Int) (t2 : Int) (w : World) (hF : F.answers w.tape) (ht : t2 = 16421 ∨ t2 = 16422 ∨ t2 = 16423) (c0 : w.cell? ⟨g, 0, none⟩ = some (.iface 70 (.string m0))) (c1 : w.cell? ⟨g, 1, none⟩ = some (.iface 3 (.int .i64 x1))) (c2 : w.cell? ⟨g, 2, none⟩ = some (.iface 64 (.int .u16 t2))) :
    Calls Ybaf.prog 18 #[.string Hf.s21, .slice (some ⟨g, 0, none⟩) 3 3] w fun e w' => ∃ b, e = .returned (.iface 99 (.pointer (some ⟨b, 0, none⟩))) ∧ w.heap.size ≤ b ∧ Ha.ErrAt w' b ∧ Below w.heap.size w w' := by
  have hF' := answers_open hF
  have HT := hide ht
  clear ht
  go_enter Ybaf.func18, Ybaf.ntmps18
  go_wp2
  apply rows_call Hf.nextTurns
  case hr =>
    go_simp
    exact ⟨⟨rfl, rfl, rfl⟩, rfl⟩
  case hi => exact Hf.invokeString64 _ _
  case hc =>
    refine (string28 t2 _ (unhide HT)).mono fun e w₃ ⟨s, he, hx⟩ => ?_
    subst he; subst hx
    apply rows_value Hf.nextReturned
    case hr =>
      go_simp
      exact ⟨rfl, rfl⟩
    case h =>
      go_wp2
      go_ret
      exact ⟨_, rfl, Nat.le_refl _, Ha.errAt_one _ _ _, Ha.below_new _ _⟩


set_option maxRecDepth 100000 in
set_option maxHeartbeats 1600000 in
theorem errf_20 (F : Interp) (g : Nat) (t0 : Int) (x1 : Int) (x2 : Int) (x3 : Int) (x4 : Int) (w : World) (hF : F.answers w.tape) (ht : t0 = 16421 ∨ t0 = 16422 ∨ t0 = 16423) (c0 : w.cell? ⟨g, 0, none⟩ = some (.iface 64 (.int .u16 t0))) (c1 : w.cell? ⟨g, 1, none⟩ = some (.iface 3 (.int .i64 x1))) (c2 : w.cell? ⟨g, 2, none⟩ = some (.iface 3 (.int .i64 x2))) (c3 : w.cell? ⟨g, 3, none⟩ = some (.iface 3 (.int .i64 x3))) (c4 : w.cell? ⟨g, 4, none⟩ = some (.iface 3 (.int .i64 x4))) :
    Calls Ybaf.prog 18 #[.string Hf.s20, .slice (some ⟨g, 0, none⟩) 5 5] w fun e w' => ∃ b, e = .returned (.iface 99 (.pointer (some ⟨b, 0, none⟩))) ∧ w.heap.size ≤ b ∧ Ha.ErrAt w' b ∧ Below w.heap.size w w' := by
  have hF' := answers_open hF
  have HT := hide ht
  clear ht
  go_enter Ybaf.func18, Ybaf.ntmps18
  go_wp2
  apply rows_call Hf.nextTurns
  case hr =>
    go_simp
    exact ⟨⟨rfl, rfl, rfl⟩, rfl⟩
  case hi => exact Hf.invokeString64 _ _
  case hc =>
    refine (string28 t0 _ (unhide HT)).mono fun e w₃ ⟨s, he, hx⟩ => ?_
    subst he; subst hx
    apply rows_value Hf.nextReturned
    case hr =>
      go_simp
      exact ⟨rfl, rfl⟩
    case h =>
      go_wp2
      go_ret
      exact ⟨_, rfl, Nat.le_refl _, Ha.errAt_one _ _ _, Ha.below_new _ _⟩


set_option maxRecDepth 100000 in
set_option maxHeartbeats 1600000 in
theorem errf_22 (F : Interp) (g : Nat) (t0 : Int) (x1 : Int) (x2 : Int) (w : World) (hF : F.answers w.tape) (ht : t0 = 16421 ∨ t0 = 16422 ∨ t0 = 16423) (c0 : w.cell? ⟨g, 0, none⟩ = some (.iface 64 (.int .u16 t0))) (c1 : w.cell? ⟨g, 1, none⟩ = some (.iface 3 (.int .i64 x1))) (c2 : w.cell? ⟨g, 2, none⟩ = some (.iface 3 (.int .i64 x2))) :
    Calls Ybaf.prog 18 #[.string Hf.s22, .slice (some ⟨g, 0, none⟩) 3 3] w fun e w' => ∃ b, e = .returned (.iface 99 (.pointer (some ⟨b, 0, none⟩))) ∧ w.heap.size ≤ b ∧ Ha.ErrAt w' b ∧ Below w.heap.size w w' := by
  have hF' := answers_open hF
  have HT := hide ht
  clear ht
  go_enter Ybaf.func18, Ybaf.ntmps18
  go_wp2
  apply rows_call Hf.nextTurns
  case hr =>
    go_simp
    exact ⟨⟨rfl, rfl, rfl⟩, rfl⟩
  case hi => exact Hf.invokeString64 _ _
  case hc =>
    refine (string28 t0 _ (unhide HT)).mono fun e w₃ ⟨s, he, hx⟩ => ?_
    subst he; subst hx
    apply rows_value Hf.nextReturned
    case hr =>
      go_simp
      exact ⟨rfl, rfl⟩
    case h =>
      go_wp2
      go_ret
      exact ⟨_, rfl, Nat.le_refl _, Ha.errAt_one _ _ _, Ha.below_new _ _⟩


set_option maxRecDepth 100000 in
set_option maxHeartbeats 1600000 in
theorem errf_31 (F : Interp) (g : Nat) (x0 : Int) (w : World) (hF : F.answers w.tape) (c0 : w.cell? ⟨g, 0, none⟩ = some (.iface 3 (.int .i64 x0))) :
    Calls Ybaf.prog 18 #[.string Hf.s31, .slice (some ⟨g, 0, none⟩) 1 1] w fun e w' => ∃ b, e = .returned (.iface 99 (.pointer (some ⟨b, 0, none⟩))) ∧ w.heap.size ≤ b ∧ Ha.ErrAt w' b ∧ Below w.heap.size w w' := by
  have hF' := answers_open hF
  go_enter Ybaf.func18, Ybaf.ntmps18
  go_wp2
  apply rows_value Hf.nextTurns
  case hr =>
    go_simp
    exact ⟨rfl, rfl⟩
  case h =>
    go_wp2
    go_ret
    exact ⟨_, rfl, Nat.le_refl _, Ha.errAt_one _ _ _, Ha.below_new _ _⟩


set_option maxRecDepth 100000 in
set_option maxHeartbeats 1600000 in
theorem errf_25a (F : Interp) (g : Nat) (x0 : Int) (x1 : Int) (w : World) (hF : F.answers w.tape) (c0 : w.cell? ⟨g, 0, none⟩ = some (.iface 3 (.int .i64 x0))) (c1 : w.cell? ⟨g, 1, none⟩ = some (.iface 3 (.int .i64 x1))) :
    Calls Ybaf.prog 18 #[.string Hf.s25a, .slice (some ⟨g, 0, none⟩) 2 2] w fun e w' => ∃ b, e = .returned (.iface 99 (.pointer (some ⟨b, 0, none⟩))) ∧ w.heap.size ≤ b ∧ Ha.ErrAt w' b ∧ Below w.heap.size w w' := by
  have hF' := answers_open hF
  go_enter Ybaf.func18, Ybaf.ntmps18
  go_wp2
  apply rows_value Hf.nextTurns
  case hr =>
    go_simp
    exact ⟨rfl, rfl⟩
  case h =>
    go_wp2
    go_ret
    exact ⟨_, rfl, Nat.le_refl _, Ha.errAt_one _ _ _, Ha.below_new _ _⟩


set_option maxRecDepth 100000 in
set_option maxHeartbeats 1600000 in
theorem errf_25b (F : Interp) (g : Nat) (x0 : Int) (x1 : Int) (w : World) (hF : F.answers w.tape) (c0 : w.cell? ⟨g, 0, none⟩ = some (.iface 5 (.int .u8 x0))) (c1 : w.cell? ⟨g, 1, none⟩ = some (.iface 3 (.int .i64 x1))) :
    Calls Ybaf.prog 18 #[.string Hf.s25b, .slice (some ⟨g, 0, none⟩) 2 2] w fun e w' => ∃ b, e = .returned (.iface 99 (.pointer (some ⟨b, 0, none⟩))) ∧ w.heap.size ≤ b ∧ Ha.ErrAt w' b ∧ Below w.heap.size w w' := by
  have hF' := answers_open hF
  go_enter Ybaf.func18, Ybaf.ntmps18
  go_wp2
  apply rows_value Hf.nextTurns
  case hr =>
    go_simp
    exact ⟨rfl, rfl⟩
  case h =>
    go_wp2
    go_ret
    exact ⟨_, rfl, Nat.le_refl _, Ha.errAt_one _ _ _, Ha.below_new _ _⟩


theorem errfn_15 (F : Interp) (g : Nat) (m0 : ByteArray) (t1 : Int) (t : TypeId) (w : World) (hg : g = w.heap.size) (hF : F.answers w.tape) (ht : t1 = 16421 ∨ t1 = 16422 ∨ t1 = 16423) :
    Calls Ybaf.prog 18 #[.string Hf.s15, .slice (some ⟨g, 0, none⟩) 2 2] (w.alloc (.cells #[.iface 70 (.string m0), .iface 64 (.int .u16 t1)] t)) fun e w' => ∃ b, e = .returned (.iface 99 (.pointer (some ⟨b, 0, none⟩))) ∧ w.heap.size < b ∧ Ha.ErrAt w' b ∧ Hid (Below w.heap.size w w') := by
  subst hg
  refine (errf_15 F w.heap.size m0 t1 (w.alloc (.cells #[.iface 70 (.string m0), .iface 64 (.int .u16 t1)] t)) hF ht (by go_simp) (by go_simp)).mono ?_
  rintro e w' ⟨b, h1, h2, h3, h4⟩
  exact ⟨b, h1, by simp at h2; omega, h3, ((Below.refl _ w).alloc (Nat.le_refl _) _).trans (h4.mono (by simp))⟩


theorem errfn_16 (F : Interp) (g : Nat) (x0 : Int) (b1 : Nat) (t : TypeId) (w : World) (hg : g = w.heap.size) (hF : F.answers w.tape) (he : Ha.ErrAt w b1) :
    Calls Ybaf.prog 18 #[.string Hf.s16, .slice (some ⟨g, 0, none⟩) 2 2] (w.alloc (.cells #[.iface 3 (.int .i64 x0), .iface 99 (.pointer (some ⟨b1, 0, none⟩))] t)) fun e w' => ∃ b, e = .returned (.iface 88 (.pointer (some ⟨b, 0, none⟩))) ∧ w.heap.size < b ∧ Ha.ErrAt w' b ∧ Hid (Below w.heap.size w w') := by
  subst hg
  refine (errf_16 F w.heap.size x0 b1 (w.alloc (.cells #[.iface 3 (.int .i64 x0), .iface 99 (.pointer (some ⟨b1, 0, none⟩))] t)) hF (he.below ((Below.refl _ w).alloc (Nat.le_refl _) _)) (by go_simp) (by go_simp)).mono ?_
  rintro e w' ⟨b, h1, h2, h3, h4⟩
  exact ⟨b, h1, by simp at h2; omega, h3, ((Below.refl _ w).alloc (Nat.le_refl _) _).trans (h4.mono (by simp))⟩


theorem errfn_17 (F : Interp) (g : Nat) (m0 : ByteArray) (x1 : Int) (t2 : Int) (t : TypeId) (w : World) (hg : g = w.heap.size) (hF : F.answers w.tape) (ht : t2 = 16421 ∨ t2 = 16422 ∨ t2 = 16423) :
    Calls Ybaf.prog 18 #[.string Hf.s17, .slice (some ⟨g, 0, none⟩) 3 3] (w.alloc (.cells #[.iface 70 (.string m0), .iface 3 (.int .i64 x1), .iface 64 (.int .u16 t2)] t)) fun e w' => ∃ b, e = .returned (.iface 99 (.pointer (some ⟨b, 0, none⟩))) ∧ w.heap.size < b ∧ Ha.ErrAt w' b ∧ Hid (Below w.heap.size w w') := by
  subst hg
  refine (errf_17 F w.heap.size m0 x1 t2 (w.alloc (.cells #[.iface 70 (.string m0), .iface 3 (.int .i64 x1), .iface 64 (.int .u16 t2)] t)) hF ht (by go_simp) (by go_simp) (by go_simp)).mono ?_
  rintro e w' ⟨b, h1, h2, h3, h4⟩
  exact ⟨b, h1, by simp at h2; omega, h3, ((Below.refl _ w).alloc (Nat.le_refl _) _).trans (h4.mono (by simp))⟩


theorem errfn_19 (F : Interp) (g : Nat) (m0 : ByteArray) (x1 : Int) (t2 : Int) (t : TypeId) (w : World) (hg : g = w.heap.size) (hF : F.answers w.tape) (ht : t2 = 16421 ∨ t2 = 16422 ∨ t2 = 16423) :
    Calls Ybaf.prog 18 #[.string Hf.s19, .slice (some ⟨g, 0, none⟩) 3 3] (w.alloc (.cells #[.iface 70 (.string m0), .iface 3 (.int .i64 x1), .iface 64 (.int .u16 t2)] t)) fun e w' => ∃ b, e = .returned (.iface 99 (.pointer (some ⟨b, 0, none⟩))) ∧ w.heap.size < b ∧ Ha.ErrAt w' b ∧ Hid (Below w.heap.size w w') := by
  subst hg
  refine (errf_19 F w.heap.size m0 x1 t2 (w.alloc (.cells #[.iface 70 (.string m0), .iface 3 (.int .i64 x1), .iface 64 (.int .u16 t2)] t)) hF ht (by go_simp) (by go_simp) (by go_simp)).mono ?_
  rintro e w' ⟨b, h1, h2, h3, h4⟩
  exact ⟨b, h1, by simp at h2; omega, h3, ((Below.refl _ w).alloc (Nat.le_refl _) _).trans (h4.mono (by simp))⟩


theorem errfn_21 (F : Interp) (g : Nat) (m0 : ByteArray) (x1 : Int) (t2 : Int) (t : TypeId) (w : World) (hg : g = w.heap.size) (hF : F.answers w.tape) (ht : t2 = 16421 ∨ t2 = 16422 ∨ t2 = 16423) :
    Calls Ybaf.prog 18 #[.string Hf.s21, .slice (some ⟨g, 0, none⟩) 3 3] (w.alloc (.cells #[.iface 70 (.string m0), .iface 3 (.int .i64 x1), .iface 64 (.int .u16 t2)] t)) fun e w' => ∃ b, e = .returned (.iface 99 (.pointer (some ⟨b, 0, none⟩))) ∧ w.heap.size < b ∧ Ha.ErrAt w' b ∧ Hid (Below w.heap.size w w') := by
  subst hg
  refine (errf_21 F w.heap.size m0 x1 t2 (w.alloc (.cells #[.iface 70 (.string m0), .iface 3 (.int .i64 x1), .iface 64 (.int .u16 t2)] t)) hF ht (by go_simp) (by go_simp) (by go_simp)).mono ?_
  rintro e w' ⟨b, h1, h2, h3, h4⟩
  exact ⟨b, h1, by simp at h2; omega, h3, ((Below.refl _ w).alloc (Nat.le_refl _) _).trans (h4.mono (by simp))⟩


theorem errfn_20 (F : Interp) (g : Nat) (t0 : Int) (x1 : Int) (x2 : Int) (x3 : Int) (x4 : Int) (t : TypeId) (w : World) (hg : g = w.heap.size) (hF : F.answers w.tape) (ht : t0 = 16421 ∨ t0 = 16422 ∨ t0 = 16423) :
    Calls Ybaf.prog 18 #[.string Hf.s20, .slice (some ⟨g, 0, none⟩) 5 5] (w.alloc (.cells #[.iface 64 (.int .u16 t0), .iface 3 (.int .i64 x1), .iface 3 (.int .i64 x2), .iface 3 (.int .i64 x3), .iface 3 (.int .i64 x4)] t)) fun e w' => ∃ b, e = .returned (.iface 99 (.pointer (some ⟨b, 0, none⟩))) ∧ w.heap.size < b ∧ Ha.ErrAt w' b ∧ Hid (Below w.heap.size w w') := by
  subst hg
  refine (errf_20 F w.heap.size t0 x1 x2 x3 x4 (w.alloc (.cells #[.iface 64 (.int .u16 t0), .iface 3 (.int .i64 x1), .iface 3 (.int .i64 x2), .iface 3 (.int .i64 x3), .iface 3 (.int .i64 x4)] t)) hF ht (by go_simp) (by go_simp) (by go_simp) (by go_simp) (by go_simp)).mono ?_
  rintro e w' ⟨b, h1, h2, h3, h4⟩
  exact ⟨b, h1, by simp at h2; omega, h3, ((Below.refl _ w).alloc (Nat.le_refl _) _).trans (h4.mono (by simp))⟩


theorem errfn_22 (F : Interp) (g : Nat) (t0 : Int) (x1 : Int) (x2 : Int) (t : TypeId) (w : World) (hg : g = w.heap.size) (hF : F.answers w.tape) (ht : t0 = 16421 ∨ t0 = 16422 ∨ t0 = 16423) :
    Calls Ybaf.prog 18 #[.string Hf.s22, .slice (some ⟨g, 0, none⟩) 3 3] (w.alloc (.cells #[.iface 64 (.int .u16 t0), .iface 3 (.int .i64 x1), .iface 3 (.int .i64 x2)] t)) fun e w' => ∃ b, e = .returned (.iface 99 (.pointer (some ⟨b, 0, none⟩))) ∧ w.heap.size < b ∧ Ha.ErrAt w' b ∧ Hid (Below w.heap.size w w') := by
  subst hg
  refine (errf_22 F w.heap.size t0 x1 x2 (w.alloc (.cells #[.iface 64 (.int .u16 t0), .iface 3 (.int .i64 x1), .iface 3 (.int .i64 x2)] t)) hF ht (by go_simp) (by go_simp) (by go_simp)).mono ?_
  rintro e w' ⟨b, h1, h2, h3, h4⟩
  exact ⟨b, h1, by simp at h2; omega, h3, ((Below.refl _ w).alloc (Nat.le_refl _) _).trans (h4.mono (by simp))⟩


theorem errfn_31 (F : Interp) (g : Nat) (x0 : Int) (t : TypeId) (w : World) (hg : g = w.heap.size) (hF : F.answers w.tape) :
    Calls Ybaf.prog 18 #[.string Hf.s31, .slice (some ⟨g, 0, none⟩) 1 1] (w.alloc (.cells #[.iface 3 (.int .i64 x0)] t)) fun e w' => ∃ b, e = .returned (.iface 99 (.pointer (some ⟨b, 0, none⟩))) ∧ w.heap.size < b ∧ Ha.ErrAt w' b ∧ Hid (Below w.heap.size w w') := by
  subst hg
  refine (errf_31 F w.heap.size x0 (w.alloc (.cells #[.iface 3 (.int .i64 x0)] t)) hF (by go_simp)).mono ?_
  rintro e w' ⟨b, h1, h2, h3, h4⟩
  exact ⟨b, h1, by simp at h2; omega, h3, ((Below.refl _ w).alloc (Nat.le_refl _) _).trans (h4.mono (by simp))⟩


theorem errfn_25a (F : Interp) (g : Nat) (x0 : Int) (x1 : Int) (t : TypeId) (w : World) (hg : g = w.heap.size) (hF : F.answers w.tape) :
    Calls Ybaf.prog 18 #[.string Hf.s25a, .slice (some ⟨g, 0, none⟩) 2 2] (w.alloc (.cells #[.iface 3 (.int .i64 x0), .iface 3 (.int .i64 x1)] t)) fun e w' => ∃ b, e = .returned (.iface 99 (.pointer (some ⟨b, 0, none⟩))) ∧ w.heap.size < b ∧ Ha.ErrAt w' b ∧ Hid (Below w.heap.size w w') := by
  subst hg
  refine (errf_25a F w.heap.size x0 x1 (w.alloc (.cells #[.iface 3 (.int .i64 x0), .iface 3 (.int .i64 x1)] t)) hF (by go_simp) (by go_simp)).mono ?_
  rintro e w' ⟨b, h1, h2, h3, h4⟩
  exact ⟨b, h1, by simp at h2; omega, h3, ((Below.refl _ w).alloc (Nat.le_refl _) _).trans (h4.mono (by simp))⟩


theorem errfn_25b (F : Interp) (g : Nat) (x0 : Int) (x1 : Int) (t : TypeId) (w : World) (hg : g = w.heap.size) (hF : F.answers w.tape) :
    Calls Ybaf.prog 18 #[.string Hf.s25b, .slice (some ⟨g, 0, none⟩) 2 2] (w.alloc (.cells #[.iface 5 (.int .u8 x0), .iface 3 (.int .i64 x1)] t)) fun e w' => ∃ b, e = .returned (.iface 99 (.pointer (some ⟨b, 0, none⟩))) ∧ w.heap.size < b ∧ Ha.ErrAt w' b ∧ Hid (Below w.heap.size w w') := by
  subst hg
  refine (errf_25b F w.heap.size x0 x1 (w.alloc (.cells #[.iface 5 (.int .u8 x0), .iface 3 (.int .i64 x1)] t)) hF (by go_simp) (by go_simp)).mono ?_
  rintro e w' ⟨b, h1, h2, h3, h4⟩
  exact ⟨b, h1, by simp at h2; omega, h3, ((Below.refl _ w).alloc (Nat.le_refl _) _).trans (h4.mono (by simp))⟩

end Go.Proofs.YbulkbwgiFmt
