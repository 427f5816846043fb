/-
  fmt.Errorf (10), addf (8), atLeastOne (6).
-/
import Derived.Test.YbulkbwimFmtBFmt
import Derived.BigQuiet
import Derived.Deep.QuietTactic
import Derived.Deep.AppendLies
import Derived.Test.YbulkbwimFmtBOrd
namespace Go.Proofs.YbulkbwimFmt
open Go.RowKit Go.Extern.Stop Go.Stop Go.Extern

namespace Bs
theorem hide {p : Prop} (h : p) : Hid p := h
theorem unhide {p : Prop} (h : Hid p) : p := h
end Bs
open Bs (hide unhide)
set_option linter.unusedSimpArgs false

attribute [local go_sem] Bf.call11 Bf.call12 Bf.guard Bf.fmtB Bf.fmtBr Bf.fmtP Bf.fmtPr Bf.act3_100 Bf.op3_100 Bf.act9_115 Bf.op9_115 Bf.op9_115w Bf.ptr33 Bf.elem33 Bf.isError33

set_option maxHeartbeats 400000 in
theorem new_any (s : ByteArray) (w : World) : Calls Ybaf.prog 5 #[.string s] w fun e w' => e = .returned (.iface 33 (.pointer (some ⟨w.heap.size, 0, none⟩))) ∧ w' = w.alloc (.cells #[.string s] 35) := by
  go_enter Ybaf.func5, Ybaf.ntmps5
  go_wp2
  go_ret
  exact ⟨rfl, rfl⟩

set_option maxRecDepth 100000 in
set_option maxHeartbeats 800000 in
theorem errf_any (F : Interp) (g : Nat) (m0 m1 : ByteArray) (w : World) (hF : F.answers w.tape) (c0 : w.cell? ⟨g, 0, none⟩ = some (.iface 9 (.string m0))) (c1 : w.cell? ⟨g, 1, none⟩ = some (.iface 9 (.string m1))) :
    Calls Ybaf.prog 10 #[.string Bf.sP, .slice (some ⟨g, 0, none⟩) 2 2] w fun e w' => e = .returned (.iface 33 (.pointer (some ⟨w.heap.size, 0, none⟩))) ∧ Below w.heap.size w w' := by
  have hF' := answers_open hF
  go_enter Ybaf.func10, Ybaf.ntmps10
  go_wp2
  go_ret
  exact ⟨rfl, ((Below.refl _ _).alloc (Nat.le_refl _) _).drew⟩

set_option maxRecDepth 100000 in
set_option maxHeartbeats 800000 in
/-- fmt.Sprintf (11), AT A STEP OF A REGION THAT DRAWS ITS ORDER. -/
theorem step_sprintf {ops : Array Oper} {o : Oper} {a : Act} {K : Act → World → Prop} {Q : Exit → Act → World → Prop} {E : Prop} (hgd : o.guard = none) (s x : Operand)
    (ho : o.op = .call { callee := .value (.func 11), args := #[s, x], argTypes := #[9, 38] }) (F : Interp) (ab : Nat) (nm : ByteArray) (v : Int) (w : World) (hF : F.answers w.tape)
    (hs : a.eval s = .string Bf.sB) (hx : a.eval x = .slice (some ⟨ab, 0, none⟩) 2 2) (a0 : w.cell? ⟨ab, 0, none⟩ = some (.iface 9 (.string nm))) (a1 : w.cell? ⟨ab, 1, none⟩ = some (.iface 3 (.int .i64 v)))
    (h : ∀ t, K (a.put o.dst (.string t)) w.drew) :
    if Region.wanted o (yielded ops a.tmps) = true then Oper.wp Ybaf.prog o a w K Q else E := by
  have hF' := answers_open hF
  have hw : Region.wanted o (yielded ops a.tmps) = true := by simp [Region.wanted, hgd]
  rw [if_pos hw]
  unfold Oper.wp execOp
  simp only [ho, resolve, invoke, Sem.run_bind, List.map_toArray, List.map_cons, List.map_nil, hs, hx]
  go_simp
  apply rows_value Bf.nextTurns
  case hr =>
    go_simp
    exact ⟨rfl, rfl⟩
  case h => exact h _

set_option maxRecDepth 100000 in
set_option maxHeartbeats 800000 in
/-- fmt.Errorf (10), AT A STEP OF A REGION THAT DRAWS ITS ORDER. -/
theorem step_errorf {ops : Array Oper} {o : Oper} {a : Act} {K : Act → World → Prop} {Q : Exit → Act → World → Prop} {E : Prop} (hgd : o.guard = none) (s x : Operand)
    (ho : o.op = .call { callee := .value (.func 10), args := #[s, x], argTypes := #[9, 38] }) (w : World) (ag : Nat)
    (hs : a.eval s = .string Bf.sP) (hx : a.eval x = .slice (some ⟨ag, 0, none⟩) 2 2) (R : Value → World → Prop)
    (hC : Calls Ybaf.prog 10 #[.string Bf.sP, .slice (some ⟨ag, 0, none⟩) 2 2] w fun e w' => ∃ v, e = .returned v ∧ R v w')
    (h : ∀ v w', R v w' → K (a.put o.dst v) w') :
    if Region.wanted o (yielded ops a.tmps) = true then Oper.wp Ybaf.prog o a w K Q else E := by
  have hw : Region.wanted o (yielded ops a.tmps) = true := by simp [Region.wanted, hgd]
  rw [if_pos hw]
  unfold Oper.wp execOp
  simp only [ho, resolve, invoke, Sem.run_bind, List.map_toArray, List.map_cons, List.map_nil, hs, hx]
  go_simp
  refine hC.mono ?_
  rintro e w' ⟨v, rfl, hr⟩
  exact h v w' hr

namespace Bs
theorem info24 : (Ybaf.prog.info? 24).map (fun i => (i.zero, i.size, i.bytes)) = some (some .nilIface, 1, 16) := by kernel_rfl
/-- The struct's block. -/
def Box (w : World) (g : Nat) (sb : ByteArray) (ev : Value) : Prop := w.heap[g]? = some (.cells #[.string sb, ev] 28 (0, 0))
theorem Box.cells {w : World} {g : Nat} {sb : ByteArray} {ev : Value} (h : Box w g sb ev) : w.cell? ⟨g, 0, none⟩ = some (.string sb) ∧ w.cell? ⟨g, 1, none⟩ = some ev ∧ w.frozen? ⟨g, 1, none⟩ = false ∧ g < w.heap.size := by
  refine ⟨?_, ?_, ?_, (Array.getElem?_eq_some_iff.1 h).1⟩
  · unfold World.cell?; rw [h]; rfl
  · unfold World.cell?; rw [h]; rfl
  · unfold World.frozen?; rw [h]; rfl
theorem row_below {w w' : World} {base e size n B : Nat} {v : Value} {xs : List Value} (h : w.ownsRow base e size v n xs) (hb : Below B w w') (hB : w.heap.size ≤ B) : w'.ownsRow base e size v n xs := by
  obtain ⟨h1, h2⟩ := h
  refine ⟨h1, ?_⟩
  rcases h2 with h2 | ⟨g, cap, cur, hv, hg, hh, r⟩
  · exact .inl h2
  · exact .inr ⟨g, cap, cur, hv, hg, by rw [hb.block g (by have := (Array.getElem?_eq_some_iff.1 hh).1; omega)]; exact hh, r⟩
theorem Box.set {w : World} {g : Nat} {sb : ByteArray} {ev : Value} (h : Box w g sb ev) (u : Value) : Box (w.setCell ⟨g, 1, none⟩ u) g sb u := by
  unfold Box at *
  simp [World.setCell, Array.getElem?_modify, h]
theorem Box.of_block {w w' : World} {g : Nat} {sb : ByteArray} {ev : Value} (h : Box w g sb ev) (hb : w'.heap[g]? = w.heap[g]?) : Box w' g sb ev := by
  unfold Box at *
  rw [hb]; exact h
theorem row_ne {w : World} {g g2 B n m cap : Nat} {sb : ByteArray} {ev : Value} {xs : List Value} (h : Box w g sb ev) (ho : w.ownsRow B 24 1 (.slice (some ⟨g2, 0, none⟩) n cap) m xs) : g2 ≠ g := by
  intro hh
  subst hh
  rcases ho.2 with ⟨h1, _⟩ | ⟨g3, cap3, cur, h1, _, hh, _⟩
  · simp at h1
  · simp at h1
    obtain ⟨rfl, _⟩ := h1
    unfold Box at h
    rw [h] at hh
    simp at hh
theorem row_set {w : World} {B n cap g2 : Nat} {xs : List Value} (ho : w.ownsRow B 24 1 (.slice (some ⟨g2, 0, none⟩) n cap) n xs) {a : Addr} (ha : a.block ≠ g2) (u : Value) : (w.setCell a u).ownsRow B 24 1 (.slice (some ⟨g2, 0, none⟩) n cap) n xs := by
  obtain ⟨h1, h2⟩ := ho
  refine ⟨h1, ?_⟩
  rcases h2 with ⟨h3, _⟩ | ⟨g3, cap3, cur, h3, hg, hh, r⟩
  · simp at h3
  · simp at h3
    obtain ⟨rfl, rfl⟩ := h3
    exact .inr ⟨g2, cap, cur, rfl, hg, by rw [Below.heap_setCell _ _ _ _ (Ne.symm ha)]; exact hh, r⟩
/-- What addf leaves. -/
def Added (w : World) (B g n : Nat) (sb : ByteArray) (ev : Value) (xs : List Value) (w' : World) : Prop :=
  ∃ g2 cap2 b, w'.ownsRow B 24 1 (.slice (some ⟨g2, 0, none⟩) (n + 1) cap2) (n + 1) (xs ++ [.iface 33 (.pointer (some ⟨b, 0, none⟩))]) ∧ Box w' g sb (.slice (some ⟨g2, 0, none⟩) (n + 1) cap2) ∧
    (∀ k, k < w.heap.size → k ≠ g → ev.ownBlock ≠ some k → w'.heap[k]? = w.heap[k]?) ∧ w.heap.size ≤ w'.heap.size ∧ w'.os = w.os ∧ w'.tape = w.tape ∧ w'.output = w.output
theorem added (w w1 w2 : World) (B g n g2 cap2 b : Nat) (sb : ByteArray) (ev : Value) (xs : List Value) (hbox : Box w g sb ev) (hng : ev.ownBlock ≠ some g) (hb1 : Below w.heap.size w w1) (hown : w2.ownsRow B 24 1 (.slice (some ⟨g2, 0, none⟩) (n + 1) cap2) (n + 1) (xs ++ [.iface 33 (.pointer (some ⟨b, 0, none⟩))])) (hgr : w1.grownBy w2 ev.ownBlock) :
    Added w B g n sb ev xs (w2.setCell ⟨g, 1, none⟩ (.slice (some ⟨g2, 0, none⟩) (n + 1) cap2)) := by
  have hg := hbox.cells.2.2.2
  have hs := hb1.size
  have hbk : w2.heap[g]? = w.heap[g]? := (hgr.block g (by omega) (fun h => hng h.symm)).trans (hb1.block g hg)
  have hb2 := hbox.of_block hbk
  have hne := row_ne hb2 hown
  refine ⟨g2, cap2, b, row_set hown (by simpa using Ne.symm hne) _, hb2.set _, ?_, ?_, ?_, ?_, ?_⟩
  · intro k hk hkg hke
    rw [Below.heap_setCell _ _ _ _ (by simpa using hkg)]
    exact (hgr.block k (by omega) (fun h => hke h.symm)).trans (hb1.block k hk)
  · have := hgr.size
    simp [World.setCell]
    omega
  · exact hgr.os.trans hb1.os
  · exact hgr.tape.trans hb1.tape
  · exact hgr.output.trans hb1.output
end Bs

set_option maxRecDepth 100000 in
set_option maxHeartbeats 3200000 in
theorem addf_any (F : Interp) (B g ab n : Nat) (sb nm : ByteArray) (v : Int) (ev : Value) (xs : List Value) (w : World) (hF : F.answers w.tape) (hbox : Bs.Box w g sb ev) (herr : w.ownsRow B 24 1 ev n xs) (hB : B ≤ w.heap.size) (hn : n ≤ 4096) (hrow : ∀ k, ev.ownBlock = some k → k ≠ g ∧ k ≠ ab)
    (hab : ab < w.heap.size) (a0 : w.cell? ⟨ab, 0, none⟩ = some (.iface 9 (.string nm))) (a1 : w.cell? ⟨ab, 1, none⟩ = some (.iface 3 (.int .i64 v))) :
    Calls Ybaf.prog 8 #[.pointer (some ⟨g, 0, none⟩), .string Bf.sB, .slice (some ⟨ab, 0, none⟩) 2 2] w fun e w' => e = .returned (.tuple #[]) ∧ Bs.Added w B g n sb ev xs w' := by
  obtain ⟨i0, hi, hz0, hz1, hz2⟩ := info_parts Bs.info24
  obtain ⟨s0, s1, f1, hg⟩ := hbox.cells
  have HN : Hid (∀ w2, Below w.heap.size w w2 → ∀ (ag : Nat) (m0 m1 : ByteArray), ag < w2.heap.size → w2.cell? ⟨ag, 0, none⟩ = some (.iface 9 (.string m0)) → w2.cell? ⟨ag, 1, none⟩ = some (.iface 9 (.string m1)) →
      Calls Ybaf.prog 10 #[.string Bf.sP, .slice (some ⟨ag, 0, none⟩) 2 2] w2 fun e w' => ∃ ve, e = .returned ve ∧ ∃ b, ve = .iface 33 (.pointer (some ⟨b, 0, none⟩)) ∧ Hid (Below w.heap.size w w') ∧ w'.cell? ⟨g, 0, none⟩ = some (.string sb) ∧ w'.cell? ⟨g, 1, none⟩ = some ev ∧ w'.frozen? ⟨g, 1, none⟩ = false ∧ w'.cell? ⟨ab, 0, none⟩ = some (.iface 9 (.string nm)) ∧ w'.cell? ⟨ab, 1, none⟩ = some (.iface 3 (.int .i64 v)) ∧ w.heap.size ≤ w'.heap.size ∧ g < w'.heap.size) := by
    intro w2 hb2 ag m0 m1 hag c0 c1
    refine (errf_any F ag m0 m1 w2 (by rw [hb2.tape]; exact hF) c0 c1).mono ?_
    rintro e w' ⟨he, hb⟩
    have h := hb2.trans (hb.mono hb2.size)
    exact ⟨_, he, _, rfl, h, (h.cell (p := ⟨g, 0, none⟩) hg).trans s0, (h.cell (p := ⟨g, 1, none⟩) hg).trans s1, (h.frozen (p := ⟨g, 1, none⟩) hg).trans f1, (h.cell (p := ⟨ab, 0, none⟩) hab).trans a0, (h.cell (p := ⟨ab, 1, none⟩) hab).trans a1, h.size, Nat.lt_of_lt_of_le hg h.size⟩
  have HG : Hid (∀ w3 w2, Below w.heap.size w w3 → w3.grownBy w2 ev.ownBlock → w2.cell? ⟨g, 0, none⟩ = some (.string sb) ∧ w2.cell? ⟨g, 1, none⟩ = some ev ∧ w2.frozen? ⟨g, 1, none⟩ = false ∧ w2.cell? ⟨ab, 0, none⟩ = some (.iface 9 (.string nm)) ∧ w2.cell? ⟨ab, 1, none⟩ = some (.iface 3 (.int .i64 v))) := by
    intro w3 w2 h hgr
    have hs := h.size
    have hng : some g ≠ ev.ownBlock := fun hh => (hrow g hh.symm).1 rfl
    have hna : some ab ≠ ev.ownBlock := fun hh => (hrow ab hh.symm).2 rfl
    exact ⟨(hgr.cell_far ⟨g, 0, none⟩ (by show g < _; omega) hng).trans ((h.cell (p := ⟨g, 0, none⟩) hg).trans s0), (hgr.cell_far ⟨g, 1, none⟩ (by show g < _; omega) hng).trans ((h.cell (p := ⟨g, 1, none⟩) hg).trans s1), (hgr.frozen_far ⟨g, 1, none⟩ (by show g < _; omega) hng).trans ((h.frozen (p := ⟨g, 1, none⟩) hg).trans f1),
      (hgr.cell_far ⟨ab, 0, none⟩ (by show ab < _; omega) hna).trans ((h.cell (p := ⟨ab, 0, none⟩) hab).trans a0), (hgr.cell_far ⟨ab, 1, none⟩ (by show ab < _; omega) hna).trans ((h.cell (p := ⟨ab, 1, none⟩) hab).trans a1)⟩
  have HBox := hide hbox
  have HRow := hide hrow
  have Herr := hide herr
  have HF := hide hF
  clear herr hbox hF hrow
  go_enter Ybaf.func8, Ybaf.ntmps8
  go_wp2
  refine Ord.wp_region_Z (S := (fun w' => w'.cell? ⟨g, 0, none⟩ = some (.string sb) ∧ w'.cell? ⟨g, 1, none⟩ = some ev ∧ w'.cell? ⟨ab, 0, none⟩ = some (.iface 9 (.string nm)) ∧ w'.cell? ⟨ab, 1, none⟩ = some (.iface 3 (.int .i64 v)))) (z := 20) (by kernel_rfl) ?_
  refine Ord.wpAnyZ_takeAt (i := 0) (d := 6) (.pointer (some ⟨g, 0, none⟩)) rfl rfl [19, 18, 0] (by kernel_rfl) (by kernel_rfl) (by kernel_rfl) (by kernel_rfl) (by kernel_rfl) (by kernel_rfl) (fun _ _ _ h => h) (Or.inl ⟨by rfl, fun w hSw => by (try dsimp only at hSw); go_simp⟩) (by first | exact ⟨s0, s1, a0, a1⟩ | assumption) ?_
  simp only [List.setIfInBounds_toArray, List.set_cons_zero, List.set_cons_succ]
  refine Ord.wpAnyZ_takeAt (i := 1) (d := 7) (.pointer (some ⟨g, 0, none⟩)) rfl rfl [17, 4, 3, 2, 1] (by kernel_rfl) (by kernel_rfl) (by kernel_rfl) (by kernel_rfl) (by kernel_rfl) (by kernel_rfl) (fun _ _ _ h => h) (Or.inl ⟨by rfl, fun w hSw => by (try dsimp only at hSw); go_simp⟩) (by first | exact ⟨s0, s1, a0, a1⟩ | assumption) ?_
  simp only [List.setIfInBounds_toArray, List.set_cons_zero, List.set_cons_succ]
  refine Ord.wpAnyZ_takeAt (i := 2) (d := 8) (.pointer (some ⟨g, 0, none⟩)) rfl rfl [17, 4, 3, 2] (by kernel_rfl) (by kernel_rfl) (by kernel_rfl) (by kernel_rfl) (by kernel_rfl) (by kernel_rfl) (fun _ _ _ h => h) (Or.inl ⟨by rfl, fun w hSw => by (try dsimp only at hSw); go_simp⟩) (by first | exact ⟨s0, s1, a0, a1⟩ | assumption) ?_
  simp only [List.setIfInBounds_toArray, List.set_cons_zero, List.set_cons_succ]
  refine Ord.wpAnyZ_takeAt (i := 3) (d := 9) (.pointer (some ⟨g, 1, none⟩)) rfl rfl [17, 4, 3] (by kernel_rfl) (by kernel_rfl) (by kernel_rfl) (by kernel_rfl) (by kernel_rfl) (by kernel_rfl) (fun _ _ _ h => h) (Or.inl ⟨by rfl, fun w hSw => by (try dsimp only at hSw); go_simp⟩) (by first | exact ⟨s0, s1, a0, a1⟩ | assumption) ?_
  simp only [List.setIfInBounds_toArray, List.set_cons_zero, List.set_cons_succ]
  refine Ord.wpAnyZ_takeAt (i := 4) (d := 10) ev rfl rfl [17, 4] (by kernel_rfl) (by kernel_rfl) (by kernel_rfl) (by kernel_rfl) (by kernel_rfl) (by kernel_rfl) (fun _ _ _ h => h) (Or.inl ⟨by rfl, fun w hSw => by (try dsimp only at hSw); go_simp⟩) (by first | exact ⟨s0, s1, a0, a1⟩ | assumption) ?_
  simp only [List.setIfInBounds_toArray, List.set_cons_zero, List.set_cons_succ]
  refine Ord.wpAnyZ_takeAt (i := 5) (d := 11) (.pointer (some ⟨g, 0, none⟩)) rfl rfl [17, 16, 15, 14, 9, 8, 7, 6, 5] (by kernel_rfl) (by kernel_rfl) (by kernel_rfl) (by kernel_rfl) (by kernel_rfl) (by kernel_rfl) (fun _ _ _ h => h) (Or.inl ⟨by rfl, fun w hSw => by (try dsimp only at hSw); go_simp⟩) (by first | exact ⟨s0, s1, a0, a1⟩ | assumption) ?_
  simp only [List.setIfInBounds_toArray, List.set_cons_zero, List.set_cons_succ]
  refine Ord.wpAnyZ_takeAt (i := 6) (d := 12) (.pointer (some ⟨g, 0, none⟩)) rfl rfl [17, 16, 15, 14, 9, 8, 7, 6] (by kernel_rfl) (by kernel_rfl) (by kernel_rfl) (by kernel_rfl) (by kernel_rfl) (by kernel_rfl) (fun _ _ _ h => h) (Or.inl ⟨by rfl, fun w hSw => by (try dsimp only at hSw); go_simp⟩) (by first | exact ⟨s0, s1, a0, a1⟩ | assumption) ?_
  simp only [List.setIfInBounds_toArray, List.set_cons_zero, List.set_cons_succ]
  refine Ord.wpAnyZ_takeAt (i := 7) (d := 13) (.pointer (some ⟨g, 0, none⟩)) rfl rfl [17, 16, 15, 14, 9, 8, 7] (by kernel_rfl) (by kernel_rfl) (by kernel_rfl) (by kernel_rfl) (by kernel_rfl) (by kernel_rfl) (fun _ _ _ h => h) (Or.inl ⟨by rfl, fun w hSw => by (try dsimp only at hSw); go_simp⟩) (by first | exact ⟨s0, s1, a0, a1⟩ | assumption) ?_
  simp only [List.setIfInBounds_toArray, List.set_cons_zero, List.set_cons_succ]
  refine Ord.wpAnyZ_takeAt (i := 8) (d := 14) (.string sb) rfl rfl [17, 16, 15, 14, 9, 8] (by kernel_rfl) (by kernel_rfl) (by kernel_rfl) (by kernel_rfl) (by kernel_rfl) (by kernel_rfl) (fun _ _ _ h => h) (Or.inl ⟨by rfl, fun w hSw => by (try dsimp only at hSw); go_simp⟩) (by first | exact ⟨s0, s1, a0, a1⟩ | assumption) ?_
  simp only [List.setIfInBounds_toArray, List.set_cons_zero, List.set_cons_succ]
  refine Ord.wpAnyZ_takeAt (i := 9) (d := 15) (.iface 9 (.string sb)) rfl rfl [17, 16, 15, 14, 9] (by kernel_rfl) (by kernel_rfl) (by kernel_rfl) (by kernel_rfl) (by kernel_rfl) (by kernel_rfl) (fun _ _ _ h => h) (Or.inl ⟨by rfl, fun w hSw => by (try dsimp only at hSw); go_simp⟩) (by first | exact ⟨s0, s1, a0, a1⟩ | assumption) ?_
  simp only [List.setIfInBounds_toArray, List.set_cons_zero, List.set_cons_succ]
  refine Ord.wpAnyZ_takeAt (i := 10) (d := 16) (.string Bf.sB) rfl rfl [17, 16, 15, 14, 13, 12, 10] (by kernel_rfl) (by kernel_rfl) (by kernel_rfl) (by kernel_rfl) (by kernel_rfl) (by kernel_rfl) (fun _ _ _ h => h) (Or.inl ⟨by rfl, fun w hSw => by (try dsimp only at hSw); go_simp⟩) (by first | exact ⟨s0, s1, a0, a1⟩ | assumption) ?_
  simp only [List.setIfInBounds_toArray, List.set_cons_zero, List.set_cons_succ]
  refine Ord.wpAnyZ_takeAt (i := 11) (d := 17) (.slice (some ⟨ab, 0, none⟩) 2 2) rfl rfl [17, 16, 15, 14, 13, 12, 11] (by kernel_rfl) (by kernel_rfl) (by kernel_rfl) (by kernel_rfl) (by kernel_rfl) (by kernel_rfl) (fun _ _ _ h => h) (Or.inl ⟨by rfl, fun w hSw => by (try dsimp only at hSw); go_simp⟩) (by first | exact ⟨s0, s1, a0, a1⟩ | assumption) ?_
  simp only [List.setIfInBounds_toArray, List.set_cons_zero, List.set_cons_succ]
  refine Ord.wpAnyZ_oneAt (i := 12) (d := 18) (by kernel_rfl) rfl rfl ?_
  intro K hK
  refine step_sprintf rfl (.tmp 16) (.tmp 17) rfl F ab nm v _ (by exact unhide HF) rfl rfl (by exact a0) (by exact a1) ?_
  intro tx
  refine hK _ _ (fun _ => ⟨s0, s1, a0, a1⟩) ?_
  clear hK K
  simp only [List.setIfInBounds_toArray, List.set_cons_zero, List.set_cons_succ]
  refine Ord.wpAnyZ_takeAt (i := 13) (d := 19) (.iface 9 (.string tx)) rfl rfl [17, 16, 15, 14, 13] (by kernel_rfl) (by kernel_rfl) (by kernel_rfl) (by kernel_rfl) (by kernel_rfl) (by kernel_rfl) (fun _ _ _ h => h) (Or.inl ⟨by rfl, fun w hSw => by (try dsimp only at hSw); go_simp⟩) (by first | exact ⟨s0, s1, a0, a1⟩ | assumption) ?_
  simp only [List.setIfInBounds_toArray, List.set_cons_zero, List.set_cons_succ]
  refine Ord.wpAnyZ_oneAt (i := 14) (d := 20) (by kernel_rfl) rfl rfl ?_
  intro K hK
  go_simp
  refine hK (.slice (some ⟨w.heap.size, 0, none⟩) 2 2) _ (fun _ => ?_) ?_
  · refine ⟨?_, ?_, ?_, ?_⟩ <;> go_simp
  clear hK K
  simp only [List.setIfInBounds_toArray, List.set_cons_zero, List.set_cons_succ]
  refine Ord.wpAnyZ_oneAt (i := 15) (d := 21) (by kernel_rfl) rfl rfl ?_
  intro K hK
  refine step_errorf rfl _ (.tmp 20) rfl _ w.heap.size rfl rfl _ (unhide HN _ (by exact ((Below.refl _ w).alloc (Nat.le_refl _) _).drew.drew) _ sb tx (by simp) (by go_simp) (by go_simp)) ?_
  rintro ve w1 ⟨b, rfl, hb1, s0, s1, f1, a0, a1, hz, hgz⟩
  refine hK _ _ (fun _ => ⟨s0, s1, a0, a1⟩) ?_
  clear hK K
  simp only [List.setIfInBounds_toArray, List.set_cons_zero, List.set_cons_succ]
  refine Ord.wpAnyZ_oneAt (i := 16) (d := 22) (by kernel_rfl) rfl rfl ?_
  intro K hK
  have habz : ab < w1.heap.size := Nat.lt_of_lt_of_le hab hz
  go_simp
  refine hK (.slice (some ⟨w1.heap.size, 0, none⟩) 1 1) _ (fun _ => ?_) ?_
  · refine ⟨?_, ?_, ?_, ?_⟩ <;> go_simp
  clear hK K
  simp only [List.setIfInBounds_toArray, List.set_cons_zero, List.set_cons_succ]
  refine Ord.wpAnyZ_oneAt (i := 17) (d := 23) (by kernel_rfl) rfl rfl ?_
  intro K hK
  refine step_append_lies _ rfl (.tmp 10) (.tmp 22) 22 rfl B 24 i0 .nilIface 1 16 Ybaf.underlying22 hi hz0 hz1 hz2 rfl (by decide) ev n xs rfl (Bs.row_below (unhide Herr) ((unhide hb1).alloc hz _) (Nat.le_refl _)) ⟨w1.heap.size, 0, none⟩ 1 1 [.iface 33 (.pointer (some ⟨b, 0, none⟩))] rfl rfl (cell_one_new _ _ _) (by simp [Value.oneCell']) (by decide) (by unfold maxLen; omega) (by omega) (by simp; omega) _ rfl ?_
  intro g2 cap2 w2 hown2 hgrow2 hat2 hlt2
  obtain ⟨s0, s1, f1, a0, a1⟩ := unhide HG _ w2 ((unhide hb1).alloc hz _) hgrow2
  refine hK _ _ (fun _ => ⟨s0, s1, a0, a1⟩) ?_
  clear hK K
  simp only [List.setIfInBounds_toArray, List.set_cons_zero, List.set_cons_succ]
  refine Ord.wpAnyZ_takeAt (i := 18) (d := 24) (.pointer (some ⟨g, 0, none⟩)) rfl rfl [19, 18] (by kernel_rfl) (by kernel_rfl) (by kernel_rfl) (by kernel_rfl) (by kernel_rfl) (by kernel_rfl) (fun _ _ _ h => h) (Or.inl ⟨by rfl, fun w hSw => by (try dsimp only at hSw); go_simp⟩) (by first | exact ⟨s0, s1, a0, a1⟩ | assumption) ?_
  simp only [List.setIfInBounds_toArray, List.set_cons_zero, List.set_cons_succ]
  refine Ord.wpAnyZ_takeAt (i := 19) (d := 25) (.pointer (some ⟨g, 1, none⟩)) rfl rfl [19] (by kernel_rfl) (by kernel_rfl) (by kernel_rfl) (by kernel_rfl) (by kernel_rfl) (by kernel_rfl) (fun _ _ _ h => h) (Or.inl ⟨by rfl, fun w hSw => by (try dsimp only at hSw); go_simp⟩) (by first | exact ⟨s0, s1, a0, a1⟩ | assumption) ?_
  simp only [List.setIfInBounds_toArray, List.set_cons_zero, List.set_cons_succ]
  refine Ord.wpAnyZ_last (i := 20) (by kernel_rfl) rfl rfl ?_
  intro K hK
  go_simp
  refine hK _ (fun h => absurd rfl h) ?_
  clear hK K
  refine Ord.wpAnyZ_done (by kernel_rfl) ?_ _
  refine bodyPost_end (results_none rfl _ _ _) rfl ⟨rfl, ?_⟩
  exact Bs.added w _ w2 B g n g2 cap2 b sb ev xs (unhide HBox) (fun h => (unhide HRow g h).1 rfl) ((unhide hb1).alloc hz _) hown2 hgrow2

theorem Bs.Added.of_alloc {w : World} {o : Obj} {B g n : Nat} {sb : ByteArray} {ev : Value} {xs : List Value} {w' : World} (h : Bs.Added (w.alloc o) B g n sb ev xs w') : Bs.Added w B g n sb ev xs w' := by
  obtain ⟨g2, cap2, b, h1, h2, h3, h4, h5, h6, h7⟩ := h
  have hs : (w.alloc o).heap.size = w.heap.size + 1 := by simp
  refine ⟨g2, cap2, b, h1, h2, fun k hk hkg hke => (h3 k (by omega) hkg hke).trans (Below.heap_alloc _ _ _ hk), by omega, h5, h6, h7⟩

set_option maxHeartbeats 400000 in
theorem one_ok (g : Nat) (nm : ByteArray) (v : Int) (w : World) (hv : 1 ≤ v) : Calls Ybaf.prog 6 #[.pointer (some ⟨g, 0, none⟩), .string nm, .int .i64 v] w fun e w' => e = .returned (.tuple #[]) ∧ w' = w := by
  go_enter Ybaf.func6, Ybaf.ntmps6
  go_wp2
  go_end0
  exact ⟨rfl, rfl⟩

set_option maxHeartbeats 400000 in
theorem one_low (F : Interp) (B g n : Nat) (sb nm : ByteArray) (v : Int) (ev : Value) (xs : List Value) (w : World) (hF : F.answers w.tape) (hbox : Bs.Box w g sb ev) (herr : w.ownsRow B 24 1 ev n xs) (hB : B ≤ w.heap.size) (hn : n ≤ 4096) (hng : ev.ownBlock ≠ some g) (hv : v < 1) :
    Calls Ybaf.prog 6 #[.pointer (some ⟨g, 0, none⟩), .string nm, .int .i64 v] w fun e w' => e = .returned (.tuple #[]) ∧ Bs.Added w B g n sb ev xs w' := by
  have hg := hbox.cells.2.2.2
  have HC : Hid (∀ t, Calls Ybaf.prog 8 #[.pointer (some ⟨g, 0, none⟩), .string Bf.sB, .slice (some ⟨w.heap.size, 0, none⟩) 2 2] (w.alloc (.cells #[.iface 9 (.string nm), .iface 3 (.int .i64 v)] t)) fun e w' => e = .returned (.tuple #[]) ∧ Bs.Added (w.alloc (.cells #[.iface 9 (.string nm), .iface 3 (.int .i64 v)] t)) B g n sb ev xs w') :=
    hide (fun t => addf_any F B g w.heap.size n sb nm v ev xs (w.alloc (.cells #[.iface 9 (.string nm), .iface 3 (.int .i64 v)] t)) hF (hbox.of_block (Below.heap_alloc _ _ _ hg)) (herr.alloc _) (by simp; omega) hn
      (fun k hk => ⟨fun h => hng (by rw [← h]; exact hk), fun h => by have := (herr.lt k hk).2; omega⟩) (by simp) (by go_simp) (by go_simp))
  clear herr hbox hF
  go_enter Ybaf.func6, Ybaf.ntmps6
  go_wp2_with (go_at_call 8; refine (unhide HC _).mono ?_; rintro e w' ⟨rfl, hadd⟩; replace hadd := hide hadd)
  go_end0
  exact ⟨rfl, (unhide hadd).of_alloc⟩

end Go.Proofs.YbulkbwimFmt
