/-
  replayCounterSync (20), the closure (17), esn (31), apply (22), WHERE THEY REFUSE.
-/
import Derived.Test.YbulkbwgiFmtOLeaf
import Derived.Test.YbulkbwgiFmtHVisit
namespace Go.Proofs.YbulkbwgiFmt
open Go.RowKit Go.Extern.Stop Go.Stop Go.Extern
open Ha (hide unhide)

namespace Ha
theorem res73 (w w1 : World) (o : Obj) (hb : Below ((w.alloc o).alloc o73).heap.size ((w.alloc o).alloc o73) w1) :
    w1.cell? ⟨w.heap.size + 1, 0, none⟩ = some (.int .u64 0) ∧ w1.cell? ⟨w.heap.size + 1, 1, none⟩ = some (.bool false) ∧ w1.frozen? ⟨w.heap.size + 1, 0, none⟩ = false ∧ w1.frozen? ⟨w.heap.size + 1, 1, none⟩ = false ∧ Hid (Below w.heap.size w w1) := by
  have hz : ((w.alloc o).alloc o73).heap.size = w.heap.size + 1 + 1 := by simp
  have h0 : Below w.heap.size w ((w.alloc o).alloc o73) := ((Below.refl _ w).alloc (Nat.le_refl _) _).alloc (by simp) _
  rw [hz] at hb
  exact ⟨(hb.cell (p := ⟨w.heap.size + 1, 0, none⟩) (by simp)).trans (by go_simp), (hb.cell (p := ⟨w.heap.size + 1, 1, none⟩) (by simp)).trans (by go_simp), (hb.frozen (p := ⟨w.heap.size + 1, 0, none⟩) (by simp)).trans (by go_simp), (hb.frozen (p := ⟨w.heap.size + 1, 1, none⟩) (by simp)).trans (by go_simp), h0.trans (hb.mono (by omega))⟩
end Ha

set_option maxRecDepth 100000 in
set_option maxHeartbeats 800000 in
theorem rcs_bad (F : Interp) (p0 T : Int) (sa : Option Addr) (s sc : Nat) (da : Option Addr) (m dc : Nat) (w : World) (hF : F.answers w.tape) (hbad : 0 < s ∨ (s = 0 ∧ m ≠ 4 ∧ m ≠ 8)) :
    Calls Ybaf.prog 20 #[.agg (Ha.n68 p0 T sa s sc da m dc)] w fun e w' => ∃ b, e = .returned (.tuple #[.agg #[.int .u64 0, .bool false], .iface 99 (.pointer (some ⟨b, 0, none⟩))]) ∧ Below w.heap.size w w' := by
  rcases hbad with hs | ⟨rfl, h4, h8⟩
  · have hd : decide ((s : Int) = 0) = false := by simp; omega
    have hd' : ¬ (s : Int) = 0 := by omega
    go_enter Ybaf.func20, Ybaf.ntmps20
    go_wp2_with (go_at_call 18; refine (errfn_20 F _ _ _ _ _ _ _ _ (by simp) (by exact hF) (.inr (.inr rfl))).mono ?_; rintro e w1 ⟨b, rfl, hb, he, hbel⟩; obtain ⟨r0, r1, f0, f1, hbf⟩ := Ha.res73 w w1 _ (unhide hbel); clear hbel)
    exact bodyPost_ret (v := .tuple #[.agg #[.int .u64 0, .bool false], .iface 99 (.pointer (some ⟨b, 0, none⟩))]) (by simp [results, Ybaf.results20, go_sem, r0, r1]) rfl ⟨b, rfl, ((unhide hbf).setCell (by simp) _).setCell (by simp) _⟩
  · have hd4 : ¬ (m : Int) = 4 := by omega
    have hd8 : ¬ (m : Int) = 8 := by omega
    go_enter Ybaf.func20, Ybaf.ntmps20
    go_wp2_with (go_at_call 18; refine (errfn_20 F _ _ _ _ _ _ _ _ (by simp) (by exact hF) (.inr (.inr rfl))).mono ?_; rintro e w1 ⟨b, rfl, hb, he, hbel⟩; obtain ⟨r0, r1, f0, f1, hbf⟩ := Ha.res73 w w1 _ (unhide hbel); clear hbel)
    exact bodyPost_ret (v := .tuple #[.agg #[.int .u64 0, .bool false], .iface 99 (.pointer (some ⟨b, 0, none⟩))]) (by simp [results, Ybaf.results20, go_sem, r0, r1]) rfl ⟨b, rfl, ((unhide hbf).setCell (by simp) _).setCell (by simp) _⟩

set_option maxRecDepth 100000 in
set_option maxHeartbeats 800000 in
theorem visit_mid (F : Interp) (i p0 : Int) (sa : Option Addr) (s sc : Nat) (da : Option Addr) (m dc : Nat) (r : Nat) (w : World) (hF : F.answers w.tape) :
    Calls Ybaf.prog 17 #[.int .i64 i, .agg (Ha.n68 p0 16422 sa s sc da m dc), .pointer (some ⟨r, 0, none⟩)] w fun e w' => ∃ b, e = .returned (.iface 99 (.pointer (some ⟨b, 0, none⟩))) ∧ Below w.heap.size w w' := by
  go_enter Ybaf.func17, Ybaf.ntmps17
  go_wp2_with (go_at_call 18; refine (errfn_17 F _ _ _ _ _ _ (by simp) (by exact hF) (.inr (.inl rfl))).mono ?_; rintro e w1 ⟨b, rfl, hb, he, hbel⟩)
  go_ret
  exact ⟨b, rfl, ((Below.refl _ w).alloc (Nat.le_refl _) _).trans ((unhide hbel).mono (by simp))⟩

set_option maxRecDepth 100000 in
set_option maxHeartbeats 800000 in
theorem visit_twice (F : Interp) (i p0 : Int) (sa : Option Addr) (s sc : Nat) (da : Option Addr) (m dc : Nat) (r : Nat) (d : Int) (e0 : Bool) (w : World) (hF : F.answers w.tape) (hst : Ha.St w r (some (d, e0))) :
    Calls Ybaf.prog 17 #[.int .i64 i, .agg (Ha.n68 p0 16423 sa s sc da m dc), .pointer (some ⟨r, 0, none⟩)] w fun e w' => ∃ b, e = .returned (.iface 99 (.pointer (some ⟨b, 0, none⟩))) ∧ Below w.heap.size w w' := by
  obtain ⟨_, hr, q, hp, _⟩ := hst
  go_enter Ybaf.func17, Ybaf.ntmps17
  go_wp2_with (go_at_call 19; refine (second_any F _ _ _ _ (by exact hF) (.inr (.inr rfl))).mono ?_; rintro e w1 ⟨b, rfl, hbel⟩)
  go_ret
  exact ⟨b, rfl, ((Below.refl _ w).alloc (Nat.le_refl _) _).trans (hbel.mono (by simp))⟩

set_option maxRecDepth 100000 in
set_option maxHeartbeats 800000 in
theorem visit_wrong (F : Interp) (i p0 : Int) (sa : Option Addr) (s sc : Nat) (da : Option Addr) (m dc : Nat) (r : Nat) (w : World) (hF : F.answers w.tape) (hst : Ha.St w r none) (hbad : 0 < s ∨ (s = 0 ∧ m ≠ 4 ∧ m ≠ 8)) :
    Calls Ybaf.prog 17 #[.int .i64 i, .agg (Ha.n68 p0 16423 sa s sc da m dc), .pointer (some ⟨r, 0, none⟩)] w fun e w' => ∃ b, e = .returned (.iface 99 (.pointer (some ⟨b, 0, none⟩))) ∧ Below w.heap.size w w' := by
  obtain ⟨_, hr, hp⟩ := hst
  replace hbad := hide hbad
  go_enter Ybaf.func17, Ybaf.ntmps17
  go_wp2_with (go_at_call 20; refine (rcs_bad F _ _ _ _ _ _ _ _ _ (by exact hF) (unhide hbad)).mono ?_; rintro e w1 ⟨b, rfl, hbel⟩)
  go_ret
  have hb1 : Below w.heap.size w w1 := ((Below.refl _ w).alloc (Nat.le_refl _) _).trans (hbel.mono (by simp))
  exact ⟨b, rfl, hb1.alloc hb1.size _⟩

set_option maxRecDepth 100000 in
set_option maxHeartbeats 800000 in
theorem esn_bad (F : Interp) (g n c : Nat) (ch : List (Bool × Int)) (b : Bool) (j : Nat) (w : World) (hF : F.answers w.tape) (hn : ch.length = n) (hn' : n ≤ 4096) (hg : g < w.heap.size) (hat : Ha.At w g (Ha.chCells ch)) (hj : j < n) (h0 : ∀ i (h : i < ch.length), i < j → ch[i].1 = b) (hjb : ∀ (h : j < ch.length), ch[j].1 = !b) (hj0 : 0 < j) :
    Calls Ybaf.prog 31 #[.slice (some ⟨g, 0, none⟩) n c] w fun e w' => ∃ x, e = .returned (.tuple #[.bool false, .iface 99 (.pointer (some ⟨x, 0, none⟩))]) ∧ Below w.heap.size w w' := by
  have Hat := hide hat
  have Hn := hide hn
  have Hb := hide h0
  have Hjb := hide hjb
  clear hat hn h0 hjb
  go_enter Ybaf.func31, Ybaf.ntmps31
  go_wp2
  go_loopw [8] (fun i wr => ∃ k : Nat, k ≤ j ∧ i = .int .i64 (k : Int) ∧ Below w.heap.size w wr) (fun i _ => n - (intOf i).toNat)
  case atStart => exact ⟨0, by omega, rfl, Below.refl _ _⟩
  case round =>
    obtain ⟨k, hk, rfl, hbel⟩ := hrel
    have hk' : k < ch.length := by rw [unhide Hn]; omega
    have h0' : 0 < ch.length := by omega
    have hlt : k < n := by omega
    have e1 : wr.cell? ⟨g, k * 2 + 1, none⟩ = some (.int .u64 ch[k].2) := (unhide Hat).below hbel hg _ _ (Ha.ch_out ch k hk')
    have e2 : wr.cell? ⟨g, 0, none⟩ = some (.bool b) := by
      have := (unhide Hat).below hbel hg _ _ (Ha.ch_esn ch 0 h0')
      rw [show 0 * 2 = 0 from rfl] at this
      rw [this, unhide Hb 0 h0' hj0]
    generalize ch[k].2 = o at e1
    have hgr : g < wr.heap.size := Nat.lt_of_lt_of_le hg hbel.size
    by_cases hkj : k < j
    · have e0 : wr.cell? ⟨g, k * 2, none⟩ = some (.bool b) := by
        have := (unhide Hat).below hbel hg _ _ (Ha.ch_esn ch k hk')
        rw [this, unhide Hb k hk' hkj]
      clear h0' hk'
      go_wp2
      go_quiet (fail)
      go_wp2
      go_roundw
      case rel => exact ⟨k + 1, by omega, by go_num, below_drewN (hbel.alloc hbel.size _) _⟩
      case measure => simp [intOf]; omega
    · obtain rfl : k = j := by omega
      have e0 : wr.cell? ⟨g, k * 2, none⟩ = some (.bool (!b)) := by
        have := (unhide Hat).below hbel hg _ _ (Ha.ch_esn ch k hk')
        rw [this, unhide Hjb hk']
      clear h0' hk'
      go_wp2
      go_quiet (fail)
      go_wp2_with (go_at_call 18; refine (errfn_31 F _ _ _ _ (by simp) (by first | (rw [hbel.tape]; exact hF) | (show F.answers wr.tape; rw [hbel.tape]; exact hF))).mono ?_; rintro e w1 ⟨x, rfl, hb, he, hbel1⟩)
      go_ret2
      have hx := below_drewN (hbel.alloc hbel.size (.cells #[.bool (!b), .int .u64 o] 29)) nq
      exact ⟨x, rfl, hx.trans ((unhide hbel1).mono hx.size)⟩

set_option maxRecDepth 100000 in
set_option maxHeartbeats 800000 in
theorem apply_mixed (F : Interp) (g n c : Nat) (ch : List (Bool × Int)) (b : Bool) (j : Nat) (d : Int) (e : Bool) (w : World) (hF : F.answers w.tape) (hn : ch.length = n) (hn' : n ≤ 4096) (hg : g < w.heap.size) (hat : Ha.At w g (Ha.chCells ch)) (hj : j < n) (h0 : ∀ i (h : i < ch.length), i < j → ch[i].1 = b) (hjb : ∀ (h : j < ch.length), ch[j].1 = !b) (hj0 : 0 < j) :
    Calls Ybaf.prog 22 #[.agg #[.int .u64 d, .bool e], .slice (some ⟨g, 0, none⟩) n c] w fun r w' => ∃ x, r = .returned (.tuple #[.slice none 0 0, .iface 99 (.pointer (some ⟨x, 0, none⟩))]) ∧ Below w.heap.size w w' := by
  have hbW : Below w.heap.size w (w.alloc (.cells #[.int .u64 d, .bool e] 73)) := (Below.refl _ w).alloc (Nat.le_refl _) _
  have HE := hide (esn_bad F g n c ch b j (w.alloc (.cells #[.int .u64 d, .bool e] 73)) hF hn hn' (by simp; omega) (hat.below hbW hg) hj h0 hjb hj0)
  clear hat hn h0 hjb
  go_enter Ybaf.func22, Ybaf.ntmps22
  go_wp2_with (go_at_call 31; refine (unhide HE).mono ?_; rintro r w2 ⟨x, rfl, hb2⟩)
  go_ret2
  exact ⟨x, rfl, hbW.trans (hb2.mono (by simp))⟩

set_option maxRecDepth 100000 in
set_option maxHeartbeats 800000 in
theorem apply_size (F : Interp) (g n c : Nat) (ch : List (Bool × Int)) (b : Bool) (d : Int) (w : World) (hF : F.answers w.tape) (hn : ch.length = n) (hn' : n ≤ 4096) (hg : g < w.heap.size) (hat : Ha.At w g (Ha.chCells ch)) (hb : ∀ x ∈ ch, x.1 = b) (h0 : 0 < n) :
    Calls Ybaf.prog 22 #[.agg #[.int .u64 d, .bool (!b)], .slice (some ⟨g, 0, none⟩) n c] w fun r w' => ∃ x, r = .returned (.tuple #[.slice none 0 0, .iface 99 (.pointer (some ⟨x, 0, none⟩))]) ∧ Below w.heap.size w w' := by
  have hbW : Below w.heap.size w (w.alloc (.cells #[.int .u64 d, .bool (!b)] 73)) := (Below.refl _ w).alloc (Nat.le_refl _) _
  have HE := hide (esn_ok g n c ch b (w.alloc (.cells #[.int .u64 d, .bool (!b)] 73)) hn hn' (by simp; omega) (hat.below hbW hg) hb)
  clear hat hn hb
  have h0' : (0 : Int) < (n : Int) := by omega
  have HK : Hid (∀ w2, Below (w.alloc (.cells #[.int .u64 d, .bool (!b)] 73)).heap.size (w.alloc (.cells #[.int .u64 d, .bool (!b)] 73)) w2 → w2.cell? ⟨w.heap.size, 0, none⟩ = some (.int .u64 d) ∧ w2.cell? ⟨w.heap.size, 1, none⟩ = some (.bool (!b)) ∧ w.heap.size < w2.heap.size ∧ F.answers w2.tape ∧ Hid (Below w.heap.size w w2)) := by
    intro w2 hb2
    have := hb2.size
    refine ⟨(hb2.cell (p := ⟨w.heap.size, 0, none⟩) (by simp)).trans (by go_simp), (hb2.cell (p := ⟨w.heap.size, 1, none⟩) (by simp)).trans (by go_simp), by simp at this; omega, by rw [hb2.tape]; exact hF, hbW.trans (hb2.mono (by simp))⟩
  clear hF
  cases b
  all_goals
    go_enter Ybaf.func22, Ybaf.ntmps22
    go_wp2_with (first
      | (go_at_call 31; refine (unhide HE).mono ?_; rintro r w2 ⟨rfl, hb2⟩; obtain ⟨c0, c1, hz, hF2, hb2'⟩ := unhide HK w2 hb2; clear hb2)
      | (go_at_call 18; refine (errfn_22 F _ _ _ _ _ _ (by simp) (by exact hF2) (.inr (.inr rfl))).mono ?_; rintro e w1 ⟨x, rfl, hx, he, hbel1⟩)
      | (go_at_call 32; go_in))
    go_ret2
    exact ⟨x, rfl, (((unhide hb2').alloc (by omega) _).alloc (by simp; omega) _).trans ((unhide hbel1).mono (by simp; omega))⟩

end Go.Proofs.YbulkbwgiFmt
