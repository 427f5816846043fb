/-
  ApplyReplayCounterSync (8), where the request is accepted.
-/
import Derived.Test.YbulkbwgiFmtHEach
import Derived.Test.YbulkbwgiFmtHApply
namespace Go.Proofs.YbulkbwgiFmt
open Go.RowKit
open Ha (hide unhide)

namespace Ha
abbrev own43 (m : Bool) (a b : Int) (v : Value) : Array Value := #[.bool m, .bool true, .int .u32 a, .int .u32 b, v]
abbrev z43 : Array Value := #[.bool false, .bool false, .int .u32 0, .int .u32 0, .slice none 0 0]
/-- The world at the walk over the payloads. -/
def syncW (m : Bool) (a b : Int) (v : Value) (w : World) : World := (((w.alloc (.cells (own43 m a b v) 43)).alloc (.cells z43 43)).alloc (.cells #[.bool m, .bool true] 39)).alloc (.cells #[.pointer none] 65)
theorem syncW_size (m : Bool) (a b : Int) (v : Value) (w : World) : (syncW m a b v w).heap.size = w.heap.size + 1 + 1 + 1 + 1 := by simp [syncW]
theorem syncW_below (m : Bool) (a b : Int) (v : Value) (w : World) : Below w.heap.size w (syncW m a b v w) := ((((Below.refl _ w).alloc (Nat.le_refl _) _).alloc (by simp) _).alloc (by simp; omega) _).alloc (by simp; omega) _
theorem At.set {w : World} {g : Nat} {xs : List Value} (h : At w g xs) {a : Addr} (ha : a.block ≠ g) (v : Value) : At (w.setCell a v) g xs := fun j u hj =>
  (World.cell?_setCell_other w a _ v (fun h' => ha (by rw [h']))).trans (h j u hj)
/-- Five cells at the head of a block. -/
def Five (w : World) (g : Nat) (x0 x1 x2 x3 x4 : Value) : Prop := w.cell? ⟨g, 0, none⟩ = some x0 ∧ w.cell? ⟨g, 1, none⟩ = some x1 ∧ w.cell? ⟨g, 2, none⟩ = some x2 ∧ w.cell? ⟨g, 3, none⟩ = some x3 ∧ w.cell? ⟨g, 4, none⟩ = some x4
theorem Five.below {w w' : World} {B g : Nat} {x0 x1 x2 x3 x4 : Value} (h : Five w g x0 x1 x2 x3 x4) (hb : Below B w w') (hg : g < B) : Five w' g x0 x1 x2 x3 x4 :=
  ⟨(hb.cell (p := ⟨g, 0, none⟩) hg).trans h.1, (hb.cell (p := ⟨g, 1, none⟩) hg).trans h.2.1, (hb.cell (p := ⟨g, 2, none⟩) hg).trans h.2.2.1, (hb.cell (p := ⟨g, 3, none⟩) hg).trans h.2.2.2.1, (hb.cell (p := ⟨g, 4, none⟩) hg).trans h.2.2.2.2⟩
/-- Five cells not frozen. -/
def Free5 (w : World) (g : Nat) : Prop := w.frozen? ⟨g, 0, none⟩ = false ∧ w.frozen? ⟨g, 1, none⟩ = false ∧ w.frozen? ⟨g, 2, none⟩ = false ∧ w.frozen? ⟨g, 3, none⟩ = false ∧ w.frozen? ⟨g, 4, none⟩ = false
theorem Free5.below {w w' : World} {B g : Nat} (h : Free5 w g) (hb : Below B w w') (hg : g < B) : Free5 w' g :=
  ⟨(hb.frozen (p := ⟨g, 0, none⟩) hg).trans h.1, (hb.frozen (p := ⟨g, 1, none⟩) hg).trans h.2.1, (hb.frozen (p := ⟨g, 2, none⟩) hg).trans h.2.2.1, (hb.frozen (p := ⟨g, 3, none⟩) hg).trans h.2.2.2.1, (hb.frozen (p := ⟨g, 4, none⟩) hg).trans h.2.2.2.2⟩
theorem five_new (w : World) (x0 x1 x2 x3 x4 : Value) (t : TypeId) : Five (w.alloc (.cells #[x0, x1, x2, x3, x4] t)) w.heap.size x0 x1 x2 x3 x4 := ⟨by go_simp, by go_simp, by go_simp, by go_simp, by go_simp⟩
theorem free_new (w : World) (x0 x1 x2 x3 x4 : Value) (t : TypeId) : Free5 (w.alloc (.cells #[x0, x1, x2, x3, x4] t)) w.heap.size := ⟨by go_simp, by go_simp, by go_simp, by go_simp, by go_simp⟩
theorem syncW_own (m : Bool) (a b : Int) (v : Value) (w : World) : Five (syncW m a b v w) w.heap.size (.bool m) (.bool true) (.int .u32 a) (.int .u32 b) v :=
  (five_new w (.bool m) (.bool true) (.int .u32 a) (.int .u32 b) v 43).below (B := w.heap.size + 1) ((((Below.refl _ _).alloc (by simp) _).alloc (by simp) _).alloc (by simp) _) (by omega)
theorem syncW_res (m : Bool) (a b : Int) (v : Value) (w : World) : Five (syncW m a b v w) (w.heap.size + 1) (.bool false) (.bool false) (.int .u32 0) (.int .u32 0) (.slice none 0 0) := by
  have := (five_new (w.alloc (.cells (own43 m a b v) 43)) (.bool false) (.bool false) (.int .u32 0) (.int .u32 0) (.slice none 0 0) 43).below (B := w.heap.size + 1 + 1) (((Below.refl _ _).alloc (by simp) (.cells #[.bool m, .bool true] 39)).alloc (by simp) (.cells #[.pointer none] 65)) (by simp)
  simpa [syncW] using this
theorem syncW_free (m : Bool) (a b : Int) (v : Value) (w : World) : Free5 (syncW m a b v w) (w.heap.size + 1) := by
  have := (free_new (w.alloc (.cells (own43 m a b v) 43)) (.bool false) (.bool false) (.int .u32 0) (.int .u32 0) (.slice none 0 0) 43).below (B := w.heap.size + 1 + 1) (((Below.refl _ _).alloc (by simp) (.cells #[.bool m, .bool true] 39)).alloc (by simp) (.cells #[.pointer none] 65)) (by simp)
  simpa [syncW] using this
theorem syncW_st (m : Bool) (a b : Int) (v : Value) (w : World) : St (syncW m a b v w) (w.heap.size + 1 + 1 + 1) none := by
  refine ⟨?_, ?_, ?_⟩
  · simp [syncW]
    exact World.frozen?_alloc_at _ _ _ _ (by simp)
  · rw [syncW_size]; omega
  · unfold syncW
    rw [World.cell?_alloc_at _ _ _ _ (by simp)]; rfl
/-- The world behind 'next := own', and what the call of apply there leaves. -/
theorem sync_after (m : Bool) (x y : Int) (g n c q : Nat) (d : Int) (e : Bool) (w w5 : World) (CH : List Value) (hr : w.heap.size + 1 + 1 + 1 < w5.heap.size) (hq1 : w.heap.size + 1 + 1 + 1 < q) (hq2 : q < w5.heap.size)
    (hp : w5.cell? ⟨w.heap.size + 1 + 1 + 1, 0, none⟩ = some (.pointer (some ⟨q, 0, none⟩))) (q0 : w5.cell? ⟨q, 0, none⟩ = some (.int .u64 d)) (q1 : w5.cell? ⟨q, 1, none⟩ = some (.bool e))
    (ho : Five w5 w.heap.size (.bool m) (.bool true) (.int .u32 x) (.int .u32 y) (.slice (some ⟨g, 0, none⟩) n c)) (hz : Five w5 (w.heap.size + 1) (.bool false) (.bool false) (.int .u32 0) (.int .u32 0) (.slice none 0 0)) (hf : Free5 w5 (w.heap.size + 1)) (hb : Below w.heap.size w w5)
    (hA : ∀ w2, Below w.heap.size w w2 → Calls Ybaf.prog 22 #[.agg #[.int .u64 d, .bool e], .slice (some ⟨g, 0, none⟩) n c] w2 fun r w' => ∃ g' c', r = .returned (.tuple #[.slice (some ⟨g', 0, none⟩) n c', .nilIface]) ∧ w2.heap.size ≤ g' ∧ g' < w'.heap.size ∧ At w' g' CH ∧ Below w2.heap.size w2 w')
    (w6 : World := w5.alloc (.cells #[.bool m, .bool true, .int .u32 x, .int .u32 y, .slice (some ⟨g, 0, none⟩) n c] 43)) (h6 : w6 = w5.alloc (.cells #[.bool m, .bool true, .int .u32 x, .int .u32 y, .slice (some ⟨g, 0, none⟩) n c] 43) := by rfl) :
    w6.cell? ⟨w.heap.size + 1 + 1 + 1, 0, none⟩ = some (.pointer (some ⟨q, 0, none⟩)) ∧ w6.cell? ⟨q, 0, none⟩ = some (.int .u64 d) ∧ w6.cell? ⟨q, 1, none⟩ = some (.bool e) ∧ w6.cell? ⟨w.heap.size, 4, none⟩ = some (.slice (some ⟨g, 0, none⟩) n c) ∧ w6.heap.size = w5.heap.size + 1 ∧
    ∀ w2, Below w6.heap.size w6 w2 → Calls Ybaf.prog 22 #[.agg #[.int .u64 d, .bool e], .slice (some ⟨g, 0, none⟩) n c] w2 fun r w' => ∃ g' c', r = .returned (.tuple #[.slice (some ⟨g', 0, none⟩) n c', .nilIface]) ∧
      Hid (w.heap.size ≤ g' ∧ w5.heap.size < g' ∧ g' < w'.heap.size ∧ At w' g' CH ∧ Below w.heap.size w w') ∧
      (w'.cell? ⟨w.heap.size + 1 + 1 + 1, 0, none⟩ = some (.pointer (some ⟨q, 0, none⟩)) ∧ w'.cell? ⟨q, 0, none⟩ = some (.int .u64 d) ∧ w'.cell? ⟨q, 1, none⟩ = some (.bool e) ∧ w'.cell? ⟨w.heap.size, 4, none⟩ = some (.slice (some ⟨g, 0, none⟩) n c)) ∧
      Five w' w5.heap.size (.bool m) (.bool true) (.int .u32 x) (.int .u32 y) (.slice (some ⟨g, 0, none⟩) n c) ∧ Free5 w' w5.heap.size ∧
      Five w' (w.heap.size + 1) (.bool false) (.bool false) (.int .u32 0) (.int .u32 0) (.slice none 0 0) ∧ Free5 w' (w.heap.size + 1) := by
  subst h6
  have hbN : Below w5.heap.size w5 (w5.alloc (.cells #[.bool m, .bool true, .int .u32 x, .int .u32 y, .slice (some ⟨g, 0, none⟩) n c] 43)) := (Below.refl _ _).alloc (Nat.le_refl _) _
  have N5 := five_new w5 (.bool m) (.bool true) (.int .u32 x) (.int .u32 y) (.slice (some ⟨g, 0, none⟩) n c) 43
  have F5 := free_new w5 (.bool m) (.bool true) (.int .u32 x) (.int .u32 y) (.slice (some ⟨g, 0, none⟩) n c) 43
  refine ⟨(hbN.cell (p := ⟨_, 0, none⟩) hr).trans hp, (hbN.cell (p := ⟨q, 0, none⟩) hq2).trans q0, (hbN.cell (p := ⟨q, 1, none⟩) hq2).trans q1, (hbN.cell (p := ⟨_, 4, none⟩) (show w.heap.size < _ by omega)).trans ho.2.2.2.2, by simp, ?_⟩
  intro w2 hb2
  have hs6 : (w5.alloc (.cells #[.bool m, .bool true, .int .u32 x, .int .u32 y, .slice (some ⟨g, 0, none⟩) n c] 43)).heap.size = w5.heap.size + 1 := by simp
  rw [hs6] at hb2
  have hs2 := hb2.size
  rw [hs6] at hs2
  refine (hA w2 (hb.trans ((hbN.trans (hb2.mono (by omega))).mono hb.size))).mono ?_
  rintro r w' ⟨g', c', hr', hg1, hg2, hat, hb'⟩
  have hb3 : Below (w5.heap.size + 1) (w5.alloc (.cells #[.bool m, .bool true, .int .u32 x, .int .u32 y, .slice (some ⟨g, 0, none⟩) n c] 43)) w' := hb2.trans (hb'.mono hs2)
  have hb4 : Below w5.heap.size w5 w' := hbN.trans (hb3.mono (by omega))
  refine ⟨g', c', hr', hide ⟨by omega, by omega, hg2, hat, hb.trans (hb4.mono hb.size)⟩, ⟨(hb4.cell (p := ⟨_, 0, none⟩) hr).trans hp, (hb4.cell (p := ⟨q, 0, none⟩) hq2).trans q0, (hb4.cell (p := ⟨q, 1, none⟩) hq2).trans q1, (hb4.cell (p := ⟨_, 4, none⟩) (show w.heap.size < _ by omega)).trans ho.2.2.2.2⟩,
    N5.below hb3 (by omega), F5.below hb3 (by omega), hz.below hb4 (by omega), hf.below hb4 (by omega)⟩
end Ha

set_option maxRecDepth 100000 in
set_option maxHeartbeats 1600000 in
theorem sync_ok (m : Bool) (x y : Int) (g n c : Nat) (ch : List (Bool × Int)) (b : Bool) (pb pn pc : Nat) (ps : List (Ha.Pl × Value)) (d : Int) (e : Bool) (w : World)
    (hn : ch.length = n) (hn' : n ≤ 4096) (hg : g < w.heap.size) (hat : Ha.At w g (Ha.chCells ch)) (hb : ∀ z ∈ ch, z.1 = b) (hbd : ∀ z ∈ ch, 0 ≤ z.2 ∧ z.2 ≤ 18446744073709551615) (hbe : n = 0 ∨ b = e)
    (hd0 : 0 ≤ d) (hd1 : d ≤ 18446744073709551615)
    (hpn : ps.length = pn) (hpn' : pn ≤ 4096) (hpb : pb < w.heap.size) (hpat : Ha.At w pb (Ha.plCells ps)) (hbody : ∀ p ∈ ps, Ha.Body w w.heap.size p.1 p.2) (hscan : Ha.scan ps none = some (some (d, e))) :
    Calls Ybaf.prog 8 #[.agg (Ha.own43 m x y (.slice (some ⟨g, 0, none⟩) n c)), .slice (some ⟨pb, 0, none⟩) pn pc] w fun r w' => ∃ g' c', r = .returned (.tuple #[.agg (Ha.own43 m x y (.slice (some ⟨g', 0, none⟩) n c')), .nilIface]) ∧ w.heap.size ≤ g' ∧ g' < w'.heap.size ∧
      Ha.At w' g' (Ha.chCells (Ha.up ch d n)) ∧ Below w.heap.size w w' := by
  have hmf : ∀ (fn : Fn) (first cap : Array Value) (w : World), (Instr.makeFunc fn first cap).run Ybaf.prog w = .ok (.func fn first cap) w := fun _ _ _ _ => rfl
  have HW := hide (Ha.syncW_below m x y (.slice (some ⟨g, 0, none⟩) n c) w)
  have HEach := hide (each_ok pb pn pc ps (some (d, e)) (w.heap.size + 1 + 1 + 1) (Ha.syncW m x y (.slice (some ⟨g, 0, none⟩) n c) w) hpn hpn' (by omega) (hpat.below (unhide HW) hpb) (fun p hp => ((hbody p hp).below (unhide HW) (Nat.le_refl _)).lim (by omega)) (Ha.syncW_st _ _ _ _ _) hscan)
  have HA : Hid (∀ w2, Below w.heap.size w w2 → Calls Ybaf.prog 22 #[.agg #[.int .u64 d, .bool e], .slice (some ⟨g, 0, none⟩) n c] w2 fun r w' => ∃ g' c', r = .returned (.tuple #[.slice (some ⟨g', 0, none⟩) n c', .nilIface]) ∧ w2.heap.size ≤ g' ∧ g' < w'.heap.size ∧ Ha.At w' g' (Ha.chCells (Ha.up ch d n)) ∧ Below w2.heap.size w2 w') :=
    hide fun w2 hb2 => apply_ok g n c ch b d w2 hn hn' (Nat.lt_of_lt_of_le hg hb2.size) (hat.below hb2 hg) hb hd0 hd1 hbd e hbe
  have HO := hide (Ha.syncW_own m x y (.slice (some ⟨g, 0, none⟩) n c) w)
  have HR := hide (Ha.syncW_res m x y (.slice (some ⟨g, 0, none⟩) n c) w)
  have HFr := hide (Ha.syncW_free m x y (.slice (some ⟨g, 0, none⟩) n c) w)
  clear hn hat hb hbd hbe hpn hpat hbody hscan
  generalize Ha.chCells (Ha.up ch d n) = CH at *
  go_enter Ybaf.func8, Ybaf.ntmps8
  go_wp2_with (first
    | (go_at_call 15; refine (require_ok _ _).mono ?_; rintro e w' ⟨rfl, rfl⟩)
    | fail)
  refine (unhide HEach).mono ?_
  rintro r w5 ⟨rfl, hst5, hb5⟩
  obtain ⟨hf5, hr5, q, hp5, hq1, hq2, q0, q1⟩ := hst5
  obtain ⟨o0, o1, o2, o3, o4⟩ := (unhide HO).below hb5 (by omega)
  have HR5 := hide ((unhide HR).below hb5 (by omega))
  have HF5 := hide ((unhide HFr).below hb5 (by omega))
  have HB5 := hide ((unhide HW).trans (hb5.mono (by omega)))
  have hz5 : w.heap.size + 1 + 1 + 1 < w5.heap.size := hr5
  clear HEach HO HR HFr HW hb5
  have HAfter := hide (Ha.sync_after m x y g n c q d e w w5 CH hr5 hq1 hq2 hp5 q0 q1 ⟨o0, o1, o2, o3, o4⟩ (unhide HR5) (unhide HF5) (unhide HB5) (unhide HA))
  clear HR5 HF5 HB5 HA
  go_wp2_with fail
  obtain ⟨k0, k1, k2, k3, k4, HZ⟩ := unhide HAfter
  clear HAfter q0 q1 o0 o1 o2 o3 o4 hp5 hf5
  generalize w5.alloc (Obj.cells #[Value.bool m, Value.bool true, Value.int IntKind.u32 x, Value.int IntKind.u32 y, Value.slice (some ⟨g, 0, none⟩) n c] 43) = w6 at *
  have hne1 : ¬ w5.heap.size = q := by omega
  have hne2 : ¬ w5.heap.size = w.heap.size + 1 + 1 + 1 := by omega
  have hne3 : ¬ w5.heap.size = w.heap.size := by omega
  have hne4 : ¬ w5.heap.size = w.heap.size + 1 := by omega
  have hne5 : ¬ w.heap.size + 1 = w5.heap.size := by omega
  go_region_held3 (fun w' => w'.cell? ⟨w.heap.size + 1 + 1 + 1, 0, none⟩ = some (.pointer (some ⟨q, 0, none⟩)) ∧ w'.cell? ⟨q, 0, none⟩ = some (.int .u64 d) ∧ w'.cell? ⟨q, 1, none⟩ = some (.bool e) ∧ w'.cell? ⟨w.heap.size, 4, none⟩ = some (.slice (some ⟨g, 0, none⟩) n c))
    (first | go_keep | exact ⟨k0, k1, k2, k3⟩) ((go_at_call 22; refine (HZ _ (by first | exact Below.refl _ _ | exact (Below.refl _ _).drew)).mono ?_; rintro e w7 ⟨g', c', rfl, HG, ⟨k0, k1, k2, k3⟩, ⟨n0, n1, n2, n3, n4⟩, ⟨f0, f1, f2, f3, f4⟩, ⟨z0, z1, z2, z3, z4⟩, ⟨y0, y1, y2, y3, y4⟩⟩))
  clear k0 k1 k2 k3
  go_wp2
  obtain ⟨hg1, hg2, hg3, hat, hbf⟩ := unhide HG
  refine bodyPost_ret (v := .tuple #[.agg (Ha.own43 m x y (.slice (some ⟨g', 0, none⟩) n c')), .nilIface]) (by simp [results, Ybaf.results8, go_sem, z0, z1, z2, z3, z4]) rfl ⟨g', c', rfl, hg1, by simpa using hg3, ?_, ?_⟩
  · exact (((((hat.set (by show w5.heap.size ≠ g'; omega) _).set (by show w.heap.size + 1 ≠ g'; omega) _).set (by show w.heap.size + 1 ≠ g'; omega) _).set (by show w.heap.size + 1 ≠ g'; omega) _).set (by show w.heap.size + 1 ≠ g'; omega) _).set (by show w.heap.size + 1 ≠ g'; omega) _
  · exact (((((hbf.setCell (by show w.heap.size ≤ w5.heap.size; omega) _).setCell (by simp) _).setCell (by simp) _).setCell (by simp) _).setCell (by simp) _).setCell (by simp) _

end Go.Proofs.YbulkbwgiFmt
