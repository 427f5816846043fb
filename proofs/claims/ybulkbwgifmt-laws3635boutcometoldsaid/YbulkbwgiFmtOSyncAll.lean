/-
  ApplyReplayCounterSync (8), where the request is refused.
-/
import Derived.Test.YbulkbwgiFmtOEach
import Derived.Test.YbulkbwgiFmtHSyncAll
namespace Go.Proofs.YbulkbwgiFmt
open Go.RowKit Go.Extern.Stop Go.Stop Go.Extern
open Ha (hide unhide)

namespace Ha
/-- What a refused request leaves: own, an error that is not nil, no old memory turned. -/
def Refused (w : World) (m u : Bool) (x y : Int) (v : Value) (r : Ending) (w' : World) : Prop :=
  ∃ t b, (t = 99 ∨ t = 88) ∧ r = .returned (.tuple #[.agg #[.bool m, .bool u, .int .u32 x, .int .u32 y, v], .iface t (.pointer (some ⟨b, 0, none⟩))]) ∧ Below w.heap.size w w'
theorem req_facts (m : Bool) (x y : Int) (v : Value) (w w3 : World) (hb : Below ((w.alloc (.cells #[.bool m, .bool false, .int .u32 x, .int .u32 y, v] 43)).alloc (.cells z43 43)).heap.size ((w.alloc (.cells #[.bool m, .bool false, .int .u32 x, .int .u32 y, v] 43)).alloc (.cells z43 43)) w3) :
    Five w3 w.heap.size (.bool m) (.bool false) (.int .u32 x) (.int .u32 y) v ∧ Five w3 (w.heap.size + 1) (.bool false) (.bool false) (.int .u32 0) (.int .u32 0) (.slice none 0 0) ∧ Free5 w3 (w.heap.size + 1) ∧ Hid (Below w.heap.size w w3) := by
  have hs : ((w.alloc (.cells #[.bool m, .bool false, .int .u32 x, .int .u32 y, v] 43)).alloc (.cells z43 43)).heap.size = w.heap.size + 1 + 1 := by simp
  rw [hs] at hb
  have h1 := ((five_new w (.bool m) (.bool false) (.int .u32 x) (.int .u32 y) v 43).below (B := w.heap.size + 1) ((Below.refl _ _).alloc (by simp) (.cells z43 43)) (by omega)).below hb (by omega)
  have h2 := (five_new (w.alloc (.cells #[.bool m, .bool false, .int .u32 x, .int .u32 y, v] 43)) (.bool false) (.bool false) (.int .u32 0) (.int .u32 0) (.slice none 0 0) 43).below hb (by simp)
  have h3 := (free_new (w.alloc (.cells #[.bool m, .bool false, .int .u32 x, .int .u32 y, v] 43)) (.bool false) (.bool false) (.int .u32 0) (.int .u32 0) (.slice none 0 0) 43).below hb (by simp)
  have h4 : Below w.heap.size w ((w.alloc (.cells #[.bool m, .bool false, .int .u32 x, .int .u32 y, v] 43)).alloc (.cells z43 43)) := ((Below.refl _ w).alloc (Nat.le_refl _) _).alloc (by simp) _
  exact ⟨h1, by simpa using h2, by simpa using h3, h4.trans (hb.mono (by omega))⟩
theorem sync_after_bad (m : Bool) (x y : Int) (sa : Option Addr) (n c q : Nat) (d : Int) (e : Bool) (w w5 : World) (hr : w.heap.size + 1 + 1 + 1 < w5.heap.size) (hq2 : q < w5.heap.size)
    (hp : w5.cell? ⟨w.heap.size + 1 + 1 + 1, 0, none⟩ = some (.pointer (some ⟨q, 0, none⟩))) (q0 : w5.cell? ⟨q, 0, none⟩ = some (.int .u64 d)) (q1 : w5.cell? ⟨q, 1, none⟩ = some (.bool e))
    (ho : Five w5 w.heap.size (.bool m) (.bool true) (.int .u32 x) (.int .u32 y) (.slice sa n c)) (hz : Five w5 (w.heap.size + 1) (.bool false) (.bool false) (.int .u32 0) (.int .u32 0) (.slice none 0 0)) (hf : Free5 w5 (w.heap.size + 1)) (hb : Below w.heap.size w w5)
    (hA : ∀ w2, Below w.heap.size w w2 → Calls Ybaf.prog 22 #[.agg #[.int .u64 d, .bool e], .slice sa n c] w2 fun r w' => ∃ x, r = .returned (.tuple #[.slice none 0 0, .iface 99 (.pointer (some ⟨x, 0, none⟩))]) ∧ Below w2.heap.size w2 w')
    (w6 : World := w5.alloc (.cells #[.bool m, .bool true, .int .u32 x, .int .u32 y, .slice sa n c] 43)) (h6 : w6 = w5.alloc (.cells #[.bool m, .bool true, .int .u32 x, .int .u32 y, .slice sa n c] 43) := by rfl) :
    w6.cell? ⟨w.heap.size + 1 + 1 + 1, 0, none⟩ = some (.pointer (some ⟨q, 0, none⟩)) ∧ w6.cell? ⟨q, 0, none⟩ = some (.int .u64 d) ∧ w6.cell? ⟨q, 1, none⟩ = some (.bool e) ∧ w6.cell? ⟨w.heap.size, 4, none⟩ = some (.slice sa n c) ∧ w6.heap.size = w5.heap.size + 1 ∧
    ∀ w2, Below w6.heap.size w6 w2 → Calls Ybaf.prog 22 #[.agg #[.int .u64 d, .bool e], .slice sa n c] w2 fun r w' => ∃ b, r = .returned (.tuple #[.slice none 0 0, .iface 99 (.pointer (some ⟨b, 0, none⟩))]) ∧ Hid (Below w.heap.size w w') ∧
      (w'.cell? ⟨w.heap.size + 1 + 1 + 1, 0, none⟩ = some (.pointer (some ⟨q, 0, none⟩)) ∧ w'.cell? ⟨q, 0, none⟩ = some (.int .u64 d) ∧ w'.cell? ⟨q, 1, none⟩ = some (.bool e)) ∧
      Five w' w.heap.size (.bool m) (.bool true) (.int .u32 x) (.int .u32 y) (.slice sa n c) ∧ w'.cell? ⟨w5.heap.size, 4, none⟩ = some (.slice sa n c) ∧ w'.frozen? ⟨w5.heap.size, 4, none⟩ = false ∧
      Five w' (w.heap.size + 1) (.bool false) (.bool false) (.int .u32 0) (.int .u32 0) (.slice none 0 0) ∧ Free5 w' (w.heap.size + 1) := by
  subst h6
  have hbN : Below w5.heap.size w5 (w5.alloc (.cells #[.bool m, .bool true, .int .u32 x, .int .u32 y, .slice sa n c] 43)) := (Below.refl _ _).alloc (Nat.le_refl _) _
  have N5 := five_new w5 (.bool m) (.bool true) (.int .u32 x) (.int .u32 y) (.slice sa n c) 43
  have F5 := free_new w5 (.bool m) (.bool true) (.int .u32 x) (.int .u32 y) (.slice sa n c) 43
  refine ⟨(hbN.cell (p := ⟨_, 0, none⟩) hr).trans hp, (hbN.cell (p := ⟨q, 0, none⟩) hq2).trans q0, (hbN.cell (p := ⟨q, 1, none⟩) hq2).trans q1, (hbN.cell (p := ⟨_, 4, none⟩) (show w.heap.size < _ by omega)).trans ho.2.2.2.2, by simp, ?_⟩
  intro w2 hb2
  have hs6 : (w5.alloc (.cells #[.bool m, .bool true, .int .u32 x, .int .u32 y, .slice sa n c] 43)).heap.size = w5.heap.size + 1 := by simp
  rw [hs6] at hb2
  have hs2 := hb2.size
  rw [hs6] at hs2
  refine (hA w2 (hb.trans ((hbN.trans (hb2.mono (by omega))).mono hb.size))).mono ?_
  rintro r w' ⟨b, hr', hb'⟩
  have hb3 : Below (w5.heap.size + 1) (w5.alloc (.cells #[.bool m, .bool true, .int .u32 x, .int .u32 y, .slice sa n c] 43)) w' := hb2.trans (hb'.mono hs2)
  have hb4 : Below w5.heap.size w5 w' := hbN.trans (hb3.mono (by omega))
  refine ⟨b, hr', hide (hb.trans (hb4.mono hb.size)), ⟨(hb4.cell (p := ⟨_, 0, none⟩) hr).trans hp, (hb4.cell (p := ⟨q, 0, none⟩) hq2).trans q0, (hb4.cell (p := ⟨q, 1, none⟩) hq2).trans q1⟩, ho.below hb4 (by omega),
    (N5.below hb3 (by omega)).2.2.2.2, (F5.below hb3 (by omega)).2.2.2.2, hz.below hb4 (by omega), hf.below hb4 (by omega)⟩
theorem below5 {w w' : World} (h : Below w.heap.size w w') (a b c d e : Value) : Below w.heap.size w (((((w'.setCell ⟨w.heap.size + 1, 0, none⟩ a).setCell ⟨w.heap.size + 1, 1, none⟩ b).setCell ⟨w.heap.size + 1, 2, none⟩ c).setCell ⟨w.heap.size + 1, 3, none⟩ d).setCell ⟨w.heap.size + 1, 4, none⟩ e) :=
  ((((h.setCell (by simp) _).setCell (by simp) _).setCell (by simp) _).setCell (by simp) _).setCell (by simp) _
end Ha

set_option maxRecDepth 100000 in
set_option maxHeartbeats 800000 in
theorem sync_unusable (F : Interp) (m : Bool) (x y : Int) (sa : Option Addr) (n c : Nat) (v2 : Value) (w : World) (hF : F.answers w.tape) :
    Calls Ybaf.prog 8 #[.agg #[.bool m, .bool false, .int .u32 x, .int .u32 y, .slice sa n c], v2] w (Ha.Refused w m false x y (.slice sa n c)) := by
  go_enter Ybaf.func8, Ybaf.ntmps8
  go_wp2_with (go_at_call 15; refine (require_bad F _ _ (by exact hF)).mono ?_; rintro e w3 ⟨b, rfl, hb3⟩; obtain ⟨⟨o0, o1, o2, o3, o4⟩, ⟨z0, z1, z2, z3, z4⟩, ⟨y0, y1, y2, y3, y4⟩, hbf⟩ := Ha.req_facts m x y (.slice sa n c) w w3 hb3; clear hb3)
  exact bodyPost_ret (v := .tuple #[.agg #[.bool m, .bool false, .int .u32 x, .int .u32 y, .slice sa n c], .iface 99 (.pointer (some ⟨b, 0, none⟩))]) (by simp [results, Ybaf.results8, go_sem, z0, z1, z2, z3, z4]) rfl ⟨99, b, .inl rfl, rfl, Ha.below5 (unhide hbf) _ _ _ _ _⟩

set_option maxRecDepth 100000 in
set_option maxHeartbeats 1600000 in
theorem sync_scan (F : Interp) (m : Bool) (x y : Int) (sa : Option Addr) (n c : Nat) (pb pn pc : Nat) (ps : List (Ha.Pl × Value)) (w : World) (hF : F.answers w.tape)
    (hpn : ps.length = pn) (hpn' : pn ≤ 4096) (hpb : pb < w.heap.size) (hpat : Ha.At w pb (Ha.plCells ps)) (hbody : ∀ p ∈ ps, Ha.Body w w.heap.size p.1 p.2) (hscan : Ha.scan ps none = none) :
    Calls Ybaf.prog 8 #[.agg (Ha.own43 m x y (.slice sa n c)), .slice (some ⟨pb, 0, none⟩) pn pc] w (Ha.Refused w m true x y (.slice sa n c)) := by
  have hmf : ∀ (fn : Fn) (first cap : Array Value) (w : World), (Instr.makeFunc fn first cap).run Ybaf.prog w = .ok (.func fn first cap) w := fun _ _ _ _ => rfl
  have HW := hide (Ha.syncW_below m x y (.slice sa n c) w)
  have HEach := hide (each_bad F pb pn pc ps (w.heap.size + 1 + 1 + 1) (Ha.syncW m x y (.slice sa n c) w) (by rw [(unhide HW).tape]; exact hF) hpn hpn' (by omega) (hpat.below (unhide HW) hpb) (fun p hp => ((hbody p hp).below (unhide HW) (Nat.le_refl _)).lim (by omega)) (Ha.syncW_st _ _ _ _ _) hscan)
  have HO := hide (Ha.syncW_own m x y (.slice sa n c) w)
  have HR := hide (Ha.syncW_res m x y (.slice sa n c) w)
  have HFr := hide (Ha.syncW_free m x y (.slice sa n c) w)
  clear hpn hpat hbody hscan
  go_enter Ybaf.func8, Ybaf.ntmps8
  go_wp2_with (first
    | (go_at_call 15; refine (require_ok _ _).mono ?_; rintro e w' ⟨rfl, rfl⟩)
    | fail)
  refine (unhide HEach).mono ?_
  rintro r w5 ⟨t, b, ht, rfl, hb5⟩
  obtain ⟨o0, o1, o2, o3, o4⟩ := (unhide HO).below hb5 (by omega)
  obtain ⟨z0, z1, z2, z3, z4⟩ := (unhide HR).below hb5 (by omega)
  obtain ⟨y0, y1, y2, y3, y4⟩ := (unhide HFr).below hb5 (by omega)
  have HB5 := hide ((unhide HW).trans (hb5.mono (by omega)))
  clear HEach HO HR HFr HW hb5
  rcases ht with rfl | rfl
  · go_wp2
    exact bodyPost_ret (v := .tuple #[.agg (Ha.own43 m x y (.slice sa n c)), .iface 99 (.pointer (some ⟨b, 0, none⟩))]) (by simp [results, Ybaf.results8, go_sem, z0, z1, z2, z3, z4]) rfl ⟨99, b, .inl rfl, rfl, Ha.below5 (unhide HB5) _ _ _ _ _⟩
  · go_wp2
    exact bodyPost_ret (v := .tuple #[.agg (Ha.own43 m x y (.slice sa n c)), .iface 88 (.pointer (some ⟨b, 0, none⟩))]) (by simp [results, Ybaf.results8, go_sem, z0, z1, z2, z3, z4]) rfl ⟨88, b, .inr rfl, rfl, Ha.below5 (unhide HB5) _ _ _ _ _⟩

set_option maxRecDepth 100000 in
set_option maxHeartbeats 1600000 in
theorem sync_lacking (F : Interp) (m : Bool) (x y : Int) (sa : Option Addr) (n c : Nat) (pb pn pc : Nat) (ps : List (Ha.Pl × Value)) (w : World) (hF : F.answers w.tape)
    (hpn : ps.length = pn) (hpn' : pn ≤ 4096) (hpb : pb < w.heap.size) (hpat : Ha.At w pb (Ha.plCells ps)) (hbody : ∀ p ∈ ps, Ha.Body w w.heap.size p.1 p.2) (hscan : Ha.scan ps none = some none) :
    Calls Ybaf.prog 8 #[.agg (Ha.own43 m x y (.slice sa n c)), .slice (some ⟨pb, 0, none⟩) pn pc] w (Ha.Refused w m true x y (.slice sa n c)) := by
  have hmf : ∀ (fn : Fn) (first cap : Array Value) (w : World), (Instr.makeFunc fn first cap).run Ybaf.prog w = .ok (.func fn first cap) w := fun _ _ _ _ => rfl
  have HW := hide (Ha.syncW_below m x y (.slice sa n c) w)
  have HEach := hide (each_ok pb pn pc ps none (w.heap.size + 1 + 1 + 1) (Ha.syncW m x y (.slice sa n c) w) hpn hpn' (by omega) (hpat.below (unhide HW) hpb) (fun p hp => ((hbody p hp).below (unhide HW) (Nat.le_refl _)).lim (by omega)) (Ha.syncW_st _ _ _ _ _) hscan)
  have HO := hide (Ha.syncW_own m x y (.slice sa n c) w)
  have HR := hide (Ha.syncW_res m x y (.slice sa n c) w)
  have HFr := hide (Ha.syncW_free m x y (.slice sa n c) w)
  clear hpn hpat hbody hscan
  go_enter Ybaf.func8, Ybaf.ntmps8
  go_wp2_with (first
    | (go_at_call 15; refine (require_ok _ _).mono ?_; rintro e w' ⟨rfl, rfl⟩)
    | fail)
  refine (unhide HEach).mono ?_
  rintro r w5 ⟨rfl, ⟨hf5, hr5, hp5⟩, hb5⟩
  obtain ⟨o0, o1, o2, o3, o4⟩ := (unhide HO).below hb5 (by omega)
  have HR5 := hide ((unhide HR).below hb5 (by omega))
  have HF5 := hide ((unhide HFr).below hb5 (by omega))
  have HB5 := hide ((unhide HW).trans (hb5.mono (by omega)))
  have HN : Hid (∀ w2, Below w5.heap.size w5 w2 → ∀ (ms : ByteArray) (i : Int), Calls Ybaf.prog 21 #[.string ms, .int .i64 i, .int .u16 16423] w2 fun r w' => ∃ b, r = .returned (.iface 99 (.pointer (some ⟨b, 0, none⟩))) ∧
      Ha.Five w' w.heap.size (.bool m) (.bool true) (.int .u32 x) (.int .u32 y) (.slice sa n c) ∧ Ha.Five w' (w.heap.size + 1) (.bool false) (.bool false) (.int .u32 0) (.int .u32 0) (.slice none 0 0) ∧ Ha.Free5 w' (w.heap.size + 1) ∧ Hid (Below w.heap.size w w')) := by
    intro w2 hb2 ms i
    refine (nonotify_any F ms i 16423 w2 (by rw [hb2.tape, (unhide HB5).tape]; exact hF) (.inr (.inr rfl))).mono ?_
    rintro r w' ⟨b, hr, hb'⟩
    have h := hb2.trans (hb'.mono hb2.size)
    exact ⟨b, hr, (show Ha.Five w5 w.heap.size _ _ _ _ _ from ⟨o0, o1, o2, o3, o4⟩).below h (by omega), (unhide HR5).below h (by omega), (unhide HF5).below h (by omega), (unhide HB5).trans (h.mono (by omega))⟩
  clear HEach HO HR HFr HW hb5
  go_wp2_with fail
  have hne1 : ¬ w.heap.size + 1 = w.heap.size := by omega
  go_region_held3 (fun w' => w'.cell? ⟨w.heap.size, 0, none⟩ = some (.bool m) ∧ w'.cell? ⟨w.heap.size, 1, none⟩ = some (.bool true) ∧ w'.cell? ⟨w.heap.size, 2, none⟩ = some (.int .u32 x) ∧ w'.cell? ⟨w.heap.size, 3, none⟩ = some (.int .u32 y) ∧ w'.cell? ⟨w.heap.size, 4, none⟩ = some (.slice sa n c))
    (first | go_keep | exact ⟨o0, o1, o2, o3, o4⟩) ((go_at_call 21; refine (unhide HN _ (by first | exact Below.refl _ _ | exact (Below.refl _ _).drew) _ _).mono ?_; rintro r w7 ⟨b, rfl, ⟨o0, o1, o2, o3, o4⟩, ⟨z0, z1, z2, z3, z4⟩, ⟨y0, y1, y2, y3, y4⟩, hbf⟩))
  go_wp2
  exact bodyPost_ret (v := .tuple #[.agg (Ha.own43 m x y (.slice sa n c)), .iface 99 (.pointer (some ⟨b, 0, none⟩))]) (by simp [results, Ybaf.results8, go_sem, z0, z1, z2, z3, z4]) rfl ⟨99, b, .inl rfl, rfl, Ha.below5 (unhide hbf) _ _ _ _ _⟩

set_option maxRecDepth 100000 in
set_option maxHeartbeats 1600000 in
theorem sync_apply (m : Bool) (x y : Int) (sa : Option Addr) (n c : Nat) (pb pn pc : Nat) (ps : List (Ha.Pl × Value)) (d : Int) (e : Bool) (w : World)
    (hA : ∀ w2, Below w.heap.size w w2 → Calls Ybaf.prog 22 #[.agg #[.int .u64 d, .bool e], .slice sa n c] w2 fun r w' => ∃ x, r = .returned (.tuple #[.slice none 0 0, .iface 99 (.pointer (some ⟨x, 0, none⟩))]) ∧ Below w2.heap.size w2 w')
    (hpn : ps.length = pn) (hpn' : pn ≤ 4096) (hpb : pb < w.heap.size) (hpat : Ha.At w pb (Ha.plCells ps)) (hbody : ∀ p ∈ ps, Ha.Body w w.heap.size p.1 p.2) (hscan : Ha.scan ps none = some (some (d, e))) :
    Calls Ybaf.prog 8 #[.agg (Ha.own43 m x y (.slice sa n c)), .slice (some ⟨pb, 0, none⟩) pn pc] w (Ha.Refused w m true x y (.slice sa n c)) := by
  have hmf : ∀ (fn : Fn) (first cap : Array Value) (w : World), (Instr.makeFunc fn first cap).run Ybaf.prog w = .ok (.func fn first cap) w := fun _ _ _ _ => rfl
  have HW := hide (Ha.syncW_below m x y (.slice sa n c) w)
  have HEach := hide (each_ok pb pn pc ps (some (d, e)) (w.heap.size + 1 + 1 + 1) (Ha.syncW m x y (.slice sa n c) w) hpn hpn' (by omega) (hpat.below (unhide HW) hpb) (fun p hp => ((hbody p hp).below (unhide HW) (Nat.le_refl _)).lim (by omega)) (Ha.syncW_st _ _ _ _ _) hscan)
  have HA := hide hA
  have HO := hide (Ha.syncW_own m x y (.slice sa n c) w)
  have HR := hide (Ha.syncW_res m x y (.slice sa n c) w)
  have HFr := hide (Ha.syncW_free m x y (.slice sa n c) w)
  clear hpn hpat hbody hscan hA
  go_enter Ybaf.func8, Ybaf.ntmps8
  go_wp2_with (first
    | (go_at_call 15; refine (require_ok _ _).mono ?_; rintro e w' ⟨rfl, rfl⟩)
    | fail)
  refine (unhide HEach).mono ?_
  rintro r w5 ⟨rfl, hst5, hb5⟩
  obtain ⟨hf5, hr5, q, hp5, hq1, hq2, q0, q1⟩ := hst5
  obtain ⟨o0, o1, o2, o3, o4⟩ := (unhide HO).below hb5 (by omega)
  have HR5 := hide ((unhide HR).below hb5 (by omega))
  have HF5 := hide ((unhide HFr).below hb5 (by omega))
  have HB5 := hide ((unhide HW).trans (hb5.mono (by omega)))
  have hz5 : w.heap.size + 1 + 1 + 1 < w5.heap.size := hr5
  clear HEach HO HR HFr HW hb5
  have HAfter := hide (Ha.sync_after_bad m x y sa n c q d e w w5 hr5 hq2 hp5 q0 q1 ⟨o0, o1, o2, o3, o4⟩ (unhide HR5) (unhide HF5) (unhide HB5) (unhide HA))
  clear HR5 HF5 HB5 HA
  go_wp2_with fail
  obtain ⟨k0, k1, k2, k3, k4, HZ⟩ := unhide HAfter
  clear HAfter q0 q1 o0 o1 o2 o3 o4 hp5 hf5
  generalize w5.alloc (Obj.cells #[Value.bool m, Value.bool true, Value.int IntKind.u32 x, Value.int IntKind.u32 y, Value.slice sa n c] 43) = w6 at *
  have hne1 : ¬ w5.heap.size = q := by omega
  have hne2 : ¬ w5.heap.size = w.heap.size + 1 + 1 + 1 := by omega
  have hne3 : ¬ w5.heap.size = w.heap.size := by omega
  have hne4 : ¬ w5.heap.size = w.heap.size + 1 := by omega
  have hne5 : ¬ w.heap.size + 1 = w5.heap.size := by omega
  go_region_held3 (fun w' => w'.cell? ⟨w.heap.size + 1 + 1 + 1, 0, none⟩ = some (.pointer (some ⟨q, 0, none⟩)) ∧ w'.cell? ⟨q, 0, none⟩ = some (.int .u64 d) ∧ w'.cell? ⟨q, 1, none⟩ = some (.bool e) ∧ w'.cell? ⟨w.heap.size, 4, none⟩ = some (.slice sa n c))
    (first | go_keep | exact ⟨k0, k1, k2, k3⟩) ((go_at_call 22; refine (HZ _ (by first | exact Below.refl _ _ | exact (Below.refl _ _).drew)).mono ?_; rintro e w7 ⟨b, rfl, hbf, ⟨k0, k1, k2⟩, ⟨n0, n1, n2, n3, k3⟩, n4, f4, ⟨z0, z1, z2, z3, z4⟩, ⟨y0, y1, y2, y3, y4⟩⟩))
  go_wp2
  exact bodyPost_ret (v := .tuple #[.agg (Ha.own43 m x y (.slice sa n c)), .iface 99 (.pointer (some ⟨b, 0, none⟩))]) (by simp [results, Ybaf.results8, go_sem, z0, z1, z2, z3, z4]) rfl ⟨99, b, .inl rfl, rfl, Ha.below5 ((unhide hbf).setCell (by show w.heap.size ≤ w5.heap.size; omega) _) _ _ _ _ _⟩

end Go.Proofs.YbulkbwgiFmt
