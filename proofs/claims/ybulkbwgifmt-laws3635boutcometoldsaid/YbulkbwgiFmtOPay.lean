/-
  zzs3635bpayload (7): each kind of payload.
-/
import Derived.Test.YbulkbwgiFmtHPays
namespace Go.Proofs.YbulkbwgiFmt
open Go.RowKit
open Ha (hide unhide)
set_option linter.unusedVariables false

namespace Ha
abbrev payW (kd dl ex : Int) (w : World) : World := (w.alloc (.cells #[.int .u8 kd, .int .u64 dl, .int .u8 ex] 32)).alloc o36
theorem payW_size (kd dl ex : Int) (w : World) : (payW kd dl ex w).heap.size = w.heap.size + 1 + 1 := by simp
theorem payW_below (kd dl ex : Int) (w : World) : Below w.heap.size w (payW kd dl ex w) := ((Below.refl _ w).alloc (Nat.le_refl _) _).alloc (by simp) _
/-- The step's three cells. -/
def Box3 (w : World) (g : Nat) (kd dl ex : Int) : Prop := w.cell? ⟨g, 0, none⟩ = some (.int .u8 kd) ∧ w.cell? ⟨g, 1, none⟩ = some (.int .u64 dl) ∧ w.cell? ⟨g, 2, none⟩ = some (.int .u8 ex)
/-- The result's three cells, as they are laid, not frozen. -/
def Res3 (w : World) (g : Nat) : Prop := w.cell? ⟨g, 0, none⟩ = some (.int .u8 0) ∧ w.cell? ⟨g, 1, none⟩ = some (.bool false) ∧ w.cell? ⟨g, 2, none⟩ = some (.slice none 0 0) ∧ w.frozen? ⟨g, 0, none⟩ = false ∧ w.frozen? ⟨g, 1, none⟩ = false ∧ w.frozen? ⟨g, 2, none⟩ = false
theorem pay_facts (kd dl ex : Int) (w w1 : World) (hb : Below (w.heap.size + 1 + 1) (payW kd dl ex w) w1) : Box3 w1 w.heap.size kd dl ex ∧ Res3 w1 (w.heap.size + 1) := by
  refine ⟨⟨?_, ?_, ?_⟩, ⟨?_, ?_, ?_, ?_, ?_, ?_⟩⟩
  · exact (hb.cell (p := ⟨w.heap.size, 0, none⟩) (by show w.heap.size < _; omega)).trans (by go_simp)
  · exact (hb.cell (p := ⟨w.heap.size, 1, none⟩) (by show w.heap.size < _; omega)).trans (by go_simp)
  · exact (hb.cell (p := ⟨w.heap.size, 2, none⟩) (by show w.heap.size < _; omega)).trans (by go_simp)
  · exact (hb.cell (p := ⟨w.heap.size + 1, 0, none⟩) (by simp)).trans (by go_simp)
  · exact (hb.cell (p := ⟨w.heap.size + 1, 1, none⟩) (by simp)).trans (by go_simp)
  · exact (hb.cell (p := ⟨w.heap.size + 1, 2, none⟩) (by simp)).trans (by go_simp)
  · exact (hb.frozen (p := ⟨w.heap.size + 1, 0, none⟩) (by simp)).trans (by go_simp)
  · exact (hb.frozen (p := ⟨w.heap.size + 1, 1, none⟩) (by simp)).trans (by go_simp)
  · exact (hb.frozen (p := ⟨w.heap.size + 1, 2, none⟩) (by simp)).trans (by go_simp)
theorem OBody.set {w : World} {B : Nat} {p : Pl} {v : Value} (h : OBody w B p v) {a : Addr} (ha : a.block < B) (u : Value) : OBody (w.setCell a u) B p v := by
  match p, h with
  | .other t, h => exact h
  | .note typ spi D, ⟨gb, h1, h2, h3⟩ => exact ⟨gb, h1, ownsRow_setCell_below h2 ha u, h3⟩
  | .bad L, ⟨gb, h1, h2, h3⟩ => exact ⟨gb, h1, ownsRow_setCell_below h2 ha u, h3⟩
theorem OBody.base {w : World} {B B' : Nat} {p : Pl} {v : Value} (h : OBody w B p v) (hB : B' ≤ B) : OBody w B' p v := by
  match p, h with
  | .other t, h => exact h
  | .note typ spi D, ⟨gb, h1, h2, h3⟩ => exact ⟨gb, h1, row_base h2 hB, h3⟩
  | .bad L, ⟨gb, h1, h2, h3⟩ => exact ⟨gb, h1, row_base h2 hB, h3⟩
theorem OBody.set3 {w : World} {g : Nat} {p : Pl} {v : Value} (h : OBody w (g + 1 + 1) p v) (a b c : Value) : OBody (((w.setCell ⟨g + 1, 0, none⟩ a).setCell ⟨g + 1, 1, none⟩ b).setCell ⟨g + 1, 2, none⟩ c) (g + 1 + 1) p v :=
  ((h.set (by simp) _).set (by simp) _).set (by simp) _
theorem below3 {w w' : World} (h : Below w.heap.size w w') (a b c : Value) : Below w.heap.size w (((w'.setCell ⟨w.heap.size + 1, 0, none⟩ a).setCell ⟨w.heap.size + 1, 1, none⟩ b).setCell ⟨w.heap.size + 1, 2, none⟩ c) :=
  ((h.setCell (by simp) _).setCell (by simp) _).setCell (by simp) _
/-- The call of zzs3635bbe inside zzs3635bpayload. -/
theorem pay_be (kd dl ex : Int) (n : Nat) (w W : World) (h0 : 0 ≤ dl) (h1 : dl ≤ 18446744073709551615) (hn : n ≤ 16) (hb : Below (w.heap.size + 1 + 1) (payW kd dl ex w) W) (hs : w.heap.size + 1 + 1 ≤ W.heap.size) :
    Calls Ybaf.prog 11 #[.int .u64 dl, .int .i64 (n : Int)] W fun e w2 => ∃ g, e = .returned (.slice (some ⟨g, 0, none⟩) n n) ∧ Hid (w2.ownsRow (w.heap.size + 1 + 1) 5 1 (.slice (some ⟨g, 0, none⟩) n n) n ((beL n dl).map (Value.int .u8))) ∧
      Hid (Below (w.heap.size + 1 + 1) (payW kd dl ex w) w2) ∧ Hid (w.heap.size + 1 + 1 ≤ w2.heap.size) ∧ Box3 w2 w.heap.size kd dl ex := by
  refine (be_any dl n W h0 h1 hn).mono ?_
  rintro e w2 ⟨he, ho, hb2⟩
  have hb3 := hb.trans (hb2.mono hs)
  exact ⟨_, he, row_base ho hs, hb3, Nat.le_trans hs hb2.size, (pay_facts kd dl ex w w2 hb3).1⟩
/-- The call of zzs3635bnotify behind it. -/
theorem pay_notify (kd dl ex typ : Int) (spi : Nat) (g n : Nat) (D : List Int) (w w2 : World) (ht0 : 0 ≤ typ) (ht1 : typ ≤ 65535) (hspi : spi ≤ 3) (hD : D.length = n) (hn : n ≤ 16) (hDb : ∀ z ∈ D, 0 ≤ z ∧ z ≤ 255) (ho : w2.ownsRow (w.heap.size + 1 + 1) 5 1 (.slice (some ⟨g, 0, none⟩) n n) n (D.map (Value.int .u8))) (hb : Below (w.heap.size + 1 + 1) (payW kd dl ex w) w2) (hs : w.heap.size + 1 + 1 ≤ w2.heap.size) :
    Calls Ybaf.prog 10 #[.int .u16 typ, .int .i64 (spi : Int), .slice (some ⟨g, 0, none⟩) n n] w2 fun e w3 => ∃ g3 n3, e = .returned (.agg #[.int .u8 41, .bool false, .slice (some ⟨g3, 0, none⟩) n3 n3]) ∧
      Hid (OBody w3 (w.heap.size + 1 + 1) (.note typ spi D) (.slice (some ⟨g3, 0, none⟩) n3 n3)) ∧ Hid (Below w.heap.size w w3) ∧ Box3 w3 w.heap.size kd dl ex ∧ Res3 w3 (w.heap.size + 1) := by
  refine (notify_body (w.heap.size + 1 + 1) typ spi (some ⟨g, 0, none⟩) n n D w2 ht0 ht1 hspi hD hn hDb hs (fun h => by cases h) (fun ad h => by cases h; exact (ho.lt g rfl).2) (fun ad h => by cases h; exact fun j u hj => by rw [at_add]; exact row_at ho j u hj)).mono ?_
  rintro e w3 ⟨g3, n3, he, ho3, hb3⟩
  have hb4 := hb.trans ((unhide hb3).mono hs)
  obtain ⟨f1, f2⟩ := pay_facts kd dl ex w w3 hb4
  exact ⟨g3, n3, he, ho3, (payW_below kd dl ex w).trans (hb4.mono (by omega)), f1, f2⟩
theorem row_new (w : World) (g : Nat) (hg : g = w.heap.size) (base : Nat) (hb : base ≤ w.heap.size) (xs : List Value) (hx : xs.length ≤ 4096) (e : TypeId) : (w.alloc (.cells xs.toArray e)).ownsRow base e 1 (.slice (some ⟨g, 0, none⟩) xs.length xs.length) xs.length xs := by
  subst hg
  refine ⟨by simp, .inr ⟨w.heap.size, xs.length, xs.toArray, rfl, hb, ?_, Nat.le_refl _, by unfold maxLen; omega, by simp, by simp⟩⟩
  show (w.heap.push _)[w.heap.size]? = _
  simp
theorem pay_one (kd dl ex : Int) (w : World) (he0 : 0 ≤ ex) (he1 : ex ≤ 255) :
    Calls Ybaf.prog 10 #[.int .u16 ex, .int .i64 0, .slice (some ⟨w.heap.size + 1 + 1, 0, none⟩) 1 1] ((payW kd dl ex w).alloc (.cells #[.int .u8 ex] 5)) fun e w3 => ∃ g3 n3, e = .returned (.agg #[.int .u8 41, .bool false, .slice (some ⟨g3, 0, none⟩) n3 n3]) ∧
      Hid (OBody w3 (w.heap.size + 1 + 1) (.note ex 0 [ex]) (.slice (some ⟨g3, 0, none⟩) n3 n3)) ∧ Hid (Below w.heap.size w w3) ∧ Box3 w3 w.heap.size kd dl ex ∧ Res3 w3 (w.heap.size + 1) :=
  pay_notify kd dl ex ex 0 (w.heap.size + 1 + 1) 1 [ex] w _ (by omega) (by omega) (by omega) rfl (by omega) (fun z hz => by simp at hz; omega) (row_new (payW kd dl ex w) _ (by simp) _ (by simp) [.int .u8 ex] (by simp) 5) ((Below.refl _ _).alloc (by simp) _) (by simp)
theorem obody_zero (w1 : World) (B g m : Nat) (h : w1.ownsRow B 5 1 (.slice (some ⟨g, 0, none⟩) m m) m ((List.replicate m (0 : Int)).map (Value.int .u8))) (hm : m < 4) : OBody w1 B (.bad (List.replicate m 0)) (.slice (some ⟨g, 0, none⟩) m m) := by
  have hl : (List.replicate m (0 : Int)).length = m := by simp
  refine ⟨g, by rw [hl], ?_, .inl (by rw [hl]; exact hm)⟩
  rw [hl]; exact h
theorem pay_refl (kd dl ex : Int) (w : World) : Below (w.heap.size + 1 + 1) (payW kd dl ex w) (payW kd dl ex w) := Below.refl _ _
end Ha


set_option maxRecDepth 100000 in
set_option maxHeartbeats 800000 in
theorem pay_one (kd dl ex : Int) (w : World) (hk : kd % 8 = 1) (h0 : 0 ≤ dl) (h1 : dl ≤ 18446744073709551615) (hk0 : 0 ≤ kd) (hk1 : kd ≤ 255) (he0 : 0 ≤ ex) (he1 : ex ≤ 255) :
    Calls Ybaf.prog 7 #[.agg #[.int .u8 kd, .int .u64 dl, .int .u8 ex]] w fun e w' => ∃ bv, e = .returned (.agg #[.int .u8 41, .bool false, bv]) ∧ Ha.OBody w' (w.heap.size + 1 + 1) (.note 16423 0 (Ha.beL 4 dl)) bv ∧ Below w.heap.size w w' := by
  go_enter Ybaf.func7, Ybaf.ntmps7
  go_wp2_with (first
    | (go_at_call 11; refine (Ha.pay_be kd dl ex 4 w _ h0 h1 (by omega) (Ha.pay_refl kd dl ex w) (by simp)).mono ?_; rintro e w2 ⟨g, rfl, ho2, hb2, hs2, hx2⟩; clear hx2)
    | (go_at_call 10; refine (Ha.pay_notify kd dl ex 16423 0 g 4 (Ha.beL 4 dl) w w2 (by omega) (by omega) (by omega) (Ha.beL_length _ _) (by omega) (Ha.beL_bd _ _) (unhide ho2) (unhide hb2) (unhide hs2)).mono ?_; rintro e w3 ⟨g3, n3, rfl, ho3, hb3, hx3, ⟨z0, z1, z2, y0, y1, y2⟩⟩; clear hx3))
  exact bodyPost_ret (v := .agg #[.int .u8 41, .bool false, .slice (some ⟨g3, 0, none⟩) n3 n3]) (by simp [results, Ybaf.results7, go_sem, z0, z1, z2]) rfl ⟨_, rfl, (unhide ho3).set3 _ _ _, Ha.below3 (unhide hb3) _ _ _⟩


set_option maxRecDepth 100000 in
set_option maxHeartbeats 800000 in
theorem pay_two (kd dl ex : Int) (w : World) (hk : kd % 8 = 2) (h0 : 0 ≤ dl) (h1 : dl ≤ 18446744073709551615) (hk0 : 0 ≤ kd) (hk1 : kd ≤ 255) (he0 : 0 ≤ ex) (he1 : ex ≤ 255) :
    Calls Ybaf.prog 7 #[.agg #[.int .u8 kd, .int .u64 dl, .int .u8 ex]] w fun e w' => ∃ bv, e = .returned (.agg #[.int .u8 41, .bool false, bv]) ∧ Ha.OBody w' (w.heap.size + 1 + 1) (.note 16423 0 (Ha.beL 8 dl)) bv ∧ Below w.heap.size w w' := by
  go_enter Ybaf.func7, Ybaf.ntmps7
  go_wp2_with (first
    | (go_at_call 11; refine (Ha.pay_be kd dl ex 8 w _ h0 h1 (by omega) (Ha.pay_refl kd dl ex w) (by simp)).mono ?_; rintro e w2 ⟨g, rfl, ho2, hb2, hs2, hx2⟩; clear hx2)
    | (go_at_call 10; refine (Ha.pay_notify kd dl ex 16423 0 g 8 (Ha.beL 8 dl) w w2 (by omega) (by omega) (by omega) (Ha.beL_length _ _) (by omega) (Ha.beL_bd _ _) (unhide ho2) (unhide hb2) (unhide hs2)).mono ?_; rintro e w3 ⟨g3, n3, rfl, ho3, hb3, hx3, ⟨z0, z1, z2, y0, y1, y2⟩⟩; clear hx3))
  exact bodyPost_ret (v := .agg #[.int .u8 41, .bool false, .slice (some ⟨g3, 0, none⟩) n3 n3]) (by simp [results, Ybaf.results7, go_sem, z0, z1, z2]) rfl ⟨_, rfl, (unhide ho3).set3 _ _ _, Ha.below3 (unhide hb3) _ _ _⟩


set_option maxRecDepth 100000 in
set_option maxHeartbeats 800000 in
theorem pay_three (kd dl ex : Int) (w : World) (hk : kd % 8 = 3) (h0 : 0 ≤ dl) (h1 : dl ≤ 18446744073709551615) (hk0 : 0 ≤ kd) (hk1 : kd ≤ 255) (he0 : 0 ≤ ex) (he1 : ex ≤ 255) :
    Calls Ybaf.prog 7 #[.agg #[.int .u8 kd, .int .u64 dl, .int .u8 ex]] w fun e w' => ∃ bv, e = .returned (.agg #[.int .u8 41, .bool false, bv]) ∧ Ha.OBody w' (w.heap.size + 1 + 1) (.note 16422 0 (Ha.beL 12 dl)) bv ∧ Below w.heap.size w w' := by
  go_enter Ybaf.func7, Ybaf.ntmps7
  go_wp2_with (first
    | (go_at_call 11; refine (Ha.pay_be kd dl ex 12 w _ h0 h1 (by omega) (Ha.pay_refl kd dl ex w) (by simp)).mono ?_; rintro e w2 ⟨g, rfl, ho2, hb2, hs2, hx2⟩; clear hx2)
    | (go_at_call 10; refine (Ha.pay_notify kd dl ex 16422 0 g 12 (Ha.beL 12 dl) w w2 (by omega) (by omega) (by omega) (Ha.beL_length _ _) (by omega) (Ha.beL_bd _ _) (unhide ho2) (unhide hb2) (unhide hs2)).mono ?_; rintro e w3 ⟨g3, n3, rfl, ho3, hb3, hx3, ⟨z0, z1, z2, y0, y1, y2⟩⟩; clear hx3))
  exact bodyPost_ret (v := .agg #[.int .u8 41, .bool false, .slice (some ⟨g3, 0, none⟩) n3 n3]) (by simp [results, Ybaf.results7, go_sem, z0, z1, z2]) rfl ⟨_, rfl, (unhide ho3).set3 _ _ _, Ha.below3 (unhide hb3) _ _ _⟩


set_option maxRecDepth 100000 in
set_option maxHeartbeats 800000 in
theorem pay_zero (kd dl ex : Int) (w : World) (hk : kd % 8 = 0) (h0 : 0 ≤ dl) (h1 : dl ≤ 18446744073709551615) (hk0 : 0 ≤ kd) (hk1 : kd ≤ 255) (he0 : 0 ≤ ex) (he1 : ex ≤ 255) :
    Calls Ybaf.prog 7 #[.agg #[.int .u8 kd, .int .u64 dl, .int .u8 ex]] w fun e w' => ∃ bv, e = .returned (.agg #[.int .u8 33, .bool false, bv]) ∧ Ha.OBody w' (w.heap.size + 1 + 1) (.other 33) bv ∧ Below w.heap.size w w' := by
  go_enter Ybaf.func7, Ybaf.ntmps7
  go_wp2
  exact bodyPost_ret (v := .agg #[.int .u8 33, .bool false, .slice (some ⟨w.heap.size + 1 + 1, 0, none⟩) 3 3]) (by simp [results, Ybaf.results7, go_sem]) rfl ⟨_, rfl, ⟨by decide, _, _, _, rfl⟩, (((Below.refl _ w).alloc (Nat.le_refl _) _).alloc (by simp) _).alloc (by simp; omega) _⟩


set_option maxRecDepth 100000 in
set_option maxHeartbeats 800000 in
theorem pay_five_odd (kd dl ex : Int) (w : World) (hk : kd % 8 = 5) (h0 : 0 ≤ dl) (h1 : dl ≤ 18446744073709551615) (hk0 : 0 ≤ kd) (hk1 : kd ≤ 255) (he0 : 0 ≤ ex) (he1 : ex ≤ 255) (hx : ex % 2 = 1) :
    Calls Ybaf.prog 7 #[.agg #[.int .u8 kd, .int .u64 dl, .int .u8 ex]] w fun e w' => ∃ bv, e = .returned (.agg #[.int .u8 41, .bool false, bv]) ∧ Ha.OBody w' (w.heap.size + 1 + 1) (.bad [0, 10, 64, 39]) bv ∧ Below w.heap.size w w' := by
  go_enter Ybaf.func7, Ybaf.ntmps7
  go_wp2
  refine bodyPost_ret (v := .agg #[.int .u8 41, .bool false, .slice (some ⟨w.heap.size + 1 + 1, 0, none⟩) 4 4]) (by simp [results, Ybaf.results7, go_sem]) rfl ⟨_, rfl, ⟨_, rfl, ?_, .inr rfl⟩, (((Below.refl _ w).alloc (Nat.le_refl _) _).alloc (by simp) _).alloc (by simp; omega) _⟩
  exact Ha.row_new _ _ (by simp) _ (by simp) [.int .u8 0, .int .u8 10, .int .u8 64, .int .u8 39] (by simp) 5


set_option maxRecDepth 100000 in
set_option maxHeartbeats 800000 in
theorem pay_four (kd dl ex : Int) (w : World) (hk : kd % 8 = 4) (h0 : 0 ≤ dl) (h1 : dl ≤ 18446744073709551615) (hk0 : 0 ≤ kd) (hk1 : kd ≤ 255) (he0 : 0 ≤ ex) (he1 : ex ≤ 255) :
    Calls Ybaf.prog 7 #[.agg #[.int .u8 kd, .int .u64 dl, .int .u8 ex]] w fun e w' => ∃ bv, e = .returned (.agg #[.int .u8 41, .bool false, bv]) ∧ Ha.OBody w' (w.heap.size + 1 + 1) (.note ex 0 [ex]) bv ∧ Below w.heap.size w w' := by
  have HC := hide (Ha.pay_one kd dl ex w he0 he1)
  go_enter Ybaf.func7, Ybaf.ntmps7
  go_wp2_with (go_at_call 10; refine (unhide HC).mono ?_; rintro e w3 ⟨g3, n3, rfl, ho3, hb3, hx3, ⟨z0, z1, z2, y0, y1, y2⟩⟩; clear hx3)
  exact bodyPost_ret (v := .agg #[.int .u8 41, .bool false, .slice (some ⟨g3, 0, none⟩) n3 n3]) (by simp [results, Ybaf.results7, go_sem, z0, z1, z2]) rfl ⟨_, rfl, (unhide ho3).set3 _ _ _, Ha.below3 (unhide hb3) _ _ _⟩


set_option maxRecDepth 100000 in
set_option maxHeartbeats 800000 in
theorem pay_five_even (kd dl ex : Int) (w : World) (hk : kd % 8 = 5) (h0 : 0 ≤ dl) (h1 : dl ≤ 18446744073709551615) (hk0 : 0 ≤ kd) (hk1 : kd ≤ 255) (he0 : 0 ≤ ex) (he1 : ex ≤ 255) (hx : ex % 2 = 0) (m : Nat) (hm : ex / 2 % 4 = (m : Int)) :
    Calls Ybaf.prog 7 #[.agg #[.int .u8 kd, .int .u64 dl, .int .u8 ex]] w fun e w' => ∃ bv, e = .returned (.agg #[.int .u8 41, .bool false, bv]) ∧ Ha.OBody w' (w.heap.size + 1 + 1) (.bad (List.replicate m 0)) bv ∧ Below w.heap.size w w' := by
  obtain ⟨i0, hi, hz0, hz1, hz2⟩ := info_parts Ha.info5
  go_enter Ybaf.func7, Ybaf.ntmps7
  go_wp2_with (at_make; refine wpList_make_full _ rfl _ _ 34 rfl (w.heap.size + 1 + 1) 5 i0 (.int .u8 0) 1 Ybaf.underlying34 hi hz0 hz1 _ _ _ _ m rfl rfl rfl rfl ?b1 ?b2 ?b3 ?_)
  case b1 => rw [hz2]; omega
  case b2 => unfold maxLen; omega
  case b3 => simp
  intro w1 hown1 hgrow1
  have hbp : Below (w.heap.size + 1 + 1) (Ha.payW kd dl ex w) w1 := (Below.refl _ _).grown hgrow1 (by simp) (by intro k hk; cases hk)
  obtain ⟨-, z0, z1, z2, y0, y1, y2⟩ := Ha.pay_facts kd dl ex w w1 hbp
  have hbf := hide ((Ha.payW_below kd dl ex w).trans (hbp.mono (by omega)))
  rw [Ha.made_u8] at hown1
  have HO : Hid (Ha.OBody w1 (w.heap.size + 1 + 1) (.bad (List.replicate m 0)) (.slice (some ⟨w.heap.size + 1 + 1, 0, none⟩) m m)) := Ha.obody_zero w1 _ _ m hown1 (by omega)
  clear hgrow1 hbp hown1
  go_wp2
  exact bodyPost_ret (v := .agg #[.int .u8 41, .bool false, .slice (some ⟨w.heap.size + 1 + 1, 0, none⟩) m m]) (by simp [results, Ybaf.results7, go_sem, z0, z1, z2]) rfl ⟨_, rfl, (unhide HO).set3 _ _ _, Ha.below3 (unhide hbf) _ _ _⟩

end Go.Proofs.YbulkbwgiFmt
