/-
  zzs3635bpayload (7): the kinds whose order is drawn.
-/
import Derived.Test.YbulkbwgiFmtOPay
import Derived.Deep.RegionHeld3
namespace Go.Proofs.YbulkbwgiFmt
open Go.RowKit
open Ha (hide unhide)
set_option linter.unusedVariables false

namespace Ha
theorem wrap_three (ex : Int) (spi : Nat) (he0 : 0 ≤ ex) (hs : 1 + ex % 3 = (spi : Int)) : IntKind.i64.wrap (1 + IntKind.i64.wrap (ex.tmod 3)) = (spi : Int) := by
  rw [Int.tmod_eq_emod_of_nonneg he0, ← hs]
  simp [IntKind.wrap, IntKind.signed, IntKind.bits]
  omega
end Ha

set_option maxRecDepth 100000 in
set_option maxHeartbeats 800000 in
theorem pay_six (kd dl ex : Int) (w : World) (hk : kd % 8 = 6) (h0 : 0 ≤ dl) (h1 : dl ≤ 18446744073709551615) (hk0 : 0 ≤ kd) (hk1 : kd ≤ 255) (he0 : 0 ≤ ex) (he1 : ex ≤ 255) (spi : Nat) (hs : 1 + ex % 3 = (spi : Int)) :
    Calls Ybaf.prog 7 #[.agg #[.int .u8 kd, .int .u64 dl, .int .u8 ex]] w fun e w' => ∃ bv, e = .returned (.agg #[.int .u8 41, .bool false, bv]) ∧ Ha.OBody w' (w.heap.size + 1 + 1) (.note 16423 spi (Ha.beL 4 dl)) bv ∧ Below w.heap.size w w' := by
  have hsp : spi ≤ 3 := by omega
  have HB : Hid (∀ W, Below (w.heap.size + 1 + 1) (Ha.payW kd dl ex w) W → w.heap.size + 1 + 1 ≤ W.heap.size → _) := hide (fun W a b => Ha.pay_be kd dl ex 4 w W h0 h1 (by omega) a b)
  have HN : Hid (∀ (g : Nat) (w2 : World) (_ : Hid (w2.ownsRow (w.heap.size + 1 + 1) 5 1 (.slice (some ⟨g, 0, none⟩) 4 4) 4 ((Ha.beL 4 dl).map (Value.int .u8)))) (_ : Hid (Below (w.heap.size + 1 + 1) (Ha.payW kd dl ex w) w2)) (_ : Hid (w.heap.size + 1 + 1 ≤ w2.heap.size)), _) := hide (fun g w2 a b c => Ha.pay_notify kd dl ex 16423 spi g 4 (Ha.beL 4 dl) w w2 (by omega) (by omega) hsp (Ha.beL_length _ _) (by omega) (Ha.beL_bd _ _) (unhide a) (unhide b) (unhide c))
  have HN2 : Hid (∀ (g : Nat) (w2 : World), Hid (w2.ownsRow (w.heap.size + 1 + 1) 5 1 (.slice (some ⟨g, 0, none⟩) 4 4) 4 ((Ha.beL 4 dl).map (Value.int .u8))) → Hid (Below (w.heap.size + 1 + 1) (Ha.payW kd dl ex w) w2) → Hid (w.heap.size + 1 + 1 ≤ w2.heap.size) →
      Calls Ybaf.prog 10 #[.int .u16 16423, .int .i64 (IntKind.i64.wrap (1 + IntKind.i64.wrap (ex.tmod 3))), .slice (some ⟨g, 0, none⟩) 4 4] w2 fun e w3 => ∃ g3 n3, e = .returned (.agg #[.int .u8 41, .bool false, .slice (some ⟨g3, 0, none⟩) n3 n3]) ∧
      Hid (Ha.OBody w3 (w.heap.size + 1 + 1) (.note 16423 spi (Ha.beL 4 dl)) (.slice (some ⟨g3, 0, none⟩) n3 n3)) ∧ Hid (Below w.heap.size w w3) ∧ Ha.Box3 w3 w.heap.size kd dl ex ∧ Ha.Res3 w3 (w.heap.size + 1)) := by
    rw [Ha.wrap_three ex spi he0 hs]; exact HN
  clear HN hs
  go_enter Ybaf.func7, Ybaf.ntmps7
  go_wp2_with fail
  have HBW : Hid (Below (w.heap.size + 1 + 1) (Ha.payW kd dl ex w) ((w.alloc (.cells #[.int .u8 kd, .int .u64 dl, .int .u8 ex] 32)).alloc (.cells #[.int .u8 0, .bool false, .slice none 0 0] 36))) := hide (Below.refl _ _)
  have hsW : ((w.alloc (.cells #[.int .u8 kd, .int .u64 dl, .int .u8 ex] 32)).alloc (.cells #[.int .u8 0, .bool false, .slice none 0 0] 36)).heap.size = w.heap.size + 1 + 1 := by simp
  obtain ⟨⟨x0, x1, x2⟩, _⟩ := Ha.pay_facts kd dl ex w _ (unhide HBW)
  generalize (w.alloc (.cells #[.int .u8 kd, .int .u64 dl, .int .u8 ex] 32)).alloc (.cells #[.int .u8 0, .bool false, .slice none 0 0] 36) = W at *
  clear hk hk0 hk1 hsp
  go_region_held3 (fun w' => w'.cell? ⟨w.heap.size, 1, none⟩ = some (.int .u64 dl) ∧ w'.cell? ⟨w.heap.size, 2, none⟩ = some (.int .u8 ex)) (first | go_keep | exact ⟨x1, x2⟩)
    (first
      | (go_at_call 11; refine (unhide HB _ (by first | exact (unhide HBW).drew | exact unhide HBW) (by show _ ≤ W.heap.size; omega)).mono ?_; rintro e w2 ⟨g, rfl, ho2, hb2, hs2, ⟨x0, x1, x2⟩⟩)
      | (go_at_call 10; refine (unhide HN2 g w2 ho2 hb2 hs2).mono ?_; rintro e w3 ⟨g3, n3, rfl, ho3, hb3, ⟨x0, x1, x2⟩, ⟨z0, z1, z2, y0, y1, y2⟩⟩))
  go_wp2
  exact bodyPost_ret (v := .agg #[.int .u8 41, .bool false, .slice (some ⟨g3, 0, none⟩) n3 n3]) (by simp [results, Ybaf.results7, go_sem, z0, z1, z2]) rfl ⟨_, rfl, (unhide ho3).set3 _ _ _, Ha.below3 (unhide hb3) _ _ _⟩

namespace Ha
theorem pay_be_at (kd dl ex : Int) (n : Nat) (w W : World) (a : Addr) (v : Value) (h0 : 0 ≤ dl) (h1 : dl ≤ 18446744073709551615) (hn : n ≤ 16) (hb : Below (w.heap.size + 1 + 1) (payW kd dl ex w) W) (hs : w.heap.size + 1 + 1 ≤ W.heap.size) (ha : a.block < W.heap.size) (hv : W.cell? a = some v) :
    Calls Ybaf.prog 11 #[.int .u64 dl, .int .i64 (n : Int)] W fun e w2 => ∃ g, e = .returned (.slice (some ⟨g, 0, none⟩) n n) ∧ Hid (w2.ownsRow (w.heap.size + 1 + 1) 5 1 (.slice (some ⟨g, 0, none⟩) n n) n ((beL n dl).map (Value.int .u8))) ∧
      Hid (Below (w.heap.size + 1 + 1) (payW kd dl ex w) w2) ∧ Hid (w.heap.size + 1 + 1 ≤ w2.heap.size) ∧ Box3 w2 w.heap.size kd dl ex ∧ w2.cell? a = some v ∧ Hid (a.block < w2.heap.size) := by
  refine (be_any dl n W h0 h1 hn).mono ?_
  rintro e w2 ⟨he, ho, hb2⟩
  have hb3 := hb.trans (hb2.mono hs)
  exact ⟨_, he, row_base ho hs, hb3, Nat.le_trans hs hb2.size, (pay_facts kd dl ex w w2 hb3).1, (hb2.cell ha).trans hv, Nat.lt_of_lt_of_le ha hb2.size⟩
theorem pay_notify_at (kd dl ex typ : Int) (spi : Nat) (g n : Nat) (D : List Int) (w w2 : World) (a : Addr) (v : Value) (ht0 : 0 ≤ typ) (ht1 : typ ≤ 65535) (hspi : spi ≤ 3) (hD : D.length = n) (hn : n ≤ 16) (hDb : ∀ z ∈ D, 0 ≤ z ∧ z ≤ 255) (ho : w2.ownsRow (w.heap.size + 1 + 1) 5 1 (.slice (some ⟨g, 0, none⟩) n n) n (D.map (Value.int .u8))) (hb : Below (w.heap.size + 1 + 1) (payW kd dl ex w) w2) (hs : w.heap.size + 1 + 1 ≤ w2.heap.size) (ha : a.block < w2.heap.size) (hv : w2.cell? a = some v) :
    Calls Ybaf.prog 10 #[.int .u16 typ, .int .i64 (spi : Int), .slice (some ⟨g, 0, none⟩) n n] w2 fun e w3 => ∃ g3 n3, e = .returned (.agg #[.int .u8 41, .bool false, .slice (some ⟨g3, 0, none⟩) n3 n3]) ∧
      Hid (OBody w3 (w.heap.size + 1 + 1) (.note typ spi D) (.slice (some ⟨g3, 0, none⟩) n3 n3)) ∧ Hid (Below w.heap.size w w3) ∧ Box3 w3 w.heap.size kd dl ex ∧ Res3 w3 (w.heap.size + 1) ∧ w3.cell? a = some v := by
  refine (notify_body (w.heap.size + 1 + 1) typ spi (some ⟨g, 0, none⟩) n n D w2 ht0 ht1 hspi hD hn hDb hs (fun h => by cases h) (fun ad h => by cases h; exact (ho.lt g rfl).2) (fun ad h => by cases h; exact fun j u hj => by rw [at_add]; exact row_at ho j u hj)).mono ?_
  rintro e w3 ⟨g3, n3, he, ho3, hb3⟩
  have hb4 := hb.trans ((unhide hb3).mono hs)
  obtain ⟨f1, f2⟩ := pay_facts kd dl ex w w3 hb4
  exact ⟨g3, n3, he, ho3, (payW_below kd dl ex w).trans (hb4.mono (by omega)), f1, f2, ((unhide hb3).cell ha).trans hv⟩
end Ha

set_option maxRecDepth 100000 in
set_option maxHeartbeats 800000 in
theorem pay_seven (kd dl ex : Int) (w : World) (hk : kd % 8 = 7) (h0 : 0 ≤ dl) (h1 : dl ≤ 18446744073709551615) (hk0 : 0 ≤ kd) (hk1 : kd ≤ 255) (he0 : 0 ≤ ex) (he1 : ex ≤ 255) (j n : Nat) (hj : ex % 6 = (j : Int)) (hjn : (j = 0 ∧ n = 0) ∨ (j = 1 ∧ n = 1) ∨ (j = 2 ∧ n = 3) ∨ (j = 3 ∧ n = 5) ∨ (j = 4 ∧ n = 7) ∨ (j = 5 ∧ n = 9)) :
    Calls Ybaf.prog 7 #[.agg #[.int .u8 kd, .int .u64 dl, .int .u8 ex]] w fun e w' => ∃ bv, e = .returned (.agg #[.int .u8 41, .bool false, bv]) ∧ Ha.OBody w' (w.heap.size + 1 + 1) (.note 16423 0 (Ha.beL n dl)) bv ∧ Below w.heap.size w w' := by
  have hn16 : n ≤ 16 := by omega
  have HB : Hid (∀ W, Below (w.heap.size + 1 + 1) (Ha.payW kd dl ex w) W → w.heap.size + 1 + 1 ≤ W.heap.size → w.heap.size + 1 + 1 < W.heap.size → W.cell? ⟨w.heap.size + 1 + 1, j, none⟩ = some (.int .i64 (n : Int)) → _) := hide (fun W a b c d => Ha.pay_be_at kd dl ex n w W ⟨w.heap.size + 1 + 1, j, none⟩ (.int .i64 (n : Int)) h0 h1 hn16 a b c d)
  have HN : Hid (∀ (g : Nat) (w2 : World) (_ : Hid (w2.ownsRow (w.heap.size + 1 + 1) 5 1 (.slice (some ⟨g, 0, none⟩) n n) n ((Ha.beL n dl).map (Value.int .u8)))) (_ : Hid (Below (w.heap.size + 1 + 1) (Ha.payW kd dl ex w) w2)) (_ : Hid (w.heap.size + 1 + 1 ≤ w2.heap.size)) (_ : Hid (w.heap.size + 1 + 1 < w2.heap.size)) (_ : w2.cell? ⟨w.heap.size + 1 + 1, j, none⟩ = some (.int .i64 (n : Int))), _) := hide (fun g w2 a b c d e => Ha.pay_notify_at kd dl ex 16423 0 g n (Ha.beL n dl) w w2 ⟨w.heap.size + 1 + 1, j, none⟩ (.int .i64 (n : Int)) (by omega) (by omega) (by omega) (Ha.beL_length _ _) hn16 (Ha.beL_bd _ _) (unhide a) (unhide b) (unhide c) (unhide d) e)
  go_enter Ybaf.func7, Ybaf.ntmps7
  go_wp2_with fail
  have HBW : Hid (Below (w.heap.size + 1 + 1) (Ha.payW kd dl ex w) (((w.alloc (.cells #[.int .u8 kd, .int .u64 dl, .int .u8 ex] 32)).alloc (.cells #[.int .u8 0, .bool false, .slice none 0 0] 36)).alloc (.cells #[.int .i64 0, .int .i64 1, .int .i64 3, .int .i64 5, .int .i64 7, .int .i64 9] 62))) := hide ((Below.refl _ _).alloc (by simp) _)
  have hsW : w.heap.size + 1 + 1 < (((w.alloc (.cells #[.int .u8 kd, .int .u64 dl, .int .u8 ex] 32)).alloc (.cells #[.int .u8 0, .bool false, .slice none 0 0] 36)).alloc (.cells #[.int .i64 0, .int .i64 1, .int .i64 3, .int .i64 5, .int .i64 7, .int .i64 9] 62)).heap.size := by simp
  obtain ⟨⟨x0, x1, x2⟩, _⟩ := Ha.pay_facts kd dl ex w _ (unhide HBW)
  have hL : (((w.alloc (.cells #[.int .u8 kd, .int .u64 dl, .int .u8 ex] 32)).alloc (.cells #[.int .u8 0, .bool false, .slice none 0 0] 36)).alloc (.cells #[.int .i64 0, .int .i64 1, .int .i64 3, .int .i64 5, .int .i64 7, .int .i64 9] 62)).cell? ⟨w.heap.size + 1 + 1, j, none⟩ = some (.int .i64 (n : Int)) := by
    rcases hjn with ⟨rfl, rfl⟩ | ⟨rfl, rfl⟩ | ⟨rfl, rfl⟩ | ⟨rfl, rfl⟩ | ⟨rfl, rfl⟩ | ⟨rfl, rfl⟩ <;> go_simp
  generalize ((w.alloc (.cells #[.int .u8 kd, .int .u64 dl, .int .u8 ex] 32)).alloc (.cells #[.int .u8 0, .bool false, .slice none 0 0] 36)).alloc (.cells #[.int .i64 0, .int .i64 1, .int .i64 3, .int .i64 5, .int .i64 7, .int .i64 9] 62) = W at *
  have hwx : IntKind.i64.wrap ex = ex := by simp [IntKind.wrap, IntKind.signed, IntKind.bits]; omega
  have htm : ex.tmod 6 = (j : Int) := by rw [Int.tmod_eq_emod_of_nonneg he0]; exact hj
  have hwj : IntKind.i64.wrap (j : Int) = (j : Int) := by simp [IntKind.wrap, IntKind.signed, IntKind.bits]; omega
  have hj6 : (j : Int) < 6 := by omega
  have hj6' : j < 6 := by omega
  clear hk hk0 hk1 hjn hj
  go_region_held3 (fun w' => w'.cell? ⟨w.heap.size, 1, none⟩ = some (.int .u64 dl) ∧ w'.cell? ⟨w.heap.size, 2, none⟩ = some (.int .u8 ex) ∧ w'.cell? ⟨w.heap.size + 1 + 1, j, none⟩ = some (.int .i64 (n : Int))) (first | go_keep | exact ⟨x1, x2, hL⟩)
    (first
      | (go_at_call 11; refine (unhide HB _ (by first | exact (unhide HBW).drew | exact unhide HBW) (by show _ ≤ W.heap.size; omega) (by show _ < W.heap.size; omega) (by exact hL)).mono ?_; rintro e w2 ⟨g, rfl, ho2, hb2, hs2, ⟨x0, x1, x2⟩, hL, ha2⟩)
      | (go_at_call 10; refine (unhide HN g w2 ho2 hb2 hs2 ha2 hL).mono ?_; rintro e w3 ⟨g3, n3, rfl, ho3, hb3, ⟨x0, x1, x2⟩, ⟨z0, z1, z2, y0, y1, y2⟩, hL⟩))
  go_wp2
  exact bodyPost_ret (v := .agg #[.int .u8 41, .bool false, .slice (some ⟨g3, 0, none⟩) n3 n3]) (by simp [results, Ybaf.results7, go_sem, z0, z1, z2]) rfl ⟨_, rfl, (unhide ho3).set3 _ _ _, Ha.below3 (unhide hb3) _ _ _⟩

end Go.Proofs.YbulkbwgiFmt
