/-
  zzs3635bnotify (10).
-/
import Derived.Test.YbulkbwgiFmtHLeaf
namespace Go.Proofs.YbulkbwgiFmt
open Go.RowKit
open Ha (hide unhide)

namespace Ha
/-- The octets 1, 2, .., k. -/
def upL (k : Nat) : List Int := (List.range k).map fun (i : Nat) => (i : Int) + 1
theorem upL_succ (k : Nat) : upL (k + 1) = upL k ++ [(k : Int) + 1] := by simp [upL, List.range_succ]
theorem upL_length (k : Nat) : (upL k).length = k := by simp [upL]
/-- The head of a notify body. -/
def hdL (typ : Int) (spi : Nat) : List Int := [0, (spi : Int), typ / 256, typ % 256]
/-- A result's slot of the type Payload. -/
abbrev o36 : Obj := .cells #[.int .u8 0, .bool false, .slice none 0 0] 36
/-- A notify body. -/
def bodyL (typ : Int) (spi : Nat) (D : List Int) : List Int := hdL typ spi ++ upL spi ++ D
theorem bodyL_length (typ : Int) (spi : Nat) (D : List Int) : (bodyL typ spi D).length = 4 + spi + D.length := by simp [bodyL, hdL, upL_length]; omega
end Ha

set_option maxRecDepth 100000 in
set_option maxHeartbeats 800000 in
theorem notify_any (typ : Int) (spi : Nat) (ao : Option Addr) (m c : Nat) (D : List Int) (w : World) (ht0 : 0 ≤ typ) (ht1 : typ ≤ 65535) (hs : spi ≤ 3) (hD : D.length = m) (hm : m ≤ 16)
    (hnone : ao = none → m = 0 ∧ c = 0) (hlt : ∀ ad, ao = some ad → ad.block < w.heap.size) (hc : ∀ ad, ao = some ad → ∀ j u, (D.map (Value.int .u8))[j]? = some u → w.cell? (ad.add j) = some u) :
    Calls Ybaf.prog 10 #[.int .u16 typ, .int .i64 (spi : Int), .slice ao m c] w fun e w' =>
      e = .returned (.agg #[.int .u8 41, .bool false, .slice (some ⟨w.heap.size + 1, 0, none⟩) (4 + spi + m) (4 + spi + m)]) ∧
      w'.ownsRow (w.heap.size + 1) 5 1 (.slice (some ⟨w.heap.size + 1, 0, none⟩) (4 + spi + m) (4 + spi + m)) (4 + spi + m) ((Ha.bodyL typ spi D).map (Value.int .u8)) ∧ Below w.heap.size w w' := by
  obtain ⟨i0, hi, hz0, hz1, hz2⟩ := info_parts Ha.info5
  have Hc := hide hc
  have Hlt := hide hlt
  have Hnone := hide hnone
  clear hc hlt hnone
  go_enter Ybaf.func10, Ybaf.ntmps10
  go_wp2_with (at_make; refine wpList_make_own _ rfl _ _ 34 rfl (w.heap.size + 1) 5 i0 (.int .u8 0) 1 Ybaf.underlying34 hi hz0 hz1 _ _ _ (4 + spi + m) rfl rfl ?b0 ?b1 ?b2 ?b3 ?_)
  case b0 => omega
  case b1 => rw [hz2]; omega
  case b2 => unfold maxLen; omega
  case b3 => simp
  intro w1 hown1 hgrow1
  have hb1 : Below (w.heap.size + 1) (w.alloc Ha.o36) w1 := (Below.refl _ _).grown hgrow1 (by simp) (by intro k hk; cases hk)
  have hz1' : w.heap.size + 1 ≤ w1.heap.size := by have := hb1.size; simpa using this
  clear hgrow1
  go_wp2_with (at_builtin; refine wpList_append_fits _ rfl (.tmp 15) (.tmp 23) 34 rfl (w.heap.size + 1) 5 i0 1 Ybaf.underlying34 hi hz1 (w.heap.size + 1) 0 (4 + spi + m) [] rfl (hown1.alloc _) ⟨w1.heap.size, 0, none⟩ 4 4 ((Ha.hdL typ spi).map (Value.int .u8)) rfl rfl ?c1 ?c2 ?c3 ?_)
  case c1 =>
    intro j u hj
    match j, hj with
    | 0, hj => simp [Ha.hdL] at hj; subst hj; simp [Addr.add]
    | 1, hj => simp [Ha.hdL] at hj; subst hj; simp [Addr.add]
    | 2, hj => simp [Ha.hdL] at hj; subst hj; simp [Addr.add]
    | 3, hj => simp [Ha.hdL] at hj; subst hj; simp [Addr.add]
    | j + 4, hj => simp [Ha.hdL] at hj
  case c2 => exact ints_oneCell _ _
  case c3 => omega
  intro w2 hown2 hgrow2
  have hb2 : Below (w.heap.size + 1) (w.alloc Ha.o36) w2 := (hb1.alloc hz1' _).grown hgrow2 (by simp; omega) (by intro k hk; cases hk; exact Nat.le_refl _)
  clear hgrow2 hb1 hown1 hz1'
  go_wp2
  go_loopw [7, 8] (fun v i wr => ∃ k : Nat, k ≤ spi ∧ i = .int .i64 (k : Int) ∧ v = .slice (some ⟨w.heap.size + 1, 0, none⟩) (4 + k) (4 + spi + m) ∧
      wr.ownsRow (w.heap.size + 1) 5 1 (.slice (some ⟨w.heap.size + 1, 0, none⟩) (4 + k) (4 + spi + m)) (4 + k) ((Ha.hdL typ spi ++ Ha.upL k).map (Value.int .u8)) ∧ Below (w.heap.size + 1) (w.alloc Ha.o36) wr) (fun _ i _ => spi - (intOf i).toNat)
  case atStart => exact ⟨0, by omega, rfl, rfl, by simpa [Ha.upL] using hown2, hb2⟩
  case round =>
    obtain ⟨k, hk, rfl, rfl, hown, hbel⟩ := hrel
    clear hown2 hb2
    have hzr : w.heap.size + 1 ≤ wr.heap.size := by have := hbel.size; simpa using this
    by_cases hlt : k < spi
    · go_wp2_with (at_builtin; refine wpList_append_fits _ rfl (.tmp 30) (.tmp 34) 34 rfl (w.heap.size + 1) 5 i0 1 Ybaf.underlying34 hi hz1 (w.heap.size + 1) (4 + k) (4 + spi + m) _ rfl (hown.alloc _) ⟨wr.heap.size, 0, none⟩ 1 1 [.int .u8 ((k : Int) + 1)] rfl rfl ?d1 ?d2 ?d3 ?_)
      case d1 => exact cell_one_new _ _ _
      case d2 => intro u hu; simp at hu; subst hu; rfl
      case d3 => omega
      intro w3 hown3 hgrow3
      have hb3 : Below (w.heap.size + 1) (w.alloc Ha.o36) w3 := (hbel.alloc hzr _).grown hgrow3 (by simp; omega) (by intro k hk; cases hk; exact Nat.le_refl _)
      clear hgrow3 hown
      go_wp2
      go_roundw
      case rel => exact ⟨k + 1, by omega, by go_num, rfl, by simpa [Ha.upL_succ, Nat.add_assoc] using hown3, hb3⟩
      case measure => simp [intOf]; omega
    · obtain rfl : k = spi := by omega
      go_wp2_with (at_builtin; refine wpList_append_fits_any _ rfl (.tmp 36) (.tmp 37) 34 rfl (w.heap.size + 1) 5 i0 1 Ybaf.underlying34 hi hz1 (w.heap.size + 1) (4 + k) (4 + k + m) _ rfl hown ao m c (D.map (Value.int .u8)) rfl ?e0 ?e1 ?e2 ?e3 ?e4 ?_)
      case e0 => simp [hD]
      case e1 => exact unhide Hnone
      case e2 =>
        intro ad had j u hj
        have h1 := unhide Hlt ad had
        have h2 := unhide Hc ad had j u hj
        have hbw : Below w.heap.size w wr := ((Below.refl _ w).alloc (Nat.le_refl _) _).trans (hbel.mono (by omega))
        rw [hbw.cell (p := ad.add j) (by rw [Ha.add_block]; exact h1)]
        exact h2
      case e3 => exact ints_oneCell _ _
      case e4 => omega
      intro w4 hown4 hgrow4
      have hb4 : Below (w.heap.size + 1) (w.alloc Ha.o36) w4 := hbel.grown hgrow4 hzr (by intro k hk; cases hk; exact Nat.le_refl _)
      clear hgrow4 hown
      have hc0 : w4.cell? ⟨w.heap.size, 0, none⟩ = some (.int .u8 0) := (hb4.cell (p := ⟨w.heap.size, 0, none⟩) (by simp)).trans (by go_simp)
      have hc1 : w4.cell? ⟨w.heap.size, 1, none⟩ = some (.bool false) := (hb4.cell (p := ⟨w.heap.size, 1, none⟩) (by simp)).trans (by go_simp)
      have hc2 : w4.cell? ⟨w.heap.size, 2, none⟩ = some (.slice none 0 0) := (hb4.cell (p := ⟨w.heap.size, 2, none⟩) (by simp)).trans (by go_simp)
      have hf0 : w4.frozen? ⟨w.heap.size, 0, none⟩ = false := (hb4.frozen (p := ⟨w.heap.size, 0, none⟩) (by simp)).trans (by go_simp)
      have hf1 : w4.frozen? ⟨w.heap.size, 1, none⟩ = false := (hb4.frozen (p := ⟨w.heap.size, 1, none⟩) (by simp)).trans (by go_simp)
      have hf2 : w4.frozen? ⟨w.heap.size, 2, none⟩ = false := (hb4.frozen (p := ⟨w.heap.size, 2, none⟩) (by simp)).trans (by go_simp)
      go_wp2
      have hbw : Below w.heap.size w w4 := ((Below.refl _ w).alloc (Nat.le_refl _) _).trans (hb4.mono (by omega))
      refine bodyPost_ret (v := .agg #[.int .u8 41, .bool false, .slice (some ⟨w.heap.size + 1, 0, none⟩) (4 + k + m) (4 + k + m)]) (by simp [results, Ybaf.results10, go_sem, hc0, hc1, hc2]) rfl ⟨rfl, ?_, ((hbw.setCell (Nat.le_refl _) _).setCell (Nat.le_refl _) _).setCell (Nat.le_refl _) _⟩
      refine ownsRow_setCell_below (ownsRow_setCell_below (ownsRow_setCell_below ?_ (by simp) _) (by simp) _) (by simp) _
      simpa [Ha.bodyL] using hown4

end Go.Proofs.YbulkbwgiFmt
