/-
  errors.Join (9), err (7).
-/
import Derived.Test.YbulkbwimFmtBRec
namespace Go.Proofs.YbulkbwimFmt
open Go.RowKit Go.Extern.Stop Go.Stop Go.Extern
open Bs (hide unhide)
set_option linter.unusedSimpArgs false

namespace Bs
/-- The block of the joined error. -/
def JBox (w : World) (g : Nat) (ev : Value) : Prop := w.heap[g]? = some (.cells #[ev] 43 (0, 0))
theorem JBox.cells {w : World} {g : Nat} {ev : Value} (h : JBox w g ev) : w.cell? ⟨g, 0, none⟩ = some ev ∧ w.frozen? ⟨g, 0, none⟩ = false ∧ g < w.heap.size := by
  refine ⟨?_, ?_, (Array.getElem?_eq_some_iff.1 h).1⟩
  · unfold World.cell?; rw [h]; rfl
  · unfold World.frozen?; rw [h]; rfl
theorem JBox.set {w : World} {g : Nat} {ev : Value} (h : JBox w g ev) (u : Value) : JBox (w.setCell ⟨g, 0, none⟩ u) g u := by
  unfold JBox at *
  simp [World.setCell, Array.getElem?_modify, h]
/-- The errors that lie at g2. -/
def Es (w : World) (g2 : Nat) (bs : List Nat) : Prop := g2 < w.heap.size ∧ ∀ k (h : k < bs.length), w.cell? ⟨g2, k, none⟩ = some (er bs[k])
theorem Es.below {w w' : World} {g2 : Nat} {bs : List Nat} (h : Es w g2 bs) (hb : Below w.heap.size w w') : Es w' g2 bs :=
  ⟨Nat.lt_of_lt_of_le h.1 hb.size, fun k hk => (hb.cell (p := ⟨g2, k, none⟩) h.1).trans (h.2 k hk)⟩
end Bs

set_option maxRecDepth 100000 in
set_option maxHeartbeats 800000 in
theorem join_none (w : World) : Calls Ybaf.prog 9 #[.slice none 0 0] w fun e w' => e = .returned .nilIface ∧ w' = w := by
  go_enter Ybaf.func9, Ybaf.ntmps9
  go_wp2
  go_loopw [3, 11] (fun c i wr => c = .int .i64 0 ∧ i = .int .i64 0 ∧ wr = w) (fun _ _ _ => 0)
  case atStart => exact ⟨rfl, rfl, rfl⟩
  case round =>
    obtain ⟨rfl, rfl, rfl⟩ := hrel
    go_wp2
    go_ret
    exact ⟨rfl, rfl⟩

set_option maxRecDepth 100000 in
set_option maxHeartbeats 3200000 in
theorem join_any (g2 m cap : Nat) (bs : List Nat) (w : World) (hbs : bs.length = m) (hm : 1 ≤ m) (hm' : m ≤ 4096) (hE : Bs.Es w g2 bs) :
    Calls Ybaf.prog 9 #[.slice (some ⟨g2, 0, none⟩) m cap] w fun e w' => ∃ b, e = .returned (.iface 41 (.pointer (some ⟨b, 0, none⟩))) ∧ Below w.heap.size w w' := by
  obtain ⟨i0, hi, hz0, hz1, hz2⟩ := info_parts Bs.info24
  have Hbs := hide hbs
  have HE := hide hE
  clear hbs hE
  go_enter Ybaf.func9, Ybaf.ntmps9
  go_wp2
  go_loopw [3, 11] (fun c i wr => ∃ k : Nat, k ≤ m ∧ c = .int .i64 (k : Int) ∧ i = .int .i64 (k : Int) ∧ wr = w) (fun _ i _ => m - (intOf i).toNat)
  case atStart => exact ⟨0, by omega, rfl, rfl, rfl⟩
  case round =>
    obtain ⟨k, hk, rfl, rfl, hww⟩ := hrel
    have hww2 := hww.symm
    clear hww
    subst hww2
    by_cases hl : k < m
    · have hb5 : k < bs.length := by rw [unhide Hbs]; exact hl
      have q0 := (unhide HE).2 k hb5
      generalize bs[k] = b at *
      clear hb5
      go_wp2
      go_roundw
      case rel => exact ⟨k + 1, by omega, by go_num, by go_num, trivial⟩
      case measure => simp [intOf]; omega
    · obtain rfl : k = m := by omega
      go_wp2_with (at_make; refine wpList_make_own _ rfl _ _ 22 rfl w.heap.size 24 i0 .nilIface 1 Ybaf.underlying22 hi hz0 hz1 _ _ _ k rfl rfl ?b0 ?b1 ?b2 ?b3 ?_)
      case b0 => omega
      case b1 => rw [hz2]; omega
      case b2 => unfold maxLen; omega
      case b3 => simp
      intro w1 hown1 hgrow1
      have hb1 : Below w.heap.size w w1 := (Below.refl _ _).grown hgrow1 (Nat.le_refl _) (by intro k hk; cases hk)
      have hs1 : w.heap.size < w1.heap.size := (hown1.lt w.heap.size rfl).2
      clear hgrow1
      have hb1' := hide (hb1.alloc (by omega) (.cells #[.slice (some ⟨w.heap.size, 0, none⟩) 0 k] 43))
      have hown1' := hide (hown1.alloc (.cells #[.slice (some ⟨w.heap.size, 0, none⟩) 0 k] 43))
      have hjb : Hid (Bs.JBox (w1.alloc (.cells #[.slice (some ⟨w.heap.size, 0, none⟩) 0 k] 43)) w1.heap.size (.slice (some ⟨w.heap.size, 0, none⟩) 0 k)) := hide (show (w1.heap.push _)[w1.heap.size]? = _ by simp)
      clear hown1 hb1
      go_wp2
      go_loopw [28] (fun i wr => ∃ (j : Nat) (cs : List Nat), j ≤ k ∧ i = .int .i64 (j : Int) ∧ cs.length = j ∧ Hid (wr.ownsRow w.heap.size 24 1 (.slice (some ⟨w.heap.size, 0, none⟩) j k) j (Bs.ers cs)) ∧ Hid (Bs.JBox wr w1.heap.size (.slice (some ⟨w.heap.size, 0, none⟩) j k)) ∧ Hid (Below w.heap.size w wr)) (fun i _ => k - (intOf i).toNat)
      case atStart => exact ⟨0, [], by omega, rfl, rfl, hown1', hjb, hb1'⟩
      case round =>
        obtain ⟨j, cs, hj, rfl, hcs, HO, HJ, HB⟩ := hrel
        by_cases hlj : j < k
        · have hb5 : j < bs.length := by rw [unhide Hbs]; exact hlj
          have q0 := ((unhide HE).below (unhide HB)).2 j hb5
          have hg2 := ((unhide HE).below (unhide HB)).1
          obtain ⟨s0, s1, s2⟩ := (unhide HJ).cells
          generalize bs[j] = b at *
          clear hb5
          go_wp2_with (at_builtin; refine wpList_append_fits _ rfl (.tmp 38) (.tmp 40) 22 rfl w.heap.size 24 i0 1 Ybaf.underlying22 hi hz1 w.heap.size j k _ rfl ((unhide HO).alloc _) ⟨wr.heap.size, 0, none⟩ 1 1 [Bs.er b] rfl rfl ?d1 ?d2 ?d3 ?_)
          case d1 => intro j u hj; match j, hj with
            | 0, hj => simp at hj; subst hj; simp [Addr.add]
            | j + 1, hj => simp at hj
          case d2 => intro u hu; simp at hu; subst hu; rfl
          case d3 => omega
          intro w3 hown3 hgrow3
          have hJ3 : Bs.JBox w3 w1.heap.size (.slice (some ⟨w.heap.size, 0, none⟩) j k) := by
            have hbk := hgrow3.block w1.heap.size (by simp; omega) (by intro h; simp at h; omega)
            show w3.heap[w1.heap.size]? = _
            rw [hbk, Below.heap_alloc _ _ _ s2]
            exact unhide HJ
          have hB3 : Below w.heap.size w w3 := ((unhide HB).alloc (by omega) _).grown hgrow3 (by simp; omega) (by intro k hk; cases hk; exact Nat.le_refl _)
          have hbs' : (cs ++ [b]).length = j + 1 := by simp [hcs]
          rw [Bs.ers_snoc] at hown3
          have HBS := hide hbs'
          have HO3 := hide (Bs.row_set hown3 (a := ⟨w1.heap.size, 0, none⟩) (by show w1.heap.size ≠ w.heap.size; omega) (.slice (some ⟨w.heap.size, 0, none⟩) (j + 1) k))
          have HJ3 := hide (hJ3.set (.slice (some ⟨w.heap.size, 0, none⟩) (j + 1) k))
          have HB3 := hide (hB3.setCell (p := ⟨w1.heap.size, 0, none⟩) (by show w.heap.size ≤ w1.heap.size; omega) (.slice (some ⟨w.heap.size, 0, none⟩) (j + 1) k))
          obtain ⟨t0, t1, t2⟩ := hJ3.cells
          clear hgrow3 hown3 hbs' s0 s1 s2 hJ3 hB3 HO HJ HB q0 hg2
          go_wp2
          go_roundw
          case rel => exact ⟨j + 1, cs ++ [b], by omega, by go_num, unhide HBS, HO3, HJ3, HB3⟩
          case measure => simp [intOf]; omega
        · obtain rfl : j = k := by omega
          go_wp2
          go_ret
          exact ⟨_, rfl, unhide HB⟩

end Go.Proofs.YbulkbwimFmt
