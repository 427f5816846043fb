/-
  LawS3639CRecords (3).
-/
import Derived.Test.YbulkbwimFmtBAdd
import Derived.Laws.CopyOwn
namespace Go.Proofs.YbulkbwimFmt
open Go.RowKit Go.Extern.Stop Go.Stop Go.Extern
open Bs (hide unhide)
set_option linter.unusedSimpArgs false

namespace Bs
/-- An error made by errors.New or fmt.Errorf. -/
abbrev er (b : Nat) : Value := .iface 33 (.pointer (some ⟨b, 0, none⟩))
/-- The errors whose blocks are bs. -/
def ers (bs : List Nat) : List Value := bs.map er
theorem ers_length (bs : List Nat) : (ers bs).length = bs.length := by simp [ers]
theorem ers_one (bs : List Nat) : ∀ u ∈ ers bs, u.oneCell' = true := by
  intro u hu
  obtain ⟨b, _, rfl⟩ := List.mem_map.1 hu
  rfl
theorem ers_snoc (bs : List Nat) (b : Nat) : ers bs ++ [er b] = ers (bs ++ [b]) := by simp [ers]
theorem ers_get (bs : List Nat) (k : Nat) (h : k < bs.length) : (ers bs)[k]? = some (er bs[k]) := by simp [ers, h]
theorem below_drewN {B : Nat} {a w : World} (h : Below B a w) (q : Nat) : Below B a (w.drewN q) := ⟨h.os, h.tape, h.output, h.size, h.block⟩
theorem at_add (g j : Nat) : (⟨g, 0, none⟩ : Addr).add j = ⟨g, j, none⟩ := by unfold Addr.add; split <;> simp_all
theorem made_nil (n : Nat) : (madeCells #[Value.nilIface] n).toList = List.replicate n Value.nilIface := by
  apply List.ext_getElem
  · simp [madeCells]
  · intro i h1 h2
    simp [madeCells, Nat.mod_one]
/-- A row that fills its block. -/
theorem row_block {w : World} {B S n : Nat} {xs : List Value} (h : w.ownsRow B 24 1 (.slice (some ⟨S, 0, none⟩) n n) n xs) : w.heap[S]? = some (.cells xs.toArray 24 (0, 0)) := by
  rcases h.2 with ⟨h1, _⟩ | ⟨g, cap, cur, h1, _, hh, _, _, hs, ht⟩
  · simp at h1
  · simp at h1
    obtain ⟨rfl, rfl⟩ := h1
    rw [hh]
    have : cur.toList = xs := by rw [← ht, List.take_of_length_le (by simp; omega)]
    rw [← this]
theorem block_row {w : World} {B S n : Nat} {xs : List Value} (hB : B ≤ S) (hn : xs.length = n) (hn' : n ≤ 4096) (h : w.heap[S]? = some (.cells xs.toArray 24 (0, 0))) : w.ownsRow B 24 1 (.slice (some ⟨S, 0, none⟩) n n) n xs :=
  ⟨by simp [hn], .inr ⟨S, n, xs.toArray, rfl, hB, h, Nat.le_refl _, by unfold maxLen; omega, by simp [hn], by simp [← hn]⟩⟩
theorem ti33 : ∃ i, Ybaf.prog.info? 33 = some i ∧ i.comparable = true := by
  have h : (Ybaf.prog.info? 33).map (·.comparable) = some true := by kernel_rfl
  cases hi : Ybaf.prog.info? 33 with
  | none => rw [hi] at h; cases h
  | some i => rw [hi] at h; exact ⟨i, rfl, by simpa using h⟩
theorem ti35 : ∃ i, Ybaf.prog.info? 35 = some i ∧ i.size = 1 := by
  have h : (Ybaf.prog.info? 35).map (·.size) = some 1 := by kernel_rfl
  cases hi : Ybaf.prog.info? 35 with
  | none => rw [hi] at h; cases h
  | some i => rw [hi] at h; exact ⟨i, rfl, by simpa using h⟩
theorem neq_same (b : Nat) (w : World) : (binOp .neq 24 (.iface 33 (.pointer (some ⟨b, 0, none⟩))) (.iface 33 (.pointer (some ⟨b, 0, none⟩)))).run Ybaf.prog w = .ok (.bool false) w := by
  obtain ⟨i, hi, hc⟩ := ti33
  obtain ⟨j, hj, hs⟩ := ti35
  simp only [binOp]
  simp [Op.equal, Op.maxDepth, run_equalIn_iface_same (P := Ybaf.prog) w 9998 24 33 35 i 0 (by kernel_rfl) (by simp [typeInfo, hi]) hc Ybaf.underlying33 (by simp [sizeOf, typeInfo, hj, hs]) ⟨b, 0, none⟩]
theorem cell_of {w : World} {S k : Nat} {xs : List Value} {u : Value} (h : w.heap[S]? = some (.cells xs.toArray 24 (0, 0))) (hk : xs[k]? = some u) : w.cell? ⟨S, k, none⟩ = some u := by
  unfold World.cell?; rw [h]; simpa using hk
/-- What the last loop reads: the struct's second cell, the errors, the prior ones. -/
def Rd (W : World) (g g2 m cap P : Nat) (bs : List Nat) : Prop := W.cell? ⟨g, 1, none⟩ = some (.slice (some ⟨g2, 0, none⟩) m cap) ∧ g < W.heap.size ∧ g2 < W.heap.size ∧ P < W.heap.size ∧ ∀ k (h : k < bs.length), W.cell? ⟨g2, k, none⟩ = some (er bs[k]) ∧ W.cell? ⟨P, k, none⟩ = some (er bs[k])
theorem Rd.below {W W' : World} {g g2 m cap P : Nat} {bs : List Nat} (h : Rd W g g2 m cap P bs) (hb : Below W.heap.size W W') : Rd W' g g2 m cap P bs := by
  obtain ⟨h1, h2, h3, h4, h5⟩ := h
  have := hb.size
  exact ⟨(hb.cell (p := ⟨g, 1, none⟩) h2).trans h1, by omega, by omega, by omega, fun k hk => ⟨(hb.cell (p := ⟨g2, k, none⟩) h3).trans (h5 k hk).1, (hb.cell (p := ⟨P, k, none⟩) h4).trans (h5 k hk).2⟩⟩
theorem copied (S k : Nat) (bs : List Nat) (P : Nat) (w0 w2 : World) (hbs : bs.length = k) (hsz : (Ybaf.prog.info? 24).map (·.size) = some 1) (hblk : w2.heap[S]? = some (.cells (List.replicate k Value.nilIface).toArray 24 (0, 0))) (hsrc : ∀ j u, (ers bs)[j]? = some u → w2.cell? ((⟨P, 0, none⟩ : Addr).add j) = some u) (hb : Below S w0 w2) :
    ∃ w3, (Builtin.copy_ #[22, 22] 3 #[.slice (some ⟨S, 0, none⟩) k k, .slice (some ⟨P, 0, none⟩) k k]).run Ybaf.prog w2 = .ok (.int .i64 (k : Int)) w3 ∧ Hid (w3.heap[S]? = some (.cells (ers bs).toArray 24 (0, 0))) ∧ Below S w0 w3 := by
  have hrun := run_copy_row (P := Ybaf.prog) w2 22 22 3 24 S 0 k k ⟨P, 0, none⟩ k k (List.replicate k Value.nilIface).toArray 24 (ers bs) Ybaf.underlying22 hsz hblk (by simp [ers, hbs]) hsrc (by simp [ers, hbs]) (ers_one bs)
  have hrow : (List.take 0 (List.replicate k Value.nilIface).toArray.toList ++ ers bs ++ List.drop (0 + (ers bs).length) (List.replicate k Value.nilIface).toArray.toList) = ers bs := by simp [ers, hbs]
  rw [hrow, ers_length, hbs] at hrun
  exact ⟨w2.setRow S (ers bs).toArray, hrun, setRow_heap w2 S _ _ _ _ hblk, below_setRow hb (Nat.le_refl _) _⟩
/-- Behind atLeastOne that recorded a fault. -/
theorem rec_added {w w3 w5 : World} {S n : Nat} {sb : ByteArray} {bs : List Nat} (hbs : bs.length = n) (hS : w3.heap[S]? = some (.cells (ers bs).toArray 24 (0, 0))) (hP : w3.heap[w.heap.size]? = some (.cells (ers bs).toArray 24 (0, 0))) (hPS : w.heap.size < S) (hw3 : Below w.heap.size w w3)
    (ha : Added (w3.alloc (.cells #[.string sb, .slice (some ⟨S, 0, none⟩) n n] 28)) S w3.heap.size n sb (.slice (some ⟨S, 0, none⟩) n n) (ers bs) w5) :
    ∃ g2 cap b, Rd w5 w3.heap.size g2 (n + 1) cap w.heap.size (bs) ∧ w5.cell? ⟨g2, n, none⟩ = some (er b) ∧ w5.cell? ⟨w3.heap.size, 0, none⟩ = some (.string sb) ∧ Below w.heap.size w w5 := by
  obtain ⟨g2, cap, b, ho, hbox, hrest, hsz, h1, h2, h3⟩ := ha
  have hSl : S < w3.heap.size := (Array.getElem?_eq_some_iff.1 hS).1
  have hPl : w.heap.size < w3.heap.size := by omega
  have hs4 : (w3.alloc (.cells #[.string sb, .slice (some ⟨S, 0, none⟩) n n] 28)).heap.size = w3.heap.size + 1 := by simp
  rw [hs4] at hsz hrest
  have hP5 : w5.heap[w.heap.size]? = some (.cells (ers bs).toArray 24 (0, 0)) := by
    rw [hrest w.heap.size (by omega) (by omega) (by simp [Value.ownBlock]; omega), Below.heap_alloc _ _ _ hPl]; exact hP
  rw [ers_snoc] at ho
  have hl : (ers (bs ++ [b])).length = n + 1 := by simp [ers, hbs]
  refine ⟨g2, cap, b, ⟨hbox.cells.2.1, hbox.cells.2.2.2, (ho.lt g2 rfl).2, by omega, fun k hk => ⟨?_, cell_of hP5 (ers_get bs k hk)⟩⟩, ?_, hbox.cells.1, ?_⟩
  · rw [ho.cellAt k (by omega)]
    rw [ers_get _ k (by simp; omega)]
    simp [List.getElem_append_left hk]
  · rw [ho.cellAt n (by omega), ers_get _ n (by simp [hbs])]
    simp [← hbs]
  · refine hw3.trans ⟨h1, h2, h3, by omega, fun k hk => ?_⟩
    rw [hrest k (by omega) (by omega) (by simp [Value.ownBlock]; omega), Below.heap_alloc _ _ _ (by omega)]
theorem rec_same {w w3 : World} {S n : Nat} {sb : ByteArray} {bs : List Nat} (hS : w3.heap[S]? = some (.cells (ers bs).toArray 24 (0, 0))) (hP : w3.heap[w.heap.size]? = some (.cells (ers bs).toArray 24 (0, 0))) :
    Rd (w3.alloc (.cells #[.string sb, .slice (some ⟨S, 0, none⟩) n n] 28)) w3.heap.size S n n w.heap.size bs := by
  have hSl : S < w3.heap.size := (Array.getElem?_eq_some_iff.1 hS).1
  have hPl : w.heap.size < w3.heap.size := (Array.getElem?_eq_some_iff.1 hP).1
  refine ⟨by go_simp, by simp, by simp; omega, by simp; omega, fun k hk => ⟨?_, ?_⟩⟩
  · exact cell_of (by rw [Below.heap_alloc _ _ _ hSl]; exact hS) (ers_get bs k hk)
  · exact cell_of (by rw [Below.heap_alloc _ _ _ hPl]; exact hP) (ers_get bs k hk)
end Bs
attribute [local go_sem] Bs.neq_same

set_option maxRecDepth 100000 in
set_option maxHeartbeats 3200000 in
theorem rec_law (F : Interp) (sb nm : ByteArray) (v kk : Int) (w : World) (hF : F.answers w.tape) (hk0 : 0 ≤ kk) (hk1 : kk ≤ 255) :
    Calls Ybaf.prog 3 #[.string sb, .string nm, .int .i64 v, .int .u8 kk] w fun r w' => r = .returned (.bool true) ∧ Below w.heap.size w w' := by
  obtain ⟨i0, hi, hz0, hz1, hz2⟩ := info_parts Bs.info24
  obtain ⟨n, hn⟩ : ∃ n : Nat, kk % 16 = (n : Int) := ⟨(kk % 16).toNat, by omega⟩
  have hn15 : n ≤ 15 := by omega
  have HF := hide hF
  clear hF
  go_enter Ybaf.func3, Ybaf.ntmps3
  go_wp2_with (at_make; refine wpList_make_own _ rfl _ _ 22 rfl w.heap.size 24 i0 .nilIface 1 Ybaf.underlying22 hi hz0 hz1 _ _ _ n rfl rfl ?b0 ?b1 ?b2 ?b3 ?_)
  case b0 => omega
  case b1 => rw [hz2]; omega
  case b2 => unfold maxLen; omega
  case b3 => simp
  intro w1 hown1 hgrow1
  have hb1 : Below w.heap.size w w1 := (Below.refl _ _).grown hgrow1 (Nat.le_refl _) (by intro k hk; cases hk)
  clear hgrow1
  go_wp2
  go_loopw [10, 11] (fun pv i wr => ∃ (k : Nat) (bs : List Nat), k ≤ n ∧ i = .int .i64 (k : Int) ∧ pv = .slice (some ⟨w.heap.size, 0, none⟩) k n ∧ bs.length = k ∧ wr.ownsRow w.heap.size 24 1 (.slice (some ⟨w.heap.size, 0, none⟩) k n) k (Bs.ers bs) ∧ Below w.heap.size w wr) (fun _ i _ => n - (intOf i).toNat)
  case atStart => exact ⟨0, [], by omega, rfl, rfl, rfl, hown1, hb1⟩
  case round =>
    obtain ⟨k, bs, hk, rfl, rfl, hbs, hown, hbel⟩ := hrel
    clear hown1 hb1
    have hwr : w.heap.size < wr.heap.size := (hown.lt w.heap.size rfl).2
    by_cases hlt : k < n
    · go_wp2_with (first
        | (go_at_call 5; refine (new_any _ _).mono ?_; rintro e w' ⟨rfl, rfl⟩)
        | (at_builtin; refine wpList_append_fits _ rfl (.tmp 26) (.tmp 28) 22 rfl w.heap.size 24 i0 1 Ybaf.underlying22 hi hz1 w.heap.size k n _ rfl ((hown.alloc _).alloc _) ⟨wr.heap.size + 1, 0, none⟩ 1 1 [Bs.er wr.heap.size] rfl rfl ?d1 ?d2 ?d3 ?_))
      case d1 => intro j u hj; match j, hj with
        | 0, hj => simp at hj; subst hj; simp [Addr.add]
        | j + 1, hj => simp at hj
      case d2 => intro u hu; simp at hu; subst hu; rfl
      case d3 => omega
      intro w3 hown3 hgrow3
      have hb3 : Below w.heap.size w w3 := ((hbel.alloc (by omega) _).alloc (by simp; omega) _).grown hgrow3 (by simp; omega) (by intro k hk; cases hk; exact Nat.le_refl _)
      have hbs' : (bs ++ [wr.heap.size]).length = k + 1 := by simp [hbs]
      have HBS := hide hbs'
      clear hgrow3 hown hbs'
      rw [Bs.ers_snoc] at hown3
      have HO := hide hown3
      clear hown3
      go_wp2
      go_roundw
      case rel => exact ⟨k + 1, bs ++ [wr.heap.size], by omega, by go_num, rfl, unhide HBS, unhide HO, hb3⟩
      case measure => simp [intOf]; omega
    · obtain rfl : k = n := by omega
      rename World => wk
      have HP := hide (Bs.row_block hown)
      clear hown
      go_wp2_with (at_make; refine wpList_make_full _ rfl _ _ 22 rfl wk.heap.size 24 i0 .nilIface 1 Ybaf.underlying22 hi hz0 hz1 _ _ _ _ k rfl rfl rfl rfl ?b1 ?b2 ?b3 ?_)
      case b1 => rw [hz2]; omega
      case b2 => unfold maxLen; omega
      case b3 => simp
      intro w2 hown2 hgrow2
      have hb2 : Below wk.heap.size wk w2 := (Below.refl _ _).grown hgrow2 (Nat.le_refl _) (by intro k hk; cases hk)
      clear hgrow2
      rw [Bs.made_nil] at hown2
      have hblk2 := Bs.row_block hown2
      have HP2 : Hid (w2.heap[w.heap.size]? = some (.cells (Bs.ers bs).toArray 24 (0, 0))) := (hb2.block _ hwr).trans (unhide HP)
      clear hown2
      have HSrc : Hid (∀ j u, (Bs.ers bs)[j]? = some u → w2.cell? ((⟨w.heap.size, 0, none⟩ : Addr).add j) = some u) := fun j u hj => by
        rw [Bs.at_add]; unfold World.cell?; rw [unhide HP2]; simpa using hj
      obtain ⟨w3, hcopy, HG3, hb3⟩ : ∃ w3, (Builtin.copy_ #[22, 22] 3 #[.slice (some ⟨wk.heap.size, 0, none⟩) k k, .slice (some ⟨w.heap.size, 0, none⟩) k k]).run Ybaf.prog w2 = .ok (.int .i64 (k : Int)) w3 ∧ Hid (w3.heap[wk.heap.size]? = some (.cells (Bs.ers bs).toArray 24 (0, 0))) ∧ Below wk.heap.size wk w3 :=
        Bs.copied wk.heap.size k bs w.heap.size wk w2 hbs (by rw [hi]; simp [hz1]) hblk2 (unhide HSrc) hb2
      have HP3 : Hid (w3.heap[w.heap.size]? = some (.cells (Bs.ers bs).toArray 24 (0, 0))) := (hb3.block _ hwr).trans (unhide HP)
      have HW3 := hide (hbel.trans (hb3.mono (Nat.le_of_lt hwr)))
      have Hbs := hide hbs
      have hz3 : wk.heap.size < w3.heap.size := (Array.getElem?_eq_some_iff.1 (unhide HG3)).1
      clear HSrc HP2 hblk2 hb2 HP hb3 hbs
      by_cases hv : v < 1
      · have HC := hide (one_low F wk.heap.size w3.heap.size k sb nm v (.slice (some ⟨wk.heap.size, 0, none⟩) k k) (Bs.ers bs) (w3.alloc (.cells #[.string sb, .slice (some ⟨wk.heap.size, 0, none⟩) k k] 28)) (by show F.answers w3.tape; rw [(unhide HW3).tape]; exact unhide HF)
          (show (w3.heap.push _)[w3.heap.size]? = _ by simp) ((Bs.block_row (Nat.le_refl _) (by rw [Bs.ers_length]; exact unhide Hbs) (by omega) (unhide HG3)).alloc _) (by simp; omega) (by omega) (by simp [Value.ownBlock]; omega) hv)
        have HAd : Hid (∀ w5, Bs.Added (w3.alloc (.cells #[.string sb, .slice (some ⟨wk.heap.size, 0, none⟩) k k] 28)) wk.heap.size w3.heap.size k sb (.slice (some ⟨wk.heap.size, 0, none⟩) k k) (Bs.ers bs) w5 → _) := hide (fun w5 h => Bs.rec_added (w := w) (unhide Hbs) (unhide HG3) (unhide HP3) hwr (unhide HW3) h)
        go_wp2_with (go_at_call 6; refine (unhide HC).mono ?_; rintro e w5 ⟨rfl, hadd⟩; obtain ⟨g2, cap2, b2, HRd, hlast, hsub, Hb5⟩ := unhide HAd w5 hadd; clear hadd; replace Hb5 := hide Hb5; have hcg := HRd.1; replace HRd := hide HRd)
        clear HAd HC hsub hcg
        go_loopw [15] (fun i wx => ∃ k5 : Nat, k5 ≤ k ∧ i = .int .i64 (k5 : Int) ∧ Hid (Below w5.heap.size w5 wx)) (fun i _ => k - (intOf i).toNat)
        case atStart => exact ⟨0, by omega, rfl, hide (Below.refl _ _)⟩
        case round =>
          rename World => wz
          obtain ⟨k5, hk5, rfl, Hbz⟩ := hrel
          obtain ⟨r1, r2, r3, r4, r5⟩ := (unhide HRd).below (unhide Hbz)
          replace r5 := hide r5
          by_cases hl5 : k5 < k
          · have hb5 : k5 < bs.length := by rw [unhide Hbs]; exact hl5
            obtain ⟨q0, q1⟩ := unhide r5 k5 hb5
            generalize bs[k5] = b at *
            clear hb5
            have hl6 : (k5 : Int) < (k : Int) + 1 := by omega
            go_wp2
            go_quiet (fail)
            go_wp2
            go_roundw
            case rel => exact ⟨k5 + 1, by omega, by go_num, hide (Bs.below_drewN (unhide Hbz) _)⟩
            case measure => simp [intOf]; omega
          · obtain rfl : k5 = k := by omega
            have q2 : wz.cell? ⟨g2, k5, none⟩ = some (.iface 33 (.pointer (some ⟨b2, 0, none⟩))) := ((unhide Hbz).cell (p := ⟨g2, k5, none⟩) (unhide HRd).2.2.1).trans hlast
            go_wp2
            go_ret
            exact ⟨rfl, (unhide Hb5).trans ((unhide Hbz).mono (unhide Hb5).size)⟩
      · have HRd := hide (Bs.rec_same (w := w) (n := k) (sb := sb) (unhide HG3) (unhide HP3))
        have Hb5 := hide ((unhide HW3).alloc (by have := (unhide HW3).size; omega) (.cells #[.string sb, .slice (some ⟨wk.heap.size, 0, none⟩) k k] 28))
        have hv' : 1 ≤ v := by omega
        go_wp2_with (go_at_call 6; refine (one_ok _ _ _ _ hv').mono ?_; rintro e w5 ⟨rfl, rfl⟩)
        generalize w3.alloc (.cells #[.string sb, .slice (some ⟨wk.heap.size, 0, none⟩) k k] 28) = w5 at *
        go_loopw [15] (fun i wx => ∃ k5 : Nat, k5 ≤ k ∧ i = .int .i64 (k5 : Int) ∧ Hid (Below w5.heap.size w5 wx)) (fun i _ => k - (intOf i).toNat)
        case atStart => exact ⟨0, by omega, rfl, hide (Below.refl _ _)⟩
        case round =>
          rename World => wz
          obtain ⟨k5, hk5, rfl, Hbz⟩ := hrel
          obtain ⟨r1, r2, r3, r4, r5⟩ := (unhide HRd).below (unhide Hbz)
          replace r5 := hide r5
          by_cases hl5 : k5 < k
          · have hb5 : k5 < bs.length := by rw [unhide Hbs]; exact hl5
            obtain ⟨q0, q1⟩ := unhide r5 k5 hb5
            generalize bs[k5] = b at *
            clear hb5
            have hl6 : (k5 : Int) < (k : Int) + 1 := by omega
            go_wp2
            go_quiet (fail)
            go_wp2
            go_roundw
            case rel => exact ⟨k5 + 1, by omega, by go_num, hide (Bs.below_drewN (unhide Hbz) _)⟩
            case measure => simp [intOf]; omega
          · obtain rfl : k5 = k := by omega
            go_wp2
            go_ret
            exact ⟨rfl, (unhide Hb5).trans ((unhide Hbz).mono (unhide Hb5).size)⟩

end Go.Proofs.YbulkbwimFmt
