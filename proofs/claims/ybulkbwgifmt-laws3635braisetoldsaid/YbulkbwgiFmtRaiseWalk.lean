/-
  LawS3635BRaise (4).
-/
import Derived.Test.YbulkbwgiFmtHPays
namespace Go.Proofs.YbulkbwgiFmt
open Go.RowKit
open Ha (hide unhide)

namespace Ha
/-- The Child SAs behind k rounds of the first loop. -/
def kids (e : Bool) (outs : List Int) (n k : Nat) : List (Bool × Int) := (outs.take k).map (fun o => (e, o)) ++ List.replicate (n - k) (false, 0)
theorem kids_made (n : Nat) : (madeCells #[Value.bool false, Value.int .u64 0] (n * 2)).toList = chCells (List.replicate n (false, (0 : Int))) := by
  apply List.ext_getElem?
  intro i
  by_cases h : i < n * 2
  · have h1 : i / 2 < (List.replicate n (false, (0 : Int))).length := by simp; omega
    rcases (show i = i / 2 * 2 ∨ i = i / 2 * 2 + 1 by omega) with hh | hh
    · rw [hh, ch_esn _ _ h1]
      simp [madeCells]
      simp at h1
      exact ⟨i / 2 * 2, by rw [List.getElem?_range (by omega)], by rw [show i / 2 * 2 % 2 = 0 by omega]; rfl⟩
    · rw [hh, ch_out _ _ h1]
      simp [madeCells]
      simp at h1
      exact ⟨i / 2 * 2 + 1, by rw [List.getElem?_range (by omega)], by rw [show (i / 2 * 2 + 1) % 2 = 1 by omega]; rfl⟩
  · rw [List.getElem?_eq_none (by simp [madeCells]; omega), List.getElem?_eq_none (by rw [chCells_length]; simp; omega)]
theorem kids_succ (e : Bool) (outs : List Int) (n k : Nat) (hn : outs.length = n) (hk : k < n) (o : Int) (ho : outs[k]? = some o) :
    ((chCells (kids e outs n k)).set (k * 2) (.bool e)).set (k * 2 + 1) (.int .u64 o) = chCells (kids e outs n (k + 1)) := by
  have hl : ∀ (L : List (Bool × Int)) (k : Nat) (e : Bool) (o : Int), k < L.length → ((chCells L).set (k * 2) (.bool e)).set (k * 2 + 1) (.int .u64 o) = chCells (L.set k (e, o)) := by
    intro L
    induction L with
    | nil => intro k e o h; simp at h
    | cons c r ih =>
      intro k e o h
      cases k with
      | zero => simp [chCells]
      | succ k =>
        have := ih k e o (by simpa using h)
        simpa [chCells, show (k + 1) * 2 = k * 2 + 1 + 1 from by omega, show (k + 1) * 2 + 1 = k * 2 + 1 + 1 + 1 from by omega] using this
  rw [hl _ _ _ _ (by simp [kids]; omega)]
  congr 1
  have hk' : k < outs.length := by omega
  unfold kids
  rw [List.set_append_right _ _ (by simp; omega)]
  have : k - ((outs.take k).map (fun o => (e, o))).length = 0 := by simp; omega
  rw [this, show n - k = (n - (k + 1)) + 1 by omega, List.replicate_succ, List.set_cons_zero, List.take_add_one, ho]
  simp
theorem kids_done (e : Bool) (outs : List Int) (n : Nat) (hn : outs.length = n) : kids e outs n n = outs.map (fun o => (e, o)) := by simp [kids, ← hn]
theorem map_out (e : Bool) (outs : List Int) (k : Nat) (hk : k < outs.length) : (chCells (outs.map (fun o => (e, o))))[k * 2 + 1]? = some (.int .u64 (outs.getD k 0)) := by
  rw [ch_out _ k (by simpa using hk)]
  simp [hk]
theorem up_map (e : Bool) (outs : List Int) (d : Int) (k : Nat) (hk : k < outs.length) (n : Nat) (hn : outs.length = n) :
    (chCells (up (outs.map (fun o => (e, o))) d n))[k * 2]? = some (.bool e) ∧ (chCells (up (outs.map (fun o => (e, o))) d n))[k * 2 + 1]? = some (.int .u64 (rz (outs.getD k 0) d e)) := by
  have h : up (outs.map (fun o => (e, o))) d n = outs.map (fun o => (e, rz o d e)) := by
    have h1 : (outs.map (fun o => (e, o))).length = n := by simpa using hn
    unfold up
    rw [List.take_of_length_le (by omega), List.drop_of_length_le (by omega), List.map_map]
    simp
  rw [h, ch_esn _ k (by simpa using hk), ch_out _ k (by simpa using hk)]
  simp [hk]
/-- The call of ApplyReplayCounterSync, and what the law reads behind it. -/
theorem raise_sync (e m : Bool) (x y : Int) (n : Nat) (outs : List Int) (v : Value) (L : List (Pl × Value)) (d : Int) (w w5 : World) (hn : outs.length = n) (hn' : n ≤ 4096) (hbd : ∀ z ∈ outs, 0 ≤ z ∧ z ≤ 18446744073709551615) (hd0 : 0 ≤ d) (hd1 : d ≤ 18446744073709551615)
    (hP : Pays w5 (w.heap.size + 1) v L) (hL : L.length ≤ 4096) (hL0 : 0 < L.length) (hsc : scan L none = some (some (d, e))) (hat : At w5 w.heap.size (chCells (outs.map fun o => (e, o)))) (hw : Below w.heap.size w w5) (hw1 : w.heap.size + 1 ≤ w5.heap.size) :
    ∃ pb pc, v = .slice (some ⟨pb, 0, none⟩) L.length pc ∧ Calls Ybaf.prog 8 #[.agg (own43 m x y (.slice (some ⟨w.heap.size, 0, none⟩) n n)), .slice (some ⟨pb, 0, none⟩) L.length pc] (w5.alloc (.cells (own43 m x y (.slice (some ⟨w.heap.size, 0, none⟩) n n)) 43)) fun r w' =>
      ∃ g' c', r = .returned (.tuple #[.agg (own43 m x y (.slice (some ⟨g', 0, none⟩) n c')), .nilIface]) ∧ Five w' w5.heap.size (.bool m) (.bool true) (.int .u32 x) (.int .u32 y) (.slice (some ⟨w.heap.size, 0, none⟩) n n) ∧
        Hid (g' < w'.heap.size ∧ At w' g' (chCells (up (outs.map fun o => (e, o)) d n)) ∧ At w' w.heap.size (chCells (outs.map fun o => (e, o))) ∧ Below w.heap.size w w') ∧ w5.heap.size < w'.heap.size ∧ w.heap.size < w'.heap.size := by
  obtain ⟨pb, pc, hv, hpb⟩ : ∃ pb pc, v = .slice (some ⟨pb, 0, none⟩) L.length pc ∧ pb < w5.heap.size := by
    rcases hP.1.2 with ⟨_, h⟩ | ⟨g, cap, cur, h, _, hh, _⟩
    · omega
    · exact ⟨g, cap, h, (Array.getElem?_eq_some_iff.1 hh).1⟩
  subst hv
  refine ⟨pb, pc, rfl, ?_⟩
  have hb6 : Below w5.heap.size w5 (w5.alloc (.cells (own43 m x y (.slice (some ⟨w.heap.size, 0, none⟩) n n)) 43)) := (Below.refl _ _).alloc (Nat.le_refl _) _
  have hs6 : (w5.alloc (.cells (own43 m x y (.slice (some ⟨w.heap.size, 0, none⟩) n n)) 43)).heap.size = w5.heap.size + 1 := by simp
  have hF := five_new w5 (.bool m) (.bool true) (.int .u32 x) (.int .u32 y) (.slice (some ⟨w.heap.size, 0, none⟩) n n) 43
  have hP6 := hP.below hb6 (Nat.le_refl _)
  have hat6 := hat.below hb6 (by omega)
  have hw6 := hw.trans (hb6.mono hw.size)
  generalize w5.alloc (.cells (own43 m x y (.slice (some ⟨w.heap.size, 0, none⟩) n n)) 43) = w6 at *
  refine (sync_ok m x y w.heap.size n n (outs.map fun o => (e, o)) e pb L.length pc L d e w6 (by simpa using hn) hn' (by omega) hat6 (by simp) (by simpa using hbd) (.inr rfl) hd0 hd1 rfl hL (by omega) (row_at hP6.1) (fun p hp => (hP6.2 p hp).body) hsc).mono ?_
  rintro r w' ⟨g', c', hr, hg1, hg2, hat', hb'⟩
  have := hb'.size
  exact ⟨g', c', hr, hF.below hb' (by omega), hide ⟨hg2, hat', hat6.below hb' (by omega), hw6.trans (hb'.mono (by omega))⟩, by omega, by omega⟩
/-- What a round of the last loop reads. -/
theorem raise_reads (e : Bool) (n : Nat) (outs : List Int) (ao : Option Addr) (d : Int) (g' gb : Nat) (u : Value) (w w8 wr : World) (hn : outs.length = n) (hbd : ∀ z ∈ outs, 0 ≤ z ∧ z ≤ 18446744073709551615)
    (hc : ∀ k, k < n → ∃ ad, ao = some ad ∧ ad.block < w.heap.size ∧ w.cell? (ad.add k) = some (.int .u64 (outs.getD k 0))) (hg : g' < w8.heap.size) (hgb : gb < w8.heap.size) (hu : w8.cell? ⟨gb, 4, none⟩ = some u)
    (h1 : At w8 g' (chCells (up (outs.map fun o => (e, o)) d n))) (h2 : At w8 w.heap.size (chCells (outs.map fun o => (e, o)))) (hw : Below w.heap.size w w8) (hw1 : w.heap.size < w8.heap.size) (hb : Below w8.heap.size w8 wr) (k : Nat) (hk : k < n) :
    ∃ ad o, ao = some ad ∧ wr.cell? (ad.add k) = some (.int .u64 o) ∧ wr.cell? ⟨w.heap.size, k * 2 + 1, none⟩ = some (.int .u64 o) ∧ wr.cell? ⟨gb, 4, none⟩ = some u ∧ wr.cell? ⟨g', k * 2, none⟩ = some (.bool e) ∧ wr.cell? ⟨g', k * 2 + 1, none⟩ = some (.int .u64 (rz o d e)) ∧ 0 ≤ o ∧ o ≤ 18446744073709551615 := by
  obtain ⟨ad, h3, h4, h5⟩ := hc k hk
  have hk' : k < outs.length := by omega
  have hm : outs.getD k 0 ∈ outs := by rw [List.getD_eq_getElem?_getD, List.getElem?_eq_getElem hk']; exact List.getElem_mem hk'
  refine ⟨ad, outs.getD k 0, h3, ((hw.trans (hb.mono hw.size)).cell (p := ad.add k) (by rw [add_block]; exact h4)).trans h5, h2.below hb hw1 _ _ (map_out e outs k hk'), (hb.cell (p := ⟨gb, 4, none⟩) hgb).trans hu, h1.below hb hg _ _ (up_map e outs d k hk' n hn).1, h1.below hb hg _ _ (up_map e outs d k hk' n hn).2, (hbd _ hm).1, (hbd _ hm).2⟩
end Ha

set_option maxRecDepth 100000 in
set_option maxHeartbeats 3200000 in
theorem braise_law (e m : Bool) (delta : Int) (ao : Option Addr) (n c : Nat) (outs : List Int) (f x y : Int) (w : World) (hn : outs.length = n) (hd0 : 0 ≤ delta) (hd1 : delta ≤ 18446744073709551615) (hf0 : 0 ≤ f) (hf1 : f ≤ 255)
    (hbd : ∀ z ∈ outs, 0 ≤ z ∧ z ≤ 18446744073709551615) (hc : ∀ k, k < n → ∃ ad, ao = some ad ∧ ad.block < w.heap.size ∧ w.cell? (ad.add k) = some (.int .u64 (outs.getD k 0))) :
    Calls Ybaf.prog 4 #[.bool e, .bool m, .int .u64 delta, .slice ao n c, .int .u8 f, .int .u32 x, .int .u32 y] w fun r w' => r = .returned (.bool true) ∧ Below w.heap.size w w' := by
  obtain ⟨i0, hi, hz0, hz1, hz2⟩ := info_parts Ha.info29
  obtain ⟨j0, hj, hy0, hy1, hy2⟩ := info_parts Ha.info36
  have Hc := hide hc
  have Hn := hide hn
  have Hbd := hide hbd
  clear hc hn hbd
  by_cases hbig : 1024 < n
  · go_enter Ybaf.func4, Ybaf.ntmps4
    go_wp2
    go_ret
    exact ⟨rfl, Below.refl _ _⟩
  · go_enter Ybaf.func4, Ybaf.ntmps4
    go_wp2_with (at_make; refine wpList_make_full _ rfl _ _ 25 rfl w.heap.size 29 i0 (.agg #[.bool false, .int .u64 0]) 2 Ybaf.underlying25 hi hz0 hz1 _ _ _ _ n rfl rfl rfl rfl ?b1 ?b2 ?b3 ?_)
    case b1 => rw [hz2]; omega
    case b2 => unfold maxLen; omega
    case b3 => simp
    intro w1 hown1 hgrow1
    have hb1 : Below w.heap.size w w1 := (Below.refl _ _).grown hgrow1 (Nat.le_refl _) (by intro k hk; cases hk)
    clear hgrow1
    go_wp2
    go_loopw [34] (fun i wr => ∃ k : Nat, k ≤ n ∧ i = .int .i64 (k : Int) ∧ wr.ownsRow w.heap.size 29 2 (.slice (some ⟨w.heap.size, 0, none⟩) n n) n (Ha.chCells (Ha.kids e outs n k)) ∧ Below w.heap.size w wr) (fun i _ => n - (intOf i).toNat)
    case atStart =>
      refine ⟨0, by omega, rfl, ?_, hb1⟩
      have := hown1
      rw [Ha.kids_made] at this
      simpa [Ha.kids] using this
    case round =>
      obtain ⟨k, hk, rfl, hown, hbel⟩ := hrel
      clear hown1 hb1
      by_cases hlt : k < n
      · obtain ⟨ad, hao, had, hcell⟩ := unhide Hc k hlt
        have hk' : k < outs.length := by rw [unhide Hn]; exact hlt
        have HS := hide (Ha.kids_succ e outs n k (unhide Hn) hlt (outs.getD k 0) (by simp [hk']))
        have hcr : wr.cell? (ad.add k) = some (.int .u64 (outs.getD k 0)) := (hbel.cell (p := ad.add k) (by rw [Ha.add_block]; exact had)).trans hcell
        generalize outs.getD k 0 = o at *
        have hl : (Ha.chCells (Ha.kids e outs n k)).length = n * 2 := hown.1
        obtain ⟨u0, hu0⟩ : ∃ u, wr.cell? ⟨w.heap.size, k * 2, none⟩ = some u := by rw [hown.cellAt (k * 2) (by omega)]; exact ⟨_, List.getElem?_eq_getElem (by omega)⟩
        obtain ⟨u1, hu1⟩ : ∃ u, wr.cell? ⟨w.heap.size, k * 2 + 1, none⟩ = some u := by rw [hown.cellAt (k * 2 + 1) (by omega)]; exact ⟨_, List.getElem?_eq_getElem (by omega)⟩
        have f0 := hown.frozenAt (k * 2)
        have f1 := hown.frozenAt (k * 2 + 1)
        have HO := hide ((hown.stored (k * 2) (.bool e)).1.stored (k * 2 + 1) (.int .u64 o)).1
        rw [unhide HS] at HO
        clear hown hk' hcell
        go_wp2
        go_roundw
        case rel => exact ⟨k + 1, by omega, by go_num, unhide HO, (hbel.setCell (Nat.le_refl _) _).setCell (Nat.le_refl _) _⟩
        case measure => simp [intOf]; omega
      · obtain rfl : k = n := by omega
        rw [Ha.kids_done _ _ _ (unhide Hn)] at hown
        have hat1 := hide (Ha.row_at hown)
        have hsz : w.heap.size + 1 ≤ wr.heap.size := by have := (hown.lt w.heap.size rfl).2; omega
        clear hown
        go_wp2
        rename World => wk
        go_loopw [18, 19] (fun v i wx => ∃ (j : Nat) (L : List (Ha.Pl × Value)) (v' : Value), j ≤ 3 ∧ (j : Int) ≤ f % 4 ∧ i = .int .i64 (j : Int) ∧ v' = v ∧ Hid (Ha.Pays wx (w.heap.size + 1) v' L) ∧ L.length ≤ j ∧ Hid (Ha.scan L none = some none) ∧ Hid (Below (w.heap.size + 1) wk wx) ∧ w.heap.size + 1 ≤ wx.heap.size) (fun _ i _ => 4 - (intOf i).toNat)
        case atStart => exact ⟨0, [], _, by omega, by omega, rfl, rfl, hide (Ha.Pays.nil _ _), by simp, hide rfl, hide (Below.refl _ _), hsz⟩
        case round =>
          obtain ⟨j, L, v, hj3, hjf, rfl, rfl, HP, hL, HSc, Hbx, hsx⟩ := hrel
          by_cases hjl : (j : Int) < f % 4
          · have HStep : Hid (∀ (wB w2 : World) (p : Ha.Pl) (b v' : Value), Below wr.heap.size wr wB → Ha.Pays w2 (w.heap.size + 1) v' (L ++ [(p, b)]) → Below (w.heap.size + 1) wB w2 → Ha.step none p = some none →
                Hid (Ha.Pays w2 (w.heap.size + 1) v' (L ++ [(p, b)])) ∧ (L ++ [(p, b)]).length ≤ j + 1 ∧ Hid (Ha.scan (L ++ [(p, b)]) none = some none) ∧ Hid (Below (w.heap.size + 1) wk w2) ∧ w.heap.size + 1 ≤ w2.heap.size) := by
              intro wB w2 p b v' h1 h2 h3 h4
              refine ⟨h2, by simpa using hL, ?_, (unhide Hbx).trans ((h1.mono hsx).trans h3), ?_⟩
              · show Ha.scan _ _ = _
                rw [Ha.scan_append, unhide HSc]
                simp [Ha.scan, h4]
              · have := h1.size; have := h3.size; omega
            obtain rfl | rfl | rfl : j = 0 ∨ j = 1 ∨ j = 2 := by omega
            · go_wp2_with (at_builtin; refine Ha.pays_append rfl (.tmp 56) (.tmp 61) rfl _ (w.heap.size + 1) v L (.other 33) (.slice (some ⟨wr.heap.size, 0, none⟩) 1 1) ⟨wr.heap.size + 1, 0, none⟩ rfl rfl ((unhide HP).below (((Below.refl _ wr).alloc (Nat.le_refl _) _).alloc (by simp) _) (Nat.le_refl _)) ⟨by decide, _, _, _, rfl⟩ ?c2 (by omega) (by simp; omega) ?_)
              case c2 => exact Ha.three_new' _ _ (by simp) _ _ _ _
              intro v2 w2 hp2 hb2
              obtain ⟨q1, q2, q3, q4, q5⟩ := unhide HStep _ w2 _ _ v2 (((Below.refl _ wr).alloc (Nat.le_refl _) _).alloc (by simp) _) hp2 hb2 rfl
              clear hp2 hb2 HStep
              go_wp2
              go_roundw
              case rel => exact ⟨0 + 1, _, v2, by omega, by omega, rfl, rfl, q1, q2, q3, q4, q5⟩
              case measure => simp [intOf]
            · go_wp2_with (first
                | (go_at_call 10; refine (Ha.notify_body (w.heap.size + 1) 16421 0 none 0 0 [] wr (by omega) (by omega) (by omega) rfl (by omega) (fun z hz => by cases hz) hsx (fun _ => ⟨rfl, rfl⟩) (fun ad h => by cases h) (fun ad h => by cases h)).mono ?_; rintro r w3 ⟨g3, n3, rfl, ho3, hb3⟩)
                | (at_builtin; refine Ha.pays_append rfl (.tmp 63) (.tmp 65) rfl _ (w.heap.size + 1) v L (.note 16421 0 []) (.slice (some ⟨g3, 0, none⟩) n3 n3) ⟨w3.heap.size, 0, none⟩ rfl rfl ((unhide HP).below ((unhide hb3).alloc (unhide hb3).size _) (Nat.le_refl _)) ((unhide ho3).below ((Below.refl _ w3).alloc (Nat.le_refl _) _) (Nat.le_refl _)) ?c2 (by omega) ?c3 ?_))
              case c2 => exact Ha.three_new' _ _ rfl _ _ _ _
              case c3 => have := (unhide hb3).size; simp; omega
              intro v2 w2 hp2 hb2
              obtain ⟨q1, q2, q3, q4, q5⟩ := unhide HStep _ w2 _ _ v2 ((unhide hb3).alloc (unhide hb3).size _) hp2 hb2 rfl
              clear hp2 hb2 HStep
              go_wp2
              go_roundw
              case rel => exact ⟨1 + 1, _, v2, by omega, by omega, rfl, rfl, q1, q2, q3, q4, q5⟩
              case measure => simp [intOf]
            · go_wp2_with (at_builtin; refine Ha.pays_append rfl (.tmp 56) (.tmp 61) rfl _ (w.heap.size + 1) v L (.other 33) (.slice (some ⟨wr.heap.size, 0, none⟩) 1 1) ⟨wr.heap.size + 1, 0, none⟩ rfl rfl ((unhide HP).below (((Below.refl _ wr).alloc (Nat.le_refl _) _).alloc (by simp) _) (Nat.le_refl _)) ⟨by decide, _, _, _, rfl⟩ ?c2 (by omega) (by simp; omega) ?_)
              case c2 => exact Ha.three_new' _ _ (by simp) _ _ _ _
              intro v2 w2 hp2 hb2
              obtain ⟨q1, q2, q3, q4, q5⟩ := unhide HStep _ w2 _ _ v2 (((Below.refl _ wr).alloc (Nat.le_refl _) _).alloc (by simp) _) hp2 hb2 rfl
              clear hp2 hb2 HStep
              go_wp2
              go_roundw
              case rel => exact ⟨2 + 1, _, v2, by omega, by omega, rfl, rfl, q1, q2, q3, q4, q5⟩
              case measure => simp [intOf]
          · cases e
            · go_wp2_with (first
                | (go_at_call 11; refine (be_any delta 4 wr hd0 hd1 (by omega)).mono ?_; rintro r w2 ⟨rfl, ho2, hb2⟩; replace ho2 := hide ho2; replace hb2 := hide hb2)
                | (go_at_call 10; refine (Ha.notify_body (w.heap.size + 1) 16423 0 (some ⟨wr.heap.size, 0, none⟩) 4 4 (Ha.beL 4 delta) w2 (by omega) (by omega) (by omega) (Ha.beL_length _ _) (by omega) (Ha.beL_bd _ _) (Nat.le_trans hsx (unhide hb2).size) (fun h => by cases h) (fun ad h => by cases h; exact ((unhide ho2).lt _ rfl).2) (fun ad h => by cases h; exact fun j u hj => by rw [Ha.at_add]; exact Ha.row_at (unhide ho2) j u hj)).mono ?_; rintro r w3 ⟨g3, n3, rfl, ho3, hb3⟩)
                | (at_builtin; refine Ha.pays_append rfl (.tmp 78) (.tmp 82) rfl _ (w.heap.size + 1) v L (.note 16423 0 (Ha.beL 4 delta)) (.slice (some ⟨g3, 0, none⟩) n3 n3) ⟨w3.heap.size, 0, none⟩ rfl rfl ((unhide HP).below (((unhide hb2).trans ((unhide hb3).mono (unhide hb2).size)).alloc (Nat.le_trans (unhide hb2).size (unhide hb3).size) _) (Nat.le_refl _)) ((unhide ho3).below ((Below.refl _ w3).alloc (Nat.le_refl _) _) (Nat.le_refl _)) ?c2 (by omega) ?c3 ?_))
              case c2 => exact Ha.three_new' _ _ rfl _ _ _ _
              case c3 => have := (unhide hb3).size; have := (unhide hb2).size; simp; omega
              intro v4 w4 hp4 hb4
              have hs23 := Nat.le_trans (unhide hb2).size (unhide hb3).size
              have HB4 := hide ((unhide Hbx).trans ((((unhide hb2).trans ((unhide hb3).mono (unhide hb2).size)).mono hsx).alloc (by omega) _ |>.trans hb4))
              have hs4 : w.heap.size + 1 ≤ w4.heap.size := Nat.le_trans hsz (unhide HB4).size
              have HSc4 : Hid (Ha.scan (L ++ [(.note 16423 0 (Ha.beL 4 delta), .slice (some ⟨g3, 0, none⟩) n3 n3)]) none = some (some (delta % 4294967296, false))) := by
                show Ha.scan _ _ = _
                rw [Ha.scan_append, unhide HSc]
                simp [Ha.scan, Ha.step, Ha.beL_length, Ha.beZ4]
              have hL4 : (L ++ [(Ha.Pl.note 16423 0 (Ha.beL 4 delta), Value.slice (some ⟨g3, 0, none⟩) n3 n3)]).length ≤ 4 := by simp; omega
              generalize L ++ [(Ha.Pl.note 16423 0 (Ha.beL 4 delta), Value.slice (some ⟨g3, 0, none⟩) n3 n3)] = L4 at *
              replace hp4 := hide hp4
              clear HP HSc hb4 hb2 hb3 ho2 ho3 Hbx hs23
              go_wp2_with (at_builtin; refine Ha.pays_append rfl (.tmp 84) (.tmp 86) rfl _ (w.heap.size + 1) v4 L4 (.other 40) (.slice none 0 0) ⟨w4.heap.size, 0, none⟩ rfl rfl ((unhide hp4).below ((Below.refl _ w4).alloc (Nat.le_refl _) _) (Nat.le_refl _)) ⟨by decide, _, _, _, rfl⟩ ?c2 (by omega) (by simp; omega) ?_)
              case c2 => exact Ha.three_new' _ _ rfl _ _ _ _
              intro v5 w5 hp5 hb5
              have HB5 := hide ((unhide HB4).trans (((Below.refl _ w4).alloc hs4 _).trans hb5))
              have hs5 : w.heap.size + 1 ≤ w5.heap.size := Nat.le_trans hsz (unhide HB5).size
              obtain ⟨pb, pc, rfl, HC⟩ := Ha.raise_sync false m x y k outs v5 _ (delta % 4294967296) w w5 (unhide Hn) (by omega) (unhide Hbd) (by omega) (by omega) hp5 (by simp; omega) (by simp) (by rw [Ha.scan_append, unhide HSc4]; rfl) ((unhide hat1).below (unhide HB5) (by omega)) (hbel.trans ((unhide HB5).mono (by omega))) hs5
              replace HC := hide HC
              generalize (L4 ++ [(Ha.Pl.other 40, Value.slice none 0 0)]).length = pn at *
              clear hp5 hb5 hp4 HB4 HSc4
              go_wp2_with (go_at_call 8; refine (unhide HC).mono ?_; rintro r w7 ⟨g', c', rfl, ⟨o0, o1, o2, o3, o4⟩, HR, hs7, hs7'⟩)
              clear HC o0 o1 o2 o3 o4 HB5
              have HF : Hid (∀ wr', Below (w7.heap.size + 1) (w7.alloc (.cells #[.bool m, .bool true, .int .u32 x, .int .u32 y, .slice (some ⟨g', 0, none⟩) k c'] 43)) wr' → ∀ k3, k3 < k → ∃ ad o, ao = some ad ∧ wr'.cell? (ad.add k3) = some (.int .u64 o) ∧ wr'.cell? ⟨w.heap.size, k3 * 2 + 1, none⟩ = some (.int .u64 o) ∧
                  wr'.cell? ⟨w7.heap.size, 4, none⟩ = some (.slice (some ⟨g', 0, none⟩) k c') ∧ wr'.cell? ⟨g', k3 * 2, none⟩ = some (.bool false) ∧ wr'.cell? ⟨g', k3 * 2 + 1, none⟩ = some (.int .u64 (Ha.rz o (delta % 4294967296) false)) ∧ 0 ≤ o ∧ o ≤ 18446744073709551615) := by
                obtain ⟨hg', h1, h2, h3⟩ := unhide HR
                have hb7 : Below w7.heap.size w7 (w7.alloc (.cells #[.bool m, .bool true, .int .u32 x, .int .u32 y, .slice (some ⟨g', 0, none⟩) k c'] 43)) := (Below.refl _ _).alloc (Nat.le_refl _) _
                exact fun wr' hbr k3 hk3 => Ha.raise_reads false k outs ao (delta % 4294967296) g' w7.heap.size _ w _ wr' (unhide Hn) (unhide Hbd) (unhide Hc) (by simp; omega) (by simp) (Ha.five_new w7 _ _ _ _ _ 43).2.2.2.2 (h1.below hb7 hg') (h2.below hb7 hs7') (h3.trans (hb7.mono (by omega))) (by simp; omega) (by simpa using hbr) k3 hk3
              have HB8 : Hid (Below w.heap.size w (w7.alloc (.cells #[.bool m, .bool true, .int .u32 x, .int .u32 y, .slice (some ⟨g', 0, none⟩) k c'] 43))) := (unhide HR).2.2.2.alloc (by omega) _
              have hs8 : (w7.alloc (.cells #[.bool m, .bool true, .int .u32 x, .int .u32 y, .slice (some ⟨g', 0, none⟩) k c'] 43)).heap.size = w7.heap.size + 1 := by simp
              clear HR Hn Hbd Hc hat1
              generalize w7.alloc (.cells #[.bool m, .bool true, .int .u32 x, .int .u32 y, .slice (some ⟨g', 0, none⟩) k c'] 43) = w8 at *
              go_loopw [125] (fun i wx => ∃ k3 : Nat, k3 ≤ k ∧ i = .int .i64 (k3 : Int) ∧ Hid (Below (w7.heap.size + 1) w8 wx)) (fun i _ => k - (intOf i).toNat)
              case atStart => exact ⟨0, by omega, rfl, hide (Below.refl _ _)⟩
              case round =>
                rename World => wz
                obtain ⟨k3, hk3, rfl, Hbz⟩ := hrel
                by_cases hlt3 : k3 < k
                · obtain ⟨ad, o, rfl, p0, p1, p2, p3, p4, ho0, ho1⟩ := unhide HF _ (unhide Hbz) k3 hlt3
                  go_wp2_with fail
                  go_region_held3 (fun w' => w'.cell? ⟨w7.heap.size, 4, none⟩ = some (.slice (some ⟨g', 0, none⟩) k c') ∧ w'.cell? ⟨g', k3 * 2, none⟩ = some (.bool false) ∧ w'.cell? ⟨g', k3 * 2 + 1, none⟩ = some (.int .u64 (Ha.rz o (delta % 4294967296) false)))
                    (first | go_keep | exact ⟨p2, p3, p4⟩) ((go_at_call 9; refine (braise_any o (delta % 4294967296) false _ ho0 ho1 (by omega) (by omega)).mono ?_; rintro r w9 ⟨rfl, rfl⟩))
                  go_wp2_with fail
                  go_roundw
                  case rel => exact ⟨k3 + 1, by omega, by go_num, hide (by first | exact (unhide Hbz).drew | exact unhide Hbz)⟩
                  case measure => simp [intOf]; omega
                · obtain rfl : k3 = k := by omega
                  go_wp2
                  go_ret
                  exact ⟨rfl, (unhide HB8).trans ((unhide Hbz).mono (by omega))⟩
            · go_wp2_with (first
                | (go_at_call 11; refine (be_any delta 8 wr hd0 hd1 (by omega)).mono ?_; rintro r w2 ⟨rfl, ho2, hb2⟩; replace ho2 := hide ho2; replace hb2 := hide hb2)
                | (go_at_call 10; refine (Ha.notify_body (w.heap.size + 1) 16423 0 (some ⟨wr.heap.size, 0, none⟩) 8 8 (Ha.beL 8 delta) w2 (by omega) (by omega) (by omega) (Ha.beL_length _ _) (by omega) (Ha.beL_bd _ _) (Nat.le_trans hsx (unhide hb2).size) (fun h => by cases h) (fun ad h => by cases h; exact ((unhide ho2).lt _ rfl).2) (fun ad h => by cases h; exact fun j u hj => by rw [Ha.at_add]; exact Ha.row_at (unhide ho2) j u hj)).mono ?_; rintro r w3 ⟨g3, n3, rfl, ho3, hb3⟩)
                | (at_builtin; refine Ha.pays_append rfl (.tmp 69) (.tmp 73) rfl _ (w.heap.size + 1) v L (.note 16423 0 (Ha.beL 8 delta)) (.slice (some ⟨g3, 0, none⟩) n3 n3) ⟨w3.heap.size, 0, none⟩ rfl rfl ((unhide HP).below (((unhide hb2).trans ((unhide hb3).mono (unhide hb2).size)).alloc (Nat.le_trans (unhide hb2).size (unhide hb3).size) _) (Nat.le_refl _)) ((unhide ho3).below ((Below.refl _ w3).alloc (Nat.le_refl _) _) (Nat.le_refl _)) ?c2 (by omega) ?c3 ?_))
              case c2 => exact Ha.three_new' _ _ rfl _ _ _ _
              case c3 => have := (unhide hb3).size; have := (unhide hb2).size; simp; omega
              intro v4 w4 hp4 hb4
              have hs23 := Nat.le_trans (unhide hb2).size (unhide hb3).size
              have HB4 := hide ((unhide Hbx).trans ((((unhide hb2).trans ((unhide hb3).mono (unhide hb2).size)).mono hsx).alloc (by omega) _ |>.trans hb4))
              have hs4 : w.heap.size + 1 ≤ w4.heap.size := Nat.le_trans hsz (unhide HB4).size
              have HSc4 : Hid (Ha.scan (L ++ [(.note 16423 0 (Ha.beL 8 delta), .slice (some ⟨g3, 0, none⟩) n3 n3)]) none = some (some (delta, true))) := by
                show Ha.scan _ _ = _
                rw [Ha.scan_append, unhide HSc]
                simp [Ha.scan, Ha.step, Ha.beL_length, Ha.beZ8 _ hd0 hd1]
              have hL4 : (L ++ [(Ha.Pl.note 16423 0 (Ha.beL 8 delta), Value.slice (some ⟨g3, 0, none⟩) n3 n3)]).length ≤ 4 := by simp; omega
              generalize L ++ [(Ha.Pl.note 16423 0 (Ha.beL 8 delta), Value.slice (some ⟨g3, 0, none⟩) n3 n3)] = L4 at *
              replace hp4 := hide hp4
              clear HP HSc hb4 hb2 hb3 ho2 ho3 Hbx hs23
              go_wp2_with (at_builtin; refine Ha.pays_append rfl (.tmp 84) (.tmp 86) rfl _ (w.heap.size + 1) v4 L4 (.other 40) (.slice none 0 0) ⟨w4.heap.size, 0, none⟩ rfl rfl ((unhide hp4).below ((Below.refl _ w4).alloc (Nat.le_refl _) _) (Nat.le_refl _)) ⟨by decide, _, _, _, rfl⟩ ?c2 (by omega) (by simp; omega) ?_)
              case c2 => exact Ha.three_new' _ _ rfl _ _ _ _
              intro v5 w5 hp5 hb5
              have HB5 := hide ((unhide HB4).trans (((Below.refl _ w4).alloc hs4 _).trans hb5))
              have hs5 : w.heap.size + 1 ≤ w5.heap.size := Nat.le_trans hsz (unhide HB5).size
              obtain ⟨pb, pc, rfl, HC⟩ := Ha.raise_sync true m x y k outs v5 _ delta w w5 (unhide Hn) (by omega) (unhide Hbd) (by omega) (by omega) hp5 (by simp; omega) (by simp) (by rw [Ha.scan_append, unhide HSc4]; rfl) ((unhide hat1).below (unhide HB5) (by omega)) (hbel.trans ((unhide HB5).mono (by omega))) hs5
              replace HC := hide HC
              generalize (L4 ++ [(Ha.Pl.other 40, Value.slice none 0 0)]).length = pn at *
              clear hp5 hb5 hp4 HB4 HSc4
              go_wp2_with (go_at_call 8; refine (unhide HC).mono ?_; rintro r w7 ⟨g', c', rfl, ⟨o0, o1, o2, o3, o4⟩, HR, hs7, hs7'⟩)
              clear HC o0 o1 o2 o3 o4 HB5
              have HF : Hid (∀ wr', Below (w7.heap.size + 1) (w7.alloc (.cells #[.bool m, .bool true, .int .u32 x, .int .u32 y, .slice (some ⟨g', 0, none⟩) k c'] 43)) wr' → ∀ k3, k3 < k → ∃ ad o, ao = some ad ∧ wr'.cell? (ad.add k3) = some (.int .u64 o) ∧ wr'.cell? ⟨w.heap.size, k3 * 2 + 1, none⟩ = some (.int .u64 o) ∧
                  wr'.cell? ⟨w7.heap.size, 4, none⟩ = some (.slice (some ⟨g', 0, none⟩) k c') ∧ wr'.cell? ⟨g', k3 * 2, none⟩ = some (.bool true) ∧ wr'.cell? ⟨g', k3 * 2 + 1, none⟩ = some (.int .u64 (Ha.rz o (delta) true)) ∧ 0 ≤ o ∧ o ≤ 18446744073709551615) := by
                obtain ⟨hg', h1, h2, h3⟩ := unhide HR
                have hb7 : Below w7.heap.size w7 (w7.alloc (.cells #[.bool m, .bool true, .int .u32 x, .int .u32 y, .slice (some ⟨g', 0, none⟩) k c'] 43)) := (Below.refl _ _).alloc (Nat.le_refl _) _
                exact fun wr' hbr k3 hk3 => Ha.raise_reads true k outs ao (delta) g' w7.heap.size _ w _ wr' (unhide Hn) (unhide Hbd) (unhide Hc) (by simp; omega) (by simp) (Ha.five_new w7 _ _ _ _ _ 43).2.2.2.2 (h1.below hb7 hg') (h2.below hb7 hs7') (h3.trans (hb7.mono (by omega))) (by simp; omega) (by simpa using hbr) k3 hk3
              have HB8 : Hid (Below w.heap.size w (w7.alloc (.cells #[.bool m, .bool true, .int .u32 x, .int .u32 y, .slice (some ⟨g', 0, none⟩) k c'] 43))) := (unhide HR).2.2.2.alloc (by omega) _
              have hs8 : (w7.alloc (.cells #[.bool m, .bool true, .int .u32 x, .int .u32 y, .slice (some ⟨g', 0, none⟩) k c'] 43)).heap.size = w7.heap.size + 1 := by simp
              clear HR Hn Hbd Hc hat1
              generalize w7.alloc (.cells #[.bool m, .bool true, .int .u32 x, .int .u32 y, .slice (some ⟨g', 0, none⟩) k c'] 43) = w8 at *
              go_loopw [125] (fun i wx => ∃ k3 : Nat, k3 ≤ k ∧ i = .int .i64 (k3 : Int) ∧ Hid (Below (w7.heap.size + 1) w8 wx)) (fun i _ => k - (intOf i).toNat)
              case atStart => exact ⟨0, by omega, rfl, hide (Below.refl _ _)⟩
              case round =>
                rename World => wz
                obtain ⟨k3, hk3, rfl, Hbz⟩ := hrel
                by_cases hlt3 : k3 < k
                · obtain ⟨ad, o, rfl, p0, p1, p2, p3, p4, ho0, ho1⟩ := unhide HF _ (unhide Hbz) k3 hlt3
                  go_wp2_with fail
                  go_region_held3 (fun w' => w'.cell? ⟨w7.heap.size, 4, none⟩ = some (.slice (some ⟨g', 0, none⟩) k c') ∧ w'.cell? ⟨g', k3 * 2, none⟩ = some (.bool true) ∧ w'.cell? ⟨g', k3 * 2 + 1, none⟩ = some (.int .u64 (Ha.rz o (delta) true)))
                    (first | go_keep | exact ⟨p2, p3, p4⟩) ((go_at_call 9; refine (braise_any o (delta) true _ ho0 ho1 (by omega) (by omega)).mono ?_; rintro r w9 ⟨rfl, rfl⟩))
                  go_wp2_with fail
                  go_roundw
                  case rel => exact ⟨k3 + 1, by omega, by go_num, hide (by first | exact (unhide Hbz).drew | exact unhide Hbz)⟩
                  case measure => simp [intOf]; omega
                · obtain rfl : k3 = k := by omega
                  go_wp2
                  go_ret
                  exact ⟨rfl, (unhide HB8).trans ((unhide Hbz).mono (by omega))⟩

end Go.Proofs.YbulkbwgiFmt
