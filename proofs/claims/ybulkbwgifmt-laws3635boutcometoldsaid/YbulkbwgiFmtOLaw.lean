/-
  LawS3635BOutcome (3).
-/
import Derived.Test.YbulkbwgiFmtOLawSync
import Derived.Deep.CutBlock
namespace Go.Proofs.YbulkbwgiFmt
open Go.RowKit Go.Extern.Stop Go.Stop Go.Extern
open Ha (hide unhide)

set_option maxRecDepth 100000 in
set_option maxHeartbeats 6400000 in
theorem boutcome_law (F : Interp) (u m : Bool) (x y : Int) (a mx : Bool) (ak : Option Addr) (n ck : Nat) (kz : List (Bool × Int)) (az : Option Addr) (sn cs : Nat) (st : List (Int × Int × Int)) (w : World) (hF : F.answers w.tape)
    (hn : kz.length = n) (hsn : st.length = sn) (hkb : ∀ z ∈ kz, 0 ≤ z.2 ∧ z.2 ≤ 18446744073709551615) (hsb : ∀ z ∈ st, (0 ≤ z.1 ∧ z.1 ≤ 255) ∧ (0 ≤ z.2.1 ∧ z.2.1 ≤ 18446744073709551615) ∧ (0 ≤ z.2.2 ∧ z.2.2 ≤ 255))
    (hkc : ∀ k (h : k < kz.length), ∃ kb ko, ak = some ⟨kb, ko, none⟩ ∧ kb < w.heap.size ∧ w.cell? ⟨kb, ko + k * 2, none⟩ = some (.bool kz[k].1) ∧ w.cell? ⟨kb, ko + k * 2 + 1, none⟩ = some (.int .u64 kz[k].2))
    (hsc : ∀ k (h : k < st.length), ∃ sb so, az = some ⟨sb, so, none⟩ ∧ sb < w.heap.size ∧ w.cell? ⟨sb, so + k * 3, none⟩ = some (.int .u8 st[k].1) ∧ w.cell? ⟨sb, so + k * 3 + 1, none⟩ = some (.int .u64 st[k].2.1) ∧ w.cell? ⟨sb, so + k * 3 + 2, none⟩ = some (.int .u8 st[k].2.2)) :
    Calls Ybaf.prog 3 #[.bool u, .bool m, .int .u32 x, .int .u32 y, .bool a, .bool mx, .slice ak n ck, .slice az sn cs] w fun r w' => r = .returned (.bool true) ∧ Below w.heap.size w w' := by
  obtain ⟨i0, hi, hz0, hz1, hz2⟩ := info_parts Ha.info29
  obtain ⟨j0, hj, hy0, hy1, hy2⟩ := info_parts Ha.info36
  have Hkc := hide hkc
  have Hsc := hide hsc
  have Hn := hide hn
  have Hsn := hide hsn
  have Hkb := hide hkb
  have Hsb := hide hsb
  have HF := hide hF
  clear hkc hsc hn hsn hkb hsb hF
  by_cases hbig : 1024 < n
  · go_enter Ybaf.func3, Ybaf.ntmps3
    go_wp2
    go_ret
    exact ⟨rfl, Below.refl _ _⟩
  by_cases hbig2 : 1024 < sn
  · go_enter Ybaf.func3, Ybaf.ntmps3
    go_wp2
    go_ret
    exact ⟨rfl, Below.refl _ _⟩
  go_enter Ybaf.func3, Ybaf.ntmps3
  go_wp2_with (at_make; refine wpList_make_full _ rfl _ _ 25 rfl w.heap.size 29 i0 (.agg #[.bool false, .int .u64 0]) 2 Ybaf.underlying25 hi hz0 hz1 _ _ _ _ n rfl rfl rfl rfl ?b1 ?b2 ?b3 ?_)
  case b1 => rw [hz2]; omega
  case b2 => unfold maxLen; omega
  case b3 => simp
  intro w1 hown1 hgrow1
  have hb1 : Below w.heap.size w w1 := (Below.refl _ _).grown hgrow1 (Nat.le_refl _) (by intro k hk; cases hk)
  clear hgrow1
  obtain ⟨ch, hch⟩ : ∃ ch : List (Bool × Int), Hid (ch = kz.map fun c => (bif mx then c.1 else a, c.2)) := ⟨_, rfl⟩
  have Hcl : Hid (ch.length = n) := by show ch.length = n; rw [unhide hch, List.length_map]; exact unhide Hn
  go_wp2
  go_loopw [53] (fun i wr => ∃ k : Nat, k ≤ n ∧ i = .int .i64 (k : Int) ∧ wr.ownsRow w.heap.size 29 2 (.slice (some ⟨w.heap.size, 0, none⟩) n n) n (Ha.chCells (Ha.kidsG ch n k)) ∧ Below w.heap.size w wr) (fun i _ => n - (intOf i).toNat)
  case atStart =>
    refine ⟨0, by omega, rfl, ?_, hb1⟩
    have := hown1
    rw [Ha.kidsG_made] at this
    simpa [Ha.kidsG] using this
  case round =>
    obtain ⟨k, hk, rfl, hown, hbel⟩ := hrel
    clear hown1 hb1
    by_cases hlt : k < n
    · have hk' : k < kz.length := by rw [unhide Hn]; exact hlt
      obtain ⟨kb, ko, rfl, had, c0, c1⟩ := unhide Hkc k hk'
      have HS := hide (Ha.kidsG_succ ch n k (unhide Hcl) hlt (bif mx then kz[k].1 else a) kz[k].2 (by rw [unhide hch]; simp [hk']))
      replace c0 := (hbel.cell (p := ⟨kb, ko + k * 2, none⟩) had).trans c0
      replace c1 := (hbel.cell (p := ⟨kb, ko + k * 2 + 1, none⟩) had).trans c1
      have hadr : kb < wr.heap.size := Nat.lt_of_lt_of_le had hbel.size
      generalize kz[k].2 = o at *
      generalize kz[k].1 = b at *
      have hl : (Ha.chCells (Ha.kidsG ch n k)).length = n * 2 := hown.1
      obtain ⟨u0, hu0⟩ : ∃ u, wr.cell? ⟨w.heap.size, k * 2, none⟩ = some u := by rw [hown.cellAt (k * 2) (by omega)]; exact ⟨_, List.getElem?_eq_getElem (by omega)⟩
      obtain ⟨u1, hu1⟩ : ∃ u, wr.cell? ⟨w.heap.size, k * 2 + 1, none⟩ = some u := by rw [hown.cellAt (k * 2 + 1) (by omega)]; exact ⟨_, List.getElem?_eq_getElem (by omega)⟩
      have f0 := hown.frozenAt (k * 2)
      have f1 := hown.frozenAt (k * 2 + 1)
      have hwr : w.heap.size < wr.heap.size := (hown.lt w.heap.size rfl).2
      have HO := hide ((hown.stored (k * 2) (.bool (bif mx then b else a))).1.stored (k * 2 + 1) (.int .u64 o)).1
      rw [unhide HS] at HO
      clear hown hk' HS
      cases mx
      all_goals
        go_wp2
        go_roundw
        case rel => exact ⟨k + 1, by omega, by go_num, (unhide HO).alloc _, ((hbel.setCell (Nat.le_refl _) _).setCell (Nat.le_refl _) _).alloc (by simp; omega) _⟩
        case measure => simp [intOf]; omega
    · obtain rfl : k = n := by omega
      rw [Ha.kidsG_done _ _ (unhide Hcl)] at hown
      have hat1 := hide (Ha.row_at hown)
      have hsz : w.heap.size + 1 ≤ wr.heap.size := by have := (hown.lt w.heap.size rfl).2; omega
      clear hown
      rename World => wk
      go_wp2_with (at_make; refine wpList_make_full _ rfl _ _ 30 rfl wk.heap.size 36 j0 (.agg #[.int .u8 0, .bool false, .slice none 0 0]) 3 Ybaf.underlying30 hj hy0 hy1 _ _ _ _ sn rfl rfl rfl rfl ?b1 ?b2 ?b3 ?_)
      case b1 => rw [hy2]; omega
      case b2 => unfold maxLen; omega
      case b3 => simp
      intro w2 hown2 hgrow2
      have hb2 : Below wk.heap.size wk w2 := (Below.refl _ _).grown hgrow2 (Nat.le_refl _) (by intro k hk; cases hk)
      clear hgrow2
      go_wp2
      go_loopw [75] (fun i wx => ∃ (j : Nat) (L : List (Ha.Pl × Value)), j ≤ sn ∧ i = .int .i64 (j : Int) ∧ L.length = j ∧ wx.ownsRow wk.heap.size 36 3 (.slice (some ⟨wk.heap.size, 0, none⟩) sn sn) sn (Ha.plCells (L ++ List.replicate (sn - j) Ha.zPl)) ∧ Hid (Ha.Laid wx (wk.heap.size + 1) (st.take j) L) ∧ Below wk.heap.size wk wx) (fun i _ => sn - (intOf i).toNat)
      case atStart =>
        refine ⟨0, [], by omega, rfl, rfl, ?_, ⟨by simp, fun p hp => by cases hp⟩, hb2⟩
        have := hown2
        rw [Ha.pls_made] at this
        simpa using this
      case round =>
        obtain ⟨j, L, hj1, rfl, hLj, hown, HL, hbx⟩ := hrel
        clear hown2 hb2
        by_cases hjl : j < sn
        · have hj' : j < st.length := by rw [unhide Hsn]; exact hjl
          obtain ⟨sb, so, rfl, hsbl, c0, c1, c2⟩ := unhide Hsc j hj'
          obtain ⟨⟨b0, b1⟩, ⟨b2, b3⟩, ⟨b4, b5⟩⟩ := unhide Hsb _ (List.getElem_mem hj')
          have hbw : Below w.heap.size w wr := hbel.trans (hbx.mono hbel.size)
          replace c0 := (hbw.cell (p := ⟨sb, so + j * 3, none⟩) hsbl).trans c0
          replace c1 := (hbw.cell (p := ⟨sb, so + j * 3 + 1, none⟩) hsbl).trans c1
          replace c2 := (hbw.cell (p := ⟨sb, so + j * 3 + 2, none⟩) hsbl).trans c2
          have hwr : wk.heap.size < wr.heap.size := (hown.lt wk.heap.size rfl).2
          have HC := hide (Ha.pay_round wk wr sn j L st hj' hjl hLj hown (unhide HL) hwr ⟨⟨b0, b1⟩, ⟨b2, b3⟩, ⟨b4, b5⟩⟩ (.cells #[.int .u8 st[j].1, .int .u64 st[j].2.1, .int .u8 st[j].2.2] 32))
          have hLn : ∀ bv, Hid ((L ++ [(Ha.plOf st[j].1 st[j].2.1 st[j].2.2, bv)]).length = j + 1) := fun bv => hide (by simp [hLj])
          generalize Ha.plOf st[j].1 st[j].2.1 st[j].2.2 = P at *
          generalize st[j].1 = kd at *
          generalize st[j].2.1 = dl at *
          generalize st[j].2.2 = ex at *
          clear hown HL
          have hsr : sb < wr.heap.size := Nat.lt_of_lt_of_le hsbl hbw.size
          go_wp2_with (go_at_call 7; refine (unhide HC).mono ?_; rintro e w3 ⟨ba, bn, bc, v0, v1, v2, rfl, d0, d1, d2, f0, f1, f2, HH, hb3⟩)
          go_roundw
          case rel => exact ⟨j + 1, _, by omega, by go_num, unhide (hLn _), (unhide HH).1, (unhide HH).2, hbx.trans (((((unhide hb3).mono (Nat.le_of_lt hwr)).setCell (Nat.le_refl _) _).setCell (Nat.le_refl _) _).setCell (Nat.le_refl _) _)⟩
          case measure => simp [intOf]; omega
        · obtain rfl : j = sn := by omega
          have hlen : L.length = j := hLj
          rw [Nat.sub_self, List.replicate_zero, List.append_nil] at hown
          have HPat := hide (Ha.row_at hown)
          have hpz : wk.heap.size < wr.heap.size := (hown.lt wk.heap.size rfl).2
          rw [List.take_of_length_le (by rw [unhide Hsn]; exact Nat.le_refl _)] at HL
          have HBx := hide hbx
          clear hown hbx
          rename World => wp
          have HSync : Hid (∀ W, Below (wp.heap.size + 1) (wp.alloc (.cells (Ha.own5 m u x y (.slice (some ⟨w.heap.size, 0, none⟩) k k)) 43)) W → _) := hide (fun W hb => law_sync F u m x y k j ch L st w wk wp (unhide HF) (unhide Hcl) (by omega) hlen (by omega)
            (fun z hz => by rw [unhide hch] at hz; obtain ⟨q, hq, rfl⟩ := List.mem_map.1 hz; exact unhide Hkb q hq) (fun z hz => (unhide Hsb z hz).2) hbel hsz (unhide HBx) hpz (unhide hat1) (unhide HPat) (unhide HL) W hb)
          go_upto_block 4 with fail
          go_cut [25, 26, 27, 28, 30, 31] from 97 to 124 (fun ok seen d e s30 s31 wx => ∃ (s : Option (Int × Bool)) (ob : Bool), ok = .bool ob ∧ seen = .bool s.isSome ∧ d = .int .u64 (Ha.dOf s) ∧ e = .bool (Ha.eOf s) ∧ Hid (Ha.verd u st = if ob = true then s else none) ∧ Hid (0 ≤ Ha.dOf s ∧ Ha.dOf s ≤ 18446744073709551615) ∧ Hid (Below (wp.heap.size + 1) (wp.alloc (.cells #[.bool m, .bool u, .int .u32 x, .int .u32 y, .slice (some ⟨w.heap.size, 0, none⟩) k k] 43)) wx))
          case first =>
            go_wp2_with fail
            go_loopw [25, 26, 27, 28, 97] (fun ok seen d e i wx => ∃ (k3 : Nat) (s : Option (Int × Bool)) (ob : Bool), k3 ≤ j ∧ i = .int .i64 (k3 : Int) ∧ ok = .bool ob ∧ seen = .bool s.isSome ∧ d = .int .u64 (Ha.dOf s) ∧ e = .bool (Ha.eOf s) ∧ Hid (Ha.Mode u st k3 s ob) ∧ Hid (0 ≤ Ha.dOf s ∧ Ha.dOf s ≤ 18446744073709551615) ∧ Hid (Below (wp.heap.size + 1) (wp.alloc (.cells #[.bool m, .bool u, .int .u32 x, .int .u32 y, .slice (some ⟨w.heap.size, 0, none⟩) k k] 43)) wx)) (fun _ _ _ _ i _ => j - (intOf i).toNat)
            case atStart => exact ⟨0, none, u, by omega, rfl, rfl, rfl, rfl, rfl, Ha.Mode.start u st, by show (0 : Int) ≤ 0 ∧ (0 : Int) ≤ _; omega, Below.refl _ _⟩
            case round =>
              obtain ⟨k3, s, ob, hk3, rfl, rfl, rfl, rfl, rfl, HM, Hd, Hb3⟩ := hrel
              have hz3 : wp.heap.size + 1 ≤ wr.heap.size := by have := (unhide Hb3).size; simpa using this
              by_cases hl3 : k3 < j
              · have hj' : k3 < st.length := by rw [unhide Hsn]; exact hl3
                obtain ⟨sb, so, rfl, hsbl, c0, c1, c2⟩ := unhide Hsc k3 hj'
                obtain ⟨⟨b0, b1⟩, ⟨b2, b3⟩, ⟨b4, b5⟩⟩ := unhide Hsb _ (List.getElem_mem hj')
                have hbw : Below w.heap.size w wr := hbel.trans (((unhide HBx).trans (((Below.refl _ wp).alloc (by omega) _).trans ((unhide Hb3).mono (by omega)))).mono hbel.size)
                replace c0 := (hbw.cell (p := ⟨sb, so + k3 * 3, none⟩) hsbl).trans c0
                replace c1 := (hbw.cell (p := ⟨sb, so + k3 * 3 + 1, none⟩) hsbl).trans c1
                replace c2 := (hbw.cell (p := ⟨sb, so + k3 * 3 + 2, none⟩) hsbl).trans c2
                have hsr : sb < wr.heap.size := Nat.lt_of_lt_of_le hsbl hbw.size
                cases ob
                · have HV := hide (Ha.verd_of (unhide HM) (fun h => by cases h))
                  clear b0 b1 b2 b3 b4 b5 HM
                  generalize st[k3].1 = kd at *
                  generalize st[k3].2.1 = dl at *
                  generalize st[k3].2.2 = ex at *
                  go_wp2
                  go_meet
                  exact ⟨s, false, rfl, rfl, rfl, rfl, HV, Hd, hide ((unhide Hb3).alloc hz3 _)⟩
                · have HMore : Hid (∀ s1, Ha.mstep s st[k3].1 st[k3].2.1 = some s1 → Ha.Mode u st (k3 + 1) s1 true) := hide (fun s1 h => (unhide HM).more hj' h)
                  have HFail : Hid (Ha.mstep s st[k3].1 st[k3].2.1 = none → Ha.Mode u st (k3 + 1) s false) := hide (fun h => (unhide HM).fail hj' h _ _)
                  clear HM hbw
                  generalize st[k3].1 = kd at *
                  generalize st[k3].2.1 = dl at *
                  generalize st[k3].2.2 = ex at *
                  have hk8 : kd % 8 = 0 ∨ kd % 8 = 1 ∨ kd % 8 = 2 ∨ kd % 8 = 3 ∨ kd % 8 = 4 ∨ kd % 8 = 5 ∨ kd % 8 = 6 ∨ kd % 8 = 7 := by omega
                  rcases hk8 with h8 | h8 | h8 | h8 | h8 | h8 | h8 | h8
                  · have HN := hide (unhide HMore s (by simp [Ha.mstep, h8]))
                    clear HMore HFail
                    go_wp2
                    go_roundw
                    case rel => exact ⟨k3 + 1, s, true, by omega, by go_num, rfl, rfl, rfl, rfl, HN, Hd, hide ((unhide Hb3).alloc hz3 _)⟩
                    case measure => simp [intOf]; omega
                  · cases s with
                    | none =>
                      have HN := hide (unhide HMore (some (dl % 4294967296, false)) (by simp [Ha.mstep, h8]))
                      clear HMore HFail
                      go_wp2
                      go_roundw
                      case rel => exact ⟨k3 + 1, some (dl % 4294967296, false), true, by omega, by go_num, rfl, rfl, rfl, rfl, HN, by show 0 ≤ dl % 4294967296 ∧ dl % 4294967296 ≤ _; omega, hide ((unhide Hb3).alloc hz3 _)⟩
                      case measure => simp [intOf]; omega
                    | some p =>
                      have HN := hide (unhide HFail (by simp [Ha.mstep, h8]))
                      clear HMore HFail
                      go_wp2
                      go_roundw
                      case rel => exact ⟨k3 + 1, some p, false, by omega, by go_num, rfl, rfl, rfl, rfl, HN, Hd, hide ((unhide Hb3).alloc hz3 _)⟩
                      case measure => simp [intOf]; omega
                  · cases s with
                    | none =>
                      have HN := hide (unhide HMore (some (dl, true)) (by simp [Ha.mstep, h8]))
                      clear HMore HFail
                      go_wp2
                      go_roundw
                      case rel => exact ⟨k3 + 1, some (dl, true), true, by omega, by go_num, rfl, rfl, rfl, rfl, HN, ⟨b2, b3⟩, hide ((unhide Hb3).alloc hz3 _)⟩
                      case measure => simp [intOf]; omega
                    | some p =>
                      have HN := hide (unhide HFail (by simp [Ha.mstep, h8]))
                      clear HMore HFail
                      go_wp2
                      go_roundw
                      case rel => exact ⟨k3 + 1, some p, false, by omega, by go_num, rfl, rfl, rfl, rfl, HN, Hd, hide ((unhide Hb3).alloc hz3 _)⟩
                      case measure => simp [intOf]; omega
                  · have HN := hide (unhide HFail (by simp [Ha.mstep, h8]))
                    clear HMore HFail
                    go_wp2
                    go_roundw
                    case rel => exact ⟨k3 + 1, s, false, by omega, by go_num, rfl, rfl, rfl, rfl, HN, Hd, hide ((unhide Hb3).alloc hz3 _)⟩
                    case measure => simp [intOf]; omega
                  · have HN := hide (unhide HMore s (by simp [Ha.mstep, h8]))
                    clear HMore HFail
                    go_wp2
                    go_roundw
                    case rel => exact ⟨k3 + 1, s, true, by omega, by go_num, rfl, rfl, rfl, rfl, HN, Hd, hide ((unhide Hb3).alloc hz3 _)⟩
                    case measure => simp [intOf]; omega
                  all_goals
                    have HN := hide (unhide HFail (by simp [Ha.mstep, h8]))
                    clear HMore HFail
                    go_wp2
                    go_roundw
                    case rel => exact ⟨k3 + 1, s, false, by omega, by go_num, rfl, rfl, rfl, rfl, HN, Hd, hide ((unhide Hb3).alloc hz3 _)⟩
                    case measure => simp [intOf]; omega
              · obtain rfl : k3 = j := by omega
                have HV := hide (Ha.verd_of (unhide HM) (fun _ => (unhide Hsn).symm))
                clear HM
                go_wp2
                go_meet
                exact ⟨s, ob, rfl, rfl, rfl, rfl, HV, Hd, Hb3⟩
          case rest =>
            rename World => wc
            obtain ⟨s, ob, rfl, rfl, rfl, rfl, HV, Hd, Hb3⟩ := hcut
            obtain ⟨si, hsi⟩ : ∃ si, s.isSome = si := ⟨_, rfl⟩
            rw [hsi]
            replace hsi := hide hsi
            go_upto_if 126 with fail
            go_cut [25, 26] from 125 to 126 (fun ok seen wx => ok = .bool (ob && si) ∧ wx = wc)
            case first =>
              cases si
              · go_wp2
                go_meet
                exact ⟨by simp, rfl⟩
              · go_wp2
                go_meet
                exact ⟨by simp, rfl⟩
            case rest =>
              obtain ⟨rfl, rfl⟩ := hcut
              rename World => wd
              have HG : Hid (Ha.Five wd wp.heap.size (.bool m) (.bool u) (.int .u32 x) (.int .u32 y) (.slice (some ⟨w.heap.size, 0, none⟩) k k)) := hide ((Ha.five_new wp _ _ _ _ _ 43).below (unhide Hb3) (by omega))
              have hzd : wp.heap.size + 1 ≤ wd.heap.size := by have := (unhide Hb3).size; simpa using this
              have hzz : w.heap.size + 1 ≤ wp.heap.size := by omega
              cases hos : (ob && si)
              · have HVn : Hid (Ha.verd u st = none) := by
                  have h1 := unhide HV
                  have h2 := unhide hsi
                  cases ob with
                  | false => exact hide (by simpa using h1)
                  | true =>
                    simp only [Bool.true_and] at hos
                    rw [hos] at h2
                    cases s with
                    | none => exact hide (by simpa using h1)
                    | some p => simp at h2
                clear HV hsi hos Hd HG
                obtain ⟨⟨o0, o1, o2, o3, o4⟩, hsW, hRef, hAcc⟩ := unhide HSync wd (unhide Hb3)
                have HC8 := hide (hRef (.inl (unhide HVn)))
                clear hRef hAcc HSync
                go_wp2_with (go_at_call 8; refine (unhide HC8).mono ?_; rintro r w7 ⟨t, b, ht, rfl, ⟨p0, p1, p2, p3, p4⟩, HCm, hs7⟩)
                clear o0 o1 o2 o3 o4 p0 p1 p2 p3 p4 HC8
                have HRd : Hid (∀ wr', Below (w7.heap.size + 1) (w7.alloc (.cells #[.bool m, .bool u, .int .u32 x, .int .u32 y, .slice (some ⟨w.heap.size, 0, none⟩) k k] 43)) wr' → ∀ k5, k5 < k → ∃ kb ko b eb o, ak = some ⟨kb, ko, none⟩ ∧ kb < w.heap.size ∧ wr'.cell? ⟨kb, ko + k5 * 2, none⟩ = some (.bool b) ∧ wr'.cell? ⟨kb, ko + k5 * 2 + 1, none⟩ = some (.int .u64 o) ∧ wr'.cell? ⟨w.heap.size, k5 * 2, none⟩ = some (.bool eb) ∧ wr'.cell? ⟨w.heap.size, k5 * 2 + 1, none⟩ = some (.int .u64 o) ∧
                    wr'.cell? ⟨w7.heap.size, 4, none⟩ = some (.slice (some ⟨w.heap.size, 0, none⟩) k k) ∧ wr'.cell? ⟨w.heap.size, k5 * 2, none⟩ = some (.bool eb) ∧ wr'.cell? ⟨w.heap.size, k5 * 2 + 1, none⟩ = some (.int .u64 (o)) ∧ 0 ≤ o ∧ o ≤ 18446744073709551615) := by
                  obtain ⟨hg', q1, q2, q3, q4⟩ := unhide HCm
                  have hb7 : Below w7.heap.size w7 (w7.alloc (.cells #[.bool m, .bool u, .int .u32 x, .int .u32 y, .slice (some ⟨w.heap.size, 0, none⟩) k k] 43)) := (Below.refl _ _).alloc (Nat.le_refl _) _
                  exact fun wr' hbr k5 hk5 => Ha.out_reads k kz ch mx a Prod.snd ak w.heap.size w7.heap.size _ w _ wr' (unhide Hn) (unhide hch) (unhide Hkb) (unhide Hkc) (by simp; omega) (by simp) (Ha.five_new w7 _ _ _ _ _ 43).2.2.2.2 (q1.below hb7 hg') (q2.below hb7 q4) (q3.trans (hb7.mono (by omega))) (by simp; omega) (by simpa using hbr) k5 hk5
                have HB8 : Hid (Below w.heap.size w (w7.alloc (.cells #[.bool m, .bool u, .int .u32 x, .int .u32 y, .slice (some ⟨w.heap.size, 0, none⟩) k k] 43))) := (unhide HCm).2.2.2.1.alloc (Nat.le_of_lt (unhide HCm).2.2.2.2) _
                have hs8 : (w7.alloc (.cells #[.bool m, .bool u, .int .u32 x, .int .u32 y, .slice (some ⟨w.heap.size, 0, none⟩) k k] 43)).heap.size = w7.heap.size + 1 := by simp
                have hw7 : w.heap.size < w7.heap.size := (unhide HCm).2.2.2.2
                skip
                clear HCm Hn Hkb Hkc hch hat1 HL HPat HBx Hsc Hsb Hsn Hcl
                generalize (w7.alloc (.cells #[.bool m, .bool u, .int .u32 x, .int .u32 y, .slice (some ⟨w.heap.size, 0, none⟩) k k] 43)) = w8 at *
                go_loopw [181] (fun i wx => ∃ k5 : Nat, k5 ≤ k ∧ i = .int .i64 (k5 : Int) ∧ Hid (Below (w7.heap.size + 1) w8 wx)) (fun i _ => k - (intOf i).toNat)
                case atStart => exact ⟨0, by omega, rfl, hide (Below.refl _ _)⟩
                case round =>
                  rename World => wz
                  obtain ⟨k5, hk5, rfl, Hbz⟩ := hrel
                  have hzz5 : w7.heap.size + 1 ≤ wz.heap.size := by have := (unhide Hbz).size; omega
                  by_cases hl5 : k5 < k
                  · obtain ⟨kb, ko, cb, eb, o, rfl, hkbl, q0, q1, q2, q3, q4, q5, q6, ho0, ho1⟩ := unhide HRd _ (unhide Hbz) k5 hl5
                    have ha1 : kb < wz.heap.size := by omega
                    have ha2 : w.heap.size < wz.heap.size := by omega
                    have ha3 : w7.heap.size < wz.heap.size := by omega
                    have ha4 : w.heap.size < wz.heap.size := by omega
                    clear HRd
                    go_wp2
                    go_quiet (fail)
                    go_wp2
                    go_roundw
                    case rel => exact ⟨k5 + 1, by omega, by go_num, hide (below_drewN (((unhide Hbz).alloc (by omega) _).alloc (by simp; omega) _) _)⟩
                    case measure => simp [intOf]; omega
                  · obtain rfl : k5 = k := by omega
                    rcases ht with rfl | rfl
                    · go_wp2
                      go_ret
                      exact ⟨rfl, (unhide HB8).trans ((unhide Hbz).mono (by omega))⟩
                    · go_wp2
                      go_ret
                      exact ⟨rfl, (unhide HB8).trans ((unhide Hbz).mono (by omega))⟩
              · obtain ⟨⟨d, e⟩, rfl, hob⟩ : ∃ p, s = some p ∧ ob = true := by
                  simp only [Bool.and_eq_true] at hos
                  cases s with
                  | none => have := unhide hsi; rw [hos.2] at this; simp at this
                  | some p => exact ⟨p, rfl, hos.1⟩
                have HVs : Hid (Ha.verd u st = some (d, e)) := by have := unhide HV; rw [hob] at this; exact this
                obtain ⟨hd0, hd1⟩ : 0 ≤ d ∧ d ≤ 18446744073709551615 := unhide Hd
                clear HV Hd hsi hos hob
                simp only [Ha.dOf, Ha.eOf]
                go_upto_if 132 with fail
                go_cut [25, 33] from 127 to 152 (fun ok s33 wx => ok = .bool (Ha.agree ch e) ∧ Hid (Below (wp.heap.size + 1) (wp.alloc (.cells #[.bool m, .bool u, .int .u32 x, .int .u32 y, .slice (some ⟨w.heap.size, 0, none⟩) k k] 43)) wx))
                case first =>
                  by_cases hk0 : 0 < k
                  · have hc0 : 0 < ch.length := by rw [unhide Hcl]; exact hk0
                    obtain ⟨b0, hb0⟩ : ∃ b0, ch[0].1 = b0 := ⟨_, rfl⟩
                    have HAg := hide (Ha.agree_at ch e hc0)
                    rw [hb0] at HAg
                    replace hb0 := hide hb0
                    have hk0' : (0 : Int) < (k : Int) := by omega
                    have hAtd : Ha.At wd w.heap.size (Ha.chCells ch) := (unhide hat1).below ((unhide HBx).mono (by omega) |>.trans (((Below.refl _ wp).alloc (by omega) _).trans ((unhide Hb3).mono (by omega)))) (by omega)
                    have HAtd := hide hAtd
                    clear hAtd
                    go_wp2_with fail
                    go_loopw [25, 135] (fun ok i wx => ∃ k4 : Nat, k4 ≤ k ∧ i = .int .i64 (k4 : Int) ∧ ok = .bool ((ch.take k4).all fun c => c.1 == b0) ∧ Hid (Below wd.heap.size wd wx)) (fun _ i _ => k - (intOf i).toNat)
                    case atStart => exact ⟨0, by omega, rfl, by simp, hide (Below.refl _ _)⟩
                    case round =>
                      rename World => we
                      obtain ⟨k4, hk4, rfl, rfl, Hbe⟩ := hrel
                      have hze : wd.heap.size ≤ we.heap.size := (unhide Hbe).size
                      have e2 : we.cell? ⟨w.heap.size, 0, none⟩ = some (.bool b0) := by
                        have := (unhide HAtd).below (unhide Hbe) (by omega) _ _ (Ha.ch_esn ch 0 hc0)
                        rw [show 0 * 2 = 0 from rfl] at this
                        rw [this, unhide hb0]
                      have hgr : w.heap.size < we.heap.size := by omega
                      by_cases hl4 : k4 < k
                      · have hk' : k4 < ch.length := by rw [unhide Hcl]; exact hl4
                        have e0 := (unhide HAtd).below (unhide Hbe) (by omega) _ _ (Ha.ch_esn ch k4 hk')
                        have e1 := (unhide HAtd).below (unhide Hbe) (by omega) _ _ (Ha.ch_out ch k4 hk')
                        have HT := hide (Ha.all_take ch b0 k4 hk')
                        generalize ch[k4].1 = cb at *
                        generalize ch[k4].2 = co at *
                        generalize ((ch.take k4).all fun c => c.1 == b0) = av at *
                        clear hk' hb0 hc0
                        by_cases hcb : cb = b0
                        · subst hcb
                          go_wp2
                          go_quiet (fail)
                          go_wp2
                          go_roundw
                          case rel => exact ⟨k4 + 1, by omega, by go_num, by rw [unhide HT]; simp, hide (below_drewN ((unhide Hbe).alloc hze _) _)⟩
                          case measure => simp [intOf]; omega
                        · obtain rfl : cb = !b0 := by revert hcb; cases cb <;> cases b0 <;> simp
                          go_wp2
                          go_quiet (fail)
                          go_wp2
                          go_roundw
                          case rel => exact ⟨k4 + 1, by omega, by go_num, by rw [unhide HT]; cases b0 <;> simp, hide (below_drewN ((unhide Hbe).alloc hze _) _)⟩
                          case measure => simp [intOf]; omega
                      · obtain rfl : k4 = k := by omega
                        rw [List.take_of_length_le (by rw [unhide Hcl]; exact Nat.le_refl _)]
                        have HB : Hid (Below (wp.heap.size + 1) (wp.alloc (.cells #[.bool m, .bool u, .int .u32 x, .int .u32 y, .slice (some ⟨w.heap.size, 0, none⟩) k4 k4] 43)) we) := (unhide Hb3).trans ((unhide Hbe).mono hzd)
                        generalize (ch.all fun c => c.1 == b0) = av at *
                        clear hb0 hc0
                        by_cases hbe : b0 = e
                        · subst hbe
                          go_wp2
                          go_meet
                          exact ⟨by rw [unhide HAg]; simp, HB⟩
                        · obtain rfl : b0 = !e := by revert hbe; cases b0 <;> cases e <;> simp
                          go_wp2
                          go_meet
                          exact ⟨by rw [unhide HAg]; cases e <;> simp, HB⟩
                  · obtain rfl : k = 0 := by omega
                    have hag : Ha.agree ch e = true := by
                      have := unhide Hcl
                      rw [List.length_eq_zero_iff] at this
                      rw [this]; rfl
                    have HAg := hide hag
                    clear hag
                    go_wp2
                    go_meet
                    exact ⟨by rw [unhide HAg], Hb3⟩
                case rest =>
                  obtain ⟨rfl, Hbc⟩ := hcut
                  rename World => wf
                  cases hag : Ha.agree ch e
                  · have HAg := hide hag
                    clear hag Hb3 HG hzd
                    obtain ⟨⟨o0, o1, o2, o3, o4⟩, hsW, hRef, hAcc⟩ := unhide HSync wf (unhide Hbc)
                    have HC8 := hide (hRef (.inr ⟨(d, e), unhide HVs, unhide HAg⟩))
                    clear hRef hAcc HSync
                    go_wp2_with (go_at_call 8; refine (unhide HC8).mono ?_; rintro r w7 ⟨t, b, ht, rfl, ⟨p0, p1, p2, p3, p4⟩, HCm, hs7⟩)
                    clear o0 o1 o2 o3 o4 p0 p1 p2 p3 p4 HC8
                    have HRd : Hid (∀ wr', Below (w7.heap.size + 1) (w7.alloc (.cells #[.bool m, .bool u, .int .u32 x, .int .u32 y, .slice (some ⟨w.heap.size, 0, none⟩) k k] 43)) wr' → ∀ k5, k5 < k → ∃ kb ko b eb o, ak = some ⟨kb, ko, none⟩ ∧ kb < w.heap.size ∧ wr'.cell? ⟨kb, ko + k5 * 2, none⟩ = some (.bool b) ∧ wr'.cell? ⟨kb, ko + k5 * 2 + 1, none⟩ = some (.int .u64 o) ∧ wr'.cell? ⟨w.heap.size, k5 * 2, none⟩ = some (.bool eb) ∧ wr'.cell? ⟨w.heap.size, k5 * 2 + 1, none⟩ = some (.int .u64 o) ∧
                        wr'.cell? ⟨w7.heap.size, 4, none⟩ = some (.slice (some ⟨w.heap.size, 0, none⟩) k k) ∧ wr'.cell? ⟨w.heap.size, k5 * 2, none⟩ = some (.bool eb) ∧ wr'.cell? ⟨w.heap.size, k5 * 2 + 1, none⟩ = some (.int .u64 (o)) ∧ 0 ≤ o ∧ o ≤ 18446744073709551615) := by
                      obtain ⟨hg', q1, q2, q3, q4⟩ := unhide HCm
                      have hb7 : Below w7.heap.size w7 (w7.alloc (.cells #[.bool m, .bool u, .int .u32 x, .int .u32 y, .slice (some ⟨w.heap.size, 0, none⟩) k k] 43)) := (Below.refl _ _).alloc (Nat.le_refl _) _
                      exact fun wr' hbr k5 hk5 => Ha.out_reads k kz ch mx a Prod.snd ak w.heap.size w7.heap.size _ w _ wr' (unhide Hn) (unhide hch) (unhide Hkb) (unhide Hkc) (by simp; omega) (by simp) (Ha.five_new w7 _ _ _ _ _ 43).2.2.2.2 (q1.below hb7 hg') (q2.below hb7 q4) (q3.trans (hb7.mono (by omega))) (by simp; omega) (by simpa using hbr) k5 hk5
                    have HB8 : Hid (Below w.heap.size w (w7.alloc (.cells #[.bool m, .bool u, .int .u32 x, .int .u32 y, .slice (some ⟨w.heap.size, 0, none⟩) k k] 43))) := (unhide HCm).2.2.2.1.alloc (Nat.le_of_lt (unhide HCm).2.2.2.2) _
                    have hs8 : (w7.alloc (.cells #[.bool m, .bool u, .int .u32 x, .int .u32 y, .slice (some ⟨w.heap.size, 0, none⟩) k k] 43)).heap.size = w7.heap.size + 1 := by simp
                    have hw7 : w.heap.size < w7.heap.size := (unhide HCm).2.2.2.2
                    skip
                    clear HCm Hn Hkb Hkc hch hat1 HL HPat HBx Hsc Hsb Hsn Hcl
                    generalize (w7.alloc (.cells #[.bool m, .bool u, .int .u32 x, .int .u32 y, .slice (some ⟨w.heap.size, 0, none⟩) k k] 43)) = w8 at *
                    go_loopw [181] (fun i wx => ∃ k5 : Nat, k5 ≤ k ∧ i = .int .i64 (k5 : Int) ∧ Hid (Below (w7.heap.size + 1) w8 wx)) (fun i _ => k - (intOf i).toNat)
                    case atStart => exact ⟨0, by omega, rfl, hide (Below.refl _ _)⟩
                    case round =>
                      rename World => wz
                      obtain ⟨k5, hk5, rfl, Hbz⟩ := hrel
                      have hzz5 : w7.heap.size + 1 ≤ wz.heap.size := by have := (unhide Hbz).size; omega
                      by_cases hl5 : k5 < k
                      · obtain ⟨kb, ko, cb, eb, o, rfl, hkbl, q0, q1, q2, q3, q4, q5, q6, ho0, ho1⟩ := unhide HRd _ (unhide Hbz) k5 hl5
                        have ha1 : kb < wz.heap.size := by omega
                        have ha2 : w.heap.size < wz.heap.size := by omega
                        have ha3 : w7.heap.size < wz.heap.size := by omega
                        have ha4 : w.heap.size < wz.heap.size := by omega
                        clear HRd
                        go_wp2
                        go_quiet (fail)
                        go_wp2
                        go_roundw
                        case rel => exact ⟨k5 + 1, by omega, by go_num, hide (below_drewN (((unhide Hbz).alloc (by omega) _).alloc (by simp; omega) _) _)⟩
                        case measure => simp [intOf]; omega
                      · obtain rfl : k5 = k := by omega
                        rcases ht with rfl | rfl
                        · go_wp2
                          go_ret
                          exact ⟨rfl, (unhide HB8).trans ((unhide Hbz).mono (by omega))⟩
                        · go_wp2
                          go_ret
                          exact ⟨rfl, (unhide HB8).trans ((unhide Hbz).mono (by omega))⟩
                  · have HAg := hide hag
                    clear hag Hb3 HG hzd
                    obtain ⟨⟨o0, o1, o2, o3, o4⟩, hsW, hRef, hAcc⟩ := unhide HSync wf (unhide Hbc)
                    have HC8 := hide (hAcc d e (unhide HVs) (unhide HAg) hd0 hd1)
                    clear hRef hAcc HSync
                    go_wp2_with (go_at_call 8; refine (unhide HC8).mono ?_; rintro r w7 ⟨g', c', rfl, ⟨p0, p1, p2, p3, p4⟩, HCm, hs7⟩)
                    clear o0 o1 o2 o3 o4 p0 p1 p2 p3 p4 HC8
                    have HRd : Hid (∀ wr', Below (w7.heap.size + 1) (w7.alloc (.cells #[.bool m, .bool u, .int .u32 x, .int .u32 y, .slice (some ⟨g', 0, none⟩) k c'] 43)) wr' → ∀ k5, k5 < k → ∃ kb ko b eb o, ak = some ⟨kb, ko, none⟩ ∧ kb < w.heap.size ∧ wr'.cell? ⟨kb, ko + k5 * 2, none⟩ = some (.bool b) ∧ wr'.cell? ⟨kb, ko + k5 * 2 + 1, none⟩ = some (.int .u64 o) ∧ wr'.cell? ⟨w.heap.size, k5 * 2, none⟩ = some (.bool eb) ∧ wr'.cell? ⟨w.heap.size, k5 * 2 + 1, none⟩ = some (.int .u64 o) ∧
                        wr'.cell? ⟨w7.heap.size, 4, none⟩ = some (.slice (some ⟨g', 0, none⟩) k c') ∧ wr'.cell? ⟨g', k5 * 2, none⟩ = some (.bool eb) ∧ wr'.cell? ⟨g', k5 * 2 + 1, none⟩ = some (.int .u64 (Ha.rz o d eb)) ∧ 0 ≤ o ∧ o ≤ 18446744073709551615) := by
                      obtain ⟨hg', q1, q2, q3, q4⟩ := unhide HCm
                      have hb7 : Below w7.heap.size w7 (w7.alloc (.cells #[.bool m, .bool u, .int .u32 x, .int .u32 y, .slice (some ⟨g', 0, none⟩) k c'] 43)) := (Below.refl _ _).alloc (Nat.le_refl _) _
                      exact fun wr' hbr k5 hk5 => Ha.out_reads k kz ch mx a (fun c => Ha.rz c.2 d c.1) ak g' w7.heap.size _ w _ wr' (unhide Hn) (unhide hch) (unhide Hkb) (unhide Hkc) (by simp; omega) (by simp) (Ha.five_new w7 _ _ _ _ _ 43).2.2.2.2 (q1.below hb7 hg') (q2.below hb7 q4) (q3.trans (hb7.mono (by omega))) (by simp; omega) (by simpa using hbr) k5 hk5
                    have HB8 : Hid (Below w.heap.size w (w7.alloc (.cells #[.bool m, .bool u, .int .u32 x, .int .u32 y, .slice (some ⟨g', 0, none⟩) k c'] 43))) := (unhide HCm).2.2.2.1.alloc (Nat.le_of_lt (unhide HCm).2.2.2.2) _
                    have hs8 : (w7.alloc (.cells #[.bool m, .bool u, .int .u32 x, .int .u32 y, .slice (some ⟨g', 0, none⟩) k c'] 43)).heap.size = w7.heap.size + 1 := by simp
                    have hw7 : w.heap.size < w7.heap.size := (unhide HCm).2.2.2.2
                    have hg7 : g' < w7.heap.size := (unhide HCm).1
                    clear HCm Hn Hkb Hkc hch hat1 HL HPat HBx Hsc Hsb Hsn Hcl
                    generalize (w7.alloc (.cells #[.bool m, .bool u, .int .u32 x, .int .u32 y, .slice (some ⟨g', 0, none⟩) k c'] 43)) = w8 at *
                    go_loopw [181] (fun i wx => ∃ k5 : Nat, k5 ≤ k ∧ i = .int .i64 (k5 : Int) ∧ Hid (Below (w7.heap.size + 1) w8 wx)) (fun i _ => k - (intOf i).toNat)
                    case atStart => exact ⟨0, by omega, rfl, hide (Below.refl _ _)⟩
                    case round =>
                      rename World => wz
                      obtain ⟨k5, hk5, rfl, Hbz⟩ := hrel
                      have hzz5 : w7.heap.size + 1 ≤ wz.heap.size := by have := (unhide Hbz).size; omega
                      by_cases hl5 : k5 < k
                      · obtain ⟨kb, ko, cb, eb, o, rfl, hkbl, q0, q1, q2, q3, q4, q5, q6, ho0, ho1⟩ := unhide HRd _ (unhide Hbz) k5 hl5
                        have ha1 : kb < wz.heap.size := by omega
                        have ha2 : w.heap.size < wz.heap.size := by omega
                        have ha3 : w7.heap.size < wz.heap.size := by omega
                        have ha4 : g' < wz.heap.size := by omega
                        clear HRd
                        go_wp2_with (go_at_call 9; refine (braise_any o d eb _ ho0 ho1 hd0 hd1).mono ?_; rintro r w9 ⟨rfl, rfl⟩)
                        go_quiet (fail)
                        go_wp2
                        go_roundw
                        case rel => exact ⟨k5 + 1, by omega, by go_num, hide (below_drewN (((unhide Hbz).alloc (by omega) _).alloc (by simp; omega) _) _)⟩
                        case measure => simp [intOf]; omega
                      · obtain rfl : k5 = k := by omega
                        go_wp2
                        go_ret
                        exact ⟨rfl, (unhide HB8).trans ((unhide Hbz).mono (by omega))⟩

end Go.Proofs.YbulkbwgiFmt
