/-
  eachNotify (16), where it refuses.
-/
import Derived.Test.YbulkbwgiFmtOSync
import Derived.Test.YbulkbwgiFmtHEach
namespace Go.Proofs.YbulkbwgiFmt
open Go.RowKit Go.Extern.Stop Go.Stop Go.Extern
open Ha (hide unhide)

namespace Ha
theorem scan_none (ps : List (Pl × Value)) (k : Nat) (h : k < ps.length) (s : Option (Int × Bool)) (hs : scan (ps.drop k) s = none) : step s ps[k].1 = none ∨ ∃ s1, step s ps[k].1 = some s1 ∧ scan (ps.drop (k + 1)) s1 = none := by
  rw [List.drop_eq_getElem_cons h, scan] at hs
  cases h1 : step s ps[k].1 with
  | none => exact .inl rfl
  | some s1 => rw [h1] at hs; exact .inr ⟨s1, rfl, hs⟩
theorem each_refuse (F : Interp) (i : Int) (typ : Int) (spi : Nat) (D : List Int) (r : Nat) (w2 : World) (s : Option (Int × Bool)) (sa : Option Addr) (sc : Nat) (da : Option Addr) (dc : Nat) (hF : F.answers w2.tape)
    (hst : St w2 r s) (hstep : step s (.note typ spi D) = none) :
    Calls Ybaf.prog 17 #[.int .i64 i, .agg (n68 0 typ sa spi sc da D.length dc), .pointer (some ⟨r, 0, none⟩)] w2 fun e w' => ∃ b, e = .returned (.iface 99 (.pointer (some ⟨b, 0, none⟩))) ∧ Below w2.heap.size w2 w' := by
  simp only [step] at hstep
  split at hstep
  · rename_i h1
    subst h1
    exact visit_mid F i 0 sa spi sc da D.length dc r w2 hF
  · split at hstep
    · rename_i h2
      subst h2
      split at hstep
      · cases hstep
      · rename_i h3
        match s, hst with
        | some (d, e0), hst => exact visit_twice F i 0 sa spi sc da D.length dc r d e0 w2 hF hst
        | none, hst =>
          refine visit_wrong F i 0 sa spi sc da D.length dc r w2 hF hst ?_
          simp at h3
          omega
    · cases hstep
theorem each_noparse (F : Interp) (gb : Nat) (L : List Int) (w w1 : World) (hF : F.answers w.tape) (hg : gb < w.heap.size) (hAt : At w gb (L.map (Value.int .u8))) (hL : L.length < 4 ∨ L = [0, 10, 64, 39]) (hb : Below w.heap.size w w1) :
    Calls Ybaf.prog 25 #[.slice (some ⟨gb, 0, none⟩) L.length L.length] w1 fun e w' => ∃ b, e = .returned (.tuple #[.agg (n68 0 0 none 0 0 none 0 0), .iface 99 (.pointer (some ⟨b, 0, none⟩))]) ∧ Ha.ErrAt w' b ∧ Hid (Below w.heap.size w w') := by
  have hF1 : F.answers w1.tape := by rw [hb.tape]; exact hF
  have h1 := hAt.below hb hg
  rcases hL with hL | rfl
  · refine (parse_short F gb L.length w1 hF1 hL).mono ?_
    rintro e w' ⟨b, he, h2, h3⟩
    exact ⟨b, he, h2, hb.trans (h3.mono hb.size)⟩
  · refine (parse_spi F gb w1 hF1 (Nat.lt_of_lt_of_le hg hb.size) (h1 1 _ rfl)).mono ?_
    rintro e w' ⟨b, he, h2, h3⟩
    exact ⟨b, he, h2, hb.trans (h3.mono hb.size)⟩
end Ha

set_option maxRecDepth 100000 in
set_option maxHeartbeats 1600000 in
theorem each_bad (F : Interp) (pb n c : Nat) (ps : List (Ha.Pl × Value)) (r : Nat) (w : World) (hF : F.answers w.tape) (hn : ps.length = n) (hn' : n ≤ 4096) (hpb : pb < r) (hat : Ha.At w pb (Ha.plCells ps))
    (hbody : ∀ p ∈ ps, Ha.Body w r p.1 p.2) (hst : Ha.St w r none) (hscan : Ha.scan ps none = none) :
    Calls Ybaf.prog 16 #[.slice (some ⟨pb, 0, none⟩) n c, .func (.func 17) #[] #[.pointer (some ⟨r, 0, none⟩)]] w fun e w' => ∃ t b, (t = 99 ∨ t = 88) ∧ e = .returned (.iface t (.pointer (some ⟨b, 0, none⟩))) ∧ Below r w w' := by
  have Hat := hide hat
  have Hn := hide hn
  have Hbody := hide hbody
  have Hst := hide hst
  have Hscan := hide hscan
  clear hat hn hbody hst hscan
  go_enter Ybaf.func16, Ybaf.ntmps16
  go_wp2
  go_loopw [12] (fun i wr => ∃ (k : Nat) (s : Option (Int × Bool)), k ≤ n ∧ i = .int .i64 (k : Int) ∧ Hid (Ha.scan (ps.drop k) s = none) ∧ Hid (Ha.St wr r s) ∧ Below r w wr) (fun i _ => n - (intOf i).toNat)
  case atStart => exact ⟨0, none, by omega, rfl, by simpa using Hscan, Hst, Below.refl _ _⟩
  case round =>
    obtain ⟨k, s, hk, rfl, Hsc, HS, hbel⟩ := hrel
    have hlt : k < n := by
      rcases Nat.lt_or_ge k n with h | h
      · exact h
      · exfalso
        have h1 := unhide Hsc
        rw [List.drop_of_length_le (by rw [unhide Hn]; exact h)] at h1
        cases h1
    have hk' : k < ps.length := by rw [unhide Hn]; exact hlt
    have hrw : r < wr.heap.size := (unhide HS).lt
    have hpw : pb < wr.heap.size := by omega
    have e0 := ((unhide Hat).below hbel hpb) _ _ (Ha.pl_get ps k hk').1
    have e1 := ((unhide Hat).below hbel hpb) _ _ (Ha.pl_get ps k hk').2.1
    have e2 := ((unhide Hat).below hbel hpb) _ _ (Ha.pl_get ps k hk').2.2
    have HB := hide ((unhide Hbody _ (List.getElem_mem hk')).below hbel (Nat.le_refl _))
    have HFr : Hid (F.answers wr.tape) := by show F.answers wr.tape; rw [hbel.tape]; exact hF
    have Hsn := hide (Ha.scan_none ps k hk' s (unhide Hsc))
    generalize ps[k] = pv at *
    obtain ⟨p, v⟩ := pv
    clear hk' Hsc
    match p with
    | .other t =>
      obtain ⟨ht, a', n', c', rfl⟩ := unhide HB
      simp only [Ha.Pl.t8] at e0
      have HS1 : Hid (Ha.scan (ps.drop (k + 1)) s = none) := hide (by
        rcases unhide Hsn with h | ⟨s1, h1, h2⟩
        · simp [Ha.step] at h
        · simp [Ha.step] at h1; rw [h1]; exact h2)
      go_wp2
      go_roundw
      case rel => exact ⟨k + 1, s, by omega, by go_num, HS1, (unhide HS).below ((Below.refl _ _).alloc (Nat.le_refl _) _), hbel.alloc (by omega) _⟩
      case measure => simp [intOf]; omega
    | .bad L =>
      obtain ⟨gb, hgb, rfl, hAt, hL⟩ := unhide HB
      simp only [Ha.Pl.t8] at e0
      have HP : Hid (∀ w1, Below wr.heap.size wr w1 → _) := hide (fun w1 hb1 => Ha.each_noparse F gb L wr w1 (unhide HFr) (by omega) hAt hL hb1)
      have HW := hide (show Below wr.heap.size wr (wr.alloc (.cells #[.int .u8 41, .bool false, .slice (some ⟨gb, 0, none⟩) L.length L.length] 36)) from (Below.refl _ _).alloc (Nat.le_refl _) _)
      clear hAt hL HB Hsn HS
      generalize L.length = m at *
      go_wp2_with (first
        | (go_at_call 25; refine (unhide HP _ (unhide HW)).mono ?_; rintro e w2 ⟨b, rfl, he2, hb2⟩; replace he2 := hide he2; have hz2 := (unhide hb2).size)
        | (go_at_call 18; refine (errfn_16 F _ _ _ _ _ (by simp) (by show F.answers w2.tape; rw [(unhide hb2).tape]; exact unhide HFr) ((unhide he2).below ((Below.refl _ w2).alloc (Nat.le_refl _) _))).mono ?_; rintro e w3 ⟨x, rfl, hx, he3, hb3⟩))
      go_ret
      refine ⟨88, x, .inr rfl, rfl, hbel.trans ((((unhide hb2).mono (Nat.le_of_lt hrw)).alloc (by omega) _).trans ((unhide hb3).mono (by simp; omega)))⟩
    | .note typ spi D =>
      obtain ⟨gb, hgb, rfl, hAt, ht0, ht1, hs, hm, hD⟩ := unhide HB
      simp only [Ha.Pl.t8] at e0
      have HP := hide (Ha.each_parse gb typ spi D wr (by omega) hAt ht0 ht1 hs hm)
      have HW := hide (show Below wr.heap.size wr (wr.alloc (.cells #[.int .u8 41, .bool false, .slice (some ⟨gb, 0, none⟩) (4 + spi + D.length) (4 + spi + D.length)] 36)) from (Below.refl _ _).alloc (Nat.le_refl _) _)
      by_cases hstep : Ha.step s (.note typ spi D) = none
      · have HV : Hid (∀ (i : Int) (sa : Option Addr) (sc : Nat) (da : Option Addr) (dc : Nat) (w2 : World), Below wr.heap.size wr w2 →
          Calls Ybaf.prog 17 #[.int .i64 i, .agg (Ha.n68 0 typ sa spi sc da D.length dc), .pointer (some ⟨r, 0, none⟩)] w2 fun e w' => ∃ b, e = .returned (.iface 99 (.pointer (some ⟨b, 0, none⟩))) ∧ Hid (Below w2.heap.size w2 w')) :=
          hide fun i sa sc da dc w2 hb2 => Ha.each_refuse F i typ spi D r w2 s sa sc da dc (by rw [hb2.tape]; exact unhide HFr) ((unhide HS).below hb2) hstep
        clear hAt hD HB Hsn HS hstep
        generalize D.length = m at *
        go_wp2_with (first
          | (go_at_call 25; refine (unhide HP _ (unhide HW)).mono ?_; rintro e w2 ⟨sa, sc, da, dc, rfl, hda, hb2⟩; clear hda; have hz2 := hb2.size; replace hb2 := hide hb2)
          | (go_at_call 17; refine (unhide HV _ _ _ _ _ _ ((unhide hb2).alloc hz2 _)).mono ?_; rintro e w3 ⟨x, rfl, hb3⟩))
        go_ret
        refine ⟨99, x, .inl rfl, rfl, hbel.trans ((((unhide hb2).mono (Nat.le_of_lt hrw)).alloc (by omega) _).trans ((unhide hb3).mono (by simp; omega)))⟩
      · obtain ⟨s1, Hstep, Hsc1⟩ : ∃ s1, Hid (Ha.step s (.note typ spi D) = some s1) ∧ Hid (Ha.scan (ps.drop (k + 1)) s1 = none) := by
          rcases unhide Hsn with h | h
          · exact absurd h hstep
          · exact h
        have HV : Hid (∀ (i : Int) (sa : Option Addr) (sc : Nat) (da : Option Addr) (dc : Nat) (w2 : World), Below wr.heap.size wr w2 → (0 < D.length → da = some ⟨gb, 4 + spi, none⟩) →
          Calls Ybaf.prog 17 #[.int .i64 i, .agg (Ha.n68 0 typ sa spi sc da D.length dc), .pointer (some ⟨r, 0, none⟩)] w2 fun e w' => e = .returned .nilIface ∧ Ha.St w' r s1 ∧ Below r w2 w') :=
          hide fun i sa sc da dc w2 hb2 hda => Ha.each_visit i gb typ spi D r wr w2 s s1 sa sc da dc (by omega) hAt hD (unhide HS) (unhide Hstep) hb2 hda
        clear hAt hD HB Hstep HS Hsn hstep
        generalize D.length = m at *
        go_wp2_with (first
          | (go_at_call 25; refine (unhide HP _ (unhide HW)).mono ?_; rintro e w2 ⟨sa, sc, da, dc, rfl, hda, hb2⟩; replace hda := hide hda; have hz2 := hb2.size; replace hb2 := hide hb2)
          | (go_at_call 17; refine (unhide HV _ _ _ _ _ _ ((unhide hb2).alloc hz2 _) (unhide hda)).mono ?_; rintro e w3 ⟨rfl, hs3, hb3⟩; replace hs3 := hide hs3; replace hb3 := hide hb3))
        go_roundw
        case rel => exact ⟨k + 1, s1, by omega, by go_num, Hsc1, hs3, hbel.trans ((((unhide hb2).mono (Nat.le_of_lt hrw)).alloc (by omega) _).trans (unhide hb3))⟩
        case measure => simp [intOf]; omega

end Go.Proofs.YbulkbwgiFmt
