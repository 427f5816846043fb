/-
  eachNotify (16), where it returns nil.
-/
import Derived.Test.YbulkbwgiFmtHVisit
import Derived.Test.YbulkbwgiFmtHNotify
import Derived.Test.YbulkbwgiFmtHKids
namespace Go.Proofs.YbulkbwgiFmt
open Go.RowKit
open Ha (hide unhide)

namespace Ha
/-- A payload: of another type, or a notify, or a notify whose body does not parse. -/
inductive Pl where
  | other (t : Int)
  | note (typ : Int) (spi : Nat) (D : List Int)
  | bad (L : List Int)
def Pl.t8 : Pl → Int
  | .other t => t
  | .note _ _ _ => 41
  | .bad _ => 41
/-- A payload's body in memory, in a block below lim. -/
def Body (w : World) (lim : Nat) : Pl → Value → Prop
  | .other t, v => t ≠ 41 ∧ ∃ a n c, v = .slice a n c
  | .note typ spi D, v => ∃ gb, gb < lim ∧ v = .slice (some ⟨gb, 0, none⟩) (4 + spi + D.length) (4 + spi + D.length) ∧ At w gb ((bodyL typ spi D).map (Value.int .u8)) ∧
      0 ≤ typ ∧ typ ≤ 65535 ∧ spi ≤ 3 ∧ D.length ≤ 16 ∧ ∀ z ∈ D, 0 ≤ z ∧ z ≤ 255
  | .bad L, v => ∃ gb, gb < lim ∧ v = .slice (some ⟨gb, 0, none⟩) L.length L.length ∧ At w gb (L.map (Value.int .u8)) ∧ (L.length < 4 ∨ L = [0, 10, 64, 39])
theorem Body.below {w w' : World} {lim B : Nat} {p : Pl} {v : Value} (h : Body w lim p v) (hb : Below B w w') (hl : lim ≤ B) : Body w' lim p v := by
  match p, h with
  | .other t, h => exact h
  | .note typ spi D, ⟨gb, h1, h2, h3, h4⟩ => exact ⟨gb, h1, h2, h3.below hb (by omega), h4⟩
  | .bad L, ⟨gb, h1, h2, h3, h4⟩ => exact ⟨gb, h1, h2, h3.below hb (by omega), h4⟩
theorem Body.lim {w : World} {lim lim' : Nat} {p : Pl} {v : Value} (h : Body w lim p v) (hl : lim ≤ lim') : Body w lim' p v := by
  match p, h with
  | .other t, h => exact h
  | .note typ spi D, ⟨gb, h1, h2⟩ => exact ⟨gb, by omega, h2⟩
  | .bad L, ⟨gb, h1, h2⟩ => exact ⟨gb, by omega, h2⟩
/-- The cells of payloads. -/
def plCells (ps : List (Pl × Value)) : List Value := ps.flatMap fun p => [.int .u8 p.1.t8, .bool false, p.2]
theorem plCells_length (ps : List (Pl × Value)) : (plCells ps).length = ps.length * 3 := by
  induction ps with
  | nil => rfl
  | cons c r ih => simp [plCells] at ih ⊢; omega
theorem pl_get (ps : List (Pl × Value)) (k : Nat) (h : k < ps.length) : (plCells ps)[k * 3]? = some (.int .u8 ps[k].1.t8) ∧ (plCells ps)[k * 3 + 1]? = some (.bool false) ∧ (plCells ps)[k * 3 + 2]? = some ps[k].2 := by
  induction ps generalizing k with
  | nil => simp at h
  | cons c r ih =>
    cases k with
    | zero => simp [plCells]
    | succ k => simpa [plCells, show (k + 1) * 3 = k * 3 + 1 + 1 + 1 from by omega, show (k + 1) * 3 + 1 = k * 3 + 1 + 1 + 1 + 1 from by omega, show (k + 1) * 3 + 2 = k * 3 + 2 + 1 + 1 + 1 from by omega] using ih k (by simpa using h)
/-- What one payload does; none: the request is refused. -/
def step (s : Option (Int × Bool)) : Pl → Option (Option (Int × Bool))
  | .other _ => some s
  | .note typ spi D => if typ = 16422 then none else if typ = 16423 then (if s = none ∧ spi = 0 ∧ (D.length = 4 ∨ D.length = 8) then some (some (Lib.beZ D, decide (D.length = 8))) else none) else some s
  | .bad _ => none
def scan : List (Pl × Value) → Option (Int × Bool) → Option (Option (Int × Bool))
  | [], s => some s
  | p :: r, s => (step s p.1).bind (scan r)
theorem scan_at (ps : List (Pl × Value)) (k : Nat) (h : k < ps.length) (s s' : Option (Int × Bool)) (hs : scan (ps.drop k) s = some s') : ∃ s1, step s ps[k].1 = some s1 ∧ scan (ps.drop (k + 1)) s1 = some s' := by
  rw [List.drop_eq_getElem_cons h, scan] at hs
  cases h1 : step s ps[k].1 with
  | none => rw [h1] at hs; simp at hs
  | some s1 => rw [h1] at hs; exact ⟨s1, rfl, hs⟩
theorem be2 (t : Int) : Lib.beZ [t / 256, t % 256] = t := by
  simp only [Lib.beZ, Lib.beFromZ]; omega
theorem each_parse (gb : Nat) (typ : Int) (spi : Nat) (D : List Int) (w : World) (hg : gb < w.heap.size) (hAt : At w gb ((bodyL typ spi D).map (Value.int .u8))) (ht0 : 0 ≤ typ) (ht1 : typ ≤ 65535) (hs : spi ≤ 3) (hm : D.length ≤ 16) (w1 : World) (hb : Below w.heap.size w w1) :
    Calls Ybaf.prog 25 #[.slice (some ⟨gb, 0, none⟩) (4 + spi + D.length) (4 + spi + D.length)] w1 fun e w' => ∃ sa sc da dc, e = .returned (.tuple #[.agg #[.int .u8 0, .int .u16 typ, .slice sa spi sc, .slice da D.length dc], .nilIface]) ∧
      (0 < D.length → da = some ⟨gb, 4 + spi, none⟩) ∧ Below w.heap.size w w' := by
  have h1 := hAt.below hb hg
  have hp := parse_ok gb spi D.length 0 (typ / 256) (typ % 256) w1 (Nat.lt_of_lt_of_le hg hb.size) (by omega) (by omega) (h1 0 _ (by simp [bodyL, hdL])) (h1 1 _ (by simp [bodyL, hdL])) (h1 2 _ (by simp [bodyL, hdL])) (h1 3 _ (by simp [bodyL, hdL])) (by omega) (by omega)
  rw [be2] at hp
  exact hp.mono fun e w' ⟨sa, sc, da, dc, he, hda, hb'⟩ => ⟨sa, sc, da, dc, he, hda, hb.trans (hb'.mono hb.size)⟩
theorem each_visit (i : Int) (gb : Nat) (typ : Int) (spi : Nat) (D : List Int) (r : Nat) (w w2 : World) (s s1 : Option (Int × Bool)) (sa : Option Addr) (sc : Nat) (da : Option Addr) (dc : Nat) (hg : gb < w.heap.size) (hAt : At w gb ((bodyL typ spi D).map (Value.int .u8))) (hD : ∀ z ∈ D, 0 ≤ z ∧ z ≤ 255)
    (hst : St w r s) (hstep : step s (.note typ spi D) = some s1) (hb : Below w.heap.size w w2) (hda : 0 < D.length → da = some ⟨gb, 4 + spi, none⟩) :
    Calls Ybaf.prog 17 #[.int .i64 i, .agg (n68 0 typ sa spi sc da D.length dc), .pointer (some ⟨r, 0, none⟩)] w2 fun e w' => e = .returned .nilIface ∧ St w' r s1 ∧ Below r w2 w' := by
  have hst2 := hst.below hb
  simp only [step] at hstep
  split at hstep
  · cases hstep
  · rename_i h1
    split at hstep
    · rename_i h2
      split at hstep
      · rename_i h3
        obtain ⟨rfl, rfl, h4⟩ := h3
        obtain rfl := hda (by omega)
        obtain rfl := Option.some.inj hstep
        subst h2
        refine visit_sync (decide (D.length = 8)) D.length i 0 sa sc gb 4 dc D r w2 ?_ rfl hD (Nat.lt_of_lt_of_le hg hb.size) ?_ hst2
        · rcases h4 with h | h <;> simp [h]
        · intro j hj
          have := hAt.below hb hg (4 + j) (.int .u8 (D.getD j 0)) (by simp [bodyL, hdL, upL, hj, show 4 + j = j + 1 + 1 + 1 + 1 by omega])
          rw [← this]
          unfold Addr.add
          split
          · rename_i h; subst h; rfl
          · simp
      · cases hstep
    · rename_i h2
      obtain rfl := Option.some.inj hstep
      exact (visit_other i 0 typ sa spi sc da D.length dc r w2 h1 h2).mono fun e w' ⟨he, hb'⟩ => ⟨he, hst2.below hb', hb'.mono (Nat.le_of_lt hst2.lt)⟩
end Ha

set_option maxRecDepth 100000 in
set_option maxHeartbeats 800000 in
theorem each_ok (pb n c : Nat) (ps : List (Ha.Pl × Value)) (s' : Option (Int × Bool)) (r : Nat) (w : World) (hn : ps.length = n) (hn' : n ≤ 4096) (hpb : pb < r) (hat : Ha.At w pb (Ha.plCells ps))
    (hbody : ∀ p ∈ ps, Ha.Body w r p.1 p.2) (hst : Ha.St w r none) (hscan : Ha.scan ps none = some s') :
    Calls Ybaf.prog 16 #[.slice (some ⟨pb, 0, none⟩) n c, .func (.func 17) #[] #[.pointer (some ⟨r, 0, none⟩)]] w fun e w' => e = .returned .nilIface ∧ Ha.St w' r s' ∧ Below r w w' := by
  have Hat := hide hat
  have Hn := hide hn
  have Hbody := hide hbody
  have Hst := hide hst
  have Hscan := hide hscan
  clear hat hn hbody hst hscan
  go_enter Ybaf.func16, Ybaf.ntmps16
  go_wp2
  go_loopw [12] (fun i wr => ∃ (k : Nat) (s : Option (Int × Bool)), k ≤ n ∧ i = .int .i64 (k : Int) ∧ Hid (Ha.scan (ps.drop k) s = some s') ∧ Hid (Ha.St wr r s) ∧ Below r w wr) (fun i _ => n - (intOf i).toNat)
  case atStart => exact ⟨0, none, by omega, rfl, by simpa using Hscan, Hst, Below.refl _ _⟩
  case round =>
    obtain ⟨k, s, hk, rfl, Hsc, HS, hbel⟩ := hrel
    by_cases hlt : k < n
    · have hk' : k < ps.length := by rw [unhide Hn]; exact hlt
      have hrw : r < wr.heap.size := (unhide HS).lt
      have hpw : pb < wr.heap.size := by omega
      have e0 := ((unhide Hat).below hbel hpb) _ _ (Ha.pl_get ps k hk').1
      have e1 := ((unhide Hat).below hbel hpb) _ _ (Ha.pl_get ps k hk').2.1
      have e2 := ((unhide Hat).below hbel hpb) _ _ (Ha.pl_get ps k hk').2.2
      have HB := hide ((unhide Hbody _ (List.getElem_mem hk')).below hbel (Nat.le_refl _))
      obtain ⟨s1, Hstep, Hsc1⟩ := Ha.scan_at ps k hk' s s' (unhide Hsc)
      replace Hstep := hide Hstep
      replace Hsc1 := hide Hsc1
      generalize ps[k] = pv at *
      obtain ⟨p, v⟩ := pv
      clear hk' Hsc
      match p with
      | .other t =>
        obtain ⟨ht, a', n', c', rfl⟩ := unhide HB
        simp only [Ha.Pl.t8] at e0
        have HS1 : Hid (s = s1) := hide (by have := unhide Hstep; simpa [Ha.step] using this)
        go_wp2
        go_roundw
        case rel => exact ⟨k + 1, s1, by omega, by go_num, Hsc1, by rw [← unhide HS1]; exact (unhide HS).below ((Below.refl _ _).alloc (Nat.le_refl _) _), hbel.alloc (by omega) _⟩
        case measure => simp [intOf]; omega
      | .bad L => exact absurd (unhide Hstep) (by simp [Ha.step])
      | .note typ spi D =>
        obtain ⟨gb, hgb, rfl, hAt, ht0, ht1, hs, hm, hD⟩ := unhide HB
        simp only [Ha.Pl.t8] at e0
        have HP := hide (Ha.each_parse gb typ spi D wr (by omega) hAt ht0 ht1 hs hm)
        have HV : Hid (∀ (i : Int) (sa : Option Addr) (sc : Nat) (da : Option Addr) (dc : Nat) (w2 : World), Below wr.heap.size wr w2 → (0 < D.length → da = some ⟨gb, 4 + spi, none⟩) →
          Calls Ybaf.prog 17 #[.int .i64 i, .agg (Ha.n68 0 typ sa spi sc da D.length dc), .pointer (some ⟨r, 0, none⟩)] w2 fun e w' => e = .returned .nilIface ∧ Ha.St w' r s1 ∧ Below r w2 w') :=
          hide fun i sa sc da dc w2 hb2 hda => Ha.each_visit i gb typ spi D r wr w2 s s1 sa sc da dc (by omega) hAt hD (unhide HS) (unhide Hstep) hb2 hda
        clear hAt hD HB Hstep HS
        have HW := hide (show Below wr.heap.size wr (wr.alloc (.cells #[.int .u8 41, .bool false, .slice (some ⟨gb, 0, none⟩) (4 + spi + D.length) (4 + spi + D.length)] 36)) from (Below.refl _ _).alloc (Nat.le_refl _) _)
        generalize D.length = m at *
        go_wp2_with (first
          | (go_at_call 25; refine (unhide HP _ (unhide HW)).mono ?_; rintro e w2 ⟨sa, sc, da, dc, rfl, hda, hb2⟩; replace hda := hide hda; have hz2 := hb2.size; replace hb2 := hide hb2)
          | (go_at_call 17; refine (unhide HV _ _ _ _ _ _ ((unhide hb2).alloc hz2 _) (unhide hda)).mono ?_; rintro e w3 ⟨rfl, hs3, hb3⟩; replace hs3 := hide hs3; replace hb3 := hide hb3))
        go_roundw
        case rel => exact ⟨k + 1, s1, by omega, by go_num, Hsc1, hs3, hbel.trans ((((unhide hb2).mono (Nat.le_of_lt hrw)).alloc (by omega) _).trans (unhide hb3))⟩
        case measure => simp [intOf]; omega
    · obtain rfl : k = n := by omega
      have HF : Hid (s = s') := hide (by have := unhide Hsc; rw [List.drop_of_length_le (by rw [unhide Hn]; exact Nat.le_refl _)] at this; simpa [Ha.scan] using this)
      go_wp2
      go_ret
      exact ⟨rfl, by rw [← unhide HF]; exact unhide HS, hbel⟩

end Go.Proofs.YbulkbwgiFmt
