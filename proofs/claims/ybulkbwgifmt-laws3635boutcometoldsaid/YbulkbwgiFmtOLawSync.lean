/-
  ApplyReplayCounterSync (8) AS THE LAW MEETS IT: accepted, or refused, by the model's own word.
-/
import Derived.Test.YbulkbwgiFmtOLawPlain
namespace Go.Proofs.YbulkbwgiFmt
open Go.RowKit Go.Extern.Stop Go.Stop Go.Extern
open Ha (hide unhide)

namespace Ha
/-- All Child SAs say e. -/
def agree (ch : List (Bool × Int)) (e : Bool) : Bool := ch.all fun c => c.1 == e
theorem agree_iff (ch : List (Bool × Int)) (e : Bool) : agree ch e = true ↔ ∀ z ∈ ch, z.1 = e := by simp [agree]
/-- Where they do not: all say the other, or a first one parts. -/
theorem disagree (ch : List (Bool × Int)) (e : Bool) (h : agree ch e = false) :
    0 < ch.length ∧ ((∀ z ∈ ch, z.1 = !e) ∨ ∃ b j, 0 < j ∧ j < ch.length ∧ (∀ i (h : i < ch.length), i < j → ch[i].1 = b) ∧ ∀ (h : j < ch.length), ch[j].1 = !b) := by
  have h0 : 0 < ch.length := by
    cases ch with
    | nil => simp [agree] at h
    | cons c r => simp
  refine ⟨h0, ?_⟩
  by_cases hall : ∀ z ∈ ch, z.1 = ch[0].1
  · left
    intro z hz
    rw [hall z hz]
    cases he : ch[0].1 <;> cases e
    · exfalso; have := (agree_iff ch false).2 (fun q hq => (hall q hq).trans he); rw [this] at h; cases h
    · rfl
    · rfl
    · exfalso; have := (agree_iff ch true).2 (fun q hq => (hall q hq).trans he); rw [this] at h; cases h
  · right
    have hex : ∃ j, ∃ (hj : j < ch.length), ch[j].1 ≠ ch[0].1 := by
      apply Classical.byContradiction
      intro hn
      apply hall
      intro z hz
      obtain ⟨i, hi, rfl⟩ := List.getElem_of_mem hz
      apply Classical.byContradiction
      intro hne
      exact hn ⟨i, hi, hne⟩
    have hmin : ∀ N j, j ≤ N → (∃ (hj : j < ch.length), ch[j].1 ≠ ch[0].1) → ∃ j, (∃ (hj : j < ch.length), ch[j].1 ≠ ch[0].1) ∧ ∀ i (hi : i < ch.length), i < j → ch[i].1 = ch[0].1 := by
      intro N
      induction N with
      | zero => intro j hj0 hj; obtain rfl : j = 0 := by omega
                exact ⟨0, hj, fun i _ h => by omega⟩
      | succ N ih =>
        intro j hjN hj
        by_cases hl : ∃ i, i < j ∧ ∃ (hi : i < ch.length), ch[i].1 ≠ ch[0].1
        · obtain ⟨i, hij, hi⟩ := hl
          exact ih i (by omega) hi
        · refine ⟨j, hj, fun i hi hij => ?_⟩
          apply Classical.byContradiction
          intro hne
          exact hl ⟨i, hij, hi, hne⟩
    obtain ⟨j, hj⟩ := hex
    obtain ⟨j, ⟨hj, hne⟩, hlt⟩ := hmin j j (Nat.le_refl _) hj
    refine ⟨ch[0].1, j, ?_, hj, hlt, fun _ => ?_⟩
    · rcases Nat.eq_zero_or_pos j with rfl | h
      · exact absurd rfl hne
      · exact h
    · revert hne; cases ch[j].1 <;> cases ch[0].1 <;> simp
theorem verd_some {u : Bool} {st : List (Int × Int × Int)} {p : Int × Bool} (h : verd u st = some p) : u = true ∧ mscan st none = some (some p) := by
  unfold verd at h
  split at h
  · rename_i q hq
    exact ⟨rfl, by rw [hq, h]⟩
  · cases h
theorem verd_none {u : Bool} {st : List (Int × Int × Int)} (h : verd u st = none) : u = false ∨ mscan st none = none ∨ mscan st none = some none := by
  cases u with
  | false => exact .inl rfl
  | true =>
    right
    cases hm : mscan st none with
    | none => exact .inl rfl
    | some s =>
      cases s with
      | none => exact .inr rfl
      | some p => simp [verd, hm] at h
end Ha

/-- The request is refused. -/
theorem law_refused (F : Interp) (u m : Bool) (x y : Int) (g n c : Nat) (ch : List (Bool × Int)) (pb pn pc : Nat) (L : List (Ha.Pl × Value)) (st : List (Int × Int × Int)) (w : World) (hF : F.answers w.tape)
    (hn : ch.length = n) (hn' : n ≤ 4096) (hg : g < w.heap.size) (hat : Ha.At w g (Ha.chCells ch)) (hpn : L.length = pn) (hpn' : pn ≤ 4096) (hpb : pb < w.heap.size) (hpat : Ha.At w pb (Ha.plCells L)) (hbody : ∀ p ∈ L, Ha.Body w w.heap.size p.1 p.2)
    (hscan : Ha.scan L none = Ha.mscan st none) (hv : Ha.verd u st = none ∨ ∃ p, Ha.verd u st = some p ∧ Ha.agree ch p.2 = false) :
    Calls Ybaf.prog 8 #[.agg #[.bool m, .bool u, .int .u32 x, .int .u32 y, .slice (some ⟨g, 0, none⟩) n c], .slice (some ⟨pb, 0, none⟩) pn pc] w (Ha.Refused w m u x y (.slice (some ⟨g, 0, none⟩) n c)) := by
  rcases hv with hv | ⟨⟨d, e⟩, hv, hag⟩
  · rcases Ha.verd_none hv with rfl | h
    · exact sync_unusable F m x y _ n c _ w hF
    · cases u with
      | false => exact sync_unusable F m x y _ n c _ w hF
      | true =>
        rcases h with h | h
        · exact sync_scan F m x y _ n c pb pn pc L w hF hpn hpn' hpb hpat hbody (hscan.trans h)
        · exact sync_lacking F m x y _ n c pb pn pc L w hF hpn hpn' hpb hpat hbody (hscan.trans h)
  · obtain ⟨rfl, hs⟩ := Ha.verd_some hv
    obtain ⟨h0, hd⟩ := Ha.disagree ch e hag
    refine sync_apply m x y _ n c pb pn pc L d e w ?_ hpn hpn' hpb hpat hbody (hscan.trans hs)
    intro w2 hb2
    have hF2 : F.answers w2.tape := by rw [hb2.tape]; exact hF
    rcases hd with hd | ⟨b, j, hj0, hj, h1, h2⟩
    · have := apply_size F g n c ch (!e) d w2 hF2 hn hn' (Nat.lt_of_lt_of_le hg hb2.size) (hat.below hb2 hg) hd (by omega)
      simpa using this
    · exact apply_mixed F g n c ch b j d e w2 hF2 hn hn' (Nat.lt_of_lt_of_le hg hb2.size) (hat.below hb2 hg) (by omega) h1 h2 hj0

namespace Ha
theorem up_all (ch : List (Bool × Int)) (d : Int) (n : Nat) (hn : ch.length = n) : up ch d n = ch.map fun c => (c.1, rz c.2 d c.1) := by
  unfold up
  rw [List.take_of_length_le (by omega), List.drop_of_length_le (by omega)]
  simp
theorem agree_at (ch : List (Bool × Int)) (e : Bool) (h0 : 0 < ch.length) : agree ch e = ((ch.all fun c => c.1 == ch[0].1) && (ch[0].1 == e)) := by
  by_cases he : ch[0].1 = e
  · rw [he]; simp [agree]
  · have : (ch[0].1 == e) = false := by simpa using he
    rw [this, Bool.and_false]
    cases hag : agree ch e with
    | false => rfl
    | true => exact absurd ((agree_iff ch e).1 hag _ (List.getElem_mem h0)) he
theorem all_take (ch : List (Bool × Int)) (b : Bool) (k : Nat) (h : k < ch.length) : ((ch.take (k + 1)).all fun c => c.1 == b) = (((ch.take k).all fun c => c.1 == b) && (ch[k].1 == b)) := by
  rw [List.take_add_one, List.getElem?_eq_getElem h, List.all_append]
  simp
/-- What a round of the last loop reads. -/
theorem out_reads (n : Nat) (kz ch : List (Bool × Int)) (mx a : Bool) (f : Bool × Int → Int) (ak : Option Addr) (g' gb : Nat) (u : Value) (w w8 wr : World) (hn : kz.length = n) (hch : ch = kz.map fun c => (bif mx then c.1 else a, c.2)) (hkb : ∀ z ∈ kz, 0 ≤ z.2 ∧ z.2 ≤ 18446744073709551615)
    (hkc : ∀ k (h : k < kz.length), ∃ kb ko, ak = some ⟨kb, ko, none⟩ ∧ kb < w.heap.size ∧ w.cell? ⟨kb, ko + k * 2, none⟩ = some (.bool kz[k].1) ∧ w.cell? ⟨kb, ko + k * 2 + 1, none⟩ = some (.int .u64 kz[k].2))
    (hg : g' < w8.heap.size) (hgb : gb < w8.heap.size) (hu : w8.cell? ⟨gb, 4, none⟩ = some u)
    (h1 : At w8 g' (chCells (ch.map fun c => (c.1, f c)))) (h2 : At w8 w.heap.size (chCells ch)) (hw : Below w.heap.size w w8) (hw1 : w.heap.size < w8.heap.size) (hb : Below w8.heap.size w8 wr) (k : Nat) (hk : k < n) :
    ∃ kb ko b eb o, ak = some ⟨kb, ko, none⟩ ∧ kb < w.heap.size ∧ wr.cell? ⟨kb, ko + k * 2, none⟩ = some (.bool b) ∧ wr.cell? ⟨kb, ko + k * 2 + 1, none⟩ = some (.int .u64 o) ∧ wr.cell? ⟨w.heap.size, k * 2, none⟩ = some (.bool eb) ∧ wr.cell? ⟨w.heap.size, k * 2 + 1, none⟩ = some (.int .u64 o) ∧
      wr.cell? ⟨gb, 4, none⟩ = some u ∧ wr.cell? ⟨g', k * 2, none⟩ = some (.bool eb) ∧ wr.cell? ⟨g', k * 2 + 1, none⟩ = some (.int .u64 (f (eb, o))) ∧ 0 ≤ o ∧ o ≤ 18446744073709551615 := by
  have hk' : k < kz.length := by omega
  obtain ⟨kb, ko, h3, h4, h5, h6⟩ := hkc k hk'
  have hbw := hw.trans (hb.mono hw.size)
  have hc1 : k < ch.length := by rw [hch]; simpa using hk'
  have hcg : ch[k] = (bif mx then kz[k].1 else a, kz[k].2) := by simp [hch]
  have hm := hkb _ (List.getElem_mem hk')
  have e1 := h2.below hb hw1 _ _ (ch_esn ch k hc1)
  have e2 := h2.below hb hw1 _ _ (ch_out ch k hc1)
  have hc2 : k < (ch.map fun c => (c.1, f c)).length := by simpa using hc1
  have e3 := h1.below hb hg _ _ (ch_esn _ k hc2)
  have e4 := h1.below hb hg _ _ (ch_out _ k hc2)
  rw [List.getElem_map] at e3 e4
  rw [hcg] at e1 e2 e3 e4
  exact ⟨kb, ko, _, _, _, h3, h4, (hbw.cell (p := ⟨kb, ko + k * 2, none⟩) h4).trans h5, (hbw.cell (p := ⟨kb, ko + k * 2 + 1, none⟩) h4).trans h6, e1, e2, (hb.cell (p := ⟨gb, 4, none⟩) hgb).trans hu, e3, e4, hm.1, hm.2⟩
end Ha

namespace Ha
abbrev own5 (m u : Bool) (x y : Int) (v : Value) : Array Value := #[.bool m, .bool u, .int .u32 x, .int .u32 y, v]
/-- What the last part of the law knows of the world behind ApplyReplayCounterSync: the Child SAs that came back, those that went in. -/
def Came (w w7 : World) (ch : List (Bool × Int)) (f : Bool × Int → Int) (g' : Nat) : Prop := g' < w7.heap.size ∧ At w7 g' (chCells (ch.map fun c => (c.1, f c))) ∧ At w7 w.heap.size (chCells ch) ∧ Below w.heap.size w w7 ∧ w.heap.size < w7.heap.size
end Ha

/-- ApplyReplayCounterSync at the law's own world: both outcomes. -/
theorem law_sync (F : Interp) (u m : Bool) (x y : Int) (n j : Nat) (ch : List (Bool × Int)) (L : List (Ha.Pl × Value)) (st : List (Int × Int × Int)) (w wk wp : World) (hF : F.answers w.tape) (hn : ch.length = n) (hn' : n ≤ 4096) (hj : L.length = j) (hj' : j ≤ 4096)
    (hcb : ∀ z ∈ ch, 0 ≤ z.2 ∧ z.2 ≤ 18446744073709551615) (hsb : ∀ z ∈ st, (0 ≤ z.2.1 ∧ z.2.1 ≤ 18446744073709551615) ∧ (0 ≤ z.2.2 ∧ z.2.2 ≤ 255))
    (hbel : Below w.heap.size w wk) (hsz : w.heap.size + 1 ≤ wk.heap.size) (hbx : Below wk.heap.size wk wp) (hpz : wk.heap.size < wp.heap.size) (hat : Ha.At wk w.heap.size (Ha.chCells ch)) (hpat : Ha.At wp wk.heap.size (Ha.plCells L)) (hL : Ha.Laid wp (wk.heap.size + 1) st L)
    (W : World) (hb : Below (wp.heap.size + 1) (wp.alloc (.cells (Ha.own5 m u x y (.slice (some ⟨w.heap.size, 0, none⟩) n n)) 43)) W) :
    Ha.Five W wp.heap.size (.bool m) (.bool u) (.int .u32 x) (.int .u32 y) (.slice (some ⟨w.heap.size, 0, none⟩) n n) ∧ wp.heap.size + 1 ≤ W.heap.size ∧
    ((Ha.verd u st = none ∨ ∃ p, Ha.verd u st = some p ∧ Ha.agree ch p.2 = false) →
      Calls Ybaf.prog 8 #[.agg (Ha.own5 m u x y (.slice (some ⟨w.heap.size, 0, none⟩) n n)), .slice (some ⟨wk.heap.size, 0, none⟩) j j] W fun r w7 => ∃ t b, (t = 99 ∨ t = 88) ∧ r = .returned (.tuple #[.agg (Ha.own5 m u x y (.slice (some ⟨w.heap.size, 0, none⟩) n n)), .iface t (.pointer (some ⟨b, 0, none⟩))]) ∧
        Ha.Five w7 wp.heap.size (.bool m) (.bool u) (.int .u32 x) (.int .u32 y) (.slice (some ⟨w.heap.size, 0, none⟩) n n) ∧ Hid (Ha.Came w w7 ch Prod.snd w.heap.size) ∧ wp.heap.size < w7.heap.size) ∧
    (∀ d e, Ha.verd u st = some (d, e) → Ha.agree ch e = true → 0 ≤ d → d ≤ 18446744073709551615 →
      Calls Ybaf.prog 8 #[.agg (Ha.own5 m u x y (.slice (some ⟨w.heap.size, 0, none⟩) n n)), .slice (some ⟨wk.heap.size, 0, none⟩) j j] W fun r w7 => ∃ g' c', r = .returned (.tuple #[.agg (Ha.own5 m u x y (.slice (some ⟨g', 0, none⟩) n c')), .nilIface]) ∧
        Ha.Five w7 wp.heap.size (.bool m) (.bool u) (.int .u32 x) (.int .u32 y) (.slice (some ⟨w.heap.size, 0, none⟩) n n) ∧ Hid (Ha.Came w w7 ch (fun c => Ha.rz c.2 d c.1) g') ∧ wp.heap.size < w7.heap.size) := by
  have hs4 : (wp.alloc (.cells (Ha.own5 m u x y (.slice (some ⟨w.heap.size, 0, none⟩) n n)) 43)).heap.size = wp.heap.size + 1 := by simp
  have hsW : wp.heap.size + 1 ≤ W.heap.size := by have := hb.size; rwa [hs4] at this
  have hpW : Below wp.heap.size wp W := ((Below.refl _ wp).alloc (Nat.le_refl _) _).trans (hb.mono (by omega))
  have hkW : Below wk.heap.size wk W := hbx.trans (hpW.mono (by omega))
  have hwW : Below w.heap.size w W := hbel.trans (hkW.mono (by omega))
  have h5 := (Ha.five_new wp (.bool m) (.bool u) (.int .u32 x) (.int .u32 y) (.slice (some ⟨w.heap.size, 0, none⟩) n n) 43).below hb (by omega)
  have hatW := hat.below hkW (by omega)
  have hpatW := hpat.below hpW (by omega)
  have hbodyW : ∀ p ∈ L, Ha.Body W W.heap.size p.1 p.2 := fun p hp => ((hL.2 p hp).below hpW (Nat.le_refl _)).body
  have hFW : F.answers W.tape := by rw [hwW.tape]; exact hF
  have hsc := Ha.scan_mscan st L hL.1 hsb none
  have hmap : (ch.map fun c => (c.1, Prod.snd c)) = ch := by simp
  refine ⟨h5, hsW, fun hv => ?_, fun d e hv hag hd0 hd1 => ?_⟩
  · refine (law_refused F u m x y w.heap.size n n ch wk.heap.size j j L st W hFW hn hn' (by omega) hatW hj hj' (by omega) hpatW hbodyW hsc hv).mono ?_
    rintro r w7 ⟨t, b, ht, hr, hb7⟩
    have hs7 := hb7.size
    refine ⟨t, b, ht, hr, h5.below hb7 (by omega), hide ⟨by omega, ?_, hatW.below hb7 (by omega), hwW.trans (hb7.mono (by omega)), by omega⟩, by omega⟩
    rw [hmap]; exact hatW.below hb7 (by omega)
  · obtain ⟨rfl, hs⟩ := Ha.verd_some hv
    refine (sync_ok m x y w.heap.size n n ch e wk.heap.size j j L d e W hn hn' (by omega) hatW ((Ha.agree_iff ch e).1 hag) hcb (.inr rfl) hd0 hd1 hj hj' (by omega) hpatW hbodyW (hsc.trans hs)).mono ?_
    rintro r w7 ⟨g', c', hr, hg1, hg2, hat7, hb7⟩
    have hs7 := hb7.size
    rw [Ha.up_all ch d n hn] at hat7
    exact ⟨g', c', hr, h5.below hb7 (by omega), hide ⟨hg2, hat7, hatW.below hb7 (by omega), hwW.trans (hb7.mono (by omega)), by omega⟩, by omega⟩

end Go.Proofs.YbulkbwgiFmt
