/-
  PLAIN FACTS for LawS3635BOutcome (3), and the second loop's round.
-/
import Derived.Test.YbulkbwgiFmtOPay3
import Derived.Test.YbulkbwgiFmtOSyncAll
namespace Go.Proofs.YbulkbwgiFmt
open Go.RowKit Go.Extern.Stop Go.Stop Go.Extern
open Ha (hide unhide)

namespace Ha
/-- The Child SAs behind k rounds of the first loop. -/
def kidsG (ch : List (Bool × Int)) (n k : Nat) : List (Bool × Int) := ch.take k ++ List.replicate (n - k) (false, 0)
theorem kidsG_made (n : Nat) : (madeCells #[Value.bool false, Value.int .u64 0] (n * 2)).toList = chCells (List.replicate n (false, (0 : Int))) := by
  apply List.ext_getElem?
  intro i
  by_cases h : i < n * 2
  · have h1 : i / 2 < (List.replicate n (false, (0 : Int))).length := by simp; omega
    rcases (show i = i / 2 * 2 ∨ i = i / 2 * 2 + 1 by omega) with hh | hh
    · rw [hh, ch_esn _ _ h1]
      simp [madeCells]
      simp at h1
      exact ⟨i / 2 * 2, by rw [List.getElem?_range (by omega)], by rw [show i / 2 * 2 % 2 = 0 by omega]; rfl⟩
    · rw [hh, ch_out _ _ h1]
      simp [madeCells]
      simp at h1
      exact ⟨i / 2 * 2 + 1, by rw [List.getElem?_range (by omega)], by rw [show (i / 2 * 2 + 1) % 2 = 1 by omega]; rfl⟩
  · rw [List.getElem?_eq_none (by simp [madeCells]; omega), List.getElem?_eq_none (by rw [chCells_length]; simp; omega)]
theorem kidsG_succ (ch : List (Bool × Int)) (n k : Nat) (hn : ch.length = n) (hk : k < n) (e : Bool) (o : Int) (ho : ch[k]? = some (e, o)) :
    ((chCells (kidsG ch n k)).set (k * 2) (.bool e)).set (k * 2 + 1) (.int .u64 o) = chCells (kidsG ch n (k + 1)) := by
  have hl : ∀ (L : List (Bool × Int)) (k : Nat) (e : Bool) (o : Int), k < L.length → ((chCells L).set (k * 2) (.bool e)).set (k * 2 + 1) (.int .u64 o) = chCells (L.set k (e, o)) := by
    intro L
    induction L with
    | nil => intro k e o h; simp at h
    | cons c r ih =>
      intro k e o h
      cases k with
      | zero => simp [chCells]
      | succ k =>
        have := ih k e o (by simpa using h)
        simpa [chCells, show (k + 1) * 2 = k * 2 + 1 + 1 from by omega, show (k + 1) * 2 + 1 = k * 2 + 1 + 1 + 1 from by omega] using this
  rw [hl _ _ _ _ (by simp [kidsG]; omega)]
  congr 1
  unfold kidsG
  rw [List.set_append_right _ _ (by simp; omega)]
  have : k - (ch.take k).length = 0 := by simp; omega
  rw [this, show n - k = (n - (k + 1)) + 1 by omega, List.replicate_succ, List.set_cons_zero, List.take_add_one, ho]
  simp
theorem kidsG_done (ch : List (Bool × Int)) (n : Nat) (hn : ch.length = n) : kidsG ch n n = ch := by simp [kidsG, ← hn]

/-- Payloads behind k rounds of the second loop: those that are laid, then empty ones. -/
def zPl : Pl × Value := (.other 0, .slice none 0 0)
theorem plCells_set (L : List (Pl × Value)) (k : Nat) (p : Pl) (b : Value) (h : k < L.length) : (((plCells L).set (k * 3) (.int .u8 p.t8)).set (k * 3 + 1) (.bool false)).set (k * 3 + 2) b = plCells (L.set k (p, b)) := by
  induction L generalizing k with
  | nil => simp at h
  | cons c r ih =>
    cases k with
    | zero => simp [plCells]
    | succ k =>
      have := ih k (by simpa using h)
      simpa [plCells, show (k + 1) * 3 = k * 3 + 1 + 1 + 1 from by omega, show (k + 1) * 3 + 1 = k * 3 + 1 + 1 + 1 + 1 from by omega, show (k + 1) * 3 + 2 = k * 3 + 2 + 1 + 1 + 1 from by omega] using this
theorem pls_succ (L : List (Pl × Value)) (n k : Nat) (p : Pl) (b : Value) (hL : L.length = k) (hk : k < n) :
    (((plCells (L ++ List.replicate (n - k) zPl)).set (k * 3) (.int .u8 p.t8)).set (k * 3 + 1) (.bool false)).set (k * 3 + 2) b = plCells ((L ++ [(p, b)]) ++ List.replicate (n - (k + 1)) zPl) := by
  rw [plCells_set _ _ _ _ (by simp; omega)]
  congr 1
  rw [List.set_append_right _ _ (by omega)]
  have : k - L.length = 0 := by omega
  rw [this, show n - k = (n - (k + 1)) + 1 by omega, List.replicate_succ, List.set_cons_zero]
  simp
theorem pls_made (n : Nat) : (madeCells #[Value.int .u8 0, Value.bool false, Value.slice none 0 0] (n * 3)).toList = plCells (List.replicate n zPl) := by
  apply List.ext_getElem?
  intro i
  by_cases h : i < n * 3
  · have h1 : i / 3 < (List.replicate n zPl).length := by simp; omega
    obtain ⟨g0, g1, g2⟩ := pl_get (List.replicate n zPl) (i / 3) h1
    rcases (show i = i / 3 * 3 ∨ i = i / 3 * 3 + 1 ∨ i = i / 3 * 3 + 2 by omega) with hh | hh | hh
    · rw [hh, g0]
      simp [madeCells, zPl, Pl.t8]
      exact ⟨i / 3 * 3, by rw [List.getElem?_range (by omega)], by rw [show i / 3 * 3 % 3 = 0 by omega]; rfl⟩
    · rw [hh, g1]
      simp [madeCells]
      exact ⟨i / 3 * 3 + 1, by rw [List.getElem?_range (by omega)], by rw [show (i / 3 * 3 + 1) % 3 = 1 by omega]; rfl⟩
    · rw [hh, g2]
      simp [madeCells, zPl]
      exact ⟨i / 3 * 3 + 2, by rw [List.getElem?_range (by omega)], by rw [show (i / 3 * 3 + 2) % 3 = 2 by omega]; rfl⟩
  · rw [List.getElem?_eq_none (by simp [madeCells]; omega), List.getElem?_eq_none (by rw [plCells_length]; simp; omega)]
/-- The payloads of steps, with their bodies owned from B on. -/
def Laid (w : World) (B : Nat) (st : List (Int × Int × Int)) (L : List (Pl × Value)) : Prop := L.map Prod.fst = st.map (fun z => plOf z.1 z.2.1 z.2.2) ∧ ∀ p ∈ L, OBody w B p.1 p.2
theorem Laid.below {w w' : World} {B B' : Nat} {st : List (Int × Int × Int)} {L : List (Pl × Value)} (h : Laid w B st L) (hb : Below B' w w') (hB : w.heap.size ≤ B') : Laid w' B st L := ⟨h.1, fun p hp => (h.2 p hp).below hb hB⟩
theorem Laid.set {w : World} {B : Nat} {st : List (Int × Int × Int)} {L : List (Pl × Value)} (h : Laid w B st L) {a : Addr} (ha : a.block < B) (v : Value) : Laid (w.setCell a v) B st L := ⟨h.1, fun p hp => (h.2 p hp).set ha v⟩
theorem Laid.snoc {w : World} {B : Nat} {st : List (Int × Int × Int)} {L : List (Pl × Value)} {k : Nat} (h : Laid w B (st.take k) L) (hk : k < st.length) {b : Value} (hb : OBody w B (plOf st[k].1 st[k].2.1 st[k].2.2) b) : Laid w B (st.take (k + 1)) (L ++ [(plOf st[k].1 st[k].2.1 st[k].2.2, b)]) := by
  refine ⟨?_, fun p hp => ?_⟩
  · rw [List.take_add_one, List.getElem?_eq_getElem hk, List.map_append, List.map_append, h.1]
    rfl
  · rcases List.mem_append.1 hp with hp | hp
    · exact h.2 p hp
    · simp at hp; subst hp; exact hb
/-- The model's scan. -/
def mscan : List (Int × Int × Int) → Option (Int × Bool) → Option (Option (Int × Bool))
  | [], s => some s
  | z :: r, s => (mstep s z.1 z.2.1).bind (mscan r)
theorem scan_mscan (st : List (Int × Int × Int)) (L : List (Pl × Value)) (h : L.map Prod.fst = st.map (fun z => plOf z.1 z.2.1 z.2.2)) (hb : ∀ z ∈ st, (0 ≤ z.2.1 ∧ z.2.1 ≤ 18446744073709551615) ∧ (0 ≤ z.2.2 ∧ z.2.2 ≤ 255)) (s : Option (Int × Bool)) : scan L s = mscan st s := by
  induction st generalizing L s with
  | nil => cases L with | nil => rfl | cons c r => simp at h
  | cons z r ih =>
    cases L with
    | nil => simp at h
    | cons c t =>
      simp only [List.map_cons, List.cons.injEq] at h
      have hz := hb z (by simp)
      simp only [scan, mscan, h.1, step_plOf s z.1 z.2.1 z.2.2 hz.1.1 hz.1.2 hz.2.1 hz.2.2]
      cases mstep s z.1 z.2.1 with
      | none => rfl
      | some s1 => exact ih t h.2 (fun q hq => hb q (by simp [hq])) s1
theorem mscan_append (A B : List (Int × Int × Int)) (s : Option (Int × Bool)) : mscan (A ++ B) s = (mscan A s).bind (mscan B) := by
  induction A generalizing s with
  | nil => rfl
  | cons z r ih =>
    simp only [List.cons_append, mscan]
    cases mstep s z.1 z.2.1 with
    | none => rfl
    | some s1 => simp [ih]
/-- A payload stored. -/
theorem pays_store (wk wr w3 : World) (sn j : Nat) (L : List (Pl × Value)) (st : List (Int × Int × Int)) (hj' : j < st.length) (hjl : j < sn) (hLj : L.length = j) (hown : wr.ownsRow wk.heap.size 36 3 (.slice (some ⟨wk.heap.size, 0, none⟩) sn sn) sn (plCells (L ++ List.replicate (sn - j) zPl)))
    (HL : Laid wr (wk.heap.size + 1) (st.take j) L) (bv : Value) (hb : Below wr.heap.size wr w3) (ho : OBody w3 (wk.heap.size + 1) (plOf st[j].1 st[j].2.1 st[j].2.2) bv) :
    (∃ v, w3.cell? ⟨wk.heap.size, j * 3, none⟩ = some v) ∧ (∃ v, w3.cell? ⟨wk.heap.size, j * 3 + 1, none⟩ = some v) ∧ (∃ v, w3.cell? ⟨wk.heap.size, j * 3 + 2, none⟩ = some v) ∧ w3.frozen? ⟨wk.heap.size, j * 3, none⟩ = false ∧ w3.frozen? ⟨wk.heap.size, j * 3 + 1, none⟩ = false ∧ w3.frozen? ⟨wk.heap.size, j * 3 + 2, none⟩ = false ∧
    Hid ((((w3.setCell ⟨wk.heap.size, j * 3, none⟩ (.int .u8 (plOf st[j].1 st[j].2.1 st[j].2.2).t8)).setCell ⟨wk.heap.size, j * 3 + 1, none⟩ (.bool false)).setCell ⟨wk.heap.size, j * 3 + 2, none⟩ bv).ownsRow wk.heap.size 36 3 (.slice (some ⟨wk.heap.size, 0, none⟩) sn sn) sn (plCells ((L ++ [(plOf st[j].1 st[j].2.1 st[j].2.2, bv)]) ++ List.replicate (sn - (j + 1)) zPl)) ∧
      Laid (((w3.setCell ⟨wk.heap.size, j * 3, none⟩ (.int .u8 (plOf st[j].1 st[j].2.1 st[j].2.2).t8)).setCell ⟨wk.heap.size, j * 3 + 1, none⟩ (.bool false)).setCell ⟨wk.heap.size, j * 3 + 2, none⟩ bv) (wk.heap.size + 1) (st.take (j + 1)) (L ++ [(plOf st[j].1 st[j].2.1 st[j].2.2, bv)])) := by
  have h3 := row_below hown hb (Nat.le_refl _)
  have hl : (plCells (L ++ List.replicate (sn - j) zPl)).length = sn * 3 := hown.1
  refine ⟨?_, ?_, ?_, h3.frozenAt _, h3.frozenAt _, h3.frozenAt _, ?_, ?_⟩
  · rw [h3.cellAt (j * 3) (by omega)]; exact ⟨_, List.getElem?_eq_getElem (by omega)⟩
  · rw [h3.cellAt (j * 3 + 1) (by omega)]; exact ⟨_, List.getElem?_eq_getElem (by omega)⟩
  · rw [h3.cellAt (j * 3 + 2) (by omega)]; exact ⟨_, List.getElem?_eq_getElem (by omega)⟩
  · have := (((h3.stored (j * 3) (.int .u8 (plOf st[j].1 st[j].2.1 st[j].2.2).t8)).1.stored (j * 3 + 1) (.bool false)).1.stored (j * 3 + 2) bv).1
    rw [pls_succ L sn j _ _ hLj hjl] at this
    exact this
  · exact ((((HL.below hb (Nat.le_refl _)).snoc hj' ho).set (by simp) _).set (by simp) _).set (by simp) _
theorem OBody.slice {w : World} {B : Nat} {p : Pl} {v : Value} (h : OBody w B p v) : ∃ a n c, v = .slice a n c := by
  match p, h with
  | .other t, h => exact h.2
  | .note typ spi D, ⟨gb, h1, _⟩ => exact ⟨_, _, _, h1⟩
  | .bad L, ⟨gb, h1, _⟩ => exact ⟨_, _, _, h1⟩
theorem pay_round (wk wr : World) (sn j : Nat) (L : List (Pl × Value)) (st : List (Int × Int × Int)) (hj' : j < st.length) (hjl : j < sn) (hLj : L.length = j) (hown : wr.ownsRow wk.heap.size 36 3 (.slice (some ⟨wk.heap.size, 0, none⟩) sn sn) sn (plCells (L ++ List.replicate (sn - j) zPl)))
    (HL : Laid wr (wk.heap.size + 1) (st.take j) L) (hwr : wk.heap.size < wr.heap.size) (hb : (0 ≤ st[j].1 ∧ st[j].1 ≤ 255) ∧ (0 ≤ st[j].2.1 ∧ st[j].2.1 ≤ 18446744073709551615) ∧ (0 ≤ st[j].2.2 ∧ st[j].2.2 ≤ 255)) (o : Obj) :
    Calls Ybaf.prog 7 #[.agg #[.int .u8 st[j].1, .int .u64 st[j].2.1, .int .u8 st[j].2.2]] (wr.alloc o) fun e w3 => ∃ ba bn bc v0 v1 v2, e = .returned (.agg #[.int .u8 (plOf st[j].1 st[j].2.1 st[j].2.2).t8, .bool false, .slice ba bn bc]) ∧
      w3.cell? ⟨wk.heap.size, j * 3, none⟩ = some v0 ∧ w3.cell? ⟨wk.heap.size, j * 3 + 1, none⟩ = some v1 ∧ w3.cell? ⟨wk.heap.size, j * 3 + 2, none⟩ = some v2 ∧ w3.frozen? ⟨wk.heap.size, j * 3, none⟩ = false ∧ w3.frozen? ⟨wk.heap.size, j * 3 + 1, none⟩ = false ∧ w3.frozen? ⟨wk.heap.size, j * 3 + 2, none⟩ = false ∧
      Hid ((((w3.setCell ⟨wk.heap.size, j * 3, none⟩ (.int .u8 (plOf st[j].1 st[j].2.1 st[j].2.2).t8)).setCell ⟨wk.heap.size, j * 3 + 1, none⟩ (.bool false)).setCell ⟨wk.heap.size, j * 3 + 2, none⟩ (.slice ba bn bc)).ownsRow wk.heap.size 36 3 (.slice (some ⟨wk.heap.size, 0, none⟩) sn sn) sn (plCells ((L ++ [(plOf st[j].1 st[j].2.1 st[j].2.2, .slice ba bn bc)]) ++ List.replicate (sn - (j + 1)) zPl)) ∧
        Laid (((w3.setCell ⟨wk.heap.size, j * 3, none⟩ (.int .u8 (plOf st[j].1 st[j].2.1 st[j].2.2).t8)).setCell ⟨wk.heap.size, j * 3 + 1, none⟩ (.bool false)).setCell ⟨wk.heap.size, j * 3 + 2, none⟩ (.slice ba bn bc)) (wk.heap.size + 1) (st.take (j + 1)) (L ++ [(plOf st[j].1 st[j].2.1 st[j].2.2, .slice ba bn bc)])) ∧ Hid (Below wr.heap.size wr w3) := by
  refine (pay_any st[j].1 st[j].2.1 st[j].2.2 (wr.alloc o) hb.2.1.1 hb.2.1.2 hb.1.1 hb.1.2 hb.2.2.1 hb.2.2.2).mono ?_
  rintro e w3 ⟨bv, he, ho, hb3⟩
  have hbr : Below wr.heap.size wr w3 := ((Below.refl _ wr).alloc (Nat.le_refl _) o).trans (hb3.mono (by simp))
  obtain ⟨ba, bn, bc, rfl⟩ := ho.slice
  obtain ⟨⟨v0, h0⟩, ⟨v1, h1⟩, ⟨v2, h2⟩, f0, f1, f2, HH⟩ := pays_store wk wr w3 sn j L st hj' hjl hLj hown HL _ hbr (ho.base (by simp; omega))
  exact ⟨ba, bn, bc, v0, v1, v2, he, h0, h1, h2, f0, f1, f2, HH, hbr⟩
end Ha

namespace Ha
def dOf : Option (Int × Bool) → Int | none => 0 | some p => p.1
def eOf : Option (Int × Bool) → Bool | none => false | some p => p.2
/-- What the model's loop has behind k steps: 'ok', and what it has seen. -/
def Mode (u : Bool) (st : List (Int × Int × Int)) (k : Nat) (s : Option (Int × Bool)) (ob : Bool) : Prop := (ob = true → u = true ∧ mscan (st.take k) none = some s) ∧ (ob = false → u = false ∨ mscan st none = none)
theorem Mode.start (u : Bool) (st : List (Int × Int × Int)) : Mode u st 0 none u := ⟨fun h => ⟨h, rfl⟩, fun h => .inl h⟩
theorem Mode.more {u : Bool} {st : List (Int × Int × Int)} {k : Nat} {s s1 : Option (Int × Bool)} (h : Mode u st k s true) (hk : k < st.length) (hs : mstep s st[k].1 st[k].2.1 = some s1) : Mode u st (k + 1) s1 true := by
  obtain ⟨h1, h2⟩ := h.1 rfl
  refine ⟨fun _ => ⟨h1, ?_⟩, fun h => by cases h⟩
  rw [List.take_add_one, List.getElem?_eq_getElem hk, mscan_append, h2]
  simp [mscan, hs]
theorem Mode.fail {u : Bool} {st : List (Int × Int × Int)} {k : Nat} {s : Option (Int × Bool)} (h : Mode u st k s true) (hk : k < st.length) (hs : mstep s st[k].1 st[k].2.1 = none) (k' : Nat) (s' : Option (Int × Bool)) : Mode u st k' s' false := by
  obtain ⟨h1, h2⟩ := h.1 rfl
  refine ⟨(fun h => by cases h), fun _ => .inr ?_⟩
  rw [← List.take_append_drop k st, mscan_append, h2, List.drop_eq_getElem_cons hk]
  simp [mscan, hs]
theorem Mode.stay {u : Bool} {st : List (Int × Int × Int)} {k : Nat} {s : Option (Int × Bool)} (h : Mode u st k s false) (k' : Nat) (s' : Option (Int × Bool)) : Mode u st k' s' false := ⟨(fun h => by cases h), fun _ => h.2 rfl⟩
/-- What the model says of the payloads: the delta and its size; none: the request is refused. -/
def verd (u : Bool) (st : List (Int × Int × Int)) : Option (Int × Bool) := match u, mscan st none with | true, some (some p) => some p | _, _ => none
theorem verd_of {u : Bool} {st : List (Int × Int × Int)} {k : Nat} {s : Option (Int × Bool)} {ob : Bool} (h : Mode u st k s ob) (hk : ob = true → k = st.length) : verd u st = if ob = true then s else none := by
  cases ob with
  | true =>
    obtain ⟨h1, h2⟩ := h.1 rfl
    rw [hk rfl, List.take_length] at h2
    subst h1
    simp [verd, h2]
    cases s <;> rfl
  | false =>
    rcases h.2 rfl with h1 | h1
    · subst h1; simp [verd]
    · cases u <;> simp [verd, h1]
end Ha

end Go.Proofs.YbulkbwgiFmt
