/-
  PAYLOADS THAT THE CALL OWNS, under append.
-/
import Derived.Test.YbulkbwgiFmtHSyncAll
namespace Go.Proofs.YbulkbwgiFmt
open Go.RowKit
open Ha (hide unhide)

namespace Ha
theorem info36 : (Ybaf.prog.info? 36).map (fun i => (i.zero, i.size, i.bytes)) = some (some (.agg #[.int .u8 0, .bool false, .slice none 0 0]), 3, 32) := by kernel_rfl
theorem row_below {w w' : World} {base e size n B : Nat} {v : Value} {xs : List Value} (h : w.ownsRow base e size v n xs) (hb : Below B w w') (hB : w.heap.size ≤ B) : w'.ownsRow base e size v n xs := by
  obtain ⟨h1, h2⟩ := h
  refine ⟨h1, ?_⟩
  rcases h2 with h2 | ⟨g, cap, cur, hv, hg, hh, r⟩
  · exact .inl h2
  · exact .inr ⟨g, cap, cur, hv, hg, by rw [hb.block g (by have := (Array.getElem?_eq_some_iff.1 hh).1; omega)]; exact hh, r⟩
theorem row_base {w : World} {base base' e size n : Nat} {v : Value} {xs : List Value} (h : w.ownsRow base e size v n xs) (hb : base' ≤ base) : w.ownsRow base' e size v n xs := by
  obtain ⟨h1, h2⟩ := h
  refine ⟨h1, ?_⟩
  rcases h2 with h2 | ⟨g, cap, cur, hv, hg, hh, r⟩
  · exact .inl h2
  · exact .inr ⟨g, cap, cur, hv, by omega, hh, r⟩
theorem row_ne {w : World} {b1 b2 s1 s2 n1 n2 : Nat} {e1 e2 : TypeId} {v1 v2 : Value} {xs1 xs2 : List Value} (h1 : w.ownsRow b1 e1 s1 v1 n1 xs1) (h2 : w.ownsRow b2 e2 s2 v2 n2 xs2) (he : e1 ≠ e2) : v1.ownBlock = none ∨ v1.ownBlock ≠ v2.ownBlock := by
  rcases h1.2 with ⟨rfl, _⟩ | ⟨g, cap, cur, rfl, _, hh, _⟩
  · exact .inl rfl
  · right
    rcases h2.2 with ⟨rfl, _⟩ | ⟨g2, cap2, cur2, rfl, _, hh2, _⟩
    · simp [Value.ownBlock]
    · simp only [Value.ownBlock]
      intro h
      have : g = g2 := by simpa using h
      subst this
      rw [hh] at hh2
      simp at hh2
      exact he hh2.2
theorem row_at {w : World} {b e s n c g : Nat} {xs : List Value} (h : w.ownsRow b e s (.slice (some ⟨g, 0, none⟩) n c) n xs) : At w g xs := fun j u hj => by
  have hl : j < n * s := by rw [← h.1]; exact (List.getElem?_eq_some_iff.1 hj).1
  rw [h.cellAt j hl]; exact hj
/-- A body that the call owns. -/
def OBody (w : World) (B : Nat) : Pl → Value → Prop
  | .other t, v => t ≠ 41 ∧ ∃ a n c, v = .slice a n c
  | .note typ spi D, v => ∃ gb, v = .slice (some ⟨gb, 0, none⟩) (4 + spi + D.length) (4 + spi + D.length) ∧ w.ownsRow B 5 1 v (4 + spi + D.length) ((bodyL typ spi D).map (Value.int .u8)) ∧
      0 ≤ typ ∧ typ ≤ 65535 ∧ spi ≤ 3 ∧ D.length ≤ 16 ∧ ∀ z ∈ D, 0 ≤ z ∧ z ≤ 255
  | .bad L, v => ∃ gb, v = .slice (some ⟨gb, 0, none⟩) L.length L.length ∧ w.ownsRow B 5 1 v L.length (L.map (Value.int .u8)) ∧ (L.length < 4 ∨ L = [0, 10, 64, 39])
theorem OBody.body {w : World} {B : Nat} {p : Pl} {v : Value} (h : OBody w B p v) : Body w w.heap.size p v := by
  match p, h with
  | .other t, h => exact h
  | .note typ spi D, ⟨gb, h1, h2, h3⟩ => subst h1; exact ⟨gb, (h2.lt gb rfl).2, rfl, row_at h2, h3⟩
  | .bad L, ⟨gb, h1, h2, h3⟩ => subst h1; exact ⟨gb, (h2.lt gb rfl).2, rfl, row_at h2, h3⟩
theorem OBody.below {w w' : World} {B B' : Nat} {p : Pl} {v : Value} (h : OBody w B p v) (hb : Below B' w w') (hB : w.heap.size ≤ B') : OBody w' B p v := by
  match p, h with
  | .other t, h => exact h
  | .note typ spi D, ⟨gb, h1, h2, h3⟩ => exact ⟨gb, h1, row_below h2 hb hB, h3⟩
  | .bad L, ⟨gb, h1, h2, h3⟩ => exact ⟨gb, h1, row_below h2 hb hB, h3⟩
theorem OBody.kept {w w' : World} {B b n s : Nat} {p : Pl} {v u : Value} {xs : List Value} (h : OBody w B p v) (ho : w.ownsRow b 36 s u n xs) (hg : w.grownBy w' u.ownBlock) : OBody w' B p v := by
  match p, h with
  | .other t, h => exact h
  | .note typ spi D, ⟨gb, h1, h2, h3⟩ => exact ⟨gb, h1, h2.kept hg (row_ne h2 ho (by decide)), h3⟩
  | .bad L, ⟨gb, h1, h2, h3⟩ => exact ⟨gb, h1, h2.kept hg (row_ne h2 ho (by decide)), h3⟩
/-- Payloads that the call owns. -/
def Pays (w : World) (B : Nat) (v : Value) (L : List (Pl × Value)) : Prop := w.ownsRow B 36 3 v L.length (plCells L) ∧ ∀ p ∈ L, OBody w B p.1 p.2
theorem Pays.nil (w : World) (B : Nat) : Pays w B (.slice none 0 0) [] := ⟨World.ownsRow_nil _ _ _ _, fun p hp => by cases hp⟩
theorem Pays.below {w w' : World} {B B' : Nat} {v : Value} {L : List (Pl × Value)} (h : Pays w B v L) (hb : Below B' w w') (hB : w.heap.size ≤ B') : Pays w' B v L := ⟨row_below h.1 hb hB, fun p hp => (h.2 p hp).below hb hB⟩
theorem plCells_snoc (L : List (Pl × Value)) (p : Pl) (b : Value) : plCells (L ++ [(p, b)]) = plCells L ++ [.int .u8 p.t8, .bool false, b] := by simp [plCells]
theorem Pays.snoc {w w' : World} {B : Nat} {v v' : Value} {L : List (Pl × Value)} {p : Pl} {b : Value} (h : Pays w B v L) (hp : OBody w B p b) (ho : w'.ownsRow B 36 3 v' (L.length + 1) (plCells L ++ [.int .u8 p.t8, .bool false, b])) (hg : w.grownBy w' v.ownBlock) : Pays w' B v' (L ++ [(p, b)]) := by
  refine ⟨?_, fun q hq => ?_⟩
  · rw [plCells_snoc]; simpa using ho
  · rcases List.mem_append.1 hq with hq | hq
    · exact (h.2 q hq).kept h.1 hg
    · simp at hq; subst hq; exact hp.kept h.1 hg
theorem three_new (w : World) (x0 x1 x2 : Value) (t : TypeId) : ∀ j u, ([x0, x1, x2] : List Value)[j]? = some u → (w.alloc (.cells #[x0, x1, x2] t)).cell? ((⟨w.heap.size, 0, none⟩ : Addr).add j) = some u := by
  intro j u hj
  match j, hj with
  | 0, hj => simp at hj; subst hj; simp [Addr.add]
  | 1, hj => simp at hj; subst hj; simp [Addr.add]
  | 2, hj => simp at hj; subst hj; simp [Addr.add]
  | j + 3, hj => simp at hj
theorem three_new' (w : World) (g : Nat) (hg : g = w.heap.size) (x0 x1 x2 : Value) (t : TypeId) : ∀ j u, ([x0, x1, x2] : List Value)[j]? = some u → (w.alloc (.cells #[x0, x1, x2] t)).cell? ((⟨g, 0, none⟩ : Addr).add j) = some u := by
  subst hg; exact three_new w x0 x1 x2 t
/-- 'append' of one payload to payloads that the call owns. -/
theorem pays_append {ops : Array Oper} {rest : List Oper} {o : Oper} {a : Act} {Q : Exit → Act → World → Prop} (hgd : o.guard = none) (s x : Operand) (ho : o.op = .call { callee := .builtin .append, args := #[s, x], argTypes := #[30, 30] })
    (w : World) (B : Nat) (v : Value) (L : List (Pl × Value)) (p : Pl) (b : Value) (ad : Addr) (hs : a.eval s = v) (hx : a.eval x = .slice (some ad) 1 1) (hP : Pays w B v L) (hO : OBody w B p b)
    (hc : ∀ j u, ([.int .u8 p.t8, .bool false, b] : List Value)[j]? = some u → w.cell? (ad.add j) = some u) (hL : L.length ≤ 4096) (hB : B ≤ w.heap.size)
    (h : ∀ v' w', Pays w' B v' (L ++ [(p, b)]) → Below B w w' → wpList Ybaf.prog ops Q rest (a.put o.dst v') w') : wpList Ybaf.prog ops Q (o :: rest) a w := by
  obtain ⟨j0, hj, hy0, hy1, hy2⟩ := info_parts info36
  have hone : b.oneCell' = true := by
    match p, hO with
    | .other t, h => obtain ⟨_, _, _, _, h⟩ := h; subst h; rfl
    | .note typ spi D, h => obtain ⟨_, h, _⟩ := h; subst h; rfl
    | .bad L, h => obtain ⟨_, h, _⟩ := h; subst h; rfl
  refine wpList_append_own w hgd s x 30 ho B 36 j0 (.agg #[.int .u8 0, .bool false, .slice none 0 0]) 3 32 Ybaf.underlying30 hj hy0 hy1 hy2 rfl (by decide) v L.length (plCells L) hs hP.1 ad 1 1 [.int .u8 p.t8, .bool false, b] hx rfl hc ?_ (by unfold maxLen; omega) (by omega) hB ?_
  · intro u hu
    simp at hu
    rcases hu with rfl | rfl | rfl
    · rfl
    · rfl
    · exact hone
  · intro v' w' h1 h2 _
    exact h v' w' (hP.snoc hO h1 h2) ((Below.refl _ _).grown h2 hB (fun k hk => (hP.1.lt k hk).1))
/-- zzs3635bnotify, its body as a payload's. -/
theorem notify_body (B : Nat) (typ : Int) (spi : Nat) (ao : Option Addr) (m c : Nat) (D : List Int) (w : World) (ht0 : 0 ≤ typ) (ht1 : typ ≤ 65535) (hs : spi ≤ 3) (hD : D.length = m) (hm : m ≤ 16) (hDb : ∀ z ∈ D, 0 ≤ z ∧ z ≤ 255) (hB : B ≤ w.heap.size)
    (hnone : ao = none → m = 0 ∧ c = 0) (hlt : ∀ ad, ao = some ad → ad.block < w.heap.size) (hc : ∀ ad, ao = some ad → ∀ j u, (D.map (Value.int .u8))[j]? = some u → w.cell? (ad.add j) = some u) :
    Calls Ybaf.prog 10 #[.int .u16 typ, .int .i64 (spi : Int), .slice ao m c] w fun e w' => ∃ g n, e = .returned (.agg #[.int .u8 41, .bool false, .slice (some ⟨g, 0, none⟩) n n]) ∧
      Hid (OBody w' B (.note typ spi D) (.slice (some ⟨g, 0, none⟩) n n)) ∧ Hid (Below w.heap.size w w') := by
  refine (notify_any typ spi ao m c D w ht0 ht1 hs hD hm hnone hlt hc).mono ?_
  rintro e w' ⟨he, ho, hb⟩
  refine ⟨_, _, he, ⟨_, by rw [hD], ?_, ht0, ht1, hs, by omega, hDb⟩, hb⟩
  rw [hD]
  exact row_base ho (by omega)
theorem scan_append (L M : List (Pl × Value)) (s : Option (Int × Bool)) : scan (L ++ M) s = (scan L s).bind (scan M) := by
  induction L generalizing s with
  | nil => rfl
  | cons p r ih =>
    simp only [List.cons_append, scan]
    cases step s p.1 with
    | none => rfl
    | some s1 => simp [ih]
end Ha

end Go.Proofs.YbulkbwgiFmt
