/-
  'Rows.LawS3643APaddedSaid', PROVED (after the given shell).
-/
import Derived.Test.YbulkbwkqRows
import Derived.WalkKit
import Derived.ProofKit
import Derived.OpenShut
import Derived.ShutString
import Derived.ChangeOld
import Derived.Below
import Derived.Test.YbulkbwkqPad
namespace Go.Proofs.Ybulkbwkq.lawS3643APadded
open Go.ChangeShapes Go.WideShapes Go.ChangeAt Go.RowKit
open Go.ChangeMaps (open_string shut_string)
open Pd (hide unhide)
set_option linter.unusedVariables false

theorem own : ownKnob Yba.prog.godebug = none := by kernel_rfl
theorem laidOut : laidOutB Yba.prog = true := by kernel_rfl

/-- WHAT THE WALK IS TOLD OF A SLICE OF INTEGERS THAT CAME IN: it is nil; or it leads to a row of 'cap' cells, the numbers 'zs' (the first 'len' are its elements, the rest its spare room), each fitting its kind. -/
def IsRow (k : IntKind) (w : World) (a : Option Addr) (len cap : Nat) (zs : List Int) : Prop :=
  (a = none ∧ len = 0 ∧ cap = 0 ∧ zs = []) ∨
  ∃ x, a = some x ∧ len ≤ cap ∧ cap ≤ maxLen ∧ zs.length = cap ∧ (∀ i, i < zs.length → w.cell? (x.add i) = some (.int k (zs.getD i 0))) ∧ ∀ n ∈ zs, (Lit.int k n).wf = true

/-! ### STEP 1: THE WALK: the Go text returns true, AND WRITES NOTHING THAT WAS THERE: 'Below w.heap.size w w'' (Derived/Below.lean: '.refl', '.alloc', '.drew', '.setCell' at a new block, '.trans'). Open each 'IsRow' by 'rcases' AHEAD of 'go_enter'; part every test ahead of the walk. -/
theorem info5 : (Yba.prog.info? 5).map (fun i => (i.zero, i.size, i.bytes)) = some (some (.int .u8 0), 1, 1) := by kernel_rfl
theorem made_u8 (n : Nat) : (madeCells #[Value.int .u8 0] n).toList = (List.replicate n (0 : Int)).map (Value.int .u8) := by
  apply List.ext_getElem
  · simp [madeCells]
  · intro i h1 h2
    simp [madeCells, Nat.mod_one]
theorem add_block (a : Addr) (j : Nat) : (a.add j).block = a.block := by unfold Addr.add; split <;> rfl
theorem at_add (g j : Nat) : (⟨g, 0, none⟩ : Addr).add j = ⟨g, j, none⟩ := by unfold Addr.add; split <;> simp_all
theorem bd_u8 {z : Int} (h : (Lit.int .u8 z).wf = true) : 0 ≤ z ∧ z ≤ 255 := by
  have e1 : IntKind.u8.min = 0 := rfl
  have e2 : IntKind.u8.max = 255 := rfl
  simpa [Lit.wf, e1, e2] using h
/-- The row's elements, by their index. -/
theorem reads {w : World} {a : Option Addr} {len cap : Nat} {zs : List Int} (h : IsRow .u8 w a len cap zs) : ∀ k, k < len → ∃ ad z, a = some ad ∧ ad.block < w.heap.size ∧ w.cell? (ad.add k) = some (.int .u8 z) ∧ 0 ≤ z ∧ z ≤ 255 := by
  intro k hk
  rcases h with ⟨_, h, _⟩ | ⟨x, rfl, hl, _, hz, hc, hw⟩
  · omega
  · have hk' : k < zs.length := by omega
    have h1 := hc k hk'
    have h2 := World.block_lt_of_cell? w _ h1
    rw [add_block] at h2
    have h3 := bd_u8 (hw (zs.getD k 0) (by rw [List.getD_eq_getElem?_getD, List.getElem?_eq_getElem hk']; exact List.getElem_mem hk'))
    exact ⟨x, _, rfl, h2, h1, h3.1, h3.2⟩

set_option maxRecDepth 100000 in
set_option maxHeartbeats 1600000 in
theorem walk (a0 : Option Addr) (len0 cap0 : Nat) (z0 : List Int) (a1 : Int) (a2 : Int) (a3 : Int) (w : World) (w0 : IsRow .u8 w a0 len0 cap0 z0) (w1 : (Lit.int .u8 a1).wf = true) (w2 : (Lit.int .u8 a2).wf = true) (w3 : (Lit.int .u8 a3).wf = true) :
    Calls Yba.prog 4 #[.slice a0 len0 cap0, .int .u8 a1, .int .u8 a2, .int .u8 a3] w fun e w' => e = .returned (.bool true) ∧ Below w.heap.size w w' := by
  obtain ⟨i0, hi, hz0, hz1, hz2⟩ := info_parts info5
  have HR := hide (reads w0)
  obtain ⟨p0, p1⟩ := bd_u8 w1
  obtain ⟨m0, m1⟩ := bd_u8 w2
  obtain ⟨b0, b1⟩ := bd_u8 w3
  clear w0 w1 w2 w3
  by_cases hbig : 1024 < len0
  · go_enter Yba.func4, Yba.ntmps4
    go_wp2
    go_ret
    exact ⟨rfl, Below.refl _ _⟩
  · go_enter Yba.func4, Yba.ntmps4
    go_wp2_with (at_make; refine wpList_make_full _ rfl _ _ 22 rfl w.heap.size 5 i0 (.int .u8 0) 1 Yba.underlying22 hi hz0 hz1 _ _ _ _ (len0 + 1) rfl rfl rfl rfl ?b1 ?b2 ?b3 ?_)
    case b1 => rw [hz2]; omega
    case b2 => unfold maxLen; omega
    case b3 => simp
    intro w1 hown1 hgrow1
    have hb1 : Below w.heap.size w w1 := (Below.refl _ _).grown hgrow1 (Nat.le_refl _) (by intro k hk; cases hk)
    clear hgrow1
    go_wp2
    go_loopw [12] (fun i wr => ∃ (k : Nat) (L : List Int), k ≤ len0 ∧ i = .int .i64 (k : Int) ∧ L.length = len0 + 1 ∧ wr.ownsRow w.heap.size 5 1 (.slice (some ⟨w.heap.size, 0, none⟩) (len0 + 1) (len0 + 1)) (len0 + 1) (L.map (Value.int .u8)) ∧ Below w.heap.size w wr) (fun i _ => len0 - (intOf i).toNat)
    case atStart =>
      refine ⟨0, List.replicate (len0 + 1) 0, by omega, rfl, by simp, ?_, hb1⟩
      rw [← made_u8]; exact hown1
    case round =>
      obtain ⟨k, L, hk, rfl, hL, hown, hbel⟩ := hrel
      clear hown1 hb1
      by_cases hlt : k < len0
      · obtain ⟨ad, z, rfl, had, hc, _, _⟩ := unhide HR k hlt
        replace hc := (hbel.cell (p := ad.add k) (by rw [add_block]; exact had)).trans hc
        obtain ⟨u0, hu0⟩ : ∃ u, wr.cell? ⟨w.heap.size, k, none⟩ = some u := by rw [hown.cellAt k (by omega)]; exact ⟨_, List.getElem?_eq_getElem (by simp; omega)⟩
        have f0 := hown.frozenAt k
        have HO := hide (hown.stored k (.int .u8 z)).1
        have hLs : (L.set k z).length = len0 + 1 := by simpa using hL
        have HLs := hide hLs
        clear hown hLs
        go_wp2
        go_roundw
        case rel => exact ⟨k + 1, L.set k z, by omega, by go_num, unhide HLs, by rw [List.map_set]; exact unhide HO, hbel.setCell (Nat.le_refl _) _⟩
        case measure => simp [intOf]; omega
      · obtain rfl : k = len0 := by omega
        obtain ⟨u0, hu0⟩ : ∃ u, wr.cell? ⟨w.heap.size, k, none⟩ = some u := by rw [hown.cellAt k (by omega)]; exact ⟨_, List.getElem?_eq_getElem (by simp; omega)⟩
        have f0 := hown.frozenAt k
        clear hown HR hL
        have HC := hide (check_any ⟨w.heap.size, 0, none⟩ (k + 1) (k + 1) (a1 % 24) (a2 % 33) (a3 % 33) (wr.setCell ⟨w.heap.size, k, none⟩ (.int .u8 (a1 % 24))) (by omega) (by omega) (by omega) (by omega) (by omega) (by omega) (by omega) (by omega) (by rw [at_add]; exact World.cell?_setCell_same wr _ _ hu0))
        have hcl : (wr.setCell ⟨w.heap.size, k, none⟩ (.int .u8 (a1 % 24))).cell? ⟨w.heap.size, k, none⟩ = some (.int .u8 (a1 % 24)) := World.cell?_setCell_same wr _ _ hu0
        have hbf := hide (hbel.setCell (p := ⟨w.heap.size, k, none⟩) (Nat.le_refl _) (.int .u8 (a1 % 24)))
        by_cases h1 : a1 % 24 + 1 + a2 % 33 ≤ (k : Int) + 1
        · by_cases h2 : a1 % 24 + 1 ≤ a3 % 33
          · have hk' : Pd.ok (a1 % 24) (k + 1) (a2 % 33) (a3 % 33) = true := by simp [Pd.ok, h1, h2]
            rw [hk'] at HC
            clear hk'
            go_wp2_with (go_at_call 6; refine (unhide HC).mono ?_; rintro e w' ⟨rfl, rfl⟩)
            go_ret
            exact ⟨by simp, unhide hbf⟩
          · have hk' : Pd.ok (a1 % 24) (k + 1) (a2 % 33) (a3 % 33) = false := by simp [Pd.ok, h2]
            rw [hk'] at HC
            clear hk'
            go_wp2_with (go_at_call 6; refine (unhide HC).mono ?_; rintro e w' ⟨rfl, rfl⟩)
            go_ret
            exact ⟨by simp, unhide hbf⟩
        · have hk' : Pd.ok (a1 % 24) (k + 1) (a2 % 33) (a3 % 33) = false := by simp [Pd.ok, h1]
          rw [hk'] at HC
          clear hk'
          go_wp2_with (go_at_call 6; refine (unhide HC).mono ?_; rintro e w' ⟨rfl, rfl⟩)
          go_ret
          exact ⟨by simp, unhide hbf⟩

/-! ### THE ROW's STEP: WRITTEN OUT: LEAVE IT -/
set_option maxRecDepth 100000 in
theorem lifted (os : Os) (started : os.Started) (H : Type) (enc : TypeId × Value → H) :
    ReturnsInHanded {} Yba.checked os 4 .any (Rows.lawS3643APaddedSpec.pre6 enc Yba.prog Yba.f4 Rows.lawS3643APaddedRow.domain false) (Rows.lawS3643APaddedSpec.post enc Yba.prog Yba.f4 false true false false) := by
  refine returnsInHanded_of_change (C := Yba.checked) own started (by kernel_rfl) Yba.func4
    (ChangeSpec.witness6 (enc := enc) (C := Yba.checked) false ⟨#[], #[.slice none 0 0, .int .u8 0, .int .u8 0, .int .u8 0], []⟩ 8 (by kernel_rfl) (by kernel_rfl) (by kernel_rfl) (by kernel_rfl)) ?_
  intro W base args ds gs before hval0 hW hcnd _
  have hval : ∀ (j : Nat) t v, Yba.f4.params[j]? = some t → args[j]? = some v → Value.okWide Yba.prog W .any base t v := hval0
  have hW' := hW
  obtain ⟨p, q, hA0, hV, rfl, hfz, hnd⟩ := hW
  have hA : DataW.TrodAll enc Yba.prog W 0 (fun _ => true) true Yba.f4.params.toList args.toList ds p := hA0
  rw [Yba.params4] at hA hval
  obtain ⟨v0, vs0, d0, ds0, p0, q0, hargs, rfl, rfl, h0, r0⟩ := trodAll_cons hA
  obtain ⟨v1, vs1, d1, ds1, p1, q1, rfl, rfl, rfl, h1, r1⟩ := trodAll_cons r0
  obtain ⟨v2, vs2, d2, ds2, p2, q2, rfl, rfl, rfl, h2, r2⟩ := trodAll_cons r1
  obtain ⟨v3, vs3, d3, ds3, p3, q3, rfl, rfl, rfl, h3, r3⟩ := trodAll_cons r2
  obtain ⟨rfl, rfl, rfl⟩ := trodAll_nil r3
  obtain rfl : args = #[v0, v1, v2, v3] := by cases args; simp_all
  obtain ⟨rfl, rfl⟩ := trodVars_none hV
  obtain ⟨a0, len0, cap0, rfl⟩ := okWide_slice Yba.underlying22 (hval 0 22 v0 rfl rfl)
  have k0 := h0
  have lt0 : ∀ x ∈ p0, x.block < W.heap.size := by obtain ⟨m, hm⟩ := k0; exact DataW.trod_lt m _ _ _ hm
  obtain ⟨z0, w0⟩ : ∃ zs, IsRow .u8 W a0 len0 cap0 zs := by
    obtain ⟨fuel, hf⟩ := h0
    rcases open_ints Yba.underlying22 Yba.underlying5 (by kernel_rfl) hf with ⟨hcs, _⟩ | ⟨x, l, c, zs, hcs, _, hl, hm, hz, _, hcell, hwz⟩
    · simp [Value.cells] at hcs
      obtain ⟨rfl, rfl, rfl⟩ := hcs
      exact ⟨[], .inl ⟨rfl, rfl, rfl, rfl⟩⟩
    · simp [Value.cells] at hcs
      obtain ⟨rfl, rfl, rfl⟩ := hcs
      exact ⟨zs, .inr ⟨_, rfl, hl, hm, by simpa using hz, hcell, hwz⟩⟩
  obtain ⟨a1, rfl, rfl, rfl, w1⟩ := open_int Yba.underlying5 (hval 1 5 v1 rfl rfl) h1
  obtain ⟨a2, rfl, rfl, rfl, w2⟩ := open_int Yba.underlying5 (hval 2 5 v2 rfl rfl) h2
  obtain ⟨a3, rfl, rfl, rfl, w3⟩ := open_int Yba.underlying5 (hval 3 5 v3 rfl rfl) h3
  clear hA0 hval0
  refine (walk a0 len0 cap0 z0 a1 a2 a3 W w0 w1 w2 w3).mono fun e W' ⟨he, bel⟩ => ?_
  subst he
  exact ⟨_, rfl, _, _, _, [], _, [], hW', trodAll_mk1 (shut_bool Yba.underlying4 _), (trodAll_cons_mk (Below.trod laidOut (by kernel_rfl) (of_decide_eq_true (by kernel_rfl)) k0 bel lt0) (trodAll_cons_mk (shut_int Yba.underlying5 w1) (trodAll_cons_mk (shut_int Yba.underlying5 w2) (trodAll_cons_mk (shut_int Yba.underlying5 w3) trodAll_mk0)))), rfl, bel.frame _, fun h => by cases h⟩

theorem over : Rows.lawS3643APaddedRow.holds Yba.pinned (OpenSpec.ofChange Rows.lawS3643APaddedSpec) :=
  OpenClaim.holds_of_wide 4 Yba.f4 rfl rfl rfl rfl rfl rfl rfl ⟨rfl, rfl, rfl, rfl, rfl⟩ rfl rfl rfl rfl rfl (by kernel_rfl) Yba.func4 (by kernel_rfl)
    (of_decide_eq_true (by kernel_rfl)) (by unfold Func.isWrapper; first | (rw [if_pos (by decide +kernel)]; kernel_rfl) | (rw [if_neg (by decide +kernel)]; exact ⟨rfl, rfl⟩))
    (fun os started H enc _ => lifted os started H enc)

/-- ████ THE STATEMENT ████ -/
theorem proved : Rows.LawS3643APaddedSaid := over
#print axioms proved
end Go.Proofs.Ybulkbwkq.lawS3643APadded
