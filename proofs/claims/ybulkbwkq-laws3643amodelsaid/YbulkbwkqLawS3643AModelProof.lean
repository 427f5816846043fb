/-
  'Rows.LawS3643AModelSaid', PROVED (after the given shell).
-/
import Derived.Test.YbulkbwkqRows
import Derived.WalkKit
import Derived.ProofKit
import Derived.OpenShut
import Derived.ShutString
import Derived.ChangeOld
import Derived.Below
import Derived.Test.YbulkbwkqHelp
namespace Go.Proofs.Ybulkbwkq.lawS3643AModel
open Go.ChangeShapes Go.WideShapes Go.ChangeAt Go.RowKit
open Go.ChangeMaps (open_string shut_string)
open Pd (hide unhide)
set_option linter.unusedVariables false

theorem own : ownKnob Yba.prog.godebug = none := by kernel_rfl
theorem laidOut : laidOutB Yba.prog = true := by kernel_rfl

/-- WHAT THE WALK IS TOLD OF A SLICE OF INTEGERS THAT CAME IN: it is nil; or it leads to a row of 'cap' cells, the numbers 'zs' (the first 'len' are its elements, the rest its spare room), each fitting its kind. -/
def IsRow (k : IntKind) (w : World) (a : Option Addr) (len cap : Nat) (zs : List Int) : Prop :=
  (a = none ∧ len = 0 ∧ cap = 0 ∧ zs = []) ∨
  ∃ x, a = some x ∧ len ≤ cap ∧ cap ≤ maxLen ∧ zs.length = cap ∧ (∀ i, i < zs.length → w.cell? (x.add i) = some (.int k (zs.getD i 0))) ∧ ∀ n ∈ zs, (Lit.int k n).wf = true

/-! ### STEP 1: THE WALK: the Go text returns true, AND WRITES NOTHING THAT WAS THERE: 'Below w.heap.size w w'' (Derived/Below.lean: '.refl', '.alloc', '.drew', '.setCell' at a new block, '.trans'). Open each 'IsRow' by 'rcases' AHEAD of 'go_enter'; part every test ahead of the walk. -/
theorem bd_u16 {z : Int} (h : (Lit.int .u16 z).wf = true) : 0 ≤ z ∧ z ≤ 65535 := by
  have e1 : IntKind.u16.min = 0 := rfl
  have e2 : IntKind.u16.max = 65535 := rfl
  simpa [Lit.wf, e1, e2] using h

set_option maxRecDepth 100000 in
set_option maxHeartbeats 1600000 in
theorem walk (a0 : Option Addr) (len0 cap0 : Nat) (z0 : List Int) (a1 : Int) (a2 : Int) (w : World) (w0 : IsRow .u8 w a0 len0 cap0 z0) (w1 : (Lit.int .u8 a1).wf = true) (w2 : (Lit.int .u16 a2).wf = true) :
    Calls Yba.prog 3 #[.slice a0 len0 cap0, .int .u8 a1, .int .u16 a2] w fun e w' => e = .returned (.bool true) ∧ Below w.heap.size w w' := by
  obtain ⟨m0, m1⟩ := Pd.bd_u8 w1
  obtain ⟨b0, b1⟩ := bd_u16 w2
  rcases w0 with ⟨rfl, rfl, rfl, rfl⟩ | ⟨ad, rfl, hl, hm, hz, hc, hw⟩
  · go_enter Yba.func3, Yba.ntmps3
    go_wp2
    go_ret
    exact ⟨rfl, Below.refl _ _⟩
  · by_cases hbig : 1024 < len0
    · go_enter Yba.func3, Yba.ntmps3
      go_wp2
      go_ret
      exact ⟨rfl, Below.refl _ _⟩
    · by_cases hz0 : len0 = 0
      · subst hz0
        go_enter Yba.func3, Yba.ntmps3
        go_wp2
        go_ret
        exact ⟨rfl, Below.refl _ _⟩
      · have hget : ∀ k, k < len0 → w.cell? (ad.add k) = some (.int .u8 ((z0.take len0).getD k 0)) := by
          intro k hk
          rw [hc k (by omega)]
          simp [hk]
        have hln : (z0.take len0).length = len0 := by simp; omega
        have hbd : ∀ z ∈ z0.take len0, 0 ≤ z ∧ z ≤ 255 := fun z hz => Pd.bd_u8 (hw z (List.mem_of_mem_take hz))
        generalize z0.take len0 = L at *
        have hadb : ad.block < w.heap.size := by
          have := World.block_lt_of_cell? w _ (hget 0 (by omega))
          rwa [Pd.add_block] at this
        clear hc hw hz w1 w2
        have HCopy := hide (copy_any ad len0 cap0 L w (by omega) hln hadb hget)
        have hlast : L.getD (len0 - 1) 0 ∈ L := by rw [List.getD_eq_getElem?_getD, List.getElem?_eq_getElem (show len0 - 1 < L.length by omega)]; exact List.getElem_mem _
        obtain ⟨hl0, hl1⟩ := hbd _ hlast
        have HCh : Hid (∀ w2, w2.ownsRow w.heap.size 5 1 (.slice (some ⟨w.heap.size, 0, none⟩) len0 len0) len0 (L.map (Value.int .u8)) → Calls Yba.prog 6 #[.slice (some ⟨w.heap.size, 0, none⟩) len0 len0, .int .i64 (a1 % 65), .int .i64 (a2 % 257)] w2 fun e w' => e = .returned (.tuple #[.int .i64 (bif Pd.ok (L.getD (len0 - 1) 0) len0 (a1 % 65) (a2 % 257) then L.getD (len0 - 1) 0 + 1 else 0), .int .i64 (bif Pd.ok (L.getD (len0 - 1) 0) len0 (a1 % 65) (a2 % 257) then 1 else 0)]) ∧ w' = w2) :=
          hide (fun w2 ho => check_any ⟨w.heap.size, 0, none⟩ len0 len0 _ (a1 % 65) (a2 % 257) w2 (by omega) (by omega) hl0 hl1 (by omega) (by omega) (by omega) (by omega) (by
            rw [Pd.at_add, ho.cellAt (len0 - 1) (by omega)]
            simp [show len0 - 1 < L.length by omega]))
        have HMo : Hid (∀ w2, Below w.heap.size w w2 → Calls Yba.prog 7 #[.slice (some ad) len0 cap0, .int .i64 (a1 % 65), .int .i64 (a2 % 257)] w2 fun e w' => e = .returned (.tuple #[.int .i64 (bif Pd.ok (L.getD (len0 - 1) 0) len0 (a1 % 65) (a2 % 257) then L.getD (len0 - 1) 0 + 1 else 0), .int .i64 (bif Pd.ok (L.getD (len0 - 1) 0) len0 (a1 % 65) (a2 % 257) then 1 else 0)]) ∧ w' = w2) :=
          hide (fun w2 hb => model_any ad len0 cap0 _ (a1 % 65) (a2 % 257) w2 (by omega) (by omega) hl0 hl1 (by omega) (by omega) (by omega) (by omega) ((hb.cell (p := ad.add (len0 - 1)) (by rw [Pd.add_block]; exact hadb)).trans (hget _ (by omega))))
        have HSame : Hid (∀ w2, Below w.heap.size w w2 → w2.ownsRow w.heap.size 5 1 (.slice (some ⟨w.heap.size, 0, none⟩) len0 len0) len0 (L.map (Value.int .u8)) → Calls Yba.prog 8 #[.slice (some ⟨w.heap.size, 0, none⟩) len0 len0, .slice (some ad) len0 cap0] w2 fun e w' => e = .returned (.bool true) ∧ Hid (Below w2.heap.size w2 w')) :=
          hide (fun w2 hb ho => same_any ad w.heap.size len0 cap0 L w2 (by omega) hln (fun k hk => (hb.cell (p := ad.add k) (by rw [Pd.add_block]; exact hadb)).trans (hget k hk)) ho)
        generalize (bif Pd.ok (L.getD (len0 - 1) 0) len0 (a1 % 65) (a2 % 257) then L.getD (len0 - 1) 0 + 1 else 0) = rn at *
        generalize (bif Pd.ok (L.getD (len0 - 1) 0) len0 (a1 % 65) (a2 % 257) then (1 : Int) else 0) = rg at *
        clear hget hbd hlast hl0 hl1 hln
        have h0' : ((len0 : Int) == 0) = false := by simp; omega
        have h0'' : decide ((1024 : Int) < (len0 : Int)) = false := by simp; omega
        go_enter Yba.func3, Yba.ntmps3
        go_wp2_with (first
          | (go_at_call 5; refine (unhide HCopy).mono ?_; rintro e w2 ⟨rfl, ho2, hb2⟩; replace ho2 := hide ho2; replace hb2 := hide hb2)
          | (go_at_call 6; refine (unhide HCh _ (unhide ho2)).mono ?_; rintro e w' ⟨rfl, rfl⟩)
          | (go_at_call 7; refine (unhide HMo _ (unhide hb2)).mono ?_; rintro e w' ⟨rfl, rfl⟩)
          | (go_at_call 8; refine (unhide HSame _ (unhide hb2) (unhide ho2)).mono ?_; rintro e w3 ⟨rfl, hb3⟩))
        go_ret
        exact ⟨by simp, (unhide hb2).trans ((unhide hb3).mono (unhide hb2).size)⟩

/-! ### THE ROW's STEP: WRITTEN OUT: LEAVE IT -/
set_option maxRecDepth 100000 in
theorem lifted (os : Os) (started : os.Started) (H : Type) (enc : TypeId × Value → H) :
    ReturnsInHanded {} Yba.checked os 3 .any (Rows.lawS3643AModelSpec.pre6 enc Yba.prog Yba.f3 Rows.lawS3643AModelRow.domain false) (Rows.lawS3643AModelSpec.post enc Yba.prog Yba.f3 false true false false) := by
  refine returnsInHanded_of_change (C := Yba.checked) own started (by kernel_rfl) Yba.func3
    (ChangeSpec.witness6 (enc := enc) (C := Yba.checked) false ⟨#[], #[.slice none 0 0, .int .u8 0, .int .u16 0], []⟩ 8 (by kernel_rfl) (by kernel_rfl) (by kernel_rfl) (by kernel_rfl)) ?_
  intro W base args ds gs before hval0 hW hcnd _
  have hval : ∀ (j : Nat) t v, Yba.f3.params[j]? = some t → args[j]? = some v → Value.okWide Yba.prog W .any base t v := hval0
  have hW' := hW
  obtain ⟨p, q, hA0, hV, rfl, hfz, hnd⟩ := hW
  have hA : DataW.TrodAll enc Yba.prog W 0 (fun _ => true) true Yba.f3.params.toList args.toList ds p := hA0
  rw [Yba.params3] at hA hval
  obtain ⟨v0, vs0, d0, ds0, p0, q0, hargs, rfl, rfl, h0, r0⟩ := trodAll_cons hA
  obtain ⟨v1, vs1, d1, ds1, p1, q1, rfl, rfl, rfl, h1, r1⟩ := trodAll_cons r0
  obtain ⟨v2, vs2, d2, ds2, p2, q2, rfl, rfl, rfl, h2, r2⟩ := trodAll_cons r1
  obtain ⟨rfl, rfl, rfl⟩ := trodAll_nil r2
  obtain rfl : args = #[v0, v1, v2] := by cases args; simp_all
  obtain ⟨rfl, rfl⟩ := trodVars_none hV
  obtain ⟨a0, len0, cap0, rfl⟩ := okWide_slice Yba.underlying22 (hval 0 22 v0 rfl rfl)
  have k0 := h0
  have lt0 : ∀ x ∈ p0, x.block < W.heap.size := by obtain ⟨m, hm⟩ := k0; exact DataW.trod_lt m _ _ _ hm
  obtain ⟨z0, w0⟩ : ∃ zs, IsRow .u8 W a0 len0 cap0 zs := by
    obtain ⟨fuel, hf⟩ := h0
    rcases open_ints Yba.underlying22 Yba.underlying5 (by kernel_rfl) hf with ⟨hcs, _⟩ | ⟨x, l, c, zs, hcs, _, hl, hm, hz, _, hcell, hwz⟩
    · simp [Value.cells] at hcs
      obtain ⟨rfl, rfl, rfl⟩ := hcs
      exact ⟨[], .inl ⟨rfl, rfl, rfl, rfl⟩⟩
    · simp [Value.cells] at hcs
      obtain ⟨rfl, rfl, rfl⟩ := hcs
      exact ⟨zs, .inr ⟨_, rfl, hl, hm, by simpa using hz, hcell, hwz⟩⟩
  obtain ⟨a1, rfl, rfl, rfl, w1⟩ := open_int Yba.underlying5 (hval 1 5 v1 rfl rfl) h1
  obtain ⟨a2, rfl, rfl, rfl, w2⟩ := open_int Yba.underlying23 (hval 2 23 v2 rfl rfl) h2
  clear hA0 hval0
  refine (walk a0 len0 cap0 z0 a1 a2 W w0 w1 w2).mono fun e W' ⟨he, bel⟩ => ?_
  subst he
  exact ⟨_, rfl, _, _, _, [], _, [], hW', trodAll_mk1 (shut_bool Yba.underlying4 _), (trodAll_cons_mk (Below.trod laidOut (by kernel_rfl) (of_decide_eq_true (by kernel_rfl)) k0 bel lt0) (trodAll_cons_mk (shut_int Yba.underlying5 w1) (trodAll_cons_mk (shut_int Yba.underlying23 w2) trodAll_mk0))), rfl, bel.frame _, fun h => by cases h⟩

theorem over : Rows.lawS3643AModelRow.holds Yba.pinned (OpenSpec.ofChange Rows.lawS3643AModelSpec) :=
  OpenClaim.holds_of_wide 3 Yba.f3 rfl rfl rfl rfl rfl rfl rfl ⟨rfl, rfl, rfl, rfl, rfl⟩ rfl rfl rfl rfl rfl (by kernel_rfl) Yba.func3 (by kernel_rfl)
    (of_decide_eq_true (by kernel_rfl)) (by unfold Func.isWrapper; first | (rw [if_pos (by decide +kernel)]; kernel_rfl) | (rw [if_neg (by decide +kernel)]; exact ⟨rfl, rfl⟩))
    (fun os started H enc _ => lifted os started H enc)

/-- ████ THE STATEMENT ████ -/
theorem proved : Rows.LawS3643AModelSaid := over
#print axioms proved
end Go.Proofs.Ybulkbwkq.lawS3643AModel
