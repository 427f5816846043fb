/-
  THE LEAVES of hasync: zzs3635braise (9), last (36), has (24), require (15, the capability there), zzs3635bbe (11).
-/
import Derived.Test.YbulkbwgiFmtRows
import Derived.Test.YbulkbwgiFmtHPlain
import Derived.WalkKit
import Derived.WalkSpells
import Derived.WalkLawsBesides
namespace Go.Proofs.YbulkbwgiFmt
open Go.RowKit

namespace Ha
theorem hide {p : Prop} (h : p) : Hid p := h
theorem unhide {p : Prop} (h : Hid p) : p := h
theorem retInt {k : IntKind} {a b : Int} (h : a = b) : Ending.returned (.int k a) = .returned (.int k b) := by rw [h]
theorem add_block (a : Addr) (j : Nat) : (a.add j).block = a.block := by unfold Addr.add; split <;> rfl
end Ha
open Ha (hide unhide)

set_option maxHeartbeats 400000 in
theorem last_any (e : Bool) (o : Int) (w : World) :
    Calls Ybaf.prog 36 #[.agg #[.bool e, .int .u64 o]] w fun r w' => r = .returned (.int .u64 (Ha.lastOf e)) ∧ w' = w.alloc (.cells #[.bool e, .int .u64 o] 29) := by
  cases e
  all_goals
    go_enter Ybaf.func36, Ybaf.ntmps36
    go_wp2
    go_ret
    exact ⟨rfl, rfl⟩

set_option maxHeartbeats 400000 in
theorem braise_any (out d : Int) (e : Bool) (w : World) (h0 : 0 ≤ out) (h1 : out ≤ 18446744073709551615) (h2 : 0 ≤ d) (h3 : d ≤ 18446744073709551615) :
    Calls Ybaf.prog 9 #[.int .u64 out, .int .u64 d, .bool e] w fun r w' => r = .returned (.int .u64 (Ha.rz out d e)) ∧ w' = w := by
  cases e
  · by_cases ha : 4294967295 ≤ out
    · have HR := hide (show Ha.rz out d false = 4294967295 by simp [Ha.rz, Ha.lastOf_false, ha])
      go_enter Ybaf.func9, Ybaf.ntmps9
      go_wp2
      go_ret
      exact ⟨Ha.retInt (unhide HR).symm, rfl⟩
    · by_cases hb : 4294967295 - out ≤ d
      · have HR := hide (show Ha.rz out d false = 4294967295 by simp [Ha.rz, Ha.lastOf_false, ha, hb])
        go_enter Ybaf.func9, Ybaf.ntmps9
        go_wp2
        go_ret
        exact ⟨Ha.retInt (unhide HR).symm, rfl⟩
      · have HR := hide (show Ha.rz out d false = out + d by simp [Ha.rz, Ha.lastOf_false, ha, hb])
        go_enter Ybaf.func9, Ybaf.ntmps9
        go_wp2
        go_ret
        exact ⟨Ha.retInt (unhide HR).symm, rfl⟩
  · by_cases ha : 18446744073709551615 ≤ out
    · have HR := hide (show Ha.rz out d true = 18446744073709551615 by simp [Ha.rz, Ha.lastOf_true, ha])
      go_enter Ybaf.func9, Ybaf.ntmps9
      go_wp2
      go_ret
      exact ⟨Ha.retInt (unhide HR).symm, rfl⟩
    · by_cases hb : 18446744073709551615 - out ≤ d
      · have HR := hide (show Ha.rz out d true = 18446744073709551615 by simp [Ha.rz, Ha.lastOf_true, ha, hb])
        go_enter Ybaf.func9, Ybaf.ntmps9
        go_wp2
        go_ret
        exact ⟨Ha.retInt (unhide HR).symm, rfl⟩
      · have HR := hide (show Ha.rz out d true = out + d by simp [Ha.rz, Ha.lastOf_true, ha, hb])
        go_enter Ybaf.func9, Ybaf.ntmps9
        go_wp2
        go_ret
        exact ⟨Ha.retInt (unhide HR).symm, rfl⟩

set_option maxHeartbeats 400000 in
theorem require_ok (m : Bool) (w : World) :
    Calls Ybaf.prog 15 #[.agg #[.bool m, .bool true], .int .u16 16421] w fun r w' => r = .returned .nilIface ∧ w' = w.alloc (.cells #[.bool m, .bool true] 39) := by
  go_enter Ybaf.func15, Ybaf.ntmps15
  go_wp2
  go_ret
  exact ⟨rfl, rfl⟩

namespace Ha
theorem info5 : (Ybaf.prog.info? 5).map (fun i => (i.zero, i.size, i.bytes)) = some (some (.int .u8 0), 1, 1) := by kernel_rfl
theorem made_u8 (n : Nat) : (madeCells #[Value.int .u8 0] n).toList = (List.replicate n (0 : Int)).map (Value.int .u8) := by
  apply List.ext_getElem
  · simp [madeCells]
  · intro i h1 h2
    simp [madeCells, Nat.mod_one]
theorem be_next (k : Nat) (u : Int) (zs : List Int) (L : List Int) (hk : k < zs.length) (h : beL (k + 1) u ++ zs.drop (k + 1) = L) : beL k (u / 256) ++ (zs.set k (u % 256)).drop k = L := by
  rw [← h]
  have : (zs.set k (u % 256)).drop k = (u % 256) :: zs.drop (k + 1) := by
    rw [List.drop_eq_getElem_cons (by simpa using hk)]
    simp [List.drop_set]
  rw [this]
  simp [beL]
end Ha

set_option maxRecDepth 100000 in
set_option maxHeartbeats 400000 in
theorem be_any (v : Int) (n : Nat) (w : World) (hv : 0 ≤ v) (hv' : v ≤ 18446744073709551615) (hn : n ≤ 16) :
    Calls Ybaf.prog 11 #[.int .u64 v, .int .i64 (n : Int)] w fun e w' => e = .returned (.slice (some ⟨w.heap.size, 0, none⟩) n n) ∧
      w'.ownsRow w.heap.size 5 1 (.slice (some ⟨w.heap.size, 0, none⟩) n n) n ((Ha.beL n v).map (Value.int .u8)) ∧ Below w.heap.size w w' := by
  obtain ⟨i0, hi, hz0, hz1, hz2⟩ := info_parts Ha.info5
  go_enter Ybaf.func11, Ybaf.ntmps11
  go_wp2_with (at_make; refine wpList_make_full _ rfl _ _ 34 rfl w.heap.size 5 i0 (.int .u8 0) 1 Ybaf.underlying34 hi hz0 hz1 _ _ _ _ n rfl rfl rfl rfl ?b1 ?b2 ?b3 ?_)
  case b1 => rw [hz2]; omega
  case b2 => unfold maxLen; omega
  case b3 => simp
  intro w1 hown1 hgrow1
  have hb1 : Below w.heap.size w w1 := (Below.refl _ _).grown hgrow1 (Nat.le_refl _) (by intro k hk; cases hk)
  clear hgrow1
  go_wp2
  go_loopw [0, 6] (fun x i wr => ∃ (j : Nat) (u : Int), j ≤ n ∧ i = .int .i64 ((j : Int) - 1) ∧ x = .int .u64 u ∧ 0 ≤ u ∧ u ≤ 18446744073709551615 ∧
      (∃ zs : List Int, zs.length = n ∧ wr.ownsRow w.heap.size 5 1 (.slice (some ⟨w.heap.size, 0, none⟩) n n) n (zs.map (Value.int .u8)) ∧ Hid (Ha.beL j u ++ zs.drop j = Ha.beL n v)) ∧ Below w.heap.size w wr) (fun _ i _ => (intOf i + 1).toNat)
  case atStart =>
    refine ⟨n, v, Nat.le_refl _, rfl, rfl, hv, hv', ⟨List.replicate n 0, by simp, ?_, ?_⟩, hb1⟩
    · rw [← Ha.made_u8]; exact hown1
    · exact hide (by simp)
  case round =>
    obtain ⟨j, u, hj, rfl, rfl, hu0, hu1, ⟨zs, hzl, hown, HL⟩, hbel⟩ := hrel
    clear hown1 hb1
    by_cases hlt : 0 < j
    · obtain ⟨k, rfl⟩ : ∃ k, j = k + 1 := ⟨j - 1, by omega⟩
      have hcell : wr.cell? ⟨w.heap.size, k, none⟩ = some (.int .u8 (zs.getD k 0)) := by
        rw [hown.cellAt k (by omega)]
        simp [show k < zs.length by omega]
      have hfr := hown.frozenAt k
      go_wp2
      obtain ⟨hst, hgr⟩ := hown.stored k (.int .u8 (u % 256))
      go_roundw
      case rel =>
        refine ⟨k, u / 256, by omega, rfl, rfl, by omega, by omega, ⟨zs.set k (u % 256), by simpa using hzl, ?_, ?_⟩, hbel.setCell (Nat.le_refl _) _⟩
        · rw [List.map_set]; exact hst
        · exact hide (Ha.be_next k u zs _ (by omega) (unhide HL))
      case measure => simp [intOf]
    · obtain rfl : j = 0 := by omega
      go_wp2
      go_ret
      refine ⟨rfl, ?_, hbel⟩
      have : zs = Ha.beL n v := by simpa [Ha.beL] using unhide HL
      rw [← this]; exact hown

end Go.Proofs.YbulkbwgiFmt
