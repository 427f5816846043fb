/-
  A REGION THAT DRAWS ITS ORDER, WHOSE LAST OPERATION (number z, which waits for all others) STORES INTO A CELL THAT ANOTHER LOADS: the condition S on the world must be shown behind every operation BUT THAT ONE (after the law of Derived/OrdersHeld.lean, turned).
-/
import Derived.OrdersHeld
import Derived.WalkKit
namespace Go.Proofs.YbulkbwimFmt.Ord
open Go

section
variable {P : Program} {ops : Array Oper} {Q : Exit → Act → World → Prop} {md : Region.Mode} {S : World → Prop} {z : Nat}

def wpAnyZ (P : Program) (md : Region.Mode) (ops : Array Oper) (Q : Exit → Act → World → Prop) (S : World → Prop) (z : Nat) : Nat → Array Bool → Act → World → Prop
  | 0, listed, a, w => Region.ready md ops listed = [] ∧ Q .normal a w
  | fuel + 1, listed, a, w =>
    (Region.ready md ops listed = [] → Q .normal a w) ∧
    ∀ i ∈ Region.ready md ops listed, wpOp P ops Q i (fun a' w' => (i ≠ z → S w') ∧ wpAnyZ P md ops Q S z fuel (listed.setIfInBounds i true) a' w') a w

theorem wpAny_of_Z : ∀ (fuel : Nat) (listed : Array Bool) (a : Act) (w : World), wpAnyZ P md ops Q S z fuel listed a w → wpAny P md ops Q fuel listed a w
  | 0, _, _, _, h => h
  | fuel + 1, _, _, _, h => ⟨h.1, fun i hi => wpOp_mono (fun a' w' h' => wpAny_of_Z fuel _ a' w' h'.2) (h.2 i hi)⟩

/-- What has come up had all that it waits for. -/
def Closed (md : Region.Mode) (ops : Array Oper) (listed : Array Bool) : Prop := ∀ k o, ops[k]? = some o → listed.getD k false = true → ∀ e ∈ o.after, Region.binds md e = true → listed.getD e.on false = true
theorem Closed.set {listed : Array Bool} {j : Nat} (h : Closed md ops listed) (hj : j ∈ Region.ready md ops listed) : Closed md ops (listed.setIfInBounds j true) := by
  intro k o hk hl e he hb
  by_cases hkj : k = j
  · subst hkj
    obtain ⟨_, o', ho', hall⟩ := mem_ready.1 hj
    rw [hk] at ho'
    obtain rfl := Option.some.inj ho'
    exact getD_set_true (hall e he hb)
  · rw [getD_set_ne false (Ne.symm hkj)] at hl
    exact getD_set_true (h k o hk hl e he hb)
/-- Does operation z wait for i? -/
def waits (md : Region.Mode) (ops : Array Oper) (z i : Nat) : Bool := match ops[z]? with | some oz => oz.after.any fun e => Region.binds md e && (e.on == i) | none => false
theorem waits_spec {z i : Nat} (h : waits md ops z i = true) : ∃ oz, ops[z]? = some oz ∧ ∃ e ∈ oz.after, Region.binds md e = true ∧ e.on = i := by
  unfold waits at h
  split at h
  · rename_i oz hz
    rw [Array.any_eq_true'] at h
    obtain ⟨e, he, hb⟩ := h
    simp at hb
    exact ⟨oz, hz, e, he, hb.1, hb.2⟩
  · cases h
/-- Each waits for the next. -/
def chainB (md : Region.Mode) (ops : Array Oper) : Nat → List Nat → Bool
  | _, [] => true
  | z, k :: r => waits md ops z k && chainB md ops k r
theorem chain_listed {listed : Array Bool} (hc : Closed md ops listed) : ∀ (path : List Nat) (z : Nat) (oz : Oper), ops[z]? = some oz → (∀ e ∈ oz.after, Region.binds md e = true → listed.getD e.on false = true) → chainB md ops z path = true → ∀ i ∈ path, listed.getD i false = true
  | [], _, _, _, _, _, i, hi => by cases hi
  | k :: r, z, oz, hz, hall, h, i, hi => by
    simp only [chainB, Bool.and_eq_true] at h
    obtain ⟨oz', hz', e, he, hb, hek⟩ := waits_spec h.1
    rw [hz] at hz'
    obtain rfl := Option.some.inj hz'
    have hk : listed.getD k false = true := by rw [← hek]; exact hall e he hb
    rcases List.mem_cons.1 hi with rfl | hi
    · exact hk
    · cases r with
      | nil => cases hi
      | cons k2 r2 =>
        simp only [chainB, Bool.and_eq_true] at h
        obtain ⟨ok, hok, _⟩ := waits_spec h.2.1
        exact chain_listed hc (k2 :: r2) k ok hok (hc k ok hok hk) (by simp only [chainB, Bool.and_eq_true]; exact h.2) i hi

/-- What yields in every world that meets S may be taken first, if the last operation waits for it. -/
theorem wpAnyZ_first {i : Nat} {oi : Oper} {v : Value} (path : List Nat) (hpi : i ∈ path) (hch : chainB md ops z path = true) (hi : ops[i]? = some oi) (hsel : ∀ (j : Nat) (o : Oper) cs b, ops[j]? = some o → o.op ≠ .select cs b)
    (hQ : ∀ c a w, Q (.panic c) (a.put oi.dst v) w → Q (.panic c) a w) :
    ∀ (fuel : Nat) (listed : Array Bool) (a : Act) (w : World), Closed md ops listed →
      (∀ j oj, ops[j]? = some oj → j ≠ i → listed.getD j true = false → (∀ e ∈ oj.after, Region.binds md e = true → e.on ≠ i) → oi.apart ops oj = true) →
      i ∈ Region.ready md ops listed → YieldsIf P ops S oi v a → S w →
      wpAnyZ P md ops Q S z fuel (listed.setIfInBounds i true) (a.put oi.dst v) w → wpAnyZ P md ops Q S z (fuel + 1) listed a w := by
  intro fuel
  induction fuel with
  | zero =>
    intro listed a w _ _ hr hy hS H
    refine ⟨fun h => (by rw [h] at hr; cases hr), fun j hj => ?_⟩
    by_cases hji : j = i
    · subst hji; exact hy.wpOp hi hS ⟨fun _ => hS, H⟩
    · have := ready_mono hj hji
      rw [H.1] at this
      cases this
  | succ fuel ih =>
    intro listed a w hcl hfree hr hy hS H
    refine ⟨fun h => (by rw [h] at hr; cases hr), fun j hj => ?_⟩
    by_cases hji : j = i
    · subst hji; exact hy.wpOp hi hS ⟨fun _ => hS, H⟩
    · have h1 := H.2 j (ready_mono hj hji)
      obtain ⟨hjun, oj, hoj, hall⟩ := mem_ready.1 hj
      have hnot : ∀ e ∈ oj.after, Region.binds md e = true → e.on ≠ i := fun e he hb heq => by
        have h1 := hall e he hb
        have h0 := (mem_ready.1 hr).1
        rw [heq] at h1
        rcases Nat.lt_or_ge i listed.size with h' | h'
        · simp [h'] at h0 h1; rw [h0] at h1; cases h1
        · simp [Array.getElem?_eq_none h'] at h1
      have hjz : j ≠ z := fun hh => by
        subst hh
        have h1 := chain_listed hcl path j oj hoj hall hch i hpi
        have h0 := (mem_ready.1 hr).1
        rcases Nat.lt_or_ge i listed.size with h' | h'
        · simp [h'] at h0 h1; rw [h0] at h1; cases h1
        · simp [Array.getElem?_eq_none h'] at h1
      have h2 := wpOp_putIf hoj (hfree j oj hoj hji hjun hnot) (fun cs b => hsel i oi cs b hi) (fun cs b => hsel j oj cs b hoj) hQ hy h1
      have hfree' : ∀ k ok, ops[k]? = some ok → k ≠ i → (listed.setIfInBounds j true).getD k true = false →
          (∀ e ∈ ok.after, Region.binds md e = true → e.on ≠ i) → oi.apart ops ok = true := fun k ok hk hki hun hno => by
        refine hfree k ok hk hki ?_ hno
        by_cases hjk : j = k
        · subst hjk; exact hjun
        · rw [getD_set_ne true hjk] at hun; exact hun
      refine wpOp_mono (fun a' w' h3 => ⟨h3.2.1, ih (listed.setIfInBounds j true) a' w' (hcl.set hj) hfree' (ready_mono hr (Ne.symm hji)) h3.1 (h3.2.1 hjz) ?_⟩) h2
      rw [Array.setIfInBounds_comm _ _ hji]
      exact h3.2.2

def closedB (md : Region.Mode) (ops : Array Oper) (listed : Array Bool) : Bool := (List.range ops.size).all fun k => match ops[k]? with | some o => !(listed.getD k false) || o.after.all (fun e => !(Region.binds md e) || listed.getD e.on false) | none => true
theorem closed_spec {listed : Array Bool} (h : closedB md ops listed = true) : Closed md ops listed := by
  intro k o hk hl e he hb
  unfold closedB at h
  rw [List.all_eq_true] at h
  have hks : k < ops.size := (Array.getElem?_eq_some_iff.1 hk).1
  have := h k (by simpa using hks)
  simp only [hk, hl, Bool.not_true, Bool.false_or] at this
  rw [Array.all_eq_true'] at this
  have := this e he
  simpa [hb] using this
theorem wpAnyZ_take {i : Nat} {oi : Oper} {v : Value} {fuel : Nat} {listed : Array Bool} {a : Act} {w : World} (hi : ops[i]? = some oi) (path : List Nat) (hpi : path.contains i = true) (hch : chainB md ops z path = true) (hcl : closedB md ops listed = true)
    (hs : Region.noSelect ops = true) (hf : Region.free md ops listed i = true) (hr : (Region.ready md ops listed).contains i = true)
    (hQ : ∀ c a w, Q (.panic c) (a.put oi.dst v) w → Q (.panic c) a w) (hy : YieldsIf P ops S oi v a) (hS : S w)
    (h : wpAnyZ P md ops Q S z fuel (listed.setIfInBounds i true) (a.put oi.dst v) w) : wpAnyZ P md ops Q S z (fuel + 1) listed a w :=
  wpAnyZ_first path (by simpa using hpi) hch hi (Region.noSelect_spec hs) hQ fuel listed a w (closed_spec hcl) (Region.free_spec hi hf) (by simpa using hr) hy hS h

/-- One alone may come up. -/
theorem wpAnyZ_one {i : Nat} {o : Oper} {fuel : Nat} {listed : Array Bool} {a : Act} {w : World} (hr : Region.ready md ops listed = [i]) (hi : ops[i]? = some o)
    (h : ∀ K : Act → World → Prop, (∀ a' w', (i ≠ z → S w') → wpAnyZ P md ops Q S z fuel (listed.setIfInBounds i true) a' w' → K a' w') → if Region.wanted o (yielded ops a.tmps) = true then Oper.wp P o a w K Q else K (a.put o.dst undef) w) :
    wpAnyZ P md ops Q S z (fuel + 1) listed a w := by
  refine ⟨(fun h0 => by rw [hr] at h0; cases h0), fun j hj => ?_⟩
  rw [hr] at hj
  obtain rfl : j = i := by simpa using hj
  have := h (fun a' w' => (j ≠ z → S w') ∧ wpAnyZ P md ops Q S z fuel (listed.setIfInBounds j true) a' w') (fun a' w' h1 h2 => ⟨h1, h2⟩)
  unfold wpOp
  simp only [hi]
  split
  · rename_i hw; rw [if_pos hw] at this; exact .inl this
  · rename_i hw; rw [if_neg hw] at this; exact this

theorem wpAnyZ_takeAt {i d : Nat} {oi : Oper} (v : Value) {fuel : Nat} {listed : Array Bool} {a : Act} {w : World} (hi : ops[i]? = some oi) (hd : oi.dst = some d) (path : List Nat) (hpi : path.contains i = true) (hch : chainB md ops z path = true) (hcl : closedB md ops listed = true)
    (hs : Region.noSelect ops = true) (hf : Region.free md ops listed i = true) (hr : (Region.ready md ops listed).contains i = true)
    (hQ : ∀ c a w, Q (.panic c) (a.put oi.dst v) w → Q (.panic c) a w) (hy : YieldsIf P ops S oi v a) (hS : S w)
    (h : wpAnyZ P md ops Q S z fuel (listed.setIfInBounds i true) { tmps := a.tmps.setIfInBounds d v, defers := a.defers } w) : wpAnyZ P md ops Q S z (fuel + 1) listed a w :=
  wpAnyZ_take hi path hpi hch hcl hs hf hr hQ hy hS (by rw [hd]; exact h)
theorem wpAnyZ_oneAt {i d : Nat} {o : Oper} {fuel : Nat} {listed : Array Bool} {a : Act} {w : World} (hr : Region.ready md ops listed = [i]) (hi : ops[i]? = some o) (hd : o.dst = some d)
    (h : ∀ K : Act → World → Prop, (∀ v' w', (i ≠ z → S w') → wpAnyZ P md ops Q S z fuel (listed.setIfInBounds i true) { tmps := a.tmps.setIfInBounds d v', defers := a.defers } w' → K (a.put o.dst v') w') → if Region.wanted o (yielded ops a.tmps) = true then Oper.wp P o a w K Q else K (a.put o.dst undef) w) :
    wpAnyZ P md ops Q S z (fuel + 1) listed a w :=
  wpAnyZ_one hr hi fun K hK => h K fun v' w' h1 h2 => hK _ _ h1 (by rw [hd]; exact h2)
theorem wpAnyZ_last {i : Nat} {o : Oper} {fuel : Nat} {listed : Array Bool} {a : Act} {w : World} (hr : Region.ready md ops listed = [i]) (hi : ops[i]? = some o) (hd : o.dst = none)
    (h : ∀ K : Act → World → Prop, (∀ w', (i ≠ z → S w') → wpAnyZ P md ops Q S z fuel (listed.setIfInBounds i true) a w' → K (a.put o.dst undef) w') → if Region.wanted o (yielded ops a.tmps) = true then Oper.wp P o a w K Q else K (a.put o.dst undef) w) :
    wpAnyZ P md ops Q S z (fuel + 1) listed a w :=
  wpAnyZ_one hr hi fun K hK => h K fun w' h1 h2 => hK _ _ h1 (by rw [hd]; exact h2)
theorem wpAnyZ_done {listed : Array Bool} {a : Act} {w : World} (hr : Region.ready md ops listed = []) (h : Q .normal a w) :
    ∀ fuel, wpAnyZ P md ops Q S z fuel listed a w
  | 0 => ⟨hr, h⟩
  | _ + 1 => ⟨fun _ => h, by rw [hr]; simp⟩

theorem wp_region_Z {id : Nat} {a : Act} {w : World} (hm : P.follows .mixedOrders = true)
    (h : wpAnyZ P .any ops Q S z ops.size (Array.replicate ops.size false) a w.drew) : (Code.region id ops true).wp P Q a w :=
  wp_region_any hm (wpAny_of_Z _ _ _ _ h)
end
end Go.Proofs.YbulkbwimFmt.Ord
