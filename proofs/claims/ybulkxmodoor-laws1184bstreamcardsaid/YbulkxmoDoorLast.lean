/-
  A REGION THAT DRAWS ITS ORDER AND WHOSE LAST OPERATION WRITES A CELL THAT ANOTHER ONE READS ('x[i] = append(x[i], y)'): the reads may be taken first, under a condition S that need not hold behind the last operation.
  After Derived/OrdersHeld.lean's laws: S is asked behind every operation but 'n', and 'n' waits for all the others.
-/
import Derived.OrdersHeld
import Derived.Deep.RegionHeld
namespace Go.Proofs.YbulkxmoDoor
open Go

section
variable {P : Program} {ops : Array Oper} {Q : Exit → Act → World → Prop} {md : Region.Mode} {S : World → Prop} {n : Nat}

def wpAnyL (P : Program) (md : Region.Mode) (ops : Array Oper) (Q : Exit → Act → World → Prop) (S : World → Prop) (n : Nat) : Nat → Array Bool → Act → World → Prop
  | 0, listed, a, w => Region.ready md ops listed = [] ∧ Q .normal a w
  | fuel + 1, listed, a, w =>
    (Region.ready md ops listed = [] → Q .normal a w) ∧
    ∀ i ∈ Region.ready md ops listed, wpOp P ops Q i (fun a' w' => (i ≠ n → S w') ∧ wpAnyL P md ops Q S n fuel (listed.setIfInBounds i true) a' w') a w

theorem wpAny_of_last : ∀ (fuel : Nat) (listed : Array Bool) (a : Act) (w : World), wpAnyL P md ops Q S n fuel listed a w → wpAny P md ops Q fuel listed a w
  | 0, _, _, _, h => h
  | fuel + 1, _, _, _, h => ⟨h.1, fun i hi => wpOp_mono (fun a' w' h' => wpAny_of_last fuel _ a' w' h'.2) (h.2 i hi)⟩

/-- 'n' waits for every other operation. -/
def waitsAll (md : Region.Mode) (ops : Array Oper) (n : Nat) : Bool :=
  match ops[n]? with
  | some o => (List.range ops.size).all fun i => i == n || o.after.any fun e => Region.binds md e && e.on == i
  | none => false

theorem waits {i : Nat} {listed : Array Bool} (hw : waitsAll md ops n = true) (hn : n ∈ Region.ready md ops listed) (hi : i ∈ Region.ready md ops listed) (hne : i ≠ n) : False := by
  obtain ⟨_, o, ho, hall⟩ := mem_ready.1 hn
  unfold waitsAll at hw
  rw [ho] at hw
  have hin : i < ops.size := by
    unfold Region.ready at hi
    simp at hi
    exact hi.1
  have := List.all_eq_true.1 hw i (by simpa using hin)
  simp only [Bool.or_eq_true, beq_iff_eq, hne, false_or, Array.any_eq_true, Bool.and_eq_true] at this
  obtain ⟨k, hk, hb, he⟩ := this
  have h1 := hall _ (Array.getElem_mem hk) hb
  have h0 := (mem_ready.1 hi).1
  rw [he] at h1
  rcases Nat.lt_or_ge i listed.size with h' | h'
  · simp [h'] at h0 h1; rw [h0] at h1; cases h1
  · simp [Array.getElem?_eq_none h'] at h1

theorem wpAnyL_first (hw : waitsAll md ops n = true) {i : Nat} {oi : Oper} {v : Value} (hin : i ≠ n) (hi : ops[i]? = some oi) (hsel : ∀ (j : Nat) (o : Oper) cs b, ops[j]? = some o → o.op ≠ .select cs b)
    (hQ : ∀ c a w, Q (.panic c) (a.put oi.dst v) w → Q (.panic c) a w) :
    ∀ (fuel : Nat) (listed : Array Bool) (a : Act) (w : World),
      (∀ j oj, ops[j]? = some oj → j ≠ i → listed.getD j true = false → (∀ e ∈ oj.after, Region.binds md e = true → e.on ≠ i) → oi.apart ops oj = true) →
      i ∈ Region.ready md ops listed → YieldsIf P ops S oi v a → S w →
      wpAnyL P md ops Q S n fuel (listed.setIfInBounds i true) (a.put oi.dst v) w → wpAnyL P md ops Q S n (fuel + 1) listed a w := by
  intro fuel
  induction fuel with
  | zero =>
    intro listed a w _ hr hy hS H
    refine ⟨fun h => (by rw [h] at hr; cases hr), fun j hj => ?_⟩
    by_cases hji : j = i
    · subst hji; exact hy.wpOp hi hS ⟨fun _ => hS, H⟩
    · have := ready_mono hj hji
      rw [H.1] at this
      cases this
  | succ fuel ih =>
    intro listed a w hfree hr hy hS H
    refine ⟨fun h => (by rw [h] at hr; cases hr), fun j hj => ?_⟩
    by_cases hji : j = i
    · subst hji; exact hy.wpOp hi hS ⟨fun _ => hS, H⟩
    · have hjn : j ≠ n := fun e => waits hw (e ▸ hj) hr hin
      have h1 := H.2 j (ready_mono hj hji)
      obtain ⟨hjun, oj, hoj, hall⟩ := mem_ready.1 hj
      have hnot : ∀ e ∈ oj.after, Region.binds md e = true → e.on ≠ i := fun e he hb heq => by
        have h1 := hall e he hb
        have h0 := (mem_ready.1 hr).1
        rw [heq] at h1
        rcases Nat.lt_or_ge i listed.size with h' | h'
        · simp [h'] at h0 h1; rw [h0] at h1; cases h1
        · simp [Array.getElem?_eq_none h'] at h1
      have h2 := wpOp_putIf hoj (hfree j oj hoj hji hjun hnot) (fun cs b => hsel i oi cs b hi) (fun cs b => hsel j oj cs b hoj) hQ hy h1
      have hfree' : ∀ k ok, ops[k]? = some ok → k ≠ i → (listed.setIfInBounds j true).getD k true = false →
          (∀ e ∈ ok.after, Region.binds md e = true → e.on ≠ i) → oi.apart ops ok = true := fun k ok hk hki hun hno => by
        refine hfree k ok hk hki ?_ hno
        by_cases hjk : j = k
        · subst hjk; exact hjun
        · rw [getD_set_ne true hjk] at hun; exact hun
      refine wpOp_mono (fun a' w' h3 => ⟨h3.2.1, ih (listed.setIfInBounds j true) a' w' hfree' (ready_mono hr (Ne.symm hji)) h3.1 (h3.2.1 hjn) ?_⟩) h2
      rw [Array.setIfInBounds_comm _ _ hji]
      exact h3.2.2

theorem wpAnyL_take (hw : waitsAll md ops n = true) {i : Nat} {oi : Oper} {v : Value} {fuel : Nat} {listed : Array Bool} {a : Act} {w : World} (hin : i ≠ n) (hi : ops[i]? = some oi)
    (hs : Region.noSelect ops = true) (hf : Region.free md ops listed i = true) (hr : (Region.ready md ops listed).contains i = true)
    (hQ : ∀ c a w, Q (.panic c) (a.put oi.dst v) w → Q (.panic c) a w) (hy : YieldsIf P ops S oi v a) (hS : S w)
    (h : wpAnyL P md ops Q S n fuel (listed.setIfInBounds i true) (a.put oi.dst v) w) : wpAnyL P md ops Q S n (fuel + 1) listed a w :=
  wpAnyL_first hw hin hi (Region.noSelect_spec hs) hQ fuel listed a w (Region.free_spec hi hf) (by simpa using hr) hy hS h

def waitsFor (md : Region.Mode) (ops : Array Oper) (k i : Nat) : Bool :=
  match ops[k]? with
  | some o => o.after.any fun e => Region.binds md e && e.on == i
  | none => false

theorem notReady {k i : Nat} {listed : Array Bool} (hw : waitsFor md ops k i = true) (hk : k ∈ Region.ready md ops listed) (h0 : listed.getD i true = false) : False := by
  obtain ⟨_, o, ho, hall⟩ := mem_ready.1 hk
  unfold waitsFor at hw
  rw [ho] at hw
  simp only [Array.any_eq_true, Bool.and_eq_true, beq_iff_eq] at hw
  obtain ⟨j, hj, hb, he⟩ := hw
  have h1 := hall _ (Array.getElem_mem hj) hb
  rw [he] at h1
  rcases Nat.lt_or_ge i listed.size with h' | h'
  · simp [h'] at h0 h1; rw [h0] at h1; cases h1
  · simp [Array.getElem?_eq_none h'] at h1

/-- .. where the last one waits for it by way of another, k. -/
theorem wpAnyL_firstBy {k : Nat} (hwn : waitsFor md ops n k = true) {i : Nat} (hwk : waitsFor md ops k i = true) {oi : Oper} {v : Value} (hi : ops[i]? = some oi) (hsel : ∀ (j : Nat) (o : Oper) cs b, ops[j]? = some o → o.op ≠ .select cs b)
    (hQ : ∀ c a w, Q (.panic c) (a.put oi.dst v) w → Q (.panic c) a w) :
    ∀ (fuel : Nat) (listed : Array Bool) (a : Act) (w : World),
      listed.getD k true = false → (∀ j oj, ops[j]? = some oj → j ≠ i → listed.getD j true = false → (∀ e ∈ oj.after, Region.binds md e = true → e.on ≠ i) → oi.apart ops oj = true) →
      i ∈ Region.ready md ops listed → YieldsIf P ops S oi v a → S w →
      wpAnyL P md ops Q S n fuel (listed.setIfInBounds i true) (a.put oi.dst v) w → wpAnyL P md ops Q S n (fuel + 1) listed a w := by
  intro fuel
  induction fuel with
  | zero =>
    intro listed a w _ _ hr hy hS H
    refine ⟨fun h => (by rw [h] at hr; cases hr), fun j hj => ?_⟩
    by_cases hji : j = i
    · subst hji; exact hy.wpOp hi hS ⟨fun _ => hS, H⟩
    · have := ready_mono hj hji
      rw [H.1] at this
      cases this
  | succ fuel ih =>
    intro listed a w hkl hfree hr hy hS H
    refine ⟨fun h => (by rw [h] at hr; cases hr), fun j hj => ?_⟩
    by_cases hji : j = i
    · subst hji; exact hy.wpOp hi hS ⟨fun _ => hS, H⟩
    · have hjn : j ≠ n := fun e => notReady hwn (e ▸ hj) hkl
      have hjk : j ≠ k := fun e => notReady hwk (e ▸ hj) (mem_ready.1 hr).1
      have h1 := H.2 j (ready_mono hj hji)
      obtain ⟨hjun, oj, hoj, hall⟩ := mem_ready.1 hj
      have hnot : ∀ e ∈ oj.after, Region.binds md e = true → e.on ≠ i := fun e he hb heq => by
        have h1 := hall e he hb
        have h0 := (mem_ready.1 hr).1
        rw [heq] at h1
        rcases Nat.lt_or_ge i listed.size with h' | h'
        · simp [h'] at h0 h1; rw [h0] at h1; cases h1
        · simp [Array.getElem?_eq_none h'] at h1
      have h2 := wpOp_putIf hoj (hfree j oj hoj hji hjun hnot) (fun cs b => hsel i oi cs b hi) (fun cs b => hsel j oj cs b hoj) hQ hy h1
      have hfree' : ∀ k ok, ops[k]? = some ok → k ≠ i → (listed.setIfInBounds j true).getD k true = false →
          (∀ e ∈ ok.after, Region.binds md e = true → e.on ≠ i) → oi.apart ops ok = true := fun k ok hk hki hun hno => by
        refine hfree k ok hk hki ?_ hno
        by_cases hjk : j = k
        · subst hjk; exact hjun
        · rw [getD_set_ne true hjk] at hun; exact hun
      refine wpOp_mono (fun a' w' h3 => ⟨h3.2.1, ih (listed.setIfInBounds j true) a' w' (by rw [getD_set_ne true hjk]; exact hkl) hfree' (ready_mono hr (Ne.symm hji)) h3.1 (h3.2.1 hjn) ?_⟩) h2
      rw [Array.setIfInBounds_comm _ _ hji]
      exact h3.2.2

theorem wpAnyL_takeBy (k : Nat) (hwn : waitsFor md ops n k = true) {i : Nat} (hwk : waitsFor md ops k i = true) {oi : Oper} {v : Value} {fuel : Nat} {listed : Array Bool} {a : Act} {w : World} (hkl : listed.getD k true = false) (hi : ops[i]? = some oi)
    (hs : Region.noSelect ops = true) (hf : Region.free md ops listed i = true) (hr : (Region.ready md ops listed).contains i = true)
    (hQ : ∀ c a w, Q (.panic c) (a.put oi.dst v) w → Q (.panic c) a w) (hy : YieldsIf P ops S oi v a) (hS : S w)
    (h : wpAnyL P md ops Q S n fuel (listed.setIfInBounds i true) (a.put oi.dst v) w) : wpAnyL P md ops Q S n (fuel + 1) listed a w :=
  wpAnyL_firstBy hwn hwk hi (Region.noSelect_spec hs) hQ fuel listed a w hkl (Region.free_spec hi hf) (by simpa using hr) hy hS h

/-- .. where the last one waits for it. -/
theorem wpAnyL_firstDir {i : Nat} (hw : waitsFor md ops n i = true) {oi : Oper} {v : Value} (hi : ops[i]? = some oi) (hsel : ∀ (j : Nat) (o : Oper) cs b, ops[j]? = some o → o.op ≠ .select cs b)
    (hQ : ∀ c a w, Q (.panic c) (a.put oi.dst v) w → Q (.panic c) a w) :
    ∀ (fuel : Nat) (listed : Array Bool) (a : Act) (w : World),
      (∀ j oj, ops[j]? = some oj → j ≠ i → listed.getD j true = false → (∀ e ∈ oj.after, Region.binds md e = true → e.on ≠ i) → oi.apart ops oj = true) →
      i ∈ Region.ready md ops listed → YieldsIf P ops S oi v a → S w →
      wpAnyL P md ops Q S n fuel (listed.setIfInBounds i true) (a.put oi.dst v) w → wpAnyL P md ops Q S n (fuel + 1) listed a w := by
  intro fuel
  induction fuel with
  | zero =>
    intro listed a w _ hr hy hS H
    refine ⟨fun h => (by rw [h] at hr; cases hr), fun j hj => ?_⟩
    by_cases hji : j = i
    · subst hji; exact hy.wpOp hi hS ⟨fun _ => hS, H⟩
    · have := ready_mono hj hji
      rw [H.1] at this
      cases this
  | succ fuel ih =>
    intro listed a w hfree hr hy hS H
    refine ⟨fun h => (by rw [h] at hr; cases hr), fun j hj => ?_⟩
    by_cases hji : j = i
    · subst hji; exact hy.wpOp hi hS ⟨fun _ => hS, H⟩
    · have hjn : j ≠ n := fun e => notReady hw (e ▸ hj) (mem_ready.1 hr).1
      have h1 := H.2 j (ready_mono hj hji)
      obtain ⟨hjun, oj, hoj, hall⟩ := mem_ready.1 hj
      have hnot : ∀ e ∈ oj.after, Region.binds md e = true → e.on ≠ i := fun e he hb heq => by
        have h1 := hall e he hb
        have h0 := (mem_ready.1 hr).1
        rw [heq] at h1
        rcases Nat.lt_or_ge i listed.size with h' | h'
        · simp [h'] at h0 h1; rw [h0] at h1; cases h1
        · simp [Array.getElem?_eq_none h'] at h1
      have h2 := wpOp_putIf hoj (hfree j oj hoj hji hjun hnot) (fun cs b => hsel i oi cs b hi) (fun cs b => hsel j oj cs b hoj) hQ hy h1
      have hfree' : ∀ k ok, ops[k]? = some ok → k ≠ i → (listed.setIfInBounds j true).getD k true = false →
          (∀ e ∈ ok.after, Region.binds md e = true → e.on ≠ i) → oi.apart ops ok = true := fun k ok hk hki hun hno => by
        refine hfree k ok hk hki ?_ hno
        by_cases hjk : j = k
        · subst hjk; exact hjun
        · rw [getD_set_ne true hjk] at hun; exact hun
      refine wpOp_mono (fun a' w' h3 => ⟨h3.2.1, ih (listed.setIfInBounds j true) a' w' hfree' (ready_mono hr (Ne.symm hji)) h3.1 (h3.2.1 hjn) ?_⟩) h2
      rw [Array.setIfInBounds_comm _ _ hji]
      exact h3.2.2

theorem wpAnyL_takeDir {i : Nat} (hw : waitsFor md ops n i = true) {oi : Oper} {v : Value} {fuel : Nat} {listed : Array Bool} {a : Act} {w : World} (hi : ops[i]? = some oi)
    (hs : Region.noSelect ops = true) (hf : Region.free md ops listed i = true) (hr : (Region.ready md ops listed).contains i = true)
    (hQ : ∀ c a w, Q (.panic c) (a.put oi.dst v) w → Q (.panic c) a w) (hy : YieldsIf P ops S oi v a) (hS : S w)
    (h : wpAnyL P md ops Q S n fuel (listed.setIfInBounds i true) (a.put oi.dst v) w) : wpAnyL P md ops Q S n (fuel + 1) listed a w :=
  wpAnyL_firstDir hw hi (Region.noSelect_spec hs) hQ fuel listed a w (Region.free_spec hi hf) (by simpa using hr) hy hS h

/-- One operation alone may come up: it is carried out; behind it S is shown anew. -/
theorem wpAnyL_one {i : Nat} {o : Oper} {fuel : Nat} {listed : Array Bool} {a : Act} {w : World} (hr : Region.ready md ops listed = [i]) (ho : ops[i]? = some o) (hg : o.guard = none)
    (h : ∀ K' : Act → World → Prop, Shut (∀ a w, S w → wpAnyL P md ops Q S n fuel (listed.setIfInBounds i true) a w → K' a w) → Oper.wp P o a w K' Q) : wpAnyL P md ops Q S n (fuel + 1) listed a w := by
  refine ⟨fun h0 => (by rw [hr] at h0; cases h0), fun j hj => ?_⟩
  rw [hr] at hj
  have : j = i := by simpa using hj
  subst this
  refine wpOp_step ho fun K' hK => ?_
  rw [if_pos (by simp [Region.wanted, hg])]
  exact h K' fun a w hS hh => hK a w ⟨fun _ => hS, hh⟩

/-- The last one: nothing is left behind it. -/
theorem wpAnyL_end {o : Oper} {fuel : Nat} {listed : Array Bool} {a : Act} {w : World} (hr : Region.ready md ops listed = [n]) (ho : ops[n]? = some o) (hg : o.guard = none) (hr' : Region.ready md ops (listed.setIfInBounds n true) = [])
    (h : ∀ K' : Act → World → Prop, Shut (∀ a w, Q .normal a w → K' a w) → Oper.wp P o a w K' Q) : wpAnyL P md ops Q S n (fuel + 1) listed a w := by
  refine ⟨fun h0 => (by rw [hr] at h0; cases h0), fun j hj => ?_⟩
  rw [hr] at hj
  have : j = n := by simpa using hj
  subst this
  refine wpOp_step ho fun K' hK => ?_
  rw [if_pos (by simp [Region.wanted, hg])]
  refine h K' fun a w hQ => hK a w ⟨fun e => absurd rfl e, ?_⟩
  cases fuel with
  | zero => exact ⟨hr', hQ⟩
  | succ m => exact ⟨fun _ => hQ, fun k hk => by rw [hr'] at hk; cases hk⟩

theorem wp_region_last {id : Nat} {a : Act} {w : World} (n : Nat) (S : World → Prop) (hm : P.follows .mixedOrders = true) (hS : S w.drew)
    (h : S w.drew → wpAnyL P .any ops Q S n ops.size (Array.replicate ops.size false) a w.drew) : (Code.region id ops true).wp P Q a w :=
  wp_region_any hm (wpAny_of_last _ _ _ _ (h hS))
end
end Go.Proofs.YbulkxmoDoor
