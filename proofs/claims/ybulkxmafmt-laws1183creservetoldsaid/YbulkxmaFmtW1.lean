/-
  THE SMALL FUNCTIONS: zzs1183cname, zzs1183cok.
-/
import Derived.Test.YbulkxmaFmtData
import Derived.WalkSpells
import Derived.WalkLawsBesides
namespace Go.Proofs.YbulkxmaFmt
open Go.RowKit

set_option maxHeartbeats 400000 in
theorem name_any (i : Int) (w : World) :
    Calls Ybaf.prog 9 #[.int .i64 i] w fun e w' => e = .returned (.string ⟨(nameOf i).toArray⟩) ∧ w' = w := by
  go_enter Ybaf.func9, Ybaf.ntmps9
  go_wp2
  all_goals
    go_ret
    refine ⟨?_, rfl⟩
    simp_all [nameOf]

/-- where an element of a slice that came in lies -/
theorem run_at {a : Option Addr} {x : Addr} (ha : a = some x) (hs : x.spot = none) (len cap k : Nat) (hk : k < len) (w : World) :
    (Instr.indexAt 23 (.slice a len cap) (.int .i64 k)).run Ybaf.prog w = .ok (.pointer (some ⟨x.block, x.off + k * 6, none⟩)) w := by
  subst ha
  have hk' : (0 : Int) ≤ (k : Int) ∧ (k : Int) < (len : Int) := ⟨by omega, by omega⟩
  rw [run_indexAt_slice _ _ _ _ _ _ _ (by rw [Ybaf.underlying23]; rfl), if_pos hk']
  have : (sizeOf (Ybaf.prog.elem 23)).run Ybaf.prog w = .ok 6 w := by kernel_rfl
  rw [this]
  simp [Result.andThen, add_cell x _ hs]

def okB (xs : List Chk) : Bool := decide (xs.length ≤ 1024) && xs.all fun c => decide (c.key.size ≤ 65536) && decide (c.delay.size ≤ 65536)

theorem okB_big {xs : List Chk} (h : ¬ xs.length ≤ 1024) : okB xs = false := by simp [okB, h]
theorem okB_bad {xs : List Chk} {k : Nat} (hk : k < xs.length) (h : 65536 < (xs[k].key.size : Int) ∨ 65536 < (xs[k].delay.size : Int)) : okB xs = false := by
  have : xs.all (fun c => decide (c.key.size ≤ 65536) && decide (c.delay.size ≤ 65536)) = false := by
    rw [List.all_eq_false]
    refine ⟨xs[k], List.getElem_mem hk, ?_⟩
    simp
    omega
  simp [okB, this]
theorem okB_good {xs : List Chk} (h : xs.length ≤ 1024) (hg : ∀ k (hk : k < xs.length), xs[k].key.size ≤ 65536 ∧ xs[k].delay.size ≤ 65536) : okB xs = true := by
  simp [okB, h]
  intro c hc
  obtain ⟨k, hk, rfl⟩ := List.getElem_of_mem hc
  exact hg k hk

theorem okB_len {xs : List Chk} (h : okB xs = true) : xs.length ≤ 1024 := by simp [okB] at h; exact h.1
theorem okB_sizes {xs : List Chk} (h : okB xs = true) : ∀ x ∈ xs, x.key.size ≤ 65536 ∧ x.delay.size ≤ 65536 := by
  simp [okB] at h
  exact h.2

theorem ChkAt.below {w w' : World} {b o : Nat} {c : Chk} (h : ChkAt w b o c) {B : Nat} (hb : Below B w w') (hlt : b < B) : ChkAt w' b o c :=
  ⟨(hb.cell (p := ⟨b, o, none⟩) hlt).trans h.c0, (hb.cell (p := ⟨b, o + 1, none⟩) hlt).trans h.c1, (hb.cell (p := ⟨b, o + 2, none⟩) hlt).trans h.c2,
   (hb.cell (p := ⟨b, o + 3, none⟩) hlt).trans h.c3, (hb.cell (p := ⟨b, o + 4, none⟩) hlt).trans h.c4, (hb.cell (p := ⟨b, o + 5, none⟩) hlt).trans h.c5⟩

set_option maxHeartbeats 400000 in
theorem ok_any (a : Option Addr) (cap : Nat) (xs : List Chk) (w : World) (hx : IsChks w a xs) (hm : xs.length ≤ maxLen) :
    Calls Ybaf.prog 5 #[.slice a xs.length cap] w fun e w' => e = .returned (.bool (okB xs)) ∧ Below w.heap.size w w' := by
  unfold maxLen at hm
  by_cases hl : xs.length ≤ 1024
  · go_enter Ybaf.func5, Ybaf.ntmps5
    go_wp2
    go_loopw [10] (fun i wr => ∃ k : Nat, k ≤ xs.length ∧ i = .int .i64 k ∧ Below w.heap.size w wr ∧ Hid (∀ j (hj : j < xs.length), j < k → xs[j].key.size ≤ 65536 ∧ xs[j].delay.size ≤ 65536)) (fun i _ => xs.length - (intOf i).toNat)
    case atStart => exact ⟨0, Nat.zero_le _, rfl, Below.refl _ _, fun j hj h => by omega⟩
    case round =>
      obtain ⟨k, hk, rfl, hb, hg⟩ := hrel
      by_cases hlt : k < xs.length
      · obtain ⟨x, ha⟩ : ∃ x, a = some x := by
          cases ha : a with
          | none => have := hx.nil ha; subst this; simp at hlt
          | some x => exact ⟨x, rfl⟩
        obtain ⟨hs, hat⟩ := hx.at_ x ha k hlt
        have hbl := hx.lt x ha (by intro h; subst h; simp at hlt)
        obtain ⟨h0, h1, h2, h3, h4, h5⟩ := hat.below hb hbl
        have hix := run_at ha hs xs.length cap k hlt
        have HA : Hid (a = some x) := ha
        clear ha hat
        go_wp2
        · go_ret
          exact ⟨by rw [okB_bad hlt (by omega)]; rfl, hb.alloc hb.size _⟩
        · go_roundw
          case rel =>
            refine ⟨k + 1, by omega, by go_num, hb.alloc hb.size _, fun j hj h => ?_⟩
            by_cases e : j = k
            · subst e; omega
            · exact hg.out j hj (by omega)
          case measure => simp [intOf]; omega
        · go_ret
          exact ⟨by rw [okB_bad hlt (by omega)]; rfl, hb.alloc hb.size _⟩
      · go_wp2
        go_ret
        have : k = xs.length := by omega
        subst this
        exact ⟨by rw [okB_good hl (fun j hj => hg.out j hj hj)]; rfl, hb⟩
  · go_enter Ybaf.func5, Ybaf.ntmps5
    go_wp2
    go_ret
    exact ⟨by rw [okB_big hl]; rfl, Below.refl _ _⟩
end Go.Proofs.YbulkxmaFmt
