/-
  zzs1183ceq: two slices that hold the same checks are equal.
-/
import Derived.Test.YbulkxmaFmtW3
import Derived.Deep.RegionHeld3
import Derived.Deep.DrawnRows
namespace Go.Proofs.YbulkxmaFmt
open Go.RowKit

theorem run_at26 {a : Option Addr} {g : Nat} (ha : a = some ⟨g, 0, none⟩) (len cap k : Nat) (i : Int) (hi : i = k) (hk : k < len) (w : World) :
    (Instr.indexAt 26 (.slice a len cap) (.int .i64 i)).run Ybaf.prog w = .ok (.pointer (some ⟨g, k * 5, none⟩)) w := by
  subst ha hi
  have hk' : (0 : Int) ≤ (k : Int) ∧ (k : Int) < (len : Int) := ⟨by omega, by omega⟩
  rw [run_indexAt_slice _ _ _ _ _ _ _ (by rw [Ybaf.underlying26]; rfl), if_pos hk']
  have : (sizeOf (Ybaf.prog.elem 26)).run Ybaf.prog w = .ok 5 w := by kernel_rfl
  rw [this]
  simp [Result.andThen, add_cell]

theorem eq_zero (a : Option Addr) (c : Nat) (w : World) : Calls Ybaf.prog 10 #[.slice none 0 0, .slice a 0 c] w fun e w' => e = .returned (.bool true) ∧ Below w.heap.size w w' := by
  have hnil := fun (w : World) => Lib.run_eql_slice_nil (P := Ybaf.prog) w 26 64 none 0 0 0 0 Ybaf.underlying26
  go_enter Ybaf.func10, Ybaf.ntmps10
  go_wp2
  go_ret
  exact ⟨rfl, Below.refl _ _⟩

attribute [local go_sem] Go.wp_at_zero Go.wp_at_succ

set_option maxRecDepth 100000 in
set_option maxHeartbeats 1000000 in
theorem eq_pos (ga gb : Nat) (aa ab : Option Addr) (ca cb : Nat) (l : List Chk) (w : World) (hl : 0 < l.length) (hl2 : l.length ≤ 1024) (ha : aa = some ⟨ga, 0, none⟩) (hb : ab = some ⟨gb, 0, none⟩)
    (hA : ∀ i (hi : i < l.length), XAt w ga (i * 5) l[i]) (hB : ∀ i (hi : i < l.length), XAt w gb (i * 5) l[i]) :
    Calls Ybaf.prog 10 #[.slice aa l.length ca, .slice ab l.length cb] w fun e w' => e = .returned (.bool true) ∧ Below w.heap.size w w' := by
  have HA : Hid (∀ i (hi : i < l.length), XAt w ga (i * 5) l[i]) := hA
  have HB : Hid (∀ i (hi : i < l.length), XAt w gb (i * 5) l[i]) := hB
  have Ha : Hid (aa = some ⟨ga, 0, none⟩) := ha
  have Hb : Hid (ab = some ⟨gb, 0, none⟩) := hb
  clear hA hB ha hb
  have hn0 : ((l.length : Int) == 0) = false := by rw [beq_eq_false_iff_ne]; omega
  go_enter Ybaf.func10, Ybaf.ntmps10
  go_wp2
  go_loopw [20] (fun i wr => ∃ k : Nat, k ≤ l.length ∧ i = .int .i64 k ∧ Below w.heap.size w wr) (fun i _ => l.length - (intOf i).toNat)
  case atStart => exact ⟨0, by omega, rfl, Below.refl _ _⟩
  case round =>
    obtain ⟨k, hk, rfl, hbel⟩ := hrel
    by_cases hlt : k < l.length
    · have hia := run_at26 Ha.out l.length ca k (k : Int) rfl hlt
      have hib := run_at26 Hb.out l.length cb k (k : Int) rfl hlt
      obtain ⟨a0, a1, a2, a3, a4⟩ := (HA.out k hlt).below hbel
      obtain ⟨b0, b1, b2, b3, b4⟩ := (HB.out k hlt).below hbel
      generalize l[k] = Y at *
      have hla := World.block_lt_of_cell? wr _ a0
      have hlb := World.block_lt_of_cell? wr _ b0
      have na0 := World.new_ne wr _ a0
      have nb0 := World.new_ne wr _ b0
      go_wp2_with fail
      go_region_held3 (fun w' => w'.cell? ⟨ga, k * 5, none⟩ = some (.int .u64 Y.id) ∧ w'.cell? ⟨ga, k * 5 + 1, none⟩ = some (.string Y.key) ∧ w'.cell? ⟨ga, k * 5 + 2, none⟩ = some (.string Y.delay) ∧ w'.cell? ⟨ga, k * 5 + 3, none⟩ = some (.int .u64 Y.lls) ∧ w'.cell? ⟨ga, k * 5 + 4, none⟩ = some (.int .i64 Y.mt) ∧
          w'.cell? ⟨gb, k * 5, none⟩ = some (.int .u64 Y.id) ∧ w'.cell? ⟨gb, k * 5 + 1, none⟩ = some (.string Y.key) ∧ w'.cell? ⟨gb, k * 5 + 2, none⟩ = some (.string Y.delay) ∧ w'.cell? ⟨gb, k * 5 + 3, none⟩ = some (.int .u64 Y.lls) ∧ w'.cell? ⟨gb, k * 5 + 4, none⟩ = some (.int .i64 Y.mt))
        (go_keep) (fail)
      all_goals
        go_wp2
        go_roundw
        case rel => exact ⟨k + 1, by omega, by go_num, ((hbel.alloc hbel.size _).alloc (by have := hbel.size; simp; omega) _).drew⟩
        case measure => simp [intOf]; omega
    · go_wp2
      go_ret
      exact ⟨rfl, hbel⟩

theorem eq_any (va vb : Value) (l : List Chk) (w : World) (hl : l.length ≤ 1024) (hA : XsAt w va l) (hB : XsAt w vb l) (h0 : l.length = 0 → va = .slice none 0 0) :
    Calls Ybaf.prog 10 #[va, vb] w fun e w' => e = .returned (.bool true) ∧ Below w.heap.size w w' := by
  obtain ⟨ga, aa, ca, rfl, ha, hA⟩ := hA.ex
  obtain ⟨gb, ab, cb, rfl, hb, hB⟩ := hB.ex
  rcases Nat.eq_zero_or_pos l.length with hz | hpos
  · rw [h0 hz, hz]
    exact eq_zero ab cb w
  · exact eq_pos ga gb aa ab ca cb l w hpos hl (ha hpos) (hb hpos) hA hB
end Go.Proofs.YbulkxmaFmt
