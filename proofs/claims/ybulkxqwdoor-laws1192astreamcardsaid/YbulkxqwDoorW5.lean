/-
  flushTee.
-/
import Derived.Test.YbulkxqwDoorW4
set_option linter.unusedSimpArgs false
namespace Go.Proofs.YbulkxqwDoor
open Go.RowKit

theorem run_piece (g bs lo hi : Nat) (h1 : lo ≤ hi) (h2 : hi ≤ bs) :
    ∃ a', (∀ w : World, (Instr.sliceAt 22 (.slice (some ⟨g, 0, none⟩) bs bs) (some (.int .i64 (lo : Int))) (some (.int .i64 (hi : Int))) none).run Ybad.prog w = .ok (.slice (some a') (hi - lo) (bs - lo)) w) ∧ (lo < hi → a' = ⟨g, lo, none⟩) := by
  by_cases hn : lo = bs
  · subst hn
    obtain rfl : lo = hi := by omega
    refine ⟨⟨g, 0, none⟩, fun w => ?_, fun h => by omega⟩
    go_simp
  · refine ⟨⟨g, lo, none⟩, fun w => ?_, fun _ => rfl⟩
    have h1 : lo < bs := by omega
    have h2 : bs ≠ lo := by omega
    go_simp

section
variable {F : Fx} {w : World} {x : Sd}
theorem At.c0 (A : At F w x) : w.cell? ⟨F.s + 3, 0, none⟩ = some (.iface 23 (.pointer (some ⟨F.s, 0, none⟩))) := cell_at A.src rfl
theorem At.c1 (A : At F w x) : w.cell? ⟨F.s + 3, 1, none⟩ = some (erV F x.er) := cell_at A.src rfl
theorem At.c2 (A : At F w x) : w.cell? ⟨F.s + 3, 2, none⟩ = some (.slice (some ⟨F.s + 2, 0, none⟩) F.bs F.bs) := cell_at A.src rfl
theorem At.c3 (A : At F w x) : w.cell? ⟨F.s + 3, 3, none⟩ = some (.int .i64 x.ps) := cell_at A.src rfl
theorem At.c4 (A : At F w x) : w.cell? ⟨F.s + 3, 4, none⟩ = some (.int .i64 x.en) := cell_at A.src rfl
theorem At.c5 (A : At F w x) : w.cell? ⟨F.s + 3, 5, none⟩ = some (.int .i64 x.tf) := cell_at A.src rfl
theorem At.c6 (A : At F w x) : w.cell? ⟨F.s + 3, 6, none⟩ = some (if F.ut then .iface 26 (.pointer (some ⟨F.s + 1, 0, none⟩)) else .nilIface) := cell_at A.src rfl
theorem At.c7 (A : At F w x) : w.cell? ⟨F.s + 3, 7, none⟩ = some (.int .i64 x.con) := cell_at A.src rfl
theorem At.z (A : At F w x) (k : Nat) : w.frozen? ⟨F.s + 3, k, none⟩ = false := frozen_at A.src
end

@[go_sem] theorem nil_aheadW (a : Addr) (w : World) : (nilAhead 172 26 (.pointer (some a)) "Write").run Ybad.prog w = .ok (some false) w := by kernel_rfl
@[go_sem] theorem method_write (a : Addr) (w : World) : (method 172 26 (.pointer (some a)) "Write").run Ybad.prog w = .ok (23, .pointer (some a)) w := by kernel_rfl

/-- the state behind a flush -/
def flushed (F : Fx) (x : Sd) (v' : Value) : Sd := { x with tf := x.ps, tv := v', T := if F.ut then x.T ++ (x.bf.drop x.tf).take (x.ps - x.tf) else x.T }

set_option maxRecDepth 100000 in
set_option maxHeartbeats 1000000 in
theorem flush_any (F : Fx) (w : World) (x : Sd) (A : At F w x) (htf : x.tf ≤ x.ps) (hps : x.ps ≤ F.bs) (hbs : F.bs ≤ 16) (hT : x.T.length ≤ 2000) :
    Calls Ybad.prog 6 #[.pointer (some ⟨F.s + 3, 0, none⟩)] w fun e w' => e = .returned (.tuple #[]) ∧ ∃ v', At F w' (flushed F x v') ∧ Below F.s w w' := by
  have c2 := A.c2
  have c3 := A.c3
  have c5 := A.c5
  have c6 := A.c6
  have z5 := A.z 5
  have HA : Hid (At F w x) := A
  cases hut : F.ut
  · rw [hut] at c6
    have HP := A.put 5 (.int .i64 x.ps) { x with tf := x.ps } rfl rfl rfl rfl rfl rfl rfl rfl
    have HPH : Hid (At F (w.setCell ⟨F.s + 3, 5, none⟩ (.int .i64 x.ps)) { x with tf := x.ps } ∧ Below F.s w (w.setCell ⟨F.s + 3, 5, none⟩ (.int .i64 x.ps))) := HP
    clear A HP
    go_enter Ybad.func6, Ybad.ntmps6
    go_wp2_with fail
    refine ⟨rfl, .tuple #[], by kernel_rfl, rfl, x.tv, ?_, HPH.out.2⟩
    have e : flushed F x x.tv = { x with tf := x.ps } := by unfold flushed; rw [hut]; rfl
    rw [e]
    exact HPH.out.1
  · rw [hut] at c6
    have hbl := A.bl
    obtain ⟨n, hn⟩ : ∃ n, n = x.ps - x.tf := ⟨_, rfl⟩
    obtain ⟨a', hsl, ha'⟩ := run_piece (F.s + 2) F.bs x.tf x.ps htf hps
    rw [← hn] at hsl
    have hys : ((x.bf.drop x.tf).take (x.ps - x.tf)).length = n := by simp; omega
    have HW := write_any F w.drew x (A.of_heap rfl) a' n (F.bs - x.tf) ((x.bf.drop x.tf).take (x.ps - x.tf)) hys.symm (fun j hj => by
      rw [hys] at hj
      rw [ha' (by omega)]
      have e : (⟨F.s + 2, x.tf, none⟩ : Addr).add j = ⟨F.s + 2, x.tf + j, none⟩ := by unfold Addr.add; split <;> simp_all
      rw [e]
      refine cell_at (w := w.drew) A.buf ?_
      have hj2 : x.tf + j < x.bf.length := by omega
      simp [bvl, List.getElem?_eq_getElem hj2]) (by rw [hys]; omega)
    have HWH : Hid (Calls Ybad.prog 23 #[.pointer (some ⟨F.s + 1, 0, none⟩), .slice (some a') n (F.bs - x.tf)] w.drew fun e w' => ∃ v', e = .returned (.tuple #[.int .i64 n, .nilIface]) ∧ At F w' { x with tv := v', T := x.T ++ (x.bf.drop x.tf).take (x.ps - x.tf) } ∧ Below F.s w.drew w') := HW
    clear A HW ha' hn hys
    go_enter Ybad.func6, Ybad.ntmps6
    go_wp2_with fail
    go_region_held3 (fun w' => w'.cell? ⟨F.s + 3, 6, none⟩ = some (.iface 26 (.pointer (some ⟨F.s + 1, 0, none⟩))) ∧ w'.cell? ⟨F.s + 3, 2, none⟩ = some (.slice (some ⟨F.s + 2, 0, none⟩) F.bs F.bs) ∧ w'.cell? ⟨F.s + 3, 5, none⟩ = some (.int .i64 x.tf) ∧ w'.cell? ⟨F.s + 3, 3, none⟩ = some (.int .i64 x.ps)) (first | (go_keep; done) | exact ⟨c6, c2, c5, c3⟩ | exact ⟨hq6, hA1.c2, hA1.c5, hA1.c3⟩) ((go_at_call 23; refine HWH.out.mono ?_; rintro e w1 ⟨v', rfl, hA1, hb1⟩; have hq6 := hA1.c6; rw [hut] at hq6))
    have p3 : w1.cell? ⟨F.s + 3, 3, none⟩ = some (.int .i64 x.ps) := hA1.c3
    have p5 : w1.cell? ⟨F.s + 3, 5, none⟩ = some (.int .i64 x.tf) := hA1.c5
    have y5 := hA1.z 5
    have HP : Hid (At F (w1.setCell ⟨F.s + 3, 5, none⟩ (.int .i64 x.ps)) { x with tf := x.ps, tv := v', T := x.T ++ (x.bf.drop x.tf).take (x.ps - x.tf) } ∧ Below F.s w1 (w1.setCell ⟨F.s + 3, 5, none⟩ (.int .i64 x.ps))) :=
      hA1.put 5 (.int .i64 x.ps) { x with tf := x.ps, tv := v', T := x.T ++ (x.bf.drop x.tf).take (x.ps - x.tf) } rfl rfl rfl rfl rfl rfl rfl rfl
    have HB1 : Hid (Below F.s w w1) := ⟨hb1.os, hb1.tape, hb1.output, hb1.size, hb1.block⟩
    clear hA1 hb1 hq6 c2 c3 c5 c6 z5
    go_wp2_with fail
    refine ⟨rfl, .tuple #[], by kernel_rfl, rfl, v', ?_, HB1.out.trans HP.out.2⟩
    have e : flushed F x v' = { x with tf := x.ps, tv := v', T := x.T ++ (x.bf.drop x.tf).take (x.ps - x.tf) } := by unfold flushed; rw [hut]; rfl
    rw [e]
    exact HP.out.1
end Go.Proofs.YbulkxqwDoor
