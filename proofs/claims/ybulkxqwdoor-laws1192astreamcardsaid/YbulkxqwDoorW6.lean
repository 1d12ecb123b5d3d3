/-
  fill.
-/
import Derived.Test.YbulkxqwDoorW5
import Derived.Test.YbulkxqwDoorW3e
set_option linter.unusedSimpArgs false
namespace Go.Proofs.YbulkxqwDoor
open Go.RowKit

@[go_sem] theorem nil_aheadR (a : Addr) (w : World) : (nilAhead 172 23 (.pointer (some a)) "Read").run Ybad.prog w = .ok (some false) w := by kernel_rfl
@[go_sem] theorem method_read (a : Addr) (w : World) : (method 172 23 (.pointer (some a)) "Read").run Ybad.prog w = .ok (22, .pointer (some a)) w := by kernel_rfl

/-- the state behind a read that fill has taken in -/
def refilled (F : Fx) (x : Sd) (n : Nat) (a' : Option Addr) : Sd := { readSd F x n a' with ps := 0, en := n, tf := 0, er := F.ew && decide (x.rp + n = F.L.length) }
def ended (x : Sd) : Sd := { x with ps := 0, en := 0, tf := 0, er := true }

def Fl (F : Fx) (x : Sd) (w : World) (e : Ending) (w' : World) : Prop :=
  ∃ v', Below F.s w w' ∧ ((x.er = true ∧ e = .returned (eofV F) ∧ At F w' (flushed F x v')) ∨ (x.er = false ∧ x.rp = F.L.length ∧ e = .returned (eofV F) ∧ At F w' (ended (flushed F x v'))) ∨
    (x.er = false ∧ x.rp < F.L.length ∧ e = .returned .nilIface ∧ ∃ n a', 1 ≤ n ∧ n ≤ F.bs ∧ x.rp + n ≤ F.L.length ∧ At F w' (refilled F (flushed F x v') n a')))

theorem four_at {F : Fx} {w : World} {x : Sd} (A : At F w x) (n : Nat) (b : Bool) :
    At F ((((w.setCell ⟨F.s + 3, 3, none⟩ (.int .i64 0)).setCell ⟨F.s + 3, 4, none⟩ (.int .i64 n)).setCell ⟨F.s + 3, 5, none⟩ (.int .i64 0)).setCell ⟨F.s + 3, 1, none⟩ (erV F b)) { x with ps := 0, en := n, tf := 0, er := b } ∧
    Below F.s w ((((w.setCell ⟨F.s + 3, 3, none⟩ (.int .i64 0)).setCell ⟨F.s + 3, 4, none⟩ (.int .i64 n)).setCell ⟨F.s + 3, 5, none⟩ (.int .i64 0)).setCell ⟨F.s + 3, 1, none⟩ (erV F b)) := by
  obtain ⟨A1, B1⟩ := A.put 3 (.int .i64 0) { x with ps := 0 } rfl rfl rfl rfl rfl rfl rfl rfl
  obtain ⟨A2, B2⟩ := A1.put 4 (.int .i64 n) { x with ps := 0, en := n } rfl rfl rfl rfl rfl rfl rfl rfl
  obtain ⟨A3, B3⟩ := A2.put 5 (.int .i64 0) { x with ps := 0, en := n, tf := 0 } rfl rfl rfl rfl rfl rfl rfl rfl
  obtain ⟨A4, B4⟩ := A3.put 1 (erV F b) { x with ps := 0, en := n, tf := 0, er := b } rfl rfl rfl rfl rfl rfl rfl rfl
  exact ⟨A4, ((B1.trans B2).trans B3).trans B4⟩

theorem flushed_rp (F : Fx) (x : Sd) (v' : Value) : (flushed F x v').rp = x.rp := rfl

set_option maxRecDepth 100000 in
set_option maxHeartbeats 2000000 in
theorem fill_any (F : Fx) (w : World) (x : Sd) (A : At F w x) (htf : x.tf ≤ x.ps) (hps : x.ps ≤ F.bs) (hT : x.T.length ≤ 2000) (hl : F.L.length ≤ 1024) (hcl : F.Ch.length ≤ 1024) (hbs : 1 ≤ F.bs) (hbs2 : F.bs ≤ 16) (hk : x.kk ≤ 100000) (hrl : x.rp ≤ F.L.length) :
    Calls Ybad.prog 5 #[.pointer (some ⟨F.s + 3, 0, none⟩)] w (Fl F x w) := by
  have HF := flush_any F w x A htf hps hbs2 hT
  have HFH : Hid (Calls Ybad.prog 6 #[.pointer (some ⟨F.s + 3, 0, none⟩)] w fun e w' => e = .returned (.tuple #[]) ∧ ∃ v', At F w' (flushed F x v') ∧ Below F.s w w') := HF
  clear HF A
  cases her : x.er
  · go_enter Ybad.func5, Ybad.ntmps5
    go_wp2_with fail
    refine HFH.out.mono ?_
    rintro e w1 ⟨rfl, v', A1, B1⟩
    have c0 := A1.c0
    have c1 : w1.cell? ⟨F.s + 3, 1, none⟩ = some .nilIface := by have h := A1.c1; rw [show (flushed F x v').er = x.er from rfl, her] at h; exact h
    have c2 := A1.c2
    have HA : Hid (At F w1 (flushed F x v')) := A1
    have HB : Hid (Below F.s w w1) := B1
    clear A1 B1 HFH
    go_wp2_with fail
    refine wp_loop_rounds 1 ?_
    rw [rounds_succ]
    go_wp2_with fail
    by_cases hr : x.rp < F.L.length
    · have HR : Hid (Calls Ybad.prog 22 #[.pointer (some ⟨F.s, 0, none⟩), .slice (some ⟨F.s + 2, 0, none⟩) F.bs F.bs] w1.drew (Rd F (flushed F x v') w1.drew)) := read_some F w1.drew (flushed F x v') (HA.out.of_heap rfl) hr hl hcl hbs hbs2 hk
      go_region_held3 (fun w' => w'.cell? ⟨F.s + 3, 0, none⟩ = some (.iface 23 (.pointer (some ⟨F.s, 0, none⟩))) ∧ w'.cell? ⟨F.s + 3, 2, none⟩ = some (.slice (some ⟨F.s + 2, 0, none⟩) F.bs F.bs)) (first | (go_keep; done) | exact ⟨c0, c2⟩ | exact ⟨hA2.c0, hA2.c2⟩) ((go_at_call 22; refine HR.out.mono ?_; rintro e w2 ⟨n, a', hn1, hn2, hn3, rfl, hA2, hb2⟩))
      have y1 := hA2.c1
      have y3 := hA2.c3
      have y4 := hA2.c4
      have y5 := hA2.c5
      have y1z := hA2.z 1
      have y3z := hA2.z 3
      have y4z := hA2.z 4
      have y5z := hA2.z 5
      obtain ⟨b, hb⟩ : ∃ b, b = (F.ew && decide ((flushed F x v').rp + n = F.L.length)) := ⟨_, rfl⟩
      have h4 := four_at hA2 n b
      have HE : Hid (At F ((((w2.setCell ⟨F.s + 3, 3, none⟩ (.int .i64 0)).setCell ⟨F.s + 3, 4, none⟩ (.int .i64 n)).setCell ⟨F.s + 3, 5, none⟩ (.int .i64 0)).setCell ⟨F.s + 3, 1, none⟩ (erV F b)) (refilled F (flushed F x v') n a') ∧ Below F.s w2 ((((w2.setCell ⟨F.s + 3, 3, none⟩ (.int .i64 0)).setCell ⟨F.s + 3, 4, none⟩ (.int .i64 n)).setCell ⟨F.s + 3, 5, none⟩ (.int .i64 0)).setCell ⟨F.s + 3, 1, none⟩ (erV F b))) := by
        have e : refilled F (flushed F x v') n a' = { readSd F (flushed F x v') n a' with ps := 0, en := n, tf := 0, er := b } := by unfold refilled; rw [hb]
        rw [e]; exact h4
      have HB2 : Hid (Below F.s w w2) := HB.out.trans ⟨hb2.os, hb2.tape, hb2.output, hb2.size, hb2.block⟩
      rw [← hb]
      have hnI : (0 : Int) < (n : Int) := by omega
      clear h4 hA2 hb2 hb c0 c1 c2
      cases b
      · have ee : erV F false = .nilIface := rfl
        rw [ee] at HE ⊢
        clear ee
        go_wp2_with fail
        go_ret
        exact ⟨v', HB2.out.trans HE.out.2, .inr (.inr ⟨her, hr, rfl, n, a', hn1, hn2, hn3, HE.out.1⟩)⟩
      · have ee : erV F true = .iface 44 (.pointer (some F.ea)) := rfl
        rw [ee] at HE ⊢
        clear ee
        go_wp2_with fail
        go_ret
        exact ⟨v', HB2.out.trans HE.out.2, .inr (.inr ⟨her, hr, rfl, n, a', hn1, hn2, hn3, HE.out.1⟩)⟩
    · have hre : x.rp = F.L.length := by omega
      have HR : Hid (Calls Ybad.prog 22 #[.pointer (some ⟨F.s, 0, none⟩), .slice (some ⟨F.s + 2, 0, none⟩) F.bs F.bs] w1.drew fun e w' => e = .returned (.tuple #[.int .i64 0, eofV F]) ∧ At F w' (flushed F x v') ∧ Below F.s w1.drew w') := read_eof F w1.drew (flushed F x v') (HA.out.of_heap rfl) hre
      go_region_held3 (fun w' => w'.cell? ⟨F.s + 3, 0, none⟩ = some (.iface 23 (.pointer (some ⟨F.s, 0, none⟩))) ∧ w'.cell? ⟨F.s + 3, 2, none⟩ = some (.slice (some ⟨F.s + 2, 0, none⟩) F.bs F.bs)) (first | (go_keep; done) | exact ⟨c0, c2⟩ | exact ⟨hA2.c0, hA2.c2⟩) ((go_at_call 22; refine HR.out.mono ?_; rintro e w2 ⟨rfl, hA2, hb2⟩))
      have y1 := hA2.c1
      have y3 := hA2.c3
      have y4 := hA2.c4
      have y5 := hA2.c5
      have y1z := hA2.z 1
      have y3z := hA2.z 3
      have y4z := hA2.z 4
      have y5z := hA2.z 5
      have HE : Hid (At F ((((w2.setCell ⟨F.s + 3, 3, none⟩ (.int .i64 0)).setCell ⟨F.s + 3, 4, none⟩ (.int .i64 (0 : Nat))).setCell ⟨F.s + 3, 5, none⟩ (.int .i64 0)).setCell ⟨F.s + 3, 1, none⟩ (.iface 44 (.pointer (some F.ea)))) (ended (flushed F x v')) ∧ Below F.s w2 ((((w2.setCell ⟨F.s + 3, 3, none⟩ (.int .i64 0)).setCell ⟨F.s + 3, 4, none⟩ (.int .i64 (0 : Nat))).setCell ⟨F.s + 3, 5, none⟩ (.int .i64 0)).setCell ⟨F.s + 3, 1, none⟩ (.iface 44 (.pointer (some F.ea))))) := four_at hA2 0 true
      have HB2 : Hid (Below F.s w w2) := HB.out.trans ⟨hb2.os, hb2.tape, hb2.output, hb2.size, hb2.block⟩
      clear hA2 hb2 c0 c1 c2
      unfold eofV
      go_wp2_with fail
      go_ret
      exact ⟨v', HB2.out.trans HE.out.2, .inr (.inl ⟨her, hre, rfl, HE.out.1⟩)⟩
  · go_enter Ybad.func5, Ybad.ntmps5
    go_wp2_with fail
    refine HFH.out.mono ?_
    rintro e w1 ⟨rfl, v', A1, B1⟩
    have c1 : w1.cell? ⟨F.s + 3, 1, none⟩ = some (eofV F) := by have h := A1.c1; rw [show (flushed F x v').er = x.er from rfl, her] at h; exact h
    have HA : Hid (At F w1 (flushed F x v')) := A1
    have HB : Hid (Below F.s w w1) := B1
    clear A1 B1 HFH
    unfold eofV at c1
    go_wp2_with fail
    go_ret
    exact ⟨v', HB.out, .inl ⟨her, rfl, HA.out⟩⟩
end Go.Proofs.YbulkxqwDoor
