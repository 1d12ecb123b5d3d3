/-
  Checks.
-/
import Derived.Test.YbulkxmaFmtW8
namespace Go.Proofs.YbulkxmaFmt
open Go.RowKit Go.Stop

/-- an error, no checks -/
def ChkErr (w : World) (e : Ending) (w' : World) : Prop :=
  ∃ a, e = .returned (.tuple #[.slice none 0 0, .iface 82 (.pointer (some a))]) ∧ Below w.heap.size w w'

/-- the checks, no error -/
def ChkOk (l : List Chk) (w : World) (e : Ending) (w' : World) : Prop :=
  ∃ v, e = .returned (.tuple #[v, .nilIface]) ∧ XsAt w' v l ∧ (l.length = 0 → v = .slice none 0 0) ∧ Below w.heap.size w w'

@[go_sem] theorem run_isnil (w : World) : (binOp .eql 59 .nilFunc .nilFunc).run Ybaf.prog w = .ok (.bool true) w := by kernel_rfl
@[go_sem] theorem run_notnil (fn : Fn) (a b : Array Value) (w : World) : (binOp .eql 59 (.func fn a b) .nilFunc).run Ybaf.prog w = .ok (.bool false) w := by kernel_rfl

set_option maxRecDepth 100000 in
theorem checks_none (F : Interp) (S : Nat) (nm : ByteArray) (r : Value) (w : World) (hF : F.answers w.tape) (h : w.cell? ⟨S, 3, none⟩ = some (.pointer none)) :
    Calls Ybaf.prog 8 #[.pointer (some ⟨S, 0, none⟩), .string nm, r] w (ChkErr w) := by
  go_enter Ybaf.func8, Ybaf.ntmps8
  go_wp2_with fail
  refine wp_loop_rounds 1 ?_
  rw [rounds_succ]
  go_wp2_with fail
  refine (current_none S _ h).mono ?_
  rintro e w1 ⟨rfl, rfl⟩
  go_wp2_with fail
  refine (mon_nil F nm _ hF).mono ?_
  rintro e w1 ⟨a, rfl, hb⟩
  have hz := hb.size
  go_wp2
  go_ret2
  exact ⟨_, rfl, hb.alloc hz _⟩

set_option maxRecDepth 100000 in
theorem checks_err (S c q : Nat) (r : Value) (w : World) (h : w.cell? ⟨S, 3, none⟩ = some (.pointer (some ⟨c, 0, none⟩))) (hc : w.shape? c = some (49, 3)) (hM : Calls Ybaf.prog 15 #[.pointer (some ⟨c, 0, none⟩), .string (nameB q)] w (MonErr w)) :
    Calls Ybaf.prog 8 #[.pointer (some ⟨S, 0, none⟩), .string (nameB q), r] w (ChkErr w) := by
  go_enter Ybaf.func8, Ybaf.ntmps8
  go_wp2_with fail
  refine wp_loop_rounds 1 ?_
  rw [rounds_succ]
  go_wp2_with fail
  refine (current_some S c _ h hc).mono ?_
  rintro e w1 ⟨rfl, rfl⟩
  go_wp2_with fail
  refine hM.mono ?_
  rintro e w1 ⟨a, rfl, hb⟩
  have hz := hb.size
  go_wp2
  go_ret2
  exact ⟨_, rfl, hb.alloc hz _⟩

set_option maxRecDepth 100000 in
theorem checks_ok (S c gh gc : Nat) (ah ac : Option Addr) (ch cc : Nat) (p m : Nat → Bool) (xs : List Chk) (q : Nat) (hq : q < 4) (hok : okB xs = true) (w : World) (C : CfgAt w c gh gc ah ac ch cc (St.build p m xs 4)) (hp : p q = true) (hm : m q = true) (h : w.cell? ⟨S, 3, none⟩ = some (.pointer (some ⟨c, 0, none⟩))) (hc : w.shape? c = some (49, 3)) :
    Calls Ybaf.prog 8 #[.pointer (some ⟨S, 0, none⟩), .string (nameB q), .nilFunc] w (ChkOk (mine q xs) w) := by
  go_enter Ybaf.func8, Ybaf.ntmps8
  go_wp2_with fail
  refine wp_loop_rounds 1 ?_
  rw [rounds_succ]
  go_wp2_with fail
  refine (current_some S c _ h hc).mono ?_
  rintro e w1 ⟨rfl, rfl⟩
  go_wp2_with fail
  refine (mon_yes c gh gc ah ac ch cc p m xs q hq _ C hp hm).mono ?_
  rintro e w1 ⟨rfl, hb⟩
  have hz := hb.size
  have hcs := copySize_any c gh gc ah ac ch cc p m xs q hq hp hok _ ((C.below hb).below ((Below.refl _ _).alloc (Nat.le_refl _) (.cells #[.int .u32 (recOf p m xs q).ns, .int .u32 (recOf p m xs q).ne, .int .u32 (recOf p m xs q).cs, .int .u32 (recOf p m xs q).ce, .bool (recOf p m xs q).mon] 71)))
  have hcc := fun W C' => copyChecks_any c gh gc ah ac ch cc p m xs q hq hp hok W C'
  have hC := C.below hb
  generalize (recOf p m xs q).ns = n0 at *
  generalize (recOf p m xs q).ne = n1 at *
  generalize (recOf p m xs q).cs = n2 at *
  generalize (recOf p m xs q).ce = n3 at *
  generalize (recOf p m xs q).mon = n4 at *
  have HCC : Hid (∀ W, CfgAt W c gh gc ah ac ch cc (St.build p m xs 4) → Calls Ybaf.prog 17 #[.pointer (some ⟨c, 0, none⟩), .agg #[.int .u32 n0, .int .u32 n1, .int .u32 n2, .int .u32 n3, .bool n4]] W (Copied (mine q xs) W)) := hcc
  clear hcc
  go_wp2_with fail
  refine hcs.mono ?_
  rintro e w2 ⟨rfl, hb2⟩
  have hnew : w2.heap[w1.heap.size]? = some (.cells #[.int .u32 n0, .int .u32 n1, .int .u32 n2, .int .u32 n3, .bool n4] 71 (0, 0)) := by
    rw [hb2.block _ (by simp)]
    exact heap_new _ _ _ rfl
  have hC2 := (hC.below ((Below.refl _ _).alloc (Nat.le_refl _) _)).below hb2
  have k0 := cell_at (k := 0) hnew rfl
  have k1 := cell_at (k := 1) hnew rfl
  have k2 := cell_at (k := 2) hnew rfl
  have k3 := cell_at (k := 3) hnew rfl
  have k4 := cell_at (k := 4) hnew rfl
  have HB2 := (hb.alloc hz _).trans (hb2.mono (by simp; omega))
  clear hnew hb2 hcs
  go_wp2_with fail
  refine (HCC.out _ hC2).mono ?_
  rintro e w3 ⟨v, rfl, hv, hv0, hb3⟩
  have HV : Hid ((mine q xs).length = 0 → v = .slice none 0 0) := hv0
  clear hv0
  have HB3 := HB2.trans (hb3.mono HB2.size)
  go_wp2
  go_ret2
  exact ⟨_, rfl, hv, HV.out, HB3⟩
end Go.Proofs.YbulkxmaFmt
