/-
  monitoredHost.
-/
import Derived.Test.YbulkxmaFmtW3
import Derived.Test.YbulkxmaFmtKeys
import Derived.Test.YbulkxmaFmtFmt
namespace Go.Proofs.YbulkxmaFmt
open Go.RowKit Go.Stop

/-- an error, no host -/
def MonErr (w : World) (e : Ending) (w' : World) : Prop :=
  ∃ a, e = .returned (.tuple #[.agg #[.int .u32 0, .int .u32 0, .int .u32 0, .int .u32 0, .bool false], .iface 82 (.pointer (some a))]) ∧ Below w.heap.size w w'

/-- the host, no error -/
def MonOk (h : Hst) (w : World) (e : Ending) (w' : World) : Prop :=
  e = .returned (.tuple #[.agg #[.int .u32 h.ns, .int .u32 h.ne, .int .u32 h.cs, .int .u32 h.ce, .bool h.mon], .nilIface]) ∧ Below w.heap.size w w'

theorem five {w0 w : World} {g t : Nat} {a0 a1 a2 a3 a4 : Value} (h : w.heap[g]? = some (.cells #[a0, a1, a2, a3, a4] t (0, 0))) (hB : Below w0.heap.size w0 w) (hg : w0.heap.size ≤ g) (v0 v1 v2 v3 v4 : Value) (W : World)
    (hW : W = ((((w.setCell ⟨g, 0, none⟩ v0).setCell ⟨g, 1, none⟩ v1).setCell ⟨g, 2, none⟩ v2).setCell ⟨g, 3, none⟩ v3).setCell ⟨g, 4, none⟩ v4) :
    (W.cell? ⟨g, 0, none⟩ = some v0 ∧ W.cell? ⟨g, 1, none⟩ = some v1 ∧ W.cell? ⟨g, 2, none⟩ = some v2 ∧ W.cell? ⟨g, 3, none⟩ = some v3 ∧ W.cell? ⟨g, 4, none⟩ = some v4) ∧ Below w0.heap.size w0 W := by
  subst hW
  have := heap_setCell_at (heap_setCell_at (heap_setCell_at (heap_setCell_at (heap_setCell_at h (k := 0) v0) (k := 1) v1) (k := 2) v2) (k := 3) v3) (k := 4) v4
  exact ⟨⟨cell_at this rfl, cell_at this rfl, cell_at this rfl, cell_at this rfl, cell_at this rfl⟩, ((((hB.setCell hg _).setCell hg _).setCell hg _).setCell hg _).setCell hg _⟩

set_option maxRecDepth 100000 in
theorem mon_nil (F : Interp) (nm : ByteArray) (w : World) (hF : F.answers w.tape) : Calls Ybaf.prog 15 #[.pointer none, .string nm] w (MonErr w) := by
  go_enter Ybaf.func15, Ybaf.ntmps15
  go_wp2_with fail
  refine (errorf0 F (w.heap.size + 1 + 1) nm _ (by exact hF) ?_).mono ?_
  · go_simp
  rintro e w1 ⟨a, rfl, hb⟩
  have hz : w.heap.size + 1 + 1 < w1.heap.size := by have := hb.size; simp at this; omega
  have hcell : w1.heap[w.heap.size + 1]? = some (.cells #[.int .u32 0, .int .u32 0, .int .u32 0, .int .u32 0, .bool false] 71 (0, 0)) := by
    rw [hb.block _ (by simp <;> omega), Below.heap_alloc _ _ _ (by simp)]
    exact heap_new _ _ _ (by simp)
  have k0 := cell_at (k := 0) hcell rfl
  have k1 := cell_at (k := 1) hcell rfl
  have k2 := cell_at (k := 2) hcell rfl
  have k3 := cell_at (k := 3) hcell rfl
  have k4 := cell_at (k := 4) hcell rfl
  have z0 := frozen_at (k := 0) hcell
  have z1 := frozen_at (k := 1) hcell
  have z2 := frozen_at (k := 2) hcell
  have z3 := frozen_at (k := 3) hcell
  have z4 := frozen_at (k := 4) hcell
  have HB : Below w.heap.size w w1 := ((((Below.refl _ _).alloc (Nat.le_refl _) _).alloc (by simp) _).alloc (by simp; omega) _).trans (hb.mono (by simp; omega))
  clear hb
  have HC : Hid (w1.heap[w.heap.size + 1]? = some (.cells #[.int .u32 0, .int .u32 0, .int .u32 0, .int .u32 0, .bool false] 71 (0, 0))) := hcell
  clear hcell
  go_wp2
  obtain ⟨⟨q0, q1, q2, q3, q4⟩, HB'⟩ := five HC.out HB (by omega) (.int .u32 0) (.int .u32 0) (.int .u32 0) (.int .u32 0) (.bool false) _ rfl
  exact bodyPost_ret (v := .tuple #[.agg #[.int .u32 0, .int .u32 0, .int .u32 0, .int .u32 0, .bool false], .iface 82 (.pointer (some a))]) (by simp [results, Ybaf.results15, go_sem, q0, q1, q2, q3, q4]) rfl ⟨a, rfl, HB'⟩

def nameB (q : Nat) : ByteArray := ⟨(nameOf q).toArray⟩

/-- what the search comes to for the hosts that were built -/
theorem search_built (bx c gh gc : Nat) (ah ac : Option Addr) (ch cc : Nat) (p m : Nat → Bool) (xs : List Chk) (q : Nat) (hq : q ≤ 4) (w : World) (hbx : w.cell? ⟨bx, 0, none⟩ = some (.pointer (some ⟨c, 0, none⟩))) (C : CfgAt w c gh gc ah ac ch cc (St.build p m xs 4)) :
    Calls Ybaf.prog 19 #[.slice ah (St.build p m xs 4).hosts.length ch, .string (nameB q), .func (.func 20) #[] #[.pointer (some ⟨bx, 0, none⟩)]] w (Searched (St.build p m xs 4).hosts.length (keyAt p q) w) :=
  search_any bx c gh gc ah ac ch cc _ (nameB q) w hbx C (by rw [hosts_len]; exact ids_len p 4) (spans p m xs) (keyAt p q) (fun i hi => by have := keys p m xs q hq i hi; simpa [nameB] using this) (keys_mono p m xs q)

set_option maxRecDepth 100000 in
theorem mon_no (F : Interp) (c gh gc : Nat) (ah ac : Option Addr) (ch cc : Nat) (p m : Nat → Bool) (xs : List Chk) (q : Nat) (hq : q ≤ 4) (w : World) (hF : F.answers w.tape) (C : CfgAt w c gh gc ah ac ch cc (St.build p m xs 4)) (hno : ¬ (q < 4 ∧ p q = true)) :
    Calls Ybaf.prog 15 #[.pointer (some ⟨c, 0, none⟩), .string (nameB q)] w (MonErr w) := by
  have hlt := World.block_lt_of_cell? w _ C.c0
  have c1 := C.c1
  go_enter Ybaf.func15, Ybaf.ntmps15
  go_wp2_with fail
  refine (search_built w.heap.size c gh gc ah ac ch cc p m xs q hq _ ?_ ?_).mono ?_
  · go_simp
  · exact C.below (((Below.refl _ _).alloc (Nat.le_refl _) _).alloc (by simp) _)
  rintro e w1 ⟨i, hi, h1, h2, he, hb⟩
  rw [found_no p m xs q i hno] at he
  subst he
  clear h1 h2 hi
  have hz : w.heap.size + 1 < w1.heap.size := by have := hb.size; simp at this; omega
  have HB : Below w.heap.size w w1 := (((Below.refl _ _).alloc (Nat.le_refl _) _).alloc (by simp) _).trans (hb.mono (by simp; omega))
  have hcell : w1.heap[w.heap.size + 1]? = some (.cells #[.int .u32 0, .int .u32 0, .int .u32 0, .int .u32 0, .bool false] 71 (0, 0)) := by
    rw [hb.block _ (by simp)]
    exact heap_new _ _ _ (by simp)
  clear hb
  have HC : Hid (w1.heap[w.heap.size + 1]? = some (.cells #[.int .u32 0, .int .u32 0, .int .u32 0, .int .u32 0, .bool false] 71 (0, 0))) := hcell
  clear hcell
  go_wp2_with fail
  refine (errorf0 F w1.heap.size (nameB q) _ (by show F.answers w1.tape; rw [HB.tape]; exact hF) ?_).mono ?_
  · go_simp
  rintro e w2 ⟨a, rfl, hb2⟩
  have hcell2 : w2.heap[w.heap.size + 1]? = some (.cells #[.int .u32 0, .int .u32 0, .int .u32 0, .int .u32 0, .bool false] 71 (0, 0)) := by
    rw [hb2.block _ (by simp; omega), Below.heap_alloc _ _ _ hz]
    exact HC.out
  have HB2 : Below w.heap.size w w2 := (HB.alloc HB.size _).trans (hb2.mono (by simp; omega))
  have hz2 : w.heap.size + 1 < w2.heap.size := lt_of_heap hcell2
  clear hb2 HC HB
  have k0 := cell_at (k := 0) hcell2 rfl
  have k1 := cell_at (k := 1) hcell2 rfl
  have k2 := cell_at (k := 2) hcell2 rfl
  have k3 := cell_at (k := 3) hcell2 rfl
  have k4 := cell_at (k := 4) hcell2 rfl
  have z0 := frozen_at (k := 0) hcell2
  have z1 := frozen_at (k := 1) hcell2
  have z2 := frozen_at (k := 2) hcell2
  have z3 := frozen_at (k := 3) hcell2
  have z4 := frozen_at (k := 4) hcell2
  have HC2 : Hid (w2.heap[w.heap.size + 1]? = some (.cells #[.int .u32 0, .int .u32 0, .int .u32 0, .int .u32 0, .bool false] 71 (0, 0))) := hcell2
  clear hcell2
  go_wp2
  obtain ⟨⟨q0, q1, q2, q3, q4⟩, HB'⟩ := five HC2.out HB2 (by omega) (.int .u32 0) (.int .u32 0) (.int .u32 0) (.int .u32 0) (.bool false) _ rfl
  exact bodyPost_ret (v := .tuple #[.agg #[.int .u32 0, .int .u32 0, .int .u32 0, .int .u32 0, .bool false], .iface 82 (.pointer (some a))]) (by simp [results, Ybaf.results15, go_sem, q0, q1, q2, q3, q4]) rfl ⟨a, rfl, HB'⟩

set_option maxRecDepth 100000 in
theorem mon_off (F : Interp) (c gh gc : Nat) (ah ac : Option Addr) (ch cc : Nat) (p m : Nat → Bool) (xs : List Chk) (q : Nat) (hq : q < 4) (w : World) (hF : F.answers w.tape) (C : CfgAt w c gh gc ah ac ch cc (St.build p m xs 4)) (hp : p q = true) (hm : m q = false) :
    Calls Ybaf.prog 15 #[.pointer (some ⟨c, 0, none⟩), .string (nameB q)] w (MonErr w) := by
  have hlt := World.block_lt_of_cell? w _ C.c0
  have c1 := C.c1
  go_enter Ybaf.func15, Ybaf.ntmps15
  go_wp2_with fail
  refine (search_built w.heap.size c gh gc ah ac ch cc p m xs q (by omega) _ ?_ ?_).mono ?_
  · go_simp
  · exact C.below (((Below.refl _ _).alloc (Nat.le_refl _) _).alloc (by simp) _)
  rintro e w1 ⟨i, hi, h1, h2, he, hb⟩
  obtain ⟨hi', hf, hrec⟩ := found_yes p m xs q i hq hp hi h1 h2
  rw [hf] at he
  subst he
  clear h1 h2 hi hf
  have hz : w.heap.size + 1 < w1.heap.size := by have := hb.size; simp at this; omega
  have HB : Below w.heap.size w w1 := (((Below.refl _ _).alloc (Nat.le_refl _) _).alloc (by simp) _).trans (hb.mono (by simp; omega))
  have hcell : w1.heap[w.heap.size + 1]? = some (.cells #[.int .u32 0, .int .u32 0, .int .u32 0, .int .u32 0, .bool false] 71 (0, 0)) := by
    rw [hb.block _ (by simp)]
    exact heap_new _ _ _ (by simp)
  have hbox : w1.cell? ⟨w.heap.size, 0, none⟩ = some (.pointer (some ⟨c, 0, none⟩)) := by
    have : w1.heap[w.heap.size]? = some (.cells #[.pointer (some ⟨c, 0, none⟩)] 25 (0, 0)) := by
      rw [hb.block _ (by simp; omega), Below.heap_alloc _ _ _ (by simp)]
      exact heap_new _ _ _ rfl
    exact cell_at this rfl
  clear hb
  have C1 := C.below HB
  have c1' := C1.c1
  have hix := run_at46 (C.ah (by omega)) (St.build p m xs 4).hosts.length ch i (i : Int) rfl hi'
  obtain ⟨g0, g1, g2, g3, g4⟩ := C1.hosts i hi'
  rw [hrec] at g0 g1 g2 g3 g4
  have hlc := World.block_lt_of_cell? w1 _ C1.c0
  have hlg := World.block_lt_of_cell? w1 _ g0
  clear hrec C1
  have HC : Hid (w1.heap[w.heap.size + 1]? = some (.cells #[.int .u32 0, .int .u32 0, .int .u32 0, .int .u32 0, .bool false] 71 (0, 0))) := hcell
  clear hcell
  have g4' : w1.cell? ⟨gh, i * 5 + 4, none⟩ = some (.bool false) := by rw [g4]; show some (Value.bool (m q)) = _; rw [hm]
  clear g4
  go_wp2_with fail
  refine (errorf1 F w1.heap.size (nameB q) _ (by show F.answers w1.tape; rw [HB.tape]; exact hF) ?_).mono ?_
  · go_simp
  rintro e w2 ⟨a, rfl, hb2⟩
  have hcell2 : w2.heap[w.heap.size + 1]? = some (.cells #[.int .u32 0, .int .u32 0, .int .u32 0, .int .u32 0, .bool false] 71 (0, 0)) := by
    rw [hb2.block _ (by simp; omega), Below.heap_alloc _ _ _ hz]
    exact HC.out
  have HB2 : Below w.heap.size w w2 := (HB.alloc HB.size _).trans (hb2.mono (by simp; omega))
  have hz2 : w.heap.size + 1 < w2.heap.size := lt_of_heap hcell2
  clear hb2 HC HB g0 g1 g2 g3 g4' hix hbox c1'
  have k0 := cell_at (k := 0) hcell2 rfl
  have k1 := cell_at (k := 1) hcell2 rfl
  have k2 := cell_at (k := 2) hcell2 rfl
  have k3 := cell_at (k := 3) hcell2 rfl
  have k4 := cell_at (k := 4) hcell2 rfl
  have z0 := frozen_at (k := 0) hcell2
  have z1 := frozen_at (k := 1) hcell2
  have z2 := frozen_at (k := 2) hcell2
  have z3 := frozen_at (k := 3) hcell2
  have z4 := frozen_at (k := 4) hcell2
  have HC2 : Hid (w2.heap[w.heap.size + 1]? = some (.cells #[.int .u32 0, .int .u32 0, .int .u32 0, .int .u32 0, .bool false] 71 (0, 0))) := hcell2
  clear hcell2
  go_wp2
  obtain ⟨⟨q0, q1, q2, q3, q4⟩, HB'⟩ := five HC2.out HB2 (by omega) (.int .u32 0) (.int .u32 0) (.int .u32 0) (.int .u32 0) (.bool false) _ rfl
  exact bodyPost_ret (v := .tuple #[.agg #[.int .u32 0, .int .u32 0, .int .u32 0, .int .u32 0, .bool false], .iface 82 (.pointer (some a))]) (by simp [results, Ybaf.results15, go_sem, q0, q1, q2, q3, q4]) rfl ⟨a, rfl, HB'⟩

set_option maxRecDepth 100000 in
theorem mon_yes (c gh gc : Nat) (ah ac : Option Addr) (ch cc : Nat) (p m : Nat → Bool) (xs : List Chk) (q : Nat) (hq : q < 4) (w : World) (C : CfgAt w c gh gc ah ac ch cc (St.build p m xs 4)) (hp : p q = true) (hm : m q = true) :
    Calls Ybaf.prog 15 #[.pointer (some ⟨c, 0, none⟩), .string (nameB q)] w (MonOk (recOf p m xs q) w) := by
  have hlt := World.block_lt_of_cell? w _ C.c0
  have c1 := C.c1
  go_enter Ybaf.func15, Ybaf.ntmps15
  go_wp2_with fail
  refine (search_built w.heap.size c gh gc ah ac ch cc p m xs q (by omega) _ ?_ ?_).mono ?_
  · go_simp
  · exact C.below (((Below.refl _ _).alloc (Nat.le_refl _) _).alloc (by simp) _)
  rintro e w1 ⟨i, hi, h1, h2, he, hb⟩
  obtain ⟨hi', hf, hrec⟩ := found_yes p m xs q i hq hp hi h1 h2
  rw [hf] at he
  subst he
  clear h1 h2 hi hf
  have hz : w.heap.size + 1 < w1.heap.size := by have := hb.size; simp at this; omega
  have HB : Below w.heap.size w w1 := (((Below.refl _ _).alloc (Nat.le_refl _) _).alloc (by simp) _).trans (hb.mono (by simp; omega))
  have hcell : w1.heap[w.heap.size + 1]? = some (.cells #[.int .u32 0, .int .u32 0, .int .u32 0, .int .u32 0, .bool false] 71 (0, 0)) := by
    rw [hb.block _ (by simp)]
    exact heap_new _ _ _ (by simp)
  have hbox : w1.cell? ⟨w.heap.size, 0, none⟩ = some (.pointer (some ⟨c, 0, none⟩)) := by
    have : w1.heap[w.heap.size]? = some (.cells #[.pointer (some ⟨c, 0, none⟩)] 25 (0, 0)) := by
      rw [hb.block _ (by simp; omega), Below.heap_alloc _ _ _ (by simp)]
      exact heap_new _ _ _ rfl
    exact cell_at this rfl
  clear hb
  have C1 := C.below HB
  have c1' := C1.c1
  have hix := run_at46 (C.ah (by omega)) (St.build p m xs 4).hosts.length ch i (i : Int) rfl hi'
  obtain ⟨g0, g1, g2, g3, g4⟩ := C1.hosts i hi'
  rw [hrec] at g0 g1 g2 g3 g4
  have hlc := World.block_lt_of_cell? w1 _ C1.c0
  have hlg := World.block_lt_of_cell? w1 _ g0
  clear hrec C1
  have HC : Hid (w1.heap[w.heap.size + 1]? = some (.cells #[.int .u32 0, .int .u32 0, .int .u32 0, .int .u32 0, .bool false] 71 (0, 0))) := hcell
  clear hcell
  have g4' : w1.cell? ⟨gh, i * 5 + 4, none⟩ = some (.bool true) := by rw [g4]; show some (Value.bool (m q)) = _; rw [hm]
  clear g4
  have HMon : Hid ((recOf p m xs q).mon = true) := hm
  have k0 := cell_at (k := 0) HC.out rfl
  have k1 := cell_at (k := 1) HC.out rfl
  have k2 := cell_at (k := 2) HC.out rfl
  have k3 := cell_at (k := 3) HC.out rfl
  have k4 := cell_at (k := 4) HC.out rfl
  have z0 := frozen_at (k := 0) HC.out
  have z1 := frozen_at (k := 1) HC.out
  have z2 := frozen_at (k := 2) HC.out
  have z3 := frozen_at (k := 3) HC.out
  have z4 := frozen_at (k := 4) HC.out
  go_wp2
  obtain ⟨⟨q0, q1, q2, q3, q4⟩, HB'⟩ := five HC.out HB (by omega) (.int .u32 (recOf p m xs q).ns) (.int .u32 (recOf p m xs q).ne) (.int .u32 (recOf p m xs q).cs) (.int .u32 (recOf p m xs q).ce) (.bool true) _ rfl
  exact bodyPost_ret (v := .tuple #[.agg #[.int .u32 (recOf p m xs q).ns, .int .u32 (recOf p m xs q).ne, .int .u32 (recOf p m xs q).cs, .int .u32 (recOf p m xs q).ce, .bool true], .nilIface]) (by simp [results, Ybaf.results15, go_sem, q0, q1, q2, q3, q4]) rfl ⟨by rw [HMon.out], HB'⟩
end Go.Proofs.YbulkxmaFmt
