/-
  The law.
-/
import Derived.Test.YbulkxmoDoorW6
import Derived.Test.YbulkxmoDoorW7
import Derived.LaidEql
set_option linter.unusedSimpArgs false
namespace Go.Proofs.YbulkxmoDoor
open Go.RowKit

structure Bts (w : World) (a : Option Addr) (b o cap : Nat) (l : List UInt8) : Prop where
  ad : l ≠ [] → a = some ⟨b, o, none⟩
  cells : ∀ i (hi : i < l.length), w.cell? ⟨b, o + i, none⟩ = some (.int .u8 (l[i].toNat : Int))
  lc : l.length ≤ cap

theorem Bts.below {w w' : World} {a : Option Addr} {b o cap : Nat} {l : List UInt8} (h : Bts w a b o cap l) (hb : Below w.heap.size w w') : Bts w' a b o cap l :=
  ⟨h.ad, fun i hi => (hb.cell (World.block_lt_of_cell? w _ (h.cells i hi))).trans (h.cells i hi), h.lc⟩

theorem run_cp0 (w : World) (M : Array Value) (a : Option Addr) (b o cap : Nat) (l : List UInt8) (hB : Bts w a b o cap l) (hM : M.size = l.length) :
    ∃ W', (Builtin.copy_ #[22, 22] 3 #[.slice (some ⟨w.heap.size, 0, none⟩) l.length l.length, .slice a l.length cap]).run Ybad.prog (w.alloc (.cells M 5)) = .ok (.int .i64 l.length) W' ∧
      W'.heap[w.heap.size]? = some (.cells (bvl l).toArray 5 (0, 0)) ∧ Below w.heap.size w W' ∧ W'.heap.size = w.heap.size + 1 := by
  have hb0 : Below w.heap.size w (w.alloc (.cells M 5)) := (Below.refl _ _).alloc (Nat.le_refl _) _
  have hg : (w.alloc (.cells M 5)).heap[w.heap.size]? = some (.cells M 5 (0, 0)) := heap_alloc_new w _
  cases l with
  | nil =>
    have h := run_copy_none (P := Ybad.prog) (w.alloc (.cells M 5)) 22 22 3 5 (some ⟨w.heap.size, 0, none⟩) a 0 0 0 cap Ybad.underlying22 (by kernel_rfl) rfl
    refine ⟨_, h, ?_, hb0, by simp⟩
    rw [hg]
    obtain rfl : M = #[] := Array.eq_empty_of_size_eq_zero hM
    rfl
  | cons c r =>
    obtain rfl := hB.ad (by simp)
    have hB' := hB.below hb0
    have h := run_copy_row (P := Ybad.prog) (w.alloc (.cells M 5)) 22 22 3 5 w.heap.size 0 (c :: r).length (c :: r).length ⟨b, o, none⟩ (c :: r).length cap M 5 (bvl (c :: r)) Ybad.underlying22 (by kernel_rfl) hg (by simp [bvl])
      (fun j v hj => by
        have hl : j < (c :: r).length := by
          rcases Nat.lt_or_ge j (c :: r).length with h | h
          · exact h
          · rw [List.getElem?_eq_none (by simpa [bvl] using h)] at hj; cases hj
        have e : (⟨b, o, none⟩ : Addr).add j = ⟨b, o + j, none⟩ := by unfold Addr.add; split <;> simp_all
        rw [e, hB'.cells j hl]
        simp only [bvl, List.getElem?_map, List.getElem?_eq_getElem hl, Option.map_some] at hj
        exact hj) (by rw [hM]; simp [bvl]) (by simp [bvl, Value.oneCell'])
    have hl : (bvl (c :: r)).length = (c :: r).length := by simp [bvl]
    rw [hl] at h
    refine ⟨_, h, ?_, below_setRow hb0 (Nat.le_refl _) _, by simp [World.setRow]⟩
    rw [setRow_heap _ _ _ _ _ _ hg]
    congr 2
    have : M.toList.drop (0 + (c :: r).length) = [] := List.drop_eq_nil_of_le (by simp [hM])
    rw [this]
    simp

theorem Ybad.info5 : (Ybad.prog.info? 5).map (fun i => (i.zero, i.size, i.bytes)) = some (some (.int .u8 0), 1, 1) := by kernel_rfl

theorem inv0 (l : List UInt8) : Inv l 0 sd0 :=
  ⟨Buf.start l, Nat.le_refl _, by decide, rfl, Nat.zero_le _, by simp [sd0], (fun j hj => by have : j < 0 := hj; omega), (fun h => by cases h), (fun h => by have : 0 < 0 := h; omega)⟩

/-- the world behind reset -/
def lw (s n : Nat) (W : World) (Z : List Value) (ch k : Nat) : World :=
  (((((W.alloc (.cells #[.slice (some ⟨s, 0, none⟩) n n, .int .i64 0, .int .i64 ch] 25)).alloc (.cells Z.toArray 5)).alloc (.cells (dnew s) 35)).drewN k).setRow (s + 3) (dcells s sd0))

theorem law_at {s : Nat} {W : World} {l : List UInt8} (h0 : W.heap[s]? = some (.cells (bvl l).toArray 5 (0, 0))) (hs : W.heap.size = s + 1) {Z : List Value} (hZ : Z = bvl (List.replicate 64 0)) (ch k : Nat) : At s (lw s l.length W Z ch k) l ch sd0 := by
  subst hZ
  have e1 : ∀ (W : World) (O : Obj) (j : Nat), j < W.heap.size → (W.alloc O).heap[j]? = W.heap[j]? := fun W O j h => heap_alloc_old W O h
  refine ⟨?_, ?_, ?_, ?_, by simp [sd0]⟩
  · rw [lw, setRow_other _ _ _ _ (by omega)]
    show (((W.alloc _).alloc _).alloc _).heap[s]? = _
    rw [e1 _ _ _ (by simp; omega), e1 _ _ _ (by simp; omega), e1 _ _ _ (by omega), h0]
  · rw [lw, setRow_other _ _ _ _ (by omega)]
    show (((W.alloc _).alloc _).alloc _).heap[s + 1]? = _
    rw [e1 _ _ _ (by simp; omega), e1 _ _ _ (by simp; omega), heap_new _ _ _ hs.symm]
    rfl
  · rw [lw, setRow_other _ _ _ _ (by omega)]
    show (((W.alloc _).alloc _).alloc _).heap[s + 2]? = _
    rw [e1 _ _ _ (by simp; omega), heap_new _ _ _ (by simp; omega)]
    rfl
  · rw [lw]
    refine setRow_heap _ _ (dnew s) _ 35 (0, 0) (heap_new ((W.alloc _).alloc _) _ _ ?_)
    simp
    omega

theorem law_below {s n : Nat} {w W : World} (hB : Below s w W) (hs : W.heap.size = s + 1) (Z : List Value) (ch k : Nat) : Below s w (lw s n W Z ch k) := by
  have h1 : Below s w (W.alloc (.cells #[.slice (some ⟨s, 0, none⟩) n n, .int .i64 0, .int .i64 ch] 25)) := hB.alloc (by omega) _
  have h2 : Below s w ((W.alloc (.cells #[.slice (some ⟨s, 0, none⟩) n n, .int .i64 0, .int .i64 ch] 25)).alloc (.cells Z.toArray 5)) := h1.alloc (by simp; omega) _
  have h3 : Below s w (((W.alloc (.cells #[.slice (some ⟨s, 0, none⟩) n n, .int .i64 0, .int .i64 ch] 25)).alloc (.cells Z.toArray 5)).alloc (.cells (dnew s) 35)) := h2.alloc (by simp; omega) _
  exact below_setRow (w := ((((W.alloc (.cells #[.slice (some ⟨s, 0, none⟩) n n, .int .i64 0, .int .i64 ch] 25)).alloc (.cells Z.toArray 5)).alloc (.cells (dnew s) 35)).drewN k)) ⟨h3.os, h3.tape, h3.output, h3.size, h3.block⟩ (by omega) _

set_option maxRecDepth 100000 in
set_option maxHeartbeats 4000000 in
theorem law_any (a : Option Addr) (b o cap : Nat) (l : List UInt8) (a2 : Option Addr) (b2 o2 cap2 : Nat) (ns : List UInt8) (c : Nat) (hc : c < 256) (w : World) (hB : Bts w a b o cap l) (hN : Bts w a2 b2 o2 cap2 ns) (hlm : l.length ≤ maxLen)
    (ea eb : Addr) (hE : Env w.heap.size w ea eb) :
    Calls Ybad.prog 3 #[.slice a l.length cap, .slice a2 ns.length cap2, .int .u8 c] w fun e w' => e = .returned (.bool true) ∧ Below w.heap.size w w' := by
  by_cases h1 : 1024 < l.length
  · have h1' : (1024 : Int) < (l.length : Int) := by omega
    go_enter Ybad.func3, Ybad.ntmps3
    go_wp2_with fail
    go_ret
    exact ⟨rfl, Below.refl _ _⟩
  by_cases h2 : 1024 < ns.length
  · have h1' : (l.length : Int) ≤ 1024 := by omega
    have h2' : (1024 : Int) < (ns.length : Int) := by omega
    go_enter Ybad.func3, Ybad.ntmps3
    go_wp2_with fail
    go_ret
    exact ⟨rfl, Below.refl _ _⟩
  have h1' : (l.length : Int) ≤ 1024 := by omega
  have h2' : (ns.length : Int) ≤ 1024 := by omega
  obtain ⟨i0, hi, hz0, hz1, hz2⟩ := info_parts Ybad.info5
  obtain ⟨M, hMs, hmk⟩ : ∃ M : Array Value, M.size = l.length ∧ (Instr.makeSlice 22 (.int .i64 (l.length : Int)) (.int .i64 (l.length : Int))).run Ybad.prog w = .ok (.slice (some ⟨w.heap.size, 0, none⟩) l.length l.length) (w.alloc (.cells M 5)) := by
    refine ⟨_, by have := size_madeCells (Value.int .u8 0).cells (l.length * 1); rw [Nat.mul_one] at this; exact this, ?_⟩
    have h := run_make (P := Ybad.prog) w 22 5 i0 _ Ybad.underlying22 hi hz0 .i64 .i64 (l.length : Int) (l.length : Int) (by omega) (by omega) (by rw [hz2]; unfold maxLen at hlm; omega) (by omega)
    rw [hz1] at h
    simpa using h
  have hm64 : ∀ W : World, (Instr.makeSlice 22 (.int .i64 64) (.int .i64 64)).run Ybad.prog W = .ok (.slice (some ⟨W.heap.size, 0, none⟩) 64 64) (W.alloc (.cells (bvl (List.replicate 64 0)).toArray 5)) := by
    intro W
    have h := run_make (P := Ybad.prog) W 22 5 i0 _ Ybad.underlying22 hi hz0 .i64 .i64 64 64 (by omega) (by omega) (by rw [hz2]; decide) (by omega)
    rw [hz1] at h
    have e : madeCells (Value.int .u8 0).cells 64 = (bvl (List.replicate 64 0)).toArray := by kernel_rfl
    rw [← e]
    simpa using h
  clear hi hz0 hz1 hz2
  obtain ⟨W', hcp, hW0, hWB, hWs⟩ := run_cp0 w M a b o cap l hB hMs
  obtain ⟨s, hs⟩ : ∃ s, s = w.heap.size := ⟨_, rfl⟩
  have HS : Hid (s = w.heap.size) := hs
  rw [← hs] at hmk hcp hWs hW0 hWB hE ⊢
  clear hs
  obtain ⟨ch, hch⟩ : ∃ ch, ch = c % 16 + 1 := ⟨_, rfl⟩
  have hchI : (c : Int) % 16 + 1 = (ch : Int) := by omega
  have hch0 : 1 ≤ ch := by omega
  have hch1 : ch ≤ 16 := by omega
  clear hch
  have hD := reset_any s
  obtain ⟨Z, hZ⟩ : ∃ Z, Z = bvl (List.replicate 64 0) := ⟨_, rfl⟩
  have HZ : Hid (Z = bvl (List.replicate 64 0)) := hZ
  rw [← hZ] at hm64
  clear hZ
  go_enter Ybad.func3, Ybad.ntmps3
  go_wp2_with fail
  clear hmk hcp hm64
  refine (hD _ (heap_new _ _ _ (by simp [hWs]))).mono ?_
  rintro e w1 ⟨rfl, k, hk0⟩
  have hk : w1 = lw s l.length W' Z ch k := hk0
  have A0 : At s w1 l ch sd0 := by rw [hk]; exact law_at hW0 hWs HZ.out ch k
  have B0 : Below s w w1 := by rw [hk]; exact law_below hWB hWs Z ch k
  clear hD hW0 hWs HZ hWB hk hk0
  have e3 : s + 1 + 1 + 1 = s + 3 := rfl
  simp only [e3]
  go_wp2_with fail
  clear e3
  have HN : Hid (∀ W : World, Below s w W → Bts W a2 b2 o2 cap2 ns) := fun W hW => hN.below (by rw [← HS.out]; exact hW)
  have hl : l.length ≤ 1024 := by omega
  have hns : ns.length ≤ 1024 := by omega
  clear hB hN hlm h1 h2
  go_loopw [11, 12] (fun con i wr => ∃ k K x, k ≤ ns.length ∧ i = .int .i64 (k : Nat) ∧ con = .int .u64 (K : Nat) ∧ K ≤ 32 * k ∧ At s wr l ch x ∧ Inv l K x ∧ x.nb ≤ 64 ∧ Below s w wr) (fun _ i _ => ns.length - (intOf i).toNat)
  case atStart => exact ⟨0, 0, sd0, by omega, rfl, rfl, by omega, A0, inv0 l, by decide, B0⟩
  case round =>
    obtain ⟨k, K, x, hk, rfl, rfl, hK, A, I, hnb, B⟩ := hrel
    by_cases hlt : k < ns.length
    · have hltI : (k : Int) < (ns.length : Int) := by omega
      have hNw := HN.out _ B
      obtain rfl := hNw.ad (by intro h; rw [h] at hlt; simp at hlt)
      obtain ⟨Y, hY⟩ : ∃ Y, Y = ns[k] := ⟨_, rfl⟩
      have hc := hNw.cells k hlt
      rw [← hY] at hc
      have hYl := Y.toNat_lt
      obtain ⟨n, hn⟩ : ∃ n, n = Y.toNat % 33 := ⟨_, rfl⟩
      have hnI : (Y.toNat : Int) % 33 = (n : Int) := by omega
      have hwY : IntKind.u64.wrap (Y.toNat : Int) = (Y.toNat : Int) := by rw [IntKind.wrap_u64]; omega
      have hnT : (Y.toNat : Int).tmod 33 = (n : Int) := by rw [Int.tmod_eq_emod_of_nonneg (by omega)]; omega
      have hn32 : n ≤ 32 := by omega
      have hEw := hE.below B
      have HT : Hid (Calls Ybad.prog 5 #[.pointer (some ⟨s + 3, 0, none⟩), .int .u64 n] wr (Taken s l ch K n eb wr)) := take_any s l ch K n x _ A I hl hch0 hch1 hnb (by omega) hn32 ea eb hEw
      have HB : Hid (Below s w wr) := B
      clear hn hY A I hNw hnb hYl hEw B B0 A0
      go_wp2_with fail
      refine HT.out.mono ?_
      clear HT
      rintro e w2 (⟨hover, B2, rfl⟩ | ⟨y, A2, I2, hy, B2, rfl⟩)
      · have heq := fun (W : World) => run_eql_iface_ptr_same (P := Ybad.prog) W (ti := 33) (tp := 46) (te := 65) eb Ybad.underlying33 Ybad.underlying46 rfl (by kernel_rfl) rfl
        have hu := (hE.below (HB.out.trans B2)).une
        have hws : IntKind.u64.wrap ((K : Int) + (n : Int)) = (K : Int) + (n : Int) := by rw [IntKind.wrap_u64]; omega
        have hgt : decide (8 * (l.length : Int) < (K : Int) + (n : Int)) = true := decide_eq_true (by omega)
        have hgt' : 8 * (l.length : Int) < (K : Int) + (n : Int) := by omega
        go_wp2_with fail
        go_ret
        exact ⟨rfl, HB.out.trans B2⟩
      · have hKb : K ≤ 100000 := by omega
        go_wp2_with fail
        go_loopw [16, 17] (fun want j wj => ∃ J : Nat, J ≤ n ∧ j = .int .u64 J ∧ want = .int .u32 (bitsAt l K J) ∧ wj = w2) (fun _ j _ => n - (intOf j).toNat)
        case atStart => exact ⟨0, by omega, rfl, by rw [bitsAt_zero]; rfl, rfl⟩
        case round =>
          obtain ⟨J, hJ, rfl, rfl, hwj⟩ := hrel
          subst hwj
          by_cases hJn : J < n
          · have hJI : (J : Int) < (n : Int) := by omega
            obtain ⟨E, hEs⟩ : ∃ E, E = K + J := ⟨_, rfl⟩
            have hws : IntKind.u64.wrap ((K : Int) + (J : Int)) = (E : Int) := by rw [IntKind.wrap_u64]; omega
            have hwJ : IntKind.u64.wrap ((J : Int) + 1) = ((J + 1 : Nat) : Int) := by rw [IntKind.wrap_u64]; omega
            have HBt : Hid (Calls Ybad.prog 6 #[.slice (some ⟨s, 0, none⟩) l.length l.length, .int .u64 E] wr fun e w' => e = .returned (.bool (decide (bitN l E = 1))) ∧ w' = wr) := bit_any s l ch y wr A2 hl E (by omega)
            have hsuc := bitsAt_succ l K J
            rw [← hEs] at hsuc
            have hVl := bitsAt_lt l K J
            have hE2 : bitN l E < 2 := Nat.mod_lt _ (by omega)
            have hp32 : (2 : Nat) ^ J ≤ 2 ^ 31 := Nat.pow_le_pow_right (by omega) (by omega)
            obtain ⟨V, hV⟩ : ∃ V, V = bitsAt l K J := ⟨_, rfl⟩
            rw [← hV] at hsuc hVl ⊢
            by_cases hb : bitN l E = 1
            · have hor : bits .or .u32 (V : Int) ((2 ^ J : Nat) : Int) = ((V + 2 ^ J : Nat) : Int) := by
                have h1 := or_low V 1 J hVl
                rw [Nat.one_mul] at h1
                rw [or_u32 _ _ (by omega) (by omega), h1]
              have hor2 : bits .or .u32 (V : Int) (2 ^ J : Int) = ((V + 2 ^ J : Nat) : Int) := by
                rw [← hor]
                congr 1
              have hsh : IntKind.u32.wrap ((2 : Int) ^ J) = (2 : Int) ^ J := by
                rw [IntKind.wrap_u32, show ((2 : Int) ^ J) = ((2 ^ J : Nat) : Int) by push_cast; rfl]
                omega
              have hJ32 : (J : Int) ≤ 32 := by omega
              have HV : Hid (bitsAt l K (J + 1) = V + 2 ^ J) := by
                show bitsAt l K (J + 1) = V + 2 ^ J
                rw [hsuc, hb, Nat.mul_one]
              have hbd : decide (bitN l E = 1) = true := decide_eq_true hb
              rw [hbd] at HBt
              clear hor hV hEs hsuc hVl hE2 hb hbd A2
              go_wp2_with fail
              refine HBt.out.mono ?_
              rintro e w3 ⟨rfl, rfl⟩
              go_wp2_with fail
              go_roundw
              case rel => exact ⟨J + 1, by omega, rfl, by rw [HV.out]; push_cast; rfl, trivial⟩
              case measure => simp [intOf]; omega
            · have HV : Hid (bitsAt l K (J + 1) = V) := by
                show bitsAt l K (J + 1) = V
                rw [hsuc, show bitN l E = 0 by omega, Nat.mul_zero, Nat.add_zero]
              have hbd : decide (bitN l E = 1) = false := decide_eq_false hb
              rw [hbd] at HBt
              clear hV hEs hsuc hVl hE2 hb hbd A2
              go_wp2_with fail
              refine HBt.out.mono ?_
              rintro e w3 ⟨rfl, rfl⟩
              go_wp2_with fail
              go_roundw
              case rel => exact ⟨J + 1, by omega, rfl, by rw [HV.out], trivial⟩
              case measure => simp [intOf]; omega
          · obtain rfl : J = n := by omega
            have hws : IntKind.u64.wrap ((K : Int) + (J : Int)) = ((K + J : Nat) : Int) := by rw [IntKind.wrap_u64]; omega
            have hwk : IntKind.i64.wrap ((k : Int) + 1) = ((k + 1 : Nat) : Int) := by rw [IntKind.wrap_i64]; omega
            go_wp2_with fail
            go_roundw
            case rel => exact ⟨k + 1, K + J, y, by omega, rfl, rfl, by omega, A2, I2, hy, HB.out.trans B2⟩
            case measure => simp [intOf]; omega
    · have hltI : (ns.length : Int) ≤ (k : Int) := by omega
      go_wp2_with fail
      go_ret
      exact ⟨rfl, B⟩
end Go.Proofs.YbulkxmoDoor
