/-
  copyChecks.
-/
import Derived.Test.YbulkxmaFmtW5
import Derived.Deep.RegionHeld3
namespace Go.Proofs.YbulkxmaFmt
open Go.RowKit Go.Stop

theorem clone_any (s : ByteArray) (w : World) (hs : s.size ≤ 281474976710656) : Calls Ybaf.prog 25 #[.string s] w fun e w' => e = .returned (.string s) ∧ Below w.heap.size w w' := by
  go_enter Ybaf.func25, Ybaf.ntmps25
  go_wp2_with fail
  refine (Ybaf.stringslite_Clone s _ hs).mono ?_
  rintro e w1 ⟨rfl, hb⟩
  go_wp2
  go_ret
  exact ⟨rfl, hb⟩

/-- a copy of a host's checks -/
def Copied (l : List Chk) (w : World) (e : Ending) (w' : World) : Prop :=
  ∃ v, e = .returned v ∧ XsAt w' v l ∧ (l.length = 0 → v = .slice none 0 0) ∧ Below w.heap.size w w'

theorem copy_zero (c gc : Nat) (ac : Option Addr) (N cc n1 n2 o : Nat) (n3 : Bool) (w : World) (h2 : w.cell? ⟨c, 2, none⟩ = some (.slice ac N cc)) (hac : 0 < N → ac = some ⟨gc, 0, none⟩) (hN : o ≤ N) (hc : N ≤ cc) :
    Calls Ybaf.prog 17 #[.pointer (some ⟨c, 0, none⟩), .agg #[.int .u32 n1, .int .u32 n2, .int .u32 o, .int .u32 o, .bool n3]] w (Copied [] w) := by
  have hl := World.block_lt_of_cell? w _ h2
  go_enter Ybaf.func17, Ybaf.ntmps17
  go_wp2_with fail
  refine (checksOf_any c gc ac N cc n1 n2 o o n3 _ ?_ hac (by omega) hN hc).mono ?_
  · go_simp
  rintro e w1 ⟨sa, sc, rfl, hsa, hb⟩
  have HB : Below w.heap.size w w1 := ((Below.refl _ _).alloc (Nat.le_refl _) _).trans (hb.mono (by simp))
  rw [Nat.sub_self]
  clear hb hsa
  go_wp2
  go_ret
  exact ⟨_, rfl, ⟨0, none, 0, rfl, fun h => by simp at h, fun i hi => by simp at hi⟩, fun _ => rfl, HB⟩

theorem new_cell_drew (X : World) (c : Array Value) (t : TypeId) (k j : Nat) (v : Value) (hk : k = X.heap.size) (hv : c[j]? = some v) : ((X.alloc (.cells c t)).drew).cell? ⟨k, j, none⟩ = some v :=
  cell_at (w := X.alloc (.cells c t)) (heap_new X _ _ hk) hv

/-- a piece of a string -/
theorem run_cut (Z : ByteArray) (i j : Int) (a b : Nat) (hi : i = a) (hj : j = b) (hab : a ≤ b) (hb : b ≤ Z.size) (w : World) :
    (Instr.slice 9 (.string Z) (some (.int .u32 i)) (some (.int .u32 j)) none).run Ybaf.prog w = .ok (.string (Z.extract a b)) w := by
  subst hi hj
  have := run_slice_string (P := Ybaf.prog) w 9 Z .u32 .u32 (a : Int) (b : Int) Ybaf.underlying9 (by omega) (by omega) (by omega)
  simpa using this

/-- the row that is being filled: so many checks are there -/
structure CRow (w : World) (G n k : Nat) (l : List Chk) : Prop where
  there : ∀ j, j < n * 5 → (w.cell? ⟨G, j, none⟩).isSome = true ∧ w.frozen? ⟨G, j, none⟩ = false
  done : ∀ j (hj : j < l.length), j < k → XAt w G (j * 5) l[j]

theorem CRow.start (w : World) (M : Array Value) (n : Nat) (l : List Chk) (hM : M.size = n * 5) : CRow (w.alloc (.cells M 64)) w.heap.size n 0 l := by
  refine ⟨fun j hj => ⟨?_, frozen_at (heap_new w _ _ rfl)⟩, fun j _ h => by omega⟩
  rw [cell_at (heap_new w _ _ rfl) (Array.getElem?_eq_getElem (by omega))]
  rfl

theorem CRow.alloc {w : World} {G n k : Nat} {l : List Chk} (h : CRow w G n k l) (hG : G < w.heap.size) (o : Obj) : CRow (w.alloc o) G n k l := by
  have hc : ∀ j, (w.alloc o).cell? ⟨G, j, none⟩ = w.cell? ⟨G, j, none⟩ := fun j => World.cell?_of_block (Below.heap_alloc w o G hG)
  have hf : ∀ j, (w.alloc o).frozen? ⟨G, j, none⟩ = w.frozen? ⟨G, j, none⟩ := fun j => World.frozen?_of_block (Below.heap_alloc w o G hG)
  refine ⟨fun j hj => ⟨by rw [hc]; exact (h.there j hj).1, by rw [hf]; exact (h.there j hj).2⟩, fun j hj hk => ?_⟩
  obtain ⟨c0, c1, c2, c3, c4⟩ := h.done j hj hk
  exact ⟨(hc _).trans c0, (hc _).trans c1, (hc _).trans c2, (hc _).trans c3, (hc _).trans c4⟩

theorem XAt.drew {w : World} {g o : Nat} {c : Chk} (h : XAt w g o c) : XAt w.drew g o c := ⟨h.c0, h.c1, h.c2, h.c3, h.c4⟩
theorem CRow.drew {w : World} {G n k : Nat} {l : List Chk} (h : CRow w G n k l) : CRow w.drew G n k l := ⟨h.there, fun j hj hk => (h.done j hj hk).drew⟩

theorem CRow.put {w : World} {G n k : Nat} {l : List Chk} (h : CRow w G n k l) (hk : k < n) (hl : k < l.length) :
    CRow (w.setCells G (k * 5) l[k].xcells) G n (k + 1) l := by
  have hin := World.cell?_setCells_in G l[k].xcells (k * 5) w (fun j hj => (h.there _ (by rw [Chk.xcells_len] at hj; omega)).1)
  have hout : ∀ j, (j < k * 5 ∨ k * 5 + 5 ≤ j) → (w.setCells G (k * 5) l[k].xcells).cell? ⟨G, j, none⟩ = w.cell? ⟨G, j, none⟩ := fun j hj => World.cell?_setCells_out G _ _ w _ (fun _ _ => by rw [Chk.xcells_len]; exact hj)
  refine ⟨fun j hj => ⟨?_, by rw [World.frozen?_setCells]; exact (h.there j hj).2⟩, fun j hj hk' => ?_⟩
  · by_cases hj' : j < k * 5 ∨ k * 5 + 5 ≤ j
    · rw [hout j hj']; exact (h.there j hj).1
    · have := hin (j - k * 5) (by rw [Chk.xcells_len]; omega)
      rw [show k * 5 + (j - k * 5) = j by omega] at this
      rw [this]; rfl
  · by_cases e : j = k
    · subst e
      exact ⟨hin 0 (by rw [Chk.xcells_len]; omega), hin 1 (by rw [Chk.xcells_len]; omega), hin 2 (by rw [Chk.xcells_len]; omega), hin 3 (by rw [Chk.xcells_len]; omega), hin 4 (by rw [Chk.xcells_len]; omega)⟩
    · obtain ⟨c0, c1, c2, c3, c4⟩ := h.done j hj (by omega)
      exact ⟨(hout _ (by omega)).trans c0, (hout _ (by omega)).trans c1, (hout _ (by omega)).trans c2, (hout _ (by omega)).trans c3, (hout _ (by omega)).trans c4⟩

theorem below_setCells {B G : Nat} {w0 : World} (hB : B ≤ G) : ∀ (vs : List Value) (o : Nat) (w : World), Below B w0 w → Below B w0 (w.setCells G o vs)
  | [], _, _, h => h
  | v :: vs, o, _, h => below_setCells hB vs (o + 1) _ (h.setCell hB v)

theorem size_setCells (G : Nat) : ∀ (vs : List Value) (o : Nat) (w : World), (w.setCells G o vs).heap.size = w.heap.size
  | [], _, _ => rfl
  | v :: vs, o, _ => (size_setCells G vs (o + 1) _).trans (by simp [World.setCell])

set_option maxRecDepth 100000 in
set_option maxHeartbeats 1000000 in
theorem copy_pos (c gc : Nat) (ac : Option Addr) (N cc n1 n2 o n t F : Nat) (n3 : Bool) (T : ByteArray) (l : List Chk) (K : Nat → Ck) (w : World) (h0 : w.cell? ⟨c, 0, none⟩ = some (.string T)) (h2 : w.cell? ⟨c, 2, none⟩ = some (.slice ac N cc)) (hac : 0 < N → ac = some ⟨gc, 0, none⟩) (hN : o + n ≤ N) (hc : N ≤ cc)
    (hn : 0 < n) (hn2 : n ≤ 1024) (hln : l.length = n) (htf : t + F ≤ T.size) (hT : T.size ≤ 536870916) (hck : ∀ i, i < n → CkAt w gc (o * 7 + i * 7) (K i)) (hk0 : (K 0).ks = t) (hk1 : (K (n - 1)).de = t + F)
    (hin : ∀ i, i < n → t ≤ (K i).ks ∧ (K i).ks ≤ (K i).ke ∧ (K i).ke ≤ (K i).de ∧ (K i).de ≤ t + F)
    (hid : ∀ i (hi : i < l.length), (K i).id = l[i].id ∧ (K i).lls = l[i].lls ∧ (K i).mt = l[i].mt ∧ (T.extract t (t + F)).extract ((K i).ks - t) ((K i).ke - t) = l[i].key ∧ (T.extract t (t + F)).extract ((K i).ke - t) ((K i).de - t) = l[i].delay) :
    Calls Ybaf.prog 17 #[.pointer (some ⟨c, 0, none⟩), .agg #[.int .u32 n1, .int .u32 n2, .int .u32 o, .int .u32 ((o + n : Nat) : Int), .bool n3]] w (Copied l w) := by
  have hl := World.block_lt_of_cell? w _ h2
  have hlg := World.block_lt_of_cell? w _ (hck 0 hn).c0
  have HCK := hck
  have HIN : Hid (∀ i, i < n → t ≤ (K i).ks ∧ (K i).ks ≤ (K i).ke ∧ (K i).ke ≤ (K i).de ∧ (K i).de ≤ t + F) := hin
  have HID : Hid (∀ i (hi : i < l.length), (K i).id = l[i].id ∧ (K i).lls = l[i].lls ∧ (K i).mt = l[i].mt ∧ (T.extract t (t + F)).extract ((K i).ks - t) ((K i).ke - t) = l[i].key ∧ (T.extract t (t + F)).extract ((K i).ke - t) ((K i).de - t) = l[i].delay) := hid
  have HLN : Hid (l.length = n) := hln
  have HCKh : Hid (∀ i, i < n → CkAt w gc (o * 7 + i * 7) (K i)) := hck
  clear HCK hin hid hln hck
  go_enter Ybaf.func17, Ybaf.ntmps17
  go_wp2_with fail
  refine (checksOf_any c gc ac N cc n1 n2 o (o + n) n3 _ ?_ hac (by omega) hN hc).mono ?_
  · go_simp
  rintro e w1 ⟨sa, sc, rfl, hsa, hb⟩
  have HB : Below w.heap.size w w1 := ((Below.refl _ _).alloc (Nat.le_refl _) _).trans (hb.mono (by simp))
  rw [Nat.add_sub_cancel_left]
  have hsa' := hsa (by omega)
  have hi0 := run_at47 hsa' n sc 0 0 rfl hn
  have hi1 := run_at47 hsa' n sc (n - 1) ((n : Int) - 1) (by omega) (by omega)
  rw [Nat.zero_mul, Nat.add_zero] at hi0
  have hks1 : w1.cell? ⟨gc, o * 7 + 1, none⟩ = some (.int .u32 t) := by
    have := ((HCKh.out 0 hn).below HB).c1
    rw [hk0, Nat.zero_mul, Nat.add_zero] at this
    exact this
  have hde1 : w1.cell? ⟨gc, o * 7 + (n - 1) * 7 + 3 + 1, none⟩ = some (.int .u32 ((t : Int) + (F : Int))) := by
    have := ((HCKh.out (n - 1) (by omega)).below HB).c4
    rw [hk1, Int.natCast_add] at this
    exact this
  have ht1 := (HB.cell (p := ⟨c, 0, none⟩) hl).trans h0
  have hn0 : ((n : Int) == 0) = false := by simp; omega
  have hlc := World.block_lt_of_cell? w1 _ ht1
  have hlgc := World.block_lt_of_cell? w1 _ hks1
  have HSA : Hid (sa = some ⟨gc, o * 7, none⟩) := hsa'
  clear hb hsa hsa' h2 hac h0 hk0 hk1
  have b1 : (0 : Int) ≤ (t : Int) := by omega
  have b2 : (t : Int) ≤ (t : Int) + (F : Int) := by omega
  have b3 : (t : Int) + (F : Int) ≤ (T.size : Int) := by omega
  have hwr : IntKind.i64.wrap ((n : Int) - 1) = (n : Int) - 1 := by rw [IntKind.wrap_i64]; omega
  go_wp2_with fail
  go_region_held3 (fun w' => w'.cell? ⟨c, 0, none⟩ = some (.string T) ∧ w'.cell? ⟨gc, o * 7 + (n - 1) * 7 + 3 + 1, none⟩ = some (.int .u32 ((t : Int) + (F : Int))))
    (first | go_keep | (go_split_ands; refine ⟨?_, ?_⟩ <;> (rw [hbC.cell (by simp; omega)]; assumption)))
    ((go_at_call 25; refine (clone_any _ _ ?_).mono ?_; (simp; omega); rintro e w2 ⟨rfl, hbC⟩))
  have HB2 : Below w.heap.size w w2 := HB.drew.trans (hbC.mono HB.size)
  clear hbC HB hks1 hde1 ht1 hi0 hi1 hwr hlgc hlc
  rw [show ((t : Int) + (F : Int)).toNat = t + F by omega]
  have hZs : (T.extract t (t + F)).size = F := by rw [ByteArray.size_extract]; omega
  generalize T.extract t (t + F) = Z at *
  obtain ⟨i0, hi, hz0, hz1, hz2⟩ := info_parts Ybaf.info64
  obtain ⟨M, hMs, hmk⟩ : ∃ M : Array Value, M.size = n * 5 ∧ ∀ W : World, (Instr.makeSlice 26 (.int .i64 (n : Int)) (.int .i64 (n : Int))).run Ybaf.prog W = .ok (.slice (some ⟨W.heap.size, 0, none⟩) n n) (W.alloc (.cells M 64)) := by
    refine ⟨_, size_madeCells (Value.agg #[.int .u64 0, .string ⟨#[]⟩, .string ⟨#[]⟩, .int .u64 0, .int .i64 0]).cells (n * 5), fun W => ?_⟩
    have h := run_make (P := Ybaf.prog) W 26 64 i0 _ Ybaf.underlying26 hi hz0 .i64 .i64 (n : Int) (n : Int) (by omega) (by omega) (by rw [hz2]; omega) (by omega)
    rw [hz1] at h
    simpa using h
  clear hi hz0 hz1 hz2
  go_wp2
  have hG : w.heap.size ≤ w2.heap.size := HB2.size
  go_loopw [42] (fun i wr => ∃ k : Nat, k ≤ n ∧ i = .int .i64 k ∧ CRow wr w2.heap.size n k l ∧ Below w.heap.size w wr ∧ w2.heap.size < wr.heap.size) (fun i _ => n - (intOf i).toNat)
  case atStart => exact ⟨0, by omega, rfl, CRow.start w2 M n l hMs, HB2.alloc HB2.size _, by simp⟩
  case round =>
    obtain ⟨k, hk, rfl, hrow, hbel, hGr⟩ := hrel
    by_cases hlt : k < n
    · have hix := run_at47 HSA.out n sc k (k : Int) rfl hlt
      obtain ⟨d0, d1, d2, d3, d4, d5, d6⟩ := (HCKh.out k hlt).below hbel
      obtain ⟨m1, m2, m3, m4⟩ := HIN.out k hlt
      obtain ⟨e1, e2, e3, e4, e5⟩ := HID.out k (by rw [HLN.out]; exact hlt)
      have hxc : Hid (l[k]'(by rw [HLN.out]; exact hlt) = ⟨(l[k]'(by rw [HLN.out]; exact hlt)).host, (K k).id, Z.extract ((K k).ks - t) ((K k).ke - t), Z.extract ((K k).ke - t) ((K k).de - t), (K k).lls, (K k).mt⟩) := by show _ = _; rw [e1, e2, e3, e4, e5]
      clear e1 e2 e3 e4 e5
      generalize K k = Y at *
      obtain ⟨t0, f0⟩ := hrow.there (k * 5) (by omega)
      obtain ⟨t1, f1⟩ := hrow.there (k * 5 + 1) (by omega)
      obtain ⟨t2, f2⟩ := hrow.there (k * 5 + 2) (by omega)
      obtain ⟨t3, f3⟩ := hrow.there (k * 5 + 3) (by omega)
      obtain ⟨t4, f4⟩ := hrow.there (k * 5 + 4) (by omega)
      obtain ⟨u0, t0⟩ := Option.isSome_iff_exists.1 t0
      obtain ⟨u1, t1⟩ := Option.isSome_iff_exists.1 t1
      obtain ⟨u2, t2⟩ := Option.isSome_iff_exists.1 t2
      obtain ⟨u3, t3⟩ := Option.isSome_iff_exists.1 t3
      obtain ⟨u4, t4⟩ := Option.isSome_iff_exists.1 t4
      have g1 : (0 : Int) ≤ (k : Int) := by omega
      have g2 : (k : Int) < (n : Int) := by omega
      have s1 : (0 : Int) ≤ (Y.ks : Int) - (t : Int) := by omega
      have s2 : (Y.ks : Int) - (t : Int) ≤ (Y.ke : Int) - (t : Int) := by omega
      have s3 : (Y.ke : Int) - (t : Int) ≤ (Z.size : Int) := by omega
      have s4 : (0 : Int) ≤ (Y.ke : Int) - (t : Int) := by omega
      have s5 : (Y.ke : Int) - (t : Int) ≤ (Y.de : Int) - (t : Int) := by omega
      have s6 : (Y.de : Int) - (t : Int) ≤ (Z.size : Int) := by omega
      have v1 : IntKind.u32.wrap ((Y.ks : Int) - (t : Int)) = (Y.ks : Int) - (t : Int) := by rw [IntKind.wrap_u32]; omega
      have v2 : IntKind.u32.wrap ((Y.ke : Int) - (t : Int)) = (Y.ke : Int) - (t : Int) := by rw [IntKind.wrap_u32]; omega
      have v3 : IntKind.u32.wrap ((Y.de : Int) - (t : Int)) = (Y.de : Int) - (t : Int) := by rw [IntKind.wrap_u32]; omega
      have x1 := run_cut Z ((Y.ks : Int) - (t : Int)) ((Y.ke : Int) - (t : Int)) (Y.ks - t) (Y.ke - t) (by omega) (by omega) (by omega) (by omega)
      have x2 := run_cut Z ((Y.ke : Int) - (t : Int)) ((Y.de : Int) - (t : Int)) (Y.ke - t) (Y.de - t) (by omega) (by omega) (by omega) (by omega)
      have hne : w2.heap.size ≠ wr.heap.size := by omega
      go_wp2_with fail
      go_region_held3 (fun w' => w'.cell? ⟨wr.heap.size, 0, none⟩ = some (.int .u64 Y.id) ∧ w'.cell? ⟨wr.heap.size, 1, none⟩ = some (.int .u32 Y.ks) ∧ w'.cell? ⟨wr.heap.size, 2, none⟩ = some (.int .u32 Y.ke) ∧ w'.cell? ⟨wr.heap.size, 3, none⟩ = some (.int .u32 Y.ke) ∧ w'.cell? ⟨wr.heap.size, 4, none⟩ = some (.int .u32 Y.de) ∧ w'.cell? ⟨wr.heap.size, 5, none⟩ = some (.int .u64 Y.lls) ∧ w'.cell? ⟨wr.heap.size, 6, none⟩ = some (.int .i64 Y.mt))
        (first | (go_keep; done) | (go_split_ands; refine ⟨?_, ?_, ?_, ?_, ?_, ?_, ?_⟩ <;> exact new_cell_drew _ _ _ _ _ _ (by simp [World.setCell]) rfl)) (fail)
      clear t0 t1 t2 t3 t4 f0 f1 f2 f3 f4 d0 d1 d2 d3 d4 d5 d6 hix x1 x2 v1 v2 v3
      go_wp2
      go_roundw
      case rel =>
        have hkl : k < l.length := by rw [HLN.out]; exact hlt
        have hput := hrow.put hlt hkl
        have hxs : l[k].xcells = [.int .u64 Y.id, .string (Z.extract (Y.ks - t) (Y.ke - t)), .string (Z.extract (Y.ke - t) (Y.de - t)), .int .u64 Y.lls, .int .i64 Y.mt] := by rw [hxc.out]; rfl
        rw [hxs] at hput
        have hB3 := below_setCells hG [.int .u64 Y.id, .string (Z.extract (Y.ks - t) (Y.ke - t)), .string (Z.extract (Y.ke - t) (Y.de - t)), .int .u64 Y.lls, .int .i64 Y.mt] (k * 5) wr hbel
        have hs3 := size_setCells w2.heap.size [.int .u64 Y.id, .string (Z.extract (Y.ks - t) (Y.ke - t)), .string (Z.extract (Y.ke - t) (Y.de - t)), .int .u64 Y.lls, .int .i64 Y.mt] (k * 5) wr
        refine ⟨k + 1, by omega, by go_num, (hput.alloc (by rw [hs3]; exact hGr) _).drew, (hB3.alloc hB3.size _).drew, ?_⟩
        simp [World.setCell]
        omega
      case measure => simp [intOf]; omega
    · obtain rfl : k = n := by omega
      go_wp2
      go_ret
      exact ⟨_, rfl, ⟨w2.heap.size, _, _, by rw [HLN.out]; rfl, fun _ => rfl, fun i hi => hrow.done i hi (by rw [HLN.out] at hi; exact hi)⟩, fun h => by rw [HLN.out] at h; omega, hbel⟩

theorem bytes_ext {a b : ByteArray} (h : a.data.toList = b.data.toList) : a = b := by
  apply ByteArray.ext
  exact Array.toList_inj.1 h

theorem extract_list (a : ByteArray) (i j : Nat) : (a.extract i j).data.toList = (a.data.toList.drop i).take (j - i) := by
  simp

theorem copyChecks_any (c gh gc : Nat) (ah ac : Option Addr) (ch cc : Nat) (p m : Nat → Bool) (xs : List Chk) (q : Nat) (hq : q < 4) (hp : p q = true) (hok : okB xs = true) (w : World) (C : CfgAt w c gh gc ah ac ch cc (St.build p m xs 4)) :
    Calls Ybaf.prog 17 #[.pointer (some ⟨c, 0, none⟩), .agg #[.int .u32 (recOf p m xs q).ns, .int .u32 (recOf p m xs q).ne, .int .u32 (recOf p m xs q).cs, .int .u32 (recOf p m xs q).ce, .bool (recOf p m xs q).mon]] w (Copied (mine q xs) w) := by
  have hle := rec_le p m xs q hq hp
  rcases Nat.eq_zero_or_pos (mine q xs).length with h0 | hpos
  · have e0 : mine q xs = [] := List.length_eq_zero_iff.1 h0
    have ec : (recOf p m xs q).ce = (recOf p m xs q).cs := by show (recOf p m xs q).cs + _ = _; rw [h0]; rfl
    rw [e0, ec]
    exact copy_zero c gc ac _ cc _ _ _ _ w C.c2 C.ac (by show fst p m xs q ≤ _; omega) C.hc
  · have ht := text_bound p m xs hok
    obtain ⟨ht1, ht2⟩ := txt_flat p m xs q hq hp
    have hm := mine_le q xs
    have hl := okB_len hok
    have hT : (⟨(St.build p m xs 4).b.toArray⟩ : ByteArray).size = (St.build p m xs 4).b.length := by simp [ByteArray.size]
    refine copy_pos c gc ac _ cc _ _ (fst p m xs q) (mine q xs).length (txt p m xs q) (flat (mine q xs)).length _ ⟨(St.build p m xs 4).b.toArray⟩ (mine q xs) (fun i => ckOf p m xs q i ((mine q xs).getD i Chk.blank)) w C.c0 C.c2 C.ac hle C.hc hpos (by omega) rfl (by rw [hT]; exact ht1) (by rw [hT]; exact ht) ?_ ?_ ?_ ?_ ?_
    · intro i hi
      have := ck_at C hq hp i hi
      rw [show (mine q xs).getD i Chk.blank = (mine q xs)[i] by simp [List.getD, List.getElem?_eq_getElem hi]]
      exact this
    · simp [ckOf, flat]
    · rw [show (mine q xs).getD ((mine q xs).length - 1) Chk.blank = (mine q xs)[(mine q xs).length - 1] by simp [List.getD, List.getElem?_eq_getElem (show (mine q xs).length - 1 < (mine q xs).length by omega)]]
      have := flat_take_succ (mine q xs) ((mine q xs).length - 1) (by omega)
      rw [show (mine q xs).length - 1 + 1 = (mine q xs).length by omega, List.take_length] at this
      simp only [ckOf]
      omega
    · intro i hi
      rw [show (mine q xs).getD i Chk.blank = (mine q xs)[i] by simp [List.getD, List.getElem?_eq_getElem hi]]
      have h1 := flat_take_succ (mine q xs) i hi
      have h2 := flat_take_le (mine q xs) (i + 1)
      simp only [ckOf]
      omega
    · intro i hi
      rw [show (mine q xs).getD i Chk.blank = (mine q xs)[i] by simp [List.getD, List.getElem?_eq_getElem hi]]
      obtain ⟨k1, k2⟩ := flat_cut (mine q xs) i hi
      have hZ : ((⟨(St.build p m xs 4).b.toArray⟩ : ByteArray).extract (txt p m xs q) (txt p m xs q + (flat (mine q xs)).length)).data.toList = flat (mine q xs) := by
        rw [extract_list, Nat.add_sub_cancel_left]
        exact ht2
      refine ⟨rfl, rfl, rfl, bytes_ext ?_, bytes_ext ?_⟩
      · rw [extract_list, hZ]
        simp only [ckOf]
        rw [show txt p m xs q + (flat ((mine q xs).take i)).length - txt p m xs q = (flat ((mine q xs).take i)).length by omega, show txt p m xs q + (flat ((mine q xs).take i)).length + (mine q xs)[i].klen - txt p m xs q - (flat ((mine q xs).take i)).length = (mine q xs)[i].klen by omega]
        exact k1
      · rw [extract_list, hZ]
        simp only [ckOf]
        rw [show txt p m xs q + (flat ((mine q xs).take i)).length + (mine q xs)[i].klen - txt p m xs q = (flat ((mine q xs).take i)).length + (mine q xs)[i].klen by omega, show txt p m xs q + (flat ((mine q xs).take i)).length + (mine q xs)[i].klen + (mine q xs)[i].dlen - txt p m xs q - ((flat ((mine q xs).take i)).length + (mine q xs)[i].klen) = (mine q xs)[i].dlen by omega]
        exact k2
end Go.Proofs.YbulkxmaFmt
