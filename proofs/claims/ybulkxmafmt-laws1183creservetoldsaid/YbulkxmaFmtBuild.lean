import Derived.Test.YbulkxmaFmtMem
import Derived.Deep.RegionHeld3
import Derived.Test.YbulkxmaFmtLast
namespace Go.Proofs.YbulkxmaFmt
open Go.RowKit

theorem BInv.start (w : World) (p m : Nat → Bool) (xs : List Chk) :
    BInv w ((((w.alloc (.cells #[.bool (p 0), .bool (p 1), .bool (p 2), .bool (p 3)] 22)).alloc (.cells #[.bool (m 0), .bool (m 1), .bool (m 2), .bool (m 3)] 22)).alloc
      (.cells #[.slice none 0 0, .slice none 0 0, .slice none 0 0, .slice none 0 0] 27)).alloc (.cells #[.slice none 0 0, .slice none 0 0, .slice none 0 0, .slice none 0 0] 27))
      p m (.slice none 0 0) (.slice none 0 0) (.slice none 0 0) (fun _ => .slice none 0 0) (St.build p m xs 0) (fun j => if j < 0 then expd p xs j else []) := by
  refine ⟨((((Below.refl _ _).alloc (Nat.le_refl _) _).alloc (by simp) _).alloc (by simp <;> omega) _).alloc (by simp <;> omega) _, ?_, ?_, ?_, ?_, World.ownsRow_nil .., World.ownsRow_nil .., World.ownsRow_nil .., fun j => ?_, fun _ _ _ => .inl rfl⟩
  · rw [Below.heap_alloc _ _ _ (by simp <;> omega), Below.heap_alloc _ _ _ (by simp <;> omega), Below.heap_alloc _ _ _ (by simp)]; exact heap_new _ _ _ rfl
  · rw [Below.heap_alloc _ _ _ (by simp <;> omega), Below.heap_alloc _ _ _ (by simp)]; exact heap_new _ _ _ (by simp)
  · rw [Below.heap_alloc _ _ _ (by simp)]; exact heap_new _ _ _ (by simp)
  · exact heap_new _ _ _ (by simp)
  · exact World.ownsRow_nil ..

theorem es_yes {p : Nat → Bool} {xs : List Chk} {h : Nat} (hp : p h = true) : (fun j => if j < h + 1 then expd p xs j else []) = (fun j => if j = h then mine h xs else if j < h then expd p xs j else []) := by
  funext j
  by_cases h2 : j = h
  · subst h2; simp [expd, hp]
  · by_cases h1 : j < h
    · simp [h1, h2, Nat.lt_succ_of_lt h1]
    · rw [if_neg (by omega), if_neg h2, if_neg h1]

theorem es_start {p : Nat → Bool} {xs : List Chk} {h : Nat} : (fun j => if j = h then mine h (xs.take 0) else if j < h then expd p xs j else []) = (fun j => if j < h then expd p xs j else []) := by
  funext j
  by_cases h2 : j = h
  · subst h2; simp [mine]
  · simp [h2]

theorem build_host {p m : Nat → Bool} {xs : List Chk} {h : Nat} {s T : St} (hs : St.build p m xs h = s) (hT : (s.named h).inner h xs = T) (hp : p h = true) :
    St.build p m xs (h + 1) = { T with hosts := T.hosts ++ [⟨s.b.length, s.b.length + 1, s.checks.length, T.checks.length, m h⟩] } := by
  subst hs hT
  show (St.build p m xs h).host p m xs h = _
  unfold St.host
  rw [if_pos hp, inner_eq]
  rfl

theorem bools_at {p : Nat → Bool} {h : Nat} (hh : h < 4) : (#[Value.bool (p 0), .bool (p 1), .bool (p 2), .bool (p 3)] : Array Value)[h]? = some (.bool (p h)) := by
  obtain rfl | rfl | rfl | rfl : h = 0 ∨ h = 1 ∨ h = 2 ∨ h = 3 := by omega
  all_goals rfl
theorem vals_at {v : Nat → Value} {h : Nat} (hh : h < 4) : (#[v 0, v 1, v 2, v 3] : Array Value)[h]? = some (v h) := by
  obtain rfl | rfl | rfl | rfl : h = 0 ∨ h = 1 ∨ h = 2 ∨ h = 3 := by omega
  all_goals rfl

theorem es_no {p : Nat → Bool} {xs : List Chk} {h : Nat} (hp : p h = false) : (fun j => if j < h + 1 then expd p xs j else []) = (fun j => if j < h then expd p xs j else []) := by
  funext j
  by_cases h1 : j < h
  · simp [h1, Nat.lt_succ_of_lt h1]
  · by_cases h2 : j = h
    · subst h2; simp [expd, hp]
    · rw [if_neg (by omega), if_neg h1]

set_option linter.unusedSimpArgs false in
set_option maxRecDepth 100000 in
set_option maxHeartbeats 1000000 in
theorem build_any (p m : Nat → Bool) (a : Option Addr) (cap : Nat) (xs : List Chk) (w : World) (hx : IsChks w a xs) (hok : okB xs = true) :
    Calls Ybaf.prog 6 #[bools p, bools m, .slice a xs.length cap] w fun e w' => ∃ c vh vc ve, e = .returned (.tuple #[.pointer (some ⟨c, 0, none⟩), .agg #[ve 0, ve 1, ve 2, ve 3]]) ∧ Built w w' p m xs c vh vc ve := by
  have hl : xs.length ≤ 1024 := okB_len hok
  have HX : Hid (∀ x ∈ xs, x.klen ≤ 65536 ∧ x.dlen ≤ 65536) := okB_sizes hok
  clear hok
  unfold bools
  go_enter Ybaf.func6, Ybaf.ntmps6
  go_wp2
  go_loopw [9, 10, 11, 12] (fun vb vh vc i wr => ∃ (h : Nat) (ve : Nat → Value), h ≤ 4 ∧ i = .int .i64 h ∧ BInv w wr p m vb vh vc ve (St.build p m xs h) (fun j => if j < h then expd p xs j else [])) (fun _ _ _ i _ => 4 - (intOf i).toNat)
  case atStart => exact ⟨0, _, by omega, rfl, BInv.start w p m xs⟩
  case round =>
    obtain ⟨h, ve, hh, rfl, I⟩ := hrel
    by_cases hlt : h < 4
    · have hpc := cell_at I.pc (bools_at hlt)
      have hmc := cell_at I.mc (bools_at hlt)
      cases hp : p h with
      | false =>
        rw [hp] at hpc
        have HP : Hid (p h = false) := hp
        clear hp
        go_wp2
        go_roundw
        case rel =>
          refine ⟨h + 1, ve, by omega, by go_num, ?_⟩
          rw [build_no HP.out, es_no HP.out]
          exact I
        case measure => simp [intOf]; omega
      | true =>
        rw [hp] at hpc
        have HP : Hid (p h = true) := hp
        clear hp
        obtain ⟨ab, cb, rfl⟩ := own_form I.b
        obtain ⟨ac, cc, rfl⟩ := own_form I.c
        generalize hs : St.build p m xs h = s at *
        have HS : Hid (St.build p m xs h = s) := hs
        clear hs
        obtain ⟨hb1, hb2, hb3⟩ : s.b.length ≤ 402653187 ∧ s.checks.length ≤ 3072 ∧ s.hosts.length ≤ 3 := by
          have := HS.out ▸ build_bounds p m xs _ (flat_mine_le xs hl HX.out) h
          have m1 : h * 134217729 ≤ 3 * 134217729 := Nat.mul_le_mul_right _ (by omega)
          have m2 : h * xs.length ≤ 3 * 1024 := Nat.mul_le_mul (by omega) hl
          exact ⟨Nat.le_trans this.1 m1, Nat.le_trans this.2.1 m2, by omega⟩
        have hn1 := nameOf_len h
        go_wp2_with (first | (go_at_call 9; refine (name_any _ _).mono ?_; rintro e w' ⟨rfl, rfl⟩) | (at_builtin; refine append_bytes (by rfl) (.tmp 31) (.tmp 33) (by rfl) (w.heap.size + 4) _ s.b _ (by rfl) (by rfl) I.b ⟨(nameOf h).toArray⟩ (by rfl) ?_ ?_ ?_))
        · show s.b.length + (nameOf h).length ≤ _; omega
        · exact I.size
        intro ao co w1 ho1 hg1
        have I1 := I.grow_b hg1 ho1 (by rw [List.length_append, hn1])
        have hmc1 := cell_at I1.mc (bools_at hlt)
        clear hg1 ho1 hpc hmc I
        go_wp2_with fail
        have hz1 := I1.size
        have HV : Hid (u10.ownBlock ≠ some w1.heap.size) := fun e => by have := (I1.h.lt _ e).2; omega
        go_loopw [9, 11, 52] (fun vb vc j wr => ∃ (k : Nat) (ve : Nat → Value), k ≤ xs.length ∧ j = .int .i64 k ∧
            BInv w wr p m vb u10 vc ve ((s.named h).inner h (xs.take k)) (fun j => if j = h then mine h (xs.take k) else if j < h then expd p xs j else []) ∧
            wr.heap[w1.heap.size]? = some (.cells #[.int .u32 s.b.length, .int .u32 (s.b.length + 1), .int .u32 s.checks.length, .int .u32 0, .bool (m h)] 71 (0, 0)))
          (fun _ _ j _ => xs.length - (intOf j).toNat)
        case atStart =>
          refine ⟨0, ve, by omega, rfl, ?_, ?_⟩
          · rw [es_start]
            exact I1.alloc _
          · exact heap_new _ _ _ rfl
        case round =>
          obtain ⟨k, ve, hk, rfl, I, hhb⟩ := hrel
          by_cases hklt : k < xs.length
          · obtain ⟨x, ha⟩ : ∃ x, a = some x := by
              cases ha : a with
              | none => have := hx.nil ha; subst this; simp at hklt
              | some x => exact ⟨x, rfl⟩
            obtain ⟨hsp, hat⟩ := hx.at_ x ha k hklt
            have hbl := hx.lt x ha (by intro h; subst h; simp at hklt)
            obtain ⟨h0, h1, h2, h3, h4, h5⟩ := hat.below I.below hbl
            have hix := run_at ha hsp xs.length cap k hklt
            have HA : Hid (a = some x) := ha
            clear ha hat
            have hho := (hx.ok xs[k] (List.getElem_mem hklt)).host
            cases hmi : isMine h xs[k] with
            | false =>
              have HM : Hid (isMine h xs[k] = false) := hmi
              have htst : (xs[k].host % 4 != (h : Int)) = true := by unfold isMine at hmi; simpa using hmi
              clear hmi
              go_wp2
              go_roundw
              case rel =>
                have et : xs.take (k + 1) = xs.take k ++ [xs[k]] := List.take_succ_eq_append_getElem hklt
                refine ⟨k + 1, ve, by omega, by go_num, ?_, keep_alloc hhb _⟩
                have e1 : (s.named h).inner h (xs.take (k + 1)) = (s.named h).inner h (xs.take k) := by
                  rw [et, inner_snoc]
                  simp [St.step, HM.out]
                rw [e1, et, mine_snoc_no HM.out]
                exact I.alloc _
              case measure => simp [intOf]; omega
            | true =>
              have HM : Hid (isMine h xs[k] = true) := hmi
              have htst : (xs[k].host % 4 != (h : Int)) = false := by unfold isMine at hmi; simpa using hmi
              clear hmi
              obtain ⟨ab', cb', rfl⟩ := own_form I.b
              obtain ⟨ac', cc', rfl⟩ := own_form I.c
              obtain ⟨ht1, ht2, ht3⟩ : ((s.named h).inner h (xs.take k)).b.length ≤ 536870916 ∧ ((s.named h).inner h (xs.take k)).checks.length ≤ 4096 ∧ (mine h (xs.take k)).length ≤ 1024 := by
                have := inner_bounds h s (xs.take k) (by simp; omega) (fun x hx => HX.out x (take_sub hx))
                exact ⟨by omega, by omega, this.2.2.2⟩
              obtain ⟨hk1, hk2⟩ : xs[k].key.size ≤ 65536 ∧ xs[k].delay.size ≤ 65536 := HX.out _ (List.getElem_mem hklt)
              generalize hT : (s.named h).inner h (xs.take k) = T at *
              have HT : Hid ((s.named h).inner h (xs.take k) = T) := hT
              clear hT
              go_wp2_with (at_builtin; refine append_bytes (by rfl) (.tmp 64) (.tmp 66) (by rfl) (w.heap.size + 4) _ T.b _ (by rfl) (by rfl) (I.alloc _).b xs[k].key (by rfl) ?_ ?_ ?_)
              · omega
              · exact (I.alloc _).size
              intro ab2 cb2 w2 ho2 hg2
              have I2 := (I.alloc _).grow_b hg2 ho2 (by rw [List.length_append]; rfl)
              have hX2 := keep_block (heap_new wr _ _ rfl) hg2 (I.alloc _).b (by decide)
              have hH2 := keep_block (keep_alloc hhb _) hg2 (I.alloc _).b (by decide)
              clear hg2 ho2 h0 h1 h2 h3 h4 h5 hix hhb
              have hd2 := cell_at (k := 3) hX2 rfl
              go_wp2_with (at_builtin; refine append_bytes (by rfl) (.tmp 70) (.tmp 72) (by rfl) (w.heap.size + 4) _ (T.b ++ xs[k].key.data.toList) (T.b.length + xs[k].key.size) (by rw [List.length_append]; rfl) (by rfl) I2.b xs[k].delay (by rfl) ?_ ?_ ?_)
              · omega
              · exact I2.size
              intro ab3 cb3 w3 ho3 hg3
              have I3 := I2.grow_b hg3 ho3 (by rw [List.length_append, List.length_append, ← Nat.add_assoc]; rfl)
              have hX3 := keep_block hX2 hg3 I2.b (by decide)
              have hH3 := keep_block hH2 hg3 I2.b (by decide)
              clear hg3 ho3 hd2 hX2 hH2 I2
              have hl3 := lt_of_heap hX3
              have hl3' : wr.heap.size < w3.heap.size + 1 := by omega
              have hd1 := cell_at (k := 1) hX3 rfl
              have hd4 := cell_at (k := 4) hX3 rfl
              have hd5 := cell_at (k := 5) hX3 rfl
              go_wp2_with (at_builtin; refine append_one Ck.cells 47 73 7 40 _ (by rfl) (.tmp 81) (.tmp 96) (by rfl) Ybaf.underlying47 Ybaf.info73 (by rfl) (by omega) Ck.cells_len Ck.cells_one (w.heap.size + 4) _ T.checks (by rfl) ((I3.alloc _).alloc _).c (w3.heap.size + 1) 1 ⟨xs[k].id, T.b.length, T.b.length + xs[k].klen, T.b.length + xs[k].klen + xs[k].dlen, xs[k].lls, xs[k].mt⟩ (by rfl) _ _ _ (heap_new (w3.alloc _) _ _ (by simp)) ?_ ?_ ?_ ?_ ?_)
              · simp [Ck.cells, Chk.klen_eq, Chk.dlen_eq]
              · omega
              · omega
              · have := I3.size; omega
              intro g4 cap4 w4 ho4 hg4 _ _
              have I4 := ((I3.alloc _).alloc _).grow_c (cs' := T.checks ++ [⟨xs[k].id, T.b.length, T.b.length + xs[k].klen, T.b.length + xs[k].klen + xs[k].dlen, xs[k].lls, xs[k].mt⟩]) hg4 ho4 (by simp) (by simp)
              have hX4 := keep_block (keep_alloc (keep_alloc hX3 _) _) hg4 ((I3.alloc _).alloc _).c (by decide)
              have hH4 := keep_block (keep_alloc (keep_alloc hH3 _) _) hg4 ((I3.alloc _).alloc _).c (by decide)
              have hP4 := keep_block (keep_alloc (heap_new w3 _ _ rfl) _) hg4 ((I3.alloc _).alloc _).c (by decide)
              clear hg4 ho4 hd1 hd4 hd5 hX3 hH3 I3 hl3 hl3'
              have hd1 := cell_at (k := 1) hX4 rfl
              have hd2 := cell_at (k := 2) hX4 rfl
              have hd3 := cell_at (k := 3) hX4 rfl
              have hp0 := cell_at (k := 0) hP4 rfl
              have hp1 := cell_at (k := 1) hP4 rfl
              have he4 := cell_at I4.ec (vals_at hlt)
              have hf4 := frozen_at (k := h) I4.ec
              have hE4 : w4.ownsRow (w.heap.size + 4) 64 5 (ve h) (mine h (xs.take k)).length ((mine h (xs.take k)).flatMap Chk.xcells) := by have := I4.e h; simpa using this
              have hneX : (ve h).ownBlock ≠ some wr.heap.size := ownBlock_ne hX4 hE4 (by decide)
              have hneP : (ve h).ownBlock ≠ some w3.heap.size := ownBlock_ne hP4 hE4 (by decide)
              have hneE : (ve h).ownBlock ≠ some (w.heap.size + 3) := ownBlock_ne I4.ec hE4 (by decide)
              have hlX := lt_of_heap hX4
              have hlP := lt_of_heap hP4
              have hz4 := I4.size
              have hf4' : ∀ o, (w4.alloc o).frozen? ⟨w.heap.size + 1 + 1 + 1, h, none⟩ = false := fun o => (World.frozen?_alloc_old w4 o ⟨w.heap.size + 1 + 1 + 1, h, none⟩ (by show w.heap.size + 1 + 1 + 1 ≠ _; omega)).trans hf4
              have hi0 : (0 : Int) ≤ (h : Int) := by omega
              have hi1 : (h : Int) < 4 := by omega
              go_wp2_with fail
              refine wp_region_last 15 (fun w' => w'.cell? ⟨w.heap.size + 1 + 1 + 1, h, none⟩ = some (ve h) ∧ w'.frozen? ⟨w.heap.size + 1 + 1 + 1, h, none⟩ = false ∧
                  w'.cell? ⟨wr.heap.size, 1, none⟩ = some (.int .u64 xs[k].id) ∧ w'.cell? ⟨wr.heap.size, 2, none⟩ = some (.string xs[k].key) ∧ w'.cell? ⟨wr.heap.size, 3, none⟩ = some (.string xs[k].delay) ∧
                  w'.cell? ⟨w3.heap.size, 0, none⟩ = some (.int .u64 xs[k].lls) ∧ w'.cell? ⟨w3.heap.size, 1, none⟩ = some (.int .i64 xs[k].mt)) (by kernel_rfl) (by exact ⟨he4, hf4, hd1, hd2, hd3, hp0, hp1⟩) (fun hHeld => ?_)
              refine wpAnyL_take (i := 0) (v := ?_) (by kernel_rfl) (by decide) rfl (by kernel_rfl) (by kernel_rfl) (by kernel_rfl) (fun _ _ _ h => h) (Or.inl ⟨by rfl, ?_⟩) hHeld ?_
              rotate_left
              · (intro w hSw; (try dsimp only at hSw); simp only [List.getElem_toArray, List.getElem_cons_zero, List.getElem_cons_succ]; go_simp; try with_reducible rfl)
              simp only [List.getElem_toArray, List.getElem_cons_zero, List.getElem_cons_succ, Act.put, List.setIfInBounds_toArray, List.set_cons_zero, List.set_cons_succ]
              refine wpAnyL_take (i := 1) (v := ?_) (by kernel_rfl) (by decide) rfl (by kernel_rfl) (by kernel_rfl) (by kernel_rfl) (fun _ _ _ h => h) (Or.inl ⟨by rfl, ?_⟩) hHeld ?_
              rotate_left
              · (intro w hSw; (try dsimp only at hSw); simp only [List.getElem_toArray, List.getElem_cons_zero, List.getElem_cons_succ]; go_simp; try with_reducible rfl)
              simp only [List.getElem_toArray, List.getElem_cons_zero, List.getElem_cons_succ, Act.put, List.setIfInBounds_toArray, List.set_cons_zero, List.set_cons_succ]
              refine wpAnyL_take (i := 2) (v := ?_) (by kernel_rfl) (by decide) rfl (by kernel_rfl) (by kernel_rfl) (by kernel_rfl) (fun _ _ _ h => h) (Or.inl ⟨by rfl, ?_⟩) hHeld ?_
              rotate_left
              · (intro w hSw; (try dsimp only at hSw); simp only [List.getElem_toArray, List.getElem_cons_zero, List.getElem_cons_succ]; go_simp; try with_reducible rfl)
              simp only [List.getElem_toArray, List.getElem_cons_zero, List.getElem_cons_succ, Act.put, List.setIfInBounds_toArray, List.set_cons_zero, List.set_cons_succ]
              refine wpAnyL_take (i := 3) (v := ?_) (by kernel_rfl) (by decide) rfl (by kernel_rfl) (by kernel_rfl) (by kernel_rfl) (fun _ _ _ h => h) (Or.inl ⟨by rfl, ?_⟩) hHeld ?_
              rotate_left
              · (intro w hSw; (try dsimp only at hSw); simp only [List.getElem_toArray, List.getElem_cons_zero, List.getElem_cons_succ]; go_simp; try with_reducible rfl)
              simp only [List.getElem_toArray, List.getElem_cons_zero, List.getElem_cons_succ, Act.put, List.setIfInBounds_toArray, List.set_cons_zero, List.set_cons_succ]
              refine wpAnyL_take (i := 4) (v := ?_) (by kernel_rfl) (by decide) rfl (by kernel_rfl) (by kernel_rfl) (by kernel_rfl) (fun _ _ _ h => h) (Or.inl ⟨by rfl, ?_⟩) hHeld ?_
              rotate_left
              · (intro w hSw; (try dsimp only at hSw); simp only [List.getElem_toArray, List.getElem_cons_zero, List.getElem_cons_succ]; go_simp; try with_reducible rfl)
              simp only [List.getElem_toArray, List.getElem_cons_zero, List.getElem_cons_succ, Act.put, List.setIfInBounds_toArray, List.set_cons_zero, List.set_cons_succ]
              refine wpAnyL_take (i := 5) (v := ?_) (by kernel_rfl) (by decide) rfl (by kernel_rfl) (by kernel_rfl) (by kernel_rfl) (fun _ _ _ h => h) (Or.inl ⟨by rfl, ?_⟩) hHeld ?_
              rotate_left
              · (intro w hSw; (try dsimp only at hSw); simp only [List.getElem_toArray, List.getElem_cons_zero, List.getElem_cons_succ]; go_simp; try with_reducible rfl)
              simp only [List.getElem_toArray, List.getElem_cons_zero, List.getElem_cons_succ, Act.put, List.setIfInBounds_toArray, List.set_cons_zero, List.set_cons_succ]
              refine wpAnyL_take (i := 6) (v := ?_) (by kernel_rfl) (by decide) rfl (by kernel_rfl) (by kernel_rfl) (by kernel_rfl) (fun _ _ _ h => h) (Or.inl ⟨by rfl, ?_⟩) hHeld ?_
              rotate_left
              · (intro w hSw; (try dsimp only at hSw); simp only [List.getElem_toArray, List.getElem_cons_zero, List.getElem_cons_succ]; go_simp; try with_reducible rfl)
              simp only [List.getElem_toArray, List.getElem_cons_zero, List.getElem_cons_succ, Act.put, List.setIfInBounds_toArray, List.set_cons_zero, List.set_cons_succ]
              refine wpAnyL_take (i := 7) (v := ?_) (by kernel_rfl) (by decide) rfl (by kernel_rfl) (by kernel_rfl) (by kernel_rfl) (fun _ _ _ h => h) (Or.inl ⟨by rfl, ?_⟩) hHeld ?_
              rotate_left
              · (intro w hSw; (try dsimp only at hSw); simp only [List.getElem_toArray, List.getElem_cons_zero, List.getElem_cons_succ]; go_simp; try with_reducible rfl)
              simp only [List.getElem_toArray, List.getElem_cons_zero, List.getElem_cons_succ, Act.put, List.setIfInBounds_toArray, List.set_cons_zero, List.set_cons_succ]
              refine wpAnyL_take (i := 8) (v := ?_) (by kernel_rfl) (by decide) rfl (by kernel_rfl) (by kernel_rfl) (by kernel_rfl) (fun _ _ _ h => h) (Or.inl ⟨by rfl, ?_⟩) hHeld ?_
              rotate_left
              · (intro w hSw; (try dsimp only at hSw); simp only [List.getElem_toArray, List.getElem_cons_zero, List.getElem_cons_succ]; go_simp; try with_reducible rfl)
              simp only [List.getElem_toArray, List.getElem_cons_zero, List.getElem_cons_succ, Act.put, List.setIfInBounds_toArray, List.set_cons_zero, List.set_cons_succ]
              refine wpAnyL_take (i := 9) (v := ?_) (by kernel_rfl) (by decide) rfl (by kernel_rfl) (by kernel_rfl) (by kernel_rfl) (fun _ _ _ h => h) (Or.inl ⟨by rfl, ?_⟩) hHeld ?_
              rotate_left
              · (intro w hSw; (try dsimp only at hSw); simp only [List.getElem_toArray, List.getElem_cons_zero, List.getElem_cons_succ]; go_simp; try with_reducible rfl)
              simp only [List.getElem_toArray, List.getElem_cons_zero, List.getElem_cons_succ, Act.put, List.setIfInBounds_toArray, List.set_cons_zero, List.set_cons_succ]
              refine wpAnyL_take (i := 10) (v := ?_) (by kernel_rfl) (by decide) rfl (by kernel_rfl) (by kernel_rfl) (by kernel_rfl) (fun _ _ _ h => h) (Or.inl ⟨by rfl, ?_⟩) hHeld ?_
              rotate_left
              · (intro w hSw; (try dsimp only at hSw); simp only [List.getElem_toArray, List.getElem_cons_zero, List.getElem_cons_succ]; go_simp; try with_reducible rfl)
              simp only [List.getElem_toArray, List.getElem_cons_zero, List.getElem_cons_succ, Act.put, List.setIfInBounds_toArray, List.set_cons_zero, List.set_cons_succ]
              refine wpAnyL_take (i := 11) (v := ?_) (by kernel_rfl) (by decide) rfl (by kernel_rfl) (by kernel_rfl) (by kernel_rfl) (fun _ _ _ h => h) (Or.inl ⟨by rfl, ?_⟩) hHeld ?_
              rotate_left
              · (intro w hSw; (try dsimp only at hSw); simp only [List.getElem_toArray, List.getElem_cons_zero, List.getElem_cons_succ]; go_simp; try with_reducible rfl)
              simp only [List.getElem_toArray, List.getElem_cons_zero, List.getElem_cons_succ, Act.put, List.setIfInBounds_toArray, List.set_cons_zero, List.set_cons_succ]
              refine wpAnyL_one (i := 12) (by kernel_rfl) rfl rfl (fun K hK => ?_)
              simp only [List.getElem_toArray, List.getElem_cons_zero, List.getElem_cons_succ]
              go_simp
              refine hK.out _ _ ?_ ?_
              · go_keep
              clear hK K
              refine wpAnyL_one (i := 13) (by kernel_rfl) rfl rfl (fun K hK => ?_)
              simp only [List.getElem_toArray, List.getElem_cons_zero, List.getElem_cons_succ]
              refine append_one_wp Chk.xcells 26 64 5 56 _ (.tmp 101) (.tmp 110) (by rfl) Ybaf.underlying26 Ybaf.info64 (by rfl) (by omega) Chk.xcells_len Chk.xcells_one (w.heap.size + 4) (ve h) (mine h (xs.take k)) (by rfl) ((hE4.alloc _).drew) w4.heap.size 1 xs[k] (by rfl) _ _ _ (heap_new w4 _ _ rfl) (by rfl) (by omega) (by omega) (by simp; omega) ?_
              intro g5 cap5 w5 ho5 hg5 hat5 hlt5
              have hl5 : ∀ b, b < w4.heap.size → b < (w4.alloc (.cells #[.int .u64 xs[k].id, .string xs[k].key, .string xs[k].delay, .int .u64 xs[k].lls, .int .i64 xs[k].mt] 64)).drew.heap.size := by intro b hb; simp; omega
              have hHeld5 : w5.cell? ⟨w.heap.size + 1 + 1 + 1, h, none⟩ = some (ve h) ∧ w5.frozen? ⟨w.heap.size + 1 + 1 + 1, h, none⟩ = false ∧
                  w5.cell? ⟨wr.heap.size, 1, none⟩ = some (.int .u64 xs[k].id) ∧ w5.cell? ⟨wr.heap.size, 2, none⟩ = some (.string xs[k].key) ∧ w5.cell? ⟨wr.heap.size, 3, none⟩ = some (.string xs[k].delay) ∧
                  w5.cell? ⟨w3.heap.size, 0, none⟩ = some (.int .u64 xs[k].lls) ∧ w5.cell? ⟨w3.heap.size, 1, none⟩ = some (.int .i64 xs[k].mt) := by
                refine ⟨?_, ?_, ?_, ?_, ?_, ?_, ?_⟩
                · rw [hg5.cell_far _ (hl5 _ (by show w.heap.size + 1 + 1 + 1 < _; omega)) (Ne.symm hneE)]; go_keep
                · rw [hg5.frozen_far _ (hl5 _ (by show w.heap.size + 1 + 1 + 1 < _; omega)) (Ne.symm hneE)]; go_keep
                · rw [hg5.cell_far _ (hl5 _ hlX) (Ne.symm hneX)]; go_keep
                · rw [hg5.cell_far _ (hl5 _ hlX) (Ne.symm hneX)]; go_keep
                · rw [hg5.cell_far _ (hl5 _ hlX) (Ne.symm hneX)]; go_keep
                · rw [hg5.cell_far _ (hl5 _ hlP) (Ne.symm hneP)]; go_keep
                · rw [hg5.cell_far _ (hl5 _ hlP) (Ne.symm hneP)]; go_keep
              refine hK.out _ _ hHeld5 ?_
              clear hK K hHeld
              have hHeld := hHeld5
              clear hHeld5
              simp only [Act.put, List.setIfInBounds_toArray, List.set_cons_zero, List.set_cons_succ]
              refine wpAnyL_take (i := 14) (v := ?_) (by kernel_rfl) (by decide) rfl (by kernel_rfl) (by kernel_rfl) (by kernel_rfl) (fun _ _ _ h => h) (Or.inl ⟨by rfl, ?_⟩) hHeld ?_
              rotate_left
              · (intro w hSw; (try dsimp only at hSw); simp only [List.getElem_toArray, List.getElem_cons_zero, List.getElem_cons_succ]; go_simp; try with_reducible rfl)
              simp only [List.getElem_toArray, List.getElem_cons_zero, List.getElem_cons_succ, Act.put, List.setIfInBounds_toArray, List.set_cons_zero, List.set_cons_succ]
              refine wpAnyL_end (by kernel_rfl) rfl rfl (by kernel_rfl) (fun K hK => ?_)
              simp only [List.getElem_toArray, List.getElem_cons_zero, List.getElem_cons_succ]
              obtain ⟨hhe, hhf, _⟩ := hHeld
              go_simp
              refine hK.out _ _ ?_
              clear hK K
              have I5 := ((I4.alloc _).drew).grow_e (l := mine h (xs.take k) ++ [xs[k]]) hlt hg5 (by simpa using ho5) (by simpa using hat5)
              have hH5 : (w5.setCell ⟨w.heap.size + 3, h, none⟩ (.slice (some ⟨g5, 0, none⟩) (mine h (xs.take k) ++ [xs[k]]).length cap5)).heap[w1.heap.size]? = some (.cells #[.int .u32 s.b.length, .int .u32 (s.b.length + 1), .int .u32 s.checks.length, .int .u32 0, .bool (m h)] 71 (0, 0)) := by
                rw [Below.heap_setCell _ _ _ _ (by show w1.heap.size ≠ w.heap.size + 3; omega)]
                exact keep_block (w := (w4.alloc _).drew) (keep_alloc hH4 _) hg5 ((hE4.alloc _).drew) (by decide)
              have en : (mine h (xs.take k) ++ [xs[k]]).length = (mine h (xs.take k)).length + 1 := by simp
              rw [en] at hH5 I5
              clear en
              clear hg5 ho5 hat5 hlt5 hhe hhf hE4 hneE hneX hneP hf4 hf4' he4 hd1 hd2 hd3 hp0 hp1 hX4 hH4 hP4 I4 hlX hlP hz4 hl5
              go_wp2
              go_roundw
              case rel =>
                have et : xs.take (k + 1) = xs.take k ++ [xs[k]] := List.take_succ_eq_append_getElem hklt
                refine ⟨k + 1, (fun j => if j = h then .slice (some ⟨g5, 0, none⟩) ((mine h (xs.take k)).length + 1) cap5 else ve j), by omega, by go_num, ?_, ?_⟩
                rotate_left
                · exact hH5
                · have e1 : (s.named h).inner h (xs.take (k + 1)) = { b := T.b ++ (xs[k].key.data.toList ++ xs[k].delay.data.toList), hosts := T.hosts, checks := T.checks ++ [⟨xs[k].id, T.b.length, T.b.length + xs[k].klen, T.b.length + xs[k].klen + xs[k].dlen, xs[k].lls, xs[k].mt⟩] } := by
                    rw [et, inner_snoc, HT.out]
                    simp [St.step, HM.out, St.chk]
                  have e2 : (fun j => if j = h then mine h (xs.take (k + 1)) else if j < h then expd p xs j else []) = (fun j => if j = h then mine h (xs.take k) ++ [xs[k]] else (fun j => if j = h then mine h (xs.take k) else if j < h then expd p xs j else []) j) := by
                    funext j
                    by_cases hj : j = h
                    · simp only [hj, if_true, et, mine_snoc_yes HM.out]
                    · simp only [hj, if_false]
                  rw [e1, e2]
                  exact I5
              case measure => simp [intOf]; omega
          · obtain rfl : k = xs.length := by omega
            rw [List.take_length] at I
            obtain ⟨ac', cc', rfl⟩ := own_form I.c
            obtain ⟨ht2, ht3⟩ : ((s.named h).inner h xs).checks.length ≤ 4096 ∧ ((s.named h).inner h xs).hosts.length ≤ 3 := by
              have := inner_bounds h s xs hl HX.out
              rw [this.2.2.1]
              exact ⟨by omega, hb3⟩
            have hc0 := cell_at (k := 0) hhb rfl
            have hc1 := cell_at (k := 1) hhb rfl
            have hc2 := cell_at (k := 2) hhb rfl
            have hc3 := cell_at (k := 3) hhb rfl
            have hc4 := cell_at (k := 4) hhb rfl
            have hf3 := frozen_at (k := 3) hhb
            generalize hT : (s.named h).inner h xs = T at *
            have HT : Hid ((s.named h).inner h xs = T) := hT
            clear hT
            have I6 : BInv w (wr.setCell ⟨w1.heap.size, 3, none⟩ (.int .u32 T.checks.length)) p m _ u10 _ ve T _ := I.setOther hz1 (ownBlock_ne hhb I.b (by decide)) HV.out (ownBlock_ne hhb I.c (by decide)) (fun j => ownBlock_ne hhb (I.e j) (by decide)) _
            go_wp2_with (at_builtin; refine append_one Hst.cells 46 71 5 20 _ (by rfl) (.tmp 119) (.tmp 121) (by rfl) Ybaf.underlying46 Ybaf.info71 (by rfl) (by omega) Hst.cells_len Hst.cells_one (w.heap.size + 4) u10 T.hosts (by rfl) (I6.alloc _).h wr.heap.size 1 ⟨s.b.length, s.b.length + 1, s.checks.length, T.checks.length, m h⟩ (by rfl) _ _ _ (heap_new _ _ _ (by simp)) ?_ ?_ ?_ ?_ ?_)
            · simp [Hst.cells]
            · omega
            · omega
            · exact (I6.alloc _).size
            intro g7 cap7 w7 ho7 hg7 _ _
            have I7 := (I6.alloc _).grow_h (hs' := T.hosts ++ [⟨s.b.length, s.b.length + 1, s.checks.length, T.checks.length, m h⟩]) hg7 ho7 (by simp) (by simp)
            clear hg7 ho7 I6 I hhb hc0 hc1 hc2 hc3 hc4 hf3
            go_wp2
            go_roundw
            case rel =>
              refine ⟨h + 1, ve, by omega, by go_num, ?_⟩
              rw [build_host HS.out HT.out HP.out, es_yes HP.out]
              exact I7
            case measure => simp [intOf]; omega
    · obtain rfl : h = 4 := by omega
      obtain ⟨ab, cb, rfl⟩ := own_form I.b
      obtain ⟨ah, ch, rfl⟩ := own_form I.h
      obtain ⟨ac, cc, rfl⟩ := own_form I.c
      obtain ⟨a0, c0, hv0⟩ : ∃ ao c, ve 0 = .slice ao (expd p xs 0).length c := own_form (I.e 0)
      obtain ⟨a1, c1, hv1⟩ : ∃ ao c, ve 1 = .slice ao (expd p xs 1).length c := own_form (I.e 1)
      obtain ⟨a2, c2, hv2⟩ : ∃ ao c, ve 2 = .slice ao (expd p xs 2).length c := own_form (I.e 2)
      obtain ⟨a3, c3, hv3⟩ : ∃ ao c, ve 3 = .slice ao (expd p xs 3).length c := own_form (I.e 3)
      have hec : ∀ W : World, W.heap[w.heap.size + 3]? = wr.heap[w.heap.size + 3]? → W.cell? ⟨w.heap.size + 1 + 1 + 1, 0, none⟩ = some (.slice a0 (expd p xs 0).length c0) ∧ W.cell? ⟨w.heap.size + 1 + 1 + 1, 1, none⟩ = some (.slice a1 (expd p xs 1).length c1) ∧ W.cell? ⟨w.heap.size + 1 + 1 + 1, 2, none⟩ = some (.slice a2 (expd p xs 2).length c2) ∧ W.cell? ⟨w.heap.size + 1 + 1 + 1, 3, none⟩ = some (.slice a3 (expd p xs 3).length c3) := by
        intro W hW
        rw [← hv0, ← hv1, ← hv2, ← hv3]
        have := hW.trans I.ec
        exact ⟨cell_at this rfl, cell_at this rfl, cell_at this rfl, cell_at this rfl⟩
      have HEC := hec
      clear hec
      have HV : Hid (ve 0 = .slice a0 (expd p xs 0).length c0 ∧ ve 1 = .slice a1 (expd p xs 1).length c1 ∧ ve 2 = .slice a2 (expd p xs 2).length c2 ∧ ve 3 = .slice a3 (expd p xs 3).length c3) := ⟨hv0, hv1, hv2, hv3⟩
      clear hv0 hv1 hv2 hv3
      generalize hs : St.build p m xs 4 = s at *
      have HS : Hid (St.build p m xs 4 = s) := hs
      clear hs
      have hr0 := fun o => cell_at (k := 0) (I.alloc o).rc rfl
      have hr1 := fun o => cell_at (k := 1) (I.alloc o).rc rfl
      have hr2 := fun o => cell_at (k := 2) (I.alloc o).rc rfl
      have hr3 := fun o => cell_at (k := 3) (I.alloc o).rc rfl
      have hf0 := fun o => frozen_at (k := 0) (I.alloc o).rc
      have hf1 := fun o => frozen_at (k := 1) (I.alloc o).rc
      have hf2 := fun o => frozen_at (k := 2) (I.alloc o).rc
      have hf3 := fun o => frozen_at (k := 3) (I.alloc o).rc
      have hHeld0 := And.intro (conv_own I.drew.b) (HEC wr.drew rfl)
      have hHeld1 := And.intro (conv_own ((I.alloc (.cells #[.string ⟨s.b.toArray⟩, .slice ah s.hosts.length ch, .slice ac s.checks.length cc] 49)).drew).b) (HEC (wr.alloc (.cells #[.string ⟨s.b.toArray⟩, .slice ah s.hosts.length ch, .slice ac s.checks.length cc] 49)).drew (Below.heap_alloc wr _ _ (by have := I.size; omega)))
      have HE : Hid (∀ W : World, W.heap[w.heap.size + 3]? = wr.heap[w.heap.size + 3]? → True) := fun _ _ => trivial
      clear HEC HE
      go_wp2_with fail
      refine wp_region_last 8 (fun w' => (convert 67 9 (.slice ab s.b.length cb)).run Ybaf.prog w' = .ok (.string ⟨s.b.toArray⟩) w' ∧ w'.cell? ⟨w.heap.size + 1 + 1 + 1, 0, none⟩ = some (.slice a0 (expd p xs 0).length c0) ∧ w'.cell? ⟨w.heap.size + 1 + 1 + 1, 1, none⟩ = some (.slice a1 (expd p xs 1).length c1) ∧ w'.cell? ⟨w.heap.size + 1 + 1 + 1, 2, none⟩ = some (.slice a2 (expd p xs 2).length c2) ∧ w'.cell? ⟨w.heap.size + 1 + 1 + 1, 3, none⟩ = some (.slice a3 (expd p xs 3).length c3)) (by kernel_rfl) (by exact hHeld0) (fun hHeld => ?_)
      clear hHeld0
      refine wpAnyL_take (i := 0) (v := ?_) (by kernel_rfl) (by decide) rfl (by kernel_rfl) (by kernel_rfl) (by kernel_rfl) (fun _ _ _ h => h) (Or.inl ⟨by rfl, ?_⟩) hHeld ?_
      rotate_left
      · (intro w hSw; (try dsimp only at hSw); simp only [List.getElem_toArray, List.getElem_cons_zero, List.getElem_cons_succ]; go_simp; try with_reducible rfl)
      simp only [List.getElem_toArray, List.getElem_cons_zero, List.getElem_cons_succ, Act.put, List.setIfInBounds_toArray, List.set_cons_zero, List.set_cons_succ]
      refine wpAnyL_take (i := 1) (v := ?_) (by kernel_rfl) (by decide) rfl (by kernel_rfl) (by kernel_rfl) (by kernel_rfl) (fun _ _ _ h => h) (Or.inl ⟨by rfl, ?_⟩) hHeld ?_
      rotate_left
      · (intro w hSw; (try dsimp only at hSw); simp only [List.getElem_toArray, List.getElem_cons_zero, List.getElem_cons_succ]; go_simp; try with_reducible rfl)
      simp only [List.getElem_toArray, List.getElem_cons_zero, List.getElem_cons_succ, Act.put, List.setIfInBounds_toArray, List.set_cons_zero, List.set_cons_succ]
      refine wpAnyL_take (i := 2) (v := ?_) (by kernel_rfl) (by decide) rfl (by kernel_rfl) (by kernel_rfl) (by kernel_rfl) (fun _ _ _ h => h) (Or.inl ⟨by rfl, ?_⟩) hHeld ?_
      rotate_left
      · (intro w hSw; (try dsimp only at hSw); simp only [List.getElem_toArray, List.getElem_cons_zero, List.getElem_cons_succ]; go_simp; try with_reducible rfl)
      simp only [List.getElem_toArray, List.getElem_cons_zero, List.getElem_cons_succ, Act.put, List.setIfInBounds_toArray, List.set_cons_zero, List.set_cons_succ]
      refine wpAnyL_take (i := 3) (v := ?_) (by kernel_rfl) (by decide) rfl (by kernel_rfl) (by kernel_rfl) (by kernel_rfl) (fun _ _ _ h => h) (Or.inl ⟨by rfl, ?_⟩) hHeld ?_
      rotate_left
      · (intro w hSw; (try dsimp only at hSw); simp only [List.getElem_toArray, List.getElem_cons_zero, List.getElem_cons_succ]; go_simp; try with_reducible rfl)
      simp only [List.getElem_toArray, List.getElem_cons_zero, List.getElem_cons_succ, Act.put, List.setIfInBounds_toArray, List.set_cons_zero, List.set_cons_succ]
      refine wpAnyL_take (i := 6) (v := ?_) (by kernel_rfl) (by decide) rfl (by kernel_rfl) (by kernel_rfl) (by kernel_rfl) (fun _ _ _ h => h) (Or.inl ⟨by rfl, ?_⟩) hHeld ?_
      rotate_left
      · (intro w hSw; (try dsimp only at hSw); simp only [List.getElem_toArray, List.getElem_cons_zero, List.getElem_cons_succ]; go_simp; try with_reducible rfl)
      simp only [List.getElem_toArray, List.getElem_cons_zero, List.getElem_cons_succ, Act.put, List.setIfInBounds_toArray, List.set_cons_zero, List.set_cons_succ]
      refine wpAnyL_take (i := 4) (v := ?_) (by kernel_rfl) (by decide) rfl (by kernel_rfl) (by kernel_rfl) (by kernel_rfl) (fun _ _ _ h => h) (Or.inl ⟨by rfl, ?_⟩) hHeld ?_
      rotate_left
      · (intro w hSw; (try dsimp only at hSw); simp only [List.getElem_toArray, List.getElem_cons_zero, List.getElem_cons_succ]; go_simp; try with_reducible rfl)
      simp only [List.getElem_toArray, List.getElem_cons_zero, List.getElem_cons_succ, Act.put, List.setIfInBounds_toArray, List.set_cons_zero, List.set_cons_succ]
      refine wpAnyL_one (i := 5) (by kernel_rfl) rfl rfl (fun K hK => ?_)
      simp only [List.getElem_toArray, List.getElem_cons_zero, List.getElem_cons_succ]
      go_simp
      refine hK.out _ _ hHeld1 ?_
      clear hK K hHeld
      have hHeld := hHeld1
      clear hHeld1
      refine wpAnyL_take (i := 7) (v := ?_) (by kernel_rfl) (by decide) rfl (by kernel_rfl) (by kernel_rfl) (by kernel_rfl) (fun _ _ _ h => h) (Or.inl ⟨by rfl, ?_⟩) hHeld ?_
      rotate_left
      · (intro w hSw; (try dsimp only at hSw); simp only [List.getElem_toArray, List.getElem_cons_zero, List.getElem_cons_succ]; go_simp; try with_reducible rfl)
      simp only [List.getElem_toArray, List.getElem_cons_zero, List.getElem_cons_succ, Act.put, List.setIfInBounds_toArray, List.set_cons_zero, List.set_cons_succ]
      refine wpAnyL_end (by kernel_rfl) rfl rfl (by kernel_rfl) (fun K hK => ?_)
      simp only [List.getElem_toArray, List.getElem_cons_zero, List.getElem_cons_succ]
      go_simp
      refine hK.out _ _ ?_
      clear hK K hHeld
      go_wp2
      clear hr0 hr1 hr2 hr3 hf0 hf1 hf2 hf3
      rw [← HS.out] at I
      obtain ⟨B, hres⟩ := I.done (.slice a0 (expd p xs 0).length c0) (.slice a1 (expd p xs 1).length c1) (.slice a2 (expd p xs 2).length c2) (.slice a3 (expd p xs 3).length c3) _ rfl
      rw [HS.out] at B hres
      have q0 := cell_at (k := 0) hres rfl
      have q1 := cell_at (k := 1) hres rfl
      have q2 := cell_at (k := 2) hres rfl
      have q3 := cell_at (k := 3) hres rfl
      obtain ⟨hv0, hv1, hv2, hv3⟩ := HV.out
      refine bodyPost_ret (v := .tuple #[.pointer (some ⟨wr.heap.size, 0, none⟩), .agg #[.slice a0 (expd p xs 0).length c0, .slice a1 (expd p xs 1).length c1, .slice a2 (expd p xs 2).length c2, .slice a3 (expd p xs 3).length c3]]) (by simp [results, Ybaf.results6, go_sem, q0, q1, q2, q3]) rfl ⟨wr.heap.size, _, _, ve, by rw [hv0, hv1, hv2, hv3], B⟩

end Go.Proofs.YbulkxmaFmt
