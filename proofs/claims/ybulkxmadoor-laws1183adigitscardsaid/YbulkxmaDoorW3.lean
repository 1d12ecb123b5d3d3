/-
  LawS1183ADigits walked: the text that it builds lies in a block of its own.
-/
import Derived.Test.YbulkxmaDoorData
import Derived.Lib.AppendStr
import Derived.Deep.AppendLies
namespace Go.Proofs.YbulkxmaDoor
open Go.RowKit

def byteVals (l : List UInt8) : List Value := l.map fun b => .int .u8 b.toNat

theorem Ybad.info5 : (Ybad.prog.info? 5).map (fun i => (i.zero, i.size, i.bytes)) = some (some (.int .u8 0), 1, 1) := by kernel_rfl

/-- bytes of the call's own -/
structure Row (w0 w : World) (v : Value) (l : List UInt8) : Prop where
  below : Below w0.heap.size w0 w
  own : w.ownsRow w0.heap.size 5 1 v l.length (byteVals l)

theorem Row.alloc {w0 w : World} {v : Value} {l : List UInt8} (h : Row w0 w v l) (o : Obj) : Row w0 (w.alloc o) v l := ⟨h.below.alloc h.below.size _, h.own.alloc o⟩

theorem append_byte {ops : Array Oper} {rest : List Oper} {o : Oper} {a : Act} {w : World} {Q : Exit → Act → World → Prop} (hgd : o.guard = none) (sl x : Operand)
    (ho : o.op = .call { callee := .builtin .append, args := #[sl, x], argTypes := #[22, 22] }) (w0 : World) (v : Value) (l : List UInt8) (hs : a.eval sl = v) (hR : Row w0 w v l) (B c : Nat) (y : UInt8) (hx : a.eval x = .slice (some ⟨B, 0, none⟩) 1 c)
    (ca : Array Value) (te : TypeId) (fr : Nat × Nat) (hB : w.heap[B]? = some (.cells ca te fr)) (hca : ca.toList = [.int .u8 y.toNat]) (hlen : l.length ≤ 1000000)
    (h : ∀ ao cap w', Row w0 w' (.slice ao (l.length + 1) cap) (l ++ [y]) → wpList Ybad.prog ops Q rest (a.put o.dst (.slice ao (l.length + 1) cap)) w') :
    wpList Ybad.prog ops Q (o :: rest) a w := by
  obtain ⟨i, hi, hz0, hz1, hz2⟩ := info_parts Ybad.info5
  refine wpList_append_lies w hgd sl x 22 ho w0.heap.size 5 i (.int .u8 0) 1 1 Ybad.underlying22 hi hz0 hz1 hz2 (by rfl) (by omega) v l.length (byteVals l) hs hR.own ⟨B, 0, none⟩ 1 c [.int .u8 y.toNat] hx (by simp) ?_ (by simp [Value.oneCell']) (by omega) (by unfold maxLen; omega) (by omega) hR.below.size w.heap.size rfl ?_
  · rw [← hca]; exact World.news_of_block hB
  · intro g cap w' h1 h2 h3 h4
    refine h _ cap w' ⟨hR.below.grown h2 hR.below.size (fun k hk => (hR.own.lt k hk).1), ?_⟩
    have e1 : (l ++ [y]).length = l.length + 1 := by simp
    have e2 : byteVals (l ++ [y]) = byteVals l ++ [.int .u8 y.toNat] := by simp [byteVals]
    rw [e1, e2]; exact h1

/-- as the readers see it -/
theorem Row.bts {w0 w : World} {ao : Option Addr} {n cap : Nat} {l : List UInt8} (h : Row w0 w (.slice ao n cap) l) : n = l.length ∧ ∃ b o, Bts w ao b o cap l := by
  rcases h.own.2 with ⟨e, h0⟩ | ⟨g, c, cur, e, _, _, hcap, _⟩
  · injection e with e1 e2 e3
    subst e1 e2 e3
    obtain rfl := List.length_eq_zero_iff.1 h0
    exact ⟨rfl, 0, 0, by simp, by simp, by simp⟩
  · injection e with e1 e2 e3
    subst e1 e2 e3
    refine ⟨rfl, g, 0, fun _ => rfl, fun i hi => ?_, hcap⟩
    have := h.own.cells (g := g) rfl i (.int .u8 l[i].toNat) (by simp [byteVals, List.getElem?_map, List.getElem?_eq_getElem hi])
    rw [add_cell _ _ rfl] at this
    simpa using this

theorem heap_new (w : World) (o : Obj) (k : Nat) (h : k = w.heap.size) : (w.alloc o).heap[k]? = some o := by subst h; exact heap_alloc_new w o

/-- the byte that a number stands for -/
def dgB (u : UInt8) : UInt8 := (⟨#[48, 49, 50, 51, 52, 53, 54, 55, 56, 57, 120]⟩ : ByteArray)[u.toNat % 11]'(by show _ < 11; omega)

/-- the text after k rounds -/
def txt (pre l : List UInt8) (k : Nat) : List UInt8 := pre ++ (l.take k).map dgB
theorem txt_zero (pre l : List UInt8) : txt pre l 0 = pre := by simp [txt]
theorem txt_len (pre l : List UInt8) (k : Nat) (h : k ≤ l.length) : (txt pre l k).length = k + pre.length := by simp [txt]; omega
theorem txt_succ (pre l : List UInt8) (k : Nat) (hlt : k < l.length) : txt pre l (k + 1) = txt pre l k ++ [dgB l[k]] := by
  unfold txt
  rw [List.take_add_one, List.getElem?_eq_getElem hlt, List.map_append, List.append_assoc]
  rfl

set_option maxRecDepth 100000 in
set_option maxHeartbeats 4000000 in
theorem dig_walk (sel sg : Int) (a : Option Addr) (b o cap : Nat) (l : List UInt8) (q : Bool) (w : World) (h : Bts w a b o cap l) (hm : l.length ≤ maxLen) (hE : Errs w) (h0 : 0 ≤ sel) (h1 : sel ≤ 255) (h2 : 0 ≤ sg) (h3 : sg ≤ 255) :
    Calls Ybad.prog 4 #[.int .u8 sel, .int .u8 sg, .slice a l.length cap, .bool q] w fun e w' => e = .returned (.bool true) ∧ Below w.heap.size w w' := by
  unfold maxLen at hm
  by_cases hl : l.length ≤ 1024
  · obtain ⟨i0, hi, hz0, hz1, hz2⟩ := info_parts Ybad.info5
    obtain ⟨M, hMs, hmk⟩ : ∃ M : Array Value, M.size = (l.length + 2) * 1 ∧ ∀ W : World, (Instr.makeSlice 22 (.int .i64 0) (.int .i64 ((l.length : Int) + 2))).run Ybad.prog W = .ok (.slice (some ⟨W.heap.size, 0, none⟩) 0 (l.length + 2)) (W.alloc (.cells M 5)) := by
      refine ⟨_, size_madeCells (Value.int .u8 0).cells ((l.length + 2) * 1), fun W => ?_⟩
      have h := run_make (P := Ybad.prog) W 22 5 i0 _ Ybad.underlying22 hi hz0 .i64 .i64 0 ((l.length : Int) + 2) (by omega) (by omega) (by rw [hz2]; omega) (by omega)
      have e : ((l.length : Int) + 2).toNat = l.length + 2 := by omega
      rw [hz1] at h
      simpa [e] using h
    clear hi hz0 hz1 hz2
    have hR0 : Row w (w.alloc (.cells M 5)) (.slice (some ⟨w.heap.size, 0, none⟩) 0 (l.length + 2)) [] := ⟨(Below.refl _ _).alloc (Nat.le_refl _) _, World.ownsRow_made w M (l.length + 2) (Nat.le_refl _) (by unfold maxLen; omega) hMs⟩
    have h3s : sg % 3 = 0 ∨ sg % 3 = 1 ∨ sg % 3 = 2 := by omega
    cases q
    · rcases h3s with hs | hs | hs
      · have e1 : (sg % 3 == 1) = false := by rw [hs]; rfl
        have e2 : (sg % 3 == 2) = false := by rw [hs]; rfl
        clear hs
        go_enter Ybad.func4, Ybad.ntmps4
        go_wp2
        go_loopw [9, 10] (fun bv i wr => ∃ (k : Nat) (ao : Option Addr) (c : Nat), k ≤ l.length ∧ i = .int .i64 k ∧ bv = .slice ao (k) c ∧ Row w wr bv (txt ([] : List UInt8) l k)) (fun _ i _ => l.length - (intOf i).toNat)
        case atStart => exact ⟨0, _, _, by omega, rfl, rfl, by rw [txt_zero]; exact hR0⟩
        case round =>
          obtain ⟨k, ao, c, hk, rfl, rfl, hR⟩ := hrel
          by_cases hlt : k < l.length
          · have hB := h.below hR.below
            have hix := run_at22 (hB.ad (by intro e; rw [e] at hlt; simp at hlt)) l.length cap k (k : Int) rfl hlt
            have hc := hB.cells k hlt
            have hby := byte_le l[k]
            have htk : Hid (txt ([] : List UInt8) l (k + 1) = txt ([] : List UInt8) l k ++ [dgB l[k]]) := txt_succ _ l k hlt
            have htl : Hid ((txt ([] : List UInt8) l k).length = k) := txt_len _ l k hk
            generalize l[k] = Y at *
            generalize txt ([] : List UInt8) l k = T at *
            have hTb : Hid (T.length ≤ 1000000) := by show T.length ≤ _; rw [htl.out]; omega
            go_wp2_with (at_builtin; refine append_byte (by rfl) (.tmp 42) (.tmp 50) (by rfl) w _ T (by rfl) (hR.alloc _) wr.heap.size 1 (dgB Y) (by rfl) _ _ _ (heap_new _ _ _ rfl) (by rfl) hTb.out ?_)
            intro ao2 c2 w2 hR2
            rw [htl.out] at hR2 ⊢
            go_wp2
            go_roundw
            case rel => exact ⟨k + 1, _, _, by omega, by go_num, by rfl, by rw [htk.out]; exact hR2⟩
            case measure => simp [intOf]; omega
          · have hke : k = l.length := by omega
            subst hke
            have hbel := hR.below
            obtain ⟨hn, bb, oo, hB⟩ := hR.bts
            rw [hn]
            generalize hT : txt ([] : List UInt8) l l.length = T at *
            have hTl : T.length ≤ 4096 := by omega
            clear hT hn hR
            go_wp2_with fail
            refine (holds_any _ ao bb oo c T wr hB hTl (hE.below hbel)).mono ?_
            rintro e w2 ⟨rfl, hb2⟩
            rw [holds_model]
            go_wp2_with fail
            refine (model_any _ ao bb oo c T w2 (hB.below hb2) hTl).mono ?_
            rintro e w3 ⟨rfl, rfl⟩
            have HB := hbel.trans (hb2.mono hbel.size)
            go_wp2
            go_ret
            exact ⟨by simp, HB⟩
      · have e1 : (sg % 3 == 1) = true := by rw [hs]; rfl
        have e2 : (sg % 3 == 2) = false := by rw [hs]; rfl
        clear hs
        go_enter Ybad.func4, Ybad.ntmps4
        go_wp2_with (at_builtin; refine append_byte (by rfl) (.tmp 28) (.tmp 29) (by rfl) w _ [] (by rfl) (hR0.alloc _) (w.heap.size + 1) 1 45 (by rfl) _ _ _ (heap_new _ _ _ (by simp)) (by rfl) (by simp) ?_)
        intro ao2 c2 w2 hR2
        go_wp2
        go_loopw [9, 10] (fun bv i wr => ∃ (k : Nat) (ao : Option Addr) (c : Nat), k ≤ l.length ∧ i = .int .i64 k ∧ bv = .slice ao (k + 1) c ∧ Row w wr bv (txt ([45] : List UInt8) l k)) (fun _ i _ => l.length - (intOf i).toNat)
        case atStart => exact ⟨0, _, _, by omega, rfl, rfl, by rw [txt_zero]; exact hR2⟩
        case round =>
          obtain ⟨k, ao, c, hk, rfl, rfl, hR⟩ := hrel
          by_cases hlt : k < l.length
          · have hB := h.below hR.below
            have hix := run_at22 (hB.ad (by intro e; rw [e] at hlt; simp at hlt)) l.length cap k (k : Int) rfl hlt
            have hc := hB.cells k hlt
            have hby := byte_le l[k]
            have htk : Hid (txt ([45] : List UInt8) l (k + 1) = txt ([45] : List UInt8) l k ++ [dgB l[k]]) := txt_succ _ l k hlt
            have htl : Hid ((txt ([45] : List UInt8) l k).length = k + 1) := txt_len _ l k hk
            generalize l[k] = Y at *
            generalize txt ([45] : List UInt8) l k = T at *
            have hTb : Hid (T.length ≤ 1000000) := by show T.length ≤ _; rw [htl.out]; omega
            go_wp2_with (at_builtin; refine append_byte (by rfl) (.tmp 42) (.tmp 50) (by rfl) w _ T (by rfl) (hR.alloc _) wr.heap.size 1 (dgB Y) (by rfl) _ _ _ (heap_new _ _ _ rfl) (by rfl) hTb.out ?_)
            intro ao2 c2 w2 hR2
            rw [htl.out] at hR2 ⊢
            go_wp2
            go_roundw
            case rel => exact ⟨k + 1, _, _, by omega, by go_num, by rfl, by rw [htk.out]; exact hR2⟩
            case measure => simp [intOf]; omega
          · have hke : k = l.length := by omega
            subst hke
            have hbel := hR.below
            obtain ⟨hn, bb, oo, hB⟩ := hR.bts
            rw [hn]
            generalize hT : txt ([45] : List UInt8) l l.length = T at *
            have hTl : T.length ≤ 4096 := by omega
            clear hT hn hR
            go_wp2_with fail
            refine (holds_any _ ao bb oo c T wr hB hTl (hE.below hbel)).mono ?_
            rintro e w2 ⟨rfl, hb2⟩
            rw [holds_model]
            go_wp2_with fail
            refine (model_any _ ao bb oo c T w2 (hB.below hb2) hTl).mono ?_
            rintro e w3 ⟨rfl, rfl⟩
            have HB := hbel.trans (hb2.mono hbel.size)
            go_wp2
            go_ret
            exact ⟨by simp, HB⟩
      · have e1 : (sg % 3 == 1) = false := by rw [hs]; rfl
        have e2 : (sg % 3 == 2) = true := by rw [hs]; rfl
        clear hs
        go_enter Ybad.func4, Ybad.ntmps4
        go_wp2_with (at_builtin; refine append_byte (by rfl) (.tmp 33) (.tmp 34) (by rfl) w _ [] (by rfl) (hR0.alloc _) (w.heap.size + 1) 1 43 (by rfl) _ _ _ (heap_new _ _ _ (by simp)) (by rfl) (by simp) ?_)
        intro ao2 c2 w2 hR2
        go_wp2
        go_loopw [9, 10] (fun bv i wr => ∃ (k : Nat) (ao : Option Addr) (c : Nat), k ≤ l.length ∧ i = .int .i64 k ∧ bv = .slice ao (k + 1) c ∧ Row w wr bv (txt ([43] : List UInt8) l k)) (fun _ i _ => l.length - (intOf i).toNat)
        case atStart => exact ⟨0, _, _, by omega, rfl, rfl, by rw [txt_zero]; exact hR2⟩
        case round =>
          obtain ⟨k, ao, c, hk, rfl, rfl, hR⟩ := hrel
          by_cases hlt : k < l.length
          · have hB := h.below hR.below
            have hix := run_at22 (hB.ad (by intro e; rw [e] at hlt; simp at hlt)) l.length cap k (k : Int) rfl hlt
            have hc := hB.cells k hlt
            have hby := byte_le l[k]
            have htk : Hid (txt ([43] : List UInt8) l (k + 1) = txt ([43] : List UInt8) l k ++ [dgB l[k]]) := txt_succ _ l k hlt
            have htl : Hid ((txt ([43] : List UInt8) l k).length = k + 1) := txt_len _ l k hk
            generalize l[k] = Y at *
            generalize txt ([43] : List UInt8) l k = T at *
            have hTb : Hid (T.length ≤ 1000000) := by show T.length ≤ _; rw [htl.out]; omega
            go_wp2_with (at_builtin; refine append_byte (by rfl) (.tmp 42) (.tmp 50) (by rfl) w _ T (by rfl) (hR.alloc _) wr.heap.size 1 (dgB Y) (by rfl) _ _ _ (heap_new _ _ _ rfl) (by rfl) hTb.out ?_)
            intro ao2 c2 w2 hR2
            rw [htl.out] at hR2 ⊢
            go_wp2
            go_roundw
            case rel => exact ⟨k + 1, _, _, by omega, by go_num, by rfl, by rw [htk.out]; exact hR2⟩
            case measure => simp [intOf]; omega
          · have hke : k = l.length := by omega
            subst hke
            have hbel := hR.below
            obtain ⟨hn, bb, oo, hB⟩ := hR.bts
            rw [hn]
            generalize hT : txt ([43] : List UInt8) l l.length = T at *
            have hTl : T.length ≤ 4096 := by omega
            clear hT hn hR
            go_wp2_with fail
            refine (holds_any _ ao bb oo c T wr hB hTl (hE.below hbel)).mono ?_
            rintro e w2 ⟨rfl, hb2⟩
            rw [holds_model]
            go_wp2_with fail
            refine (model_any _ ao bb oo c T w2 (hB.below hb2) hTl).mono ?_
            rintro e w3 ⟨rfl, rfl⟩
            have HB := hbel.trans (hb2.mono hbel.size)
            go_wp2
            go_ret
            exact ⟨by simp, HB⟩
    · rcases h3s with hs | hs | hs
      · have e1 : (sg % 3 == 1) = false := by rw [hs]; rfl
        have e2 : (sg % 3 == 2) = false := by rw [hs]; rfl
        clear hs
        go_enter Ybad.func4, Ybad.ntmps4
        go_wp2_with (at_builtin; refine append_byte (by rfl) (.tmp 20) (.tmp 21) (by rfl) w _ [] (by rfl) (hR0.alloc _) (w.heap.size + 1) 1 34 (by rfl) _ _ _ (heap_new _ _ _ (by simp)) (by rfl) (by simp) ?_)
        intro ao1 c1 w1 hR1
        go_wp2
        go_loopw [9, 10] (fun bv i wr => ∃ (k : Nat) (ao : Option Addr) (c : Nat), k ≤ l.length ∧ i = .int .i64 k ∧ bv = .slice ao (k + 1) c ∧ Row w wr bv (txt ([34] : List UInt8) l k)) (fun _ i _ => l.length - (intOf i).toNat)
        case atStart => exact ⟨0, _, _, by omega, rfl, rfl, by rw [txt_zero]; exact hR1⟩
        case round =>
          obtain ⟨k, ao, c, hk, rfl, rfl, hR⟩ := hrel
          by_cases hlt : k < l.length
          · have hB := h.below hR.below
            have hix := run_at22 (hB.ad (by intro e; rw [e] at hlt; simp at hlt)) l.length cap k (k : Int) rfl hlt
            have hc := hB.cells k hlt
            have hby := byte_le l[k]
            have htk : Hid (txt ([34] : List UInt8) l (k + 1) = txt ([34] : List UInt8) l k ++ [dgB l[k]]) := txt_succ _ l k hlt
            have htl : Hid ((txt ([34] : List UInt8) l k).length = k + 1) := txt_len _ l k hk
            generalize l[k] = Y at *
            generalize txt ([34] : List UInt8) l k = T at *
            have hTb : Hid (T.length ≤ 1000000) := by show T.length ≤ _; rw [htl.out]; omega
            go_wp2_with (at_builtin; refine append_byte (by rfl) (.tmp 42) (.tmp 50) (by rfl) w _ T (by rfl) (hR.alloc _) wr.heap.size 1 (dgB Y) (by rfl) _ _ _ (heap_new _ _ _ rfl) (by rfl) hTb.out ?_)
            intro ao2 c2 w2 hR2
            rw [htl.out] at hR2 ⊢
            go_wp2
            go_roundw
            case rel => exact ⟨k + 1, _, _, by omega, by go_num, by rfl, by rw [htk.out]; exact hR2⟩
            case measure => simp [intOf]; omega
          · have hke : k = l.length := by omega
            subst hke
            have hbel := hR.below
            obtain ⟨hn, bb, oo, hB⟩ := hR.bts
            rw [hn]
            generalize hT : txt ([34] : List UInt8) l l.length = T at *
            have hTl : T.length ≤ 4096 := by omega
            clear hT hn hR
            go_wp2_with fail
            refine (holds_any _ ao bb oo c T wr hB hTl (hE.below hbel)).mono ?_
            rintro e w2 ⟨rfl, hb2⟩
            rw [holds_model]
            go_wp2_with fail
            refine (model_any _ ao bb oo c T w2 (hB.below hb2) hTl).mono ?_
            rintro e w3 ⟨rfl, rfl⟩
            have HB := hbel.trans (hb2.mono hbel.size)
            go_wp2
            go_ret
            exact ⟨by simp, HB⟩
      · have e1 : (sg % 3 == 1) = true := by rw [hs]; rfl
        have e2 : (sg % 3 == 2) = false := by rw [hs]; rfl
        clear hs
        go_enter Ybad.func4, Ybad.ntmps4
        go_wp2_with (at_builtin; refine append_byte (by rfl) (.tmp 20) (.tmp 21) (by rfl) w _ [] (by rfl) (hR0.alloc _) (w.heap.size + 1) 1 34 (by rfl) _ _ _ (heap_new _ _ _ (by simp)) (by rfl) (by simp) ?_)
        intro ao1 c1 w1 hR1
        go_wp2_with (at_builtin; refine append_byte (by rfl) (.tmp 28) (.tmp 29) (by rfl) w _ [34] (by rfl) (hR1.alloc _) w1.heap.size 1 45 (by rfl) _ _ _ (heap_new _ _ _ rfl) (by rfl) (by simp) ?_)
        intro ao2 c2 w2 hR2
        go_wp2
        go_loopw [9, 10] (fun bv i wr => ∃ (k : Nat) (ao : Option Addr) (c : Nat), k ≤ l.length ∧ i = .int .i64 k ∧ bv = .slice ao (k + 2) c ∧ Row w wr bv (txt ([34, 45] : List UInt8) l k)) (fun _ i _ => l.length - (intOf i).toNat)
        case atStart => exact ⟨0, _, _, by omega, rfl, rfl, by rw [txt_zero]; exact hR2⟩
        case round =>
          obtain ⟨k, ao, c, hk, rfl, rfl, hR⟩ := hrel
          by_cases hlt : k < l.length
          · have hB := h.below hR.below
            have hix := run_at22 (hB.ad (by intro e; rw [e] at hlt; simp at hlt)) l.length cap k (k : Int) rfl hlt
            have hc := hB.cells k hlt
            have hby := byte_le l[k]
            have htk : Hid (txt ([34, 45] : List UInt8) l (k + 1) = txt ([34, 45] : List UInt8) l k ++ [dgB l[k]]) := txt_succ _ l k hlt
            have htl : Hid ((txt ([34, 45] : List UInt8) l k).length = k + 2) := txt_len _ l k hk
            generalize l[k] = Y at *
            generalize txt ([34, 45] : List UInt8) l k = T at *
            have hTb : Hid (T.length ≤ 1000000) := by show T.length ≤ _; rw [htl.out]; omega
            go_wp2_with (at_builtin; refine append_byte (by rfl) (.tmp 42) (.tmp 50) (by rfl) w _ T (by rfl) (hR.alloc _) wr.heap.size 1 (dgB Y) (by rfl) _ _ _ (heap_new _ _ _ rfl) (by rfl) hTb.out ?_)
            intro ao2 c2 w2 hR2
            rw [htl.out] at hR2 ⊢
            go_wp2
            go_roundw
            case rel => exact ⟨k + 1, _, _, by omega, by go_num, by rfl, by rw [htk.out]; exact hR2⟩
            case measure => simp [intOf]; omega
          · have hke : k = l.length := by omega
            subst hke
            have hbel := hR.below
            obtain ⟨hn, bb, oo, hB⟩ := hR.bts
            rw [hn]
            generalize hT : txt ([34, 45] : List UInt8) l l.length = T at *
            have hTl : T.length ≤ 4096 := by omega
            clear hT hn hR
            go_wp2_with fail
            refine (holds_any _ ao bb oo c T wr hB hTl (hE.below hbel)).mono ?_
            rintro e w2 ⟨rfl, hb2⟩
            rw [holds_model]
            go_wp2_with fail
            refine (model_any _ ao bb oo c T w2 (hB.below hb2) hTl).mono ?_
            rintro e w3 ⟨rfl, rfl⟩
            have HB := hbel.trans (hb2.mono hbel.size)
            go_wp2
            go_ret
            exact ⟨by simp, HB⟩
      · have e1 : (sg % 3 == 1) = false := by rw [hs]; rfl
        have e2 : (sg % 3 == 2) = true := by rw [hs]; rfl
        clear hs
        go_enter Ybad.func4, Ybad.ntmps4
        go_wp2_with (at_builtin; refine append_byte (by rfl) (.tmp 20) (.tmp 21) (by rfl) w _ [] (by rfl) (hR0.alloc _) (w.heap.size + 1) 1 34 (by rfl) _ _ _ (heap_new _ _ _ (by simp)) (by rfl) (by simp) ?_)
        intro ao1 c1 w1 hR1
        go_wp2_with (at_builtin; refine append_byte (by rfl) (.tmp 33) (.tmp 34) (by rfl) w _ [34] (by rfl) (hR1.alloc _) w1.heap.size 1 43 (by rfl) _ _ _ (heap_new _ _ _ rfl) (by rfl) (by simp) ?_)
        intro ao2 c2 w2 hR2
        go_wp2
        go_loopw [9, 10] (fun bv i wr => ∃ (k : Nat) (ao : Option Addr) (c : Nat), k ≤ l.length ∧ i = .int .i64 k ∧ bv = .slice ao (k + 2) c ∧ Row w wr bv (txt ([34, 43] : List UInt8) l k)) (fun _ i _ => l.length - (intOf i).toNat)
        case atStart => exact ⟨0, _, _, by omega, rfl, rfl, by rw [txt_zero]; exact hR2⟩
        case round =>
          obtain ⟨k, ao, c, hk, rfl, rfl, hR⟩ := hrel
          by_cases hlt : k < l.length
          · have hB := h.below hR.below
            have hix := run_at22 (hB.ad (by intro e; rw [e] at hlt; simp at hlt)) l.length cap k (k : Int) rfl hlt
            have hc := hB.cells k hlt
            have hby := byte_le l[k]
            have htk : Hid (txt ([34, 43] : List UInt8) l (k + 1) = txt ([34, 43] : List UInt8) l k ++ [dgB l[k]]) := txt_succ _ l k hlt
            have htl : Hid ((txt ([34, 43] : List UInt8) l k).length = k + 2) := txt_len _ l k hk
            generalize l[k] = Y at *
            generalize txt ([34, 43] : List UInt8) l k = T at *
            have hTb : Hid (T.length ≤ 1000000) := by show T.length ≤ _; rw [htl.out]; omega
            go_wp2_with (at_builtin; refine append_byte (by rfl) (.tmp 42) (.tmp 50) (by rfl) w _ T (by rfl) (hR.alloc _) wr.heap.size 1 (dgB Y) (by rfl) _ _ _ (heap_new _ _ _ rfl) (by rfl) hTb.out ?_)
            intro ao2 c2 w2 hR2
            rw [htl.out] at hR2 ⊢
            go_wp2
            go_roundw
            case rel => exact ⟨k + 1, _, _, by omega, by go_num, by rfl, by rw [htk.out]; exact hR2⟩
            case measure => simp [intOf]; omega
          · have hke : k = l.length := by omega
            subst hke
            have hbel := hR.below
            obtain ⟨hn, bb, oo, hB⟩ := hR.bts
            rw [hn]
            generalize hT : txt ([34, 43] : List UInt8) l l.length = T at *
            have hTl : T.length ≤ 4096 := by omega
            clear hT hn hR
            go_wp2_with fail
            refine (holds_any _ ao bb oo c T wr hB hTl (hE.below hbel)).mono ?_
            rintro e w2 ⟨rfl, hb2⟩
            rw [holds_model]
            go_wp2_with fail
            refine (model_any _ ao bb oo c T w2 (hB.below hb2) hTl).mono ?_
            rintro e w3 ⟨rfl, rfl⟩
            have HB := hbel.trans (hb2.mono hbel.size)
            go_wp2
            go_ret
            exact ⟨by simp, HB⟩
  · go_enter Ybad.func4, Ybad.ntmps4
    go_wp2
    go_ret
    exact ⟨rfl, Below.refl _ _⟩
end Go.Proofs.YbulkxmaDoor
