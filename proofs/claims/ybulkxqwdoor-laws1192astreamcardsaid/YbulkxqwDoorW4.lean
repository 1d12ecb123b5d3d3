/-
  The tee's Write.
-/
import Derived.Test.YbulkxqwDoorW2
set_option linter.unusedSimpArgs false
namespace Go.Proofs.YbulkxqwDoor
open Go.RowKit

theorem Ybad.info5 : (Ybad.prog.info? 5).map (fun i => (i.zero, i.size, i.bytes)) = some (some (.int .u8 0), 1, 1) := by kernel_rfl

/-- a row of bytes has grown -/
def Grewb (w w' : World) (base : Nat) (v0 v : Value) (l ys : List UInt8) : Prop := w'.ownsRow base 5 1 v (l ++ ys).length (bvl (l ++ ys)) ∧ w.grownBy w' v0.ownBlock

theorem append_bts {ops : Array Oper} {rest : List Oper} {o : Oper} {a : Act} {w : World} {Q : Exit → Act → World → Prop} (hgd : o.guard = none) (sl x : Operand)
    (ho : o.op = .call { callee := .builtin .append, args := #[sl, x], argTypes := #[22, 22] }) (base : Nat) (v : Value) (l : List UInt8) (hs : a.eval sl = v) (hown : w.ownsRow base 5 1 v l.length (bvl l))
    (ad : Addr) (n c : Nat) (ys : List UInt8) (hn : n = ys.length) (hx : a.eval x = .slice (some ad) n c) (hc : ∀ j (hj : j < ys.length), w.cell? (ad.add j) = some (.int .u8 ys[j].toNat)) (hlen : l.length + ys.length ≤ 1000000) (hbase : base ≤ w.heap.size)
    (h : ∀ v' w', Grewb w w' base v v' l ys → wpList Ybad.prog ops Q rest (a.put o.dst v') w') :
    wpList Ybad.prog ops Q (o :: rest) a w := by
  subst hn
  obtain ⟨i, hi, hz0, hz1, hz2⟩ := info_parts Ybad.info5
  refine wpList_plain hgd fun K hK' => ?_
  obtain ⟨v', w', hrun, h1, h2, _⟩ := run_append_own (P := Ybad.prog) w base 22 o.type 5 i _ 1 1 Ybad.underlying22 hi hz0 hz1 hz2 rfl (by omega) v l.length (bvl l) hown ad ys.length c (bvl ys) (by simp [bvl])
    (fun j u hu => by
      have hj : j < ys.length := by
        rcases Nat.lt_or_ge j ys.length with h | h
        · exact h
        · rw [List.getElem?_eq_none (by simpa [bvl] using h)] at hu; cases hu
      rw [hc j hj]
      simp [bvl, List.getElem?_map, List.getElem?_eq_getElem hj] at hu
      rw [hu]) (by simp [bvl, Value.oneCell']) (by unfold maxLen; omega) (by omega) hbase
  unfold Oper.wp
  simp [execOp, ho, resolve, invoke, builtin, hs, hx, hrun, Result.andThen]
  rw [Oper.upon_value]
  refine hK' _ _ (h v' w' ⟨?_, h2⟩)
  rw [List.length_append, show bvl (l ++ ys) = bvl l ++ bvl ys by simp [bvl]]
  exact h1

theorem own_ge {w : World} {base e size n : Nat} {v : Value} {xs : List Value} (ho : w.ownsRow base e size v n xs) (g : Nat) (hg : v.ownBlock = some g) : base ≤ g := by
  rcases ho.2 with ⟨rfl, _⟩ | ⟨g', cap, cur, rfl, hb, _⟩
  · simp [Value.ownBlock] at hg
  · simp [Value.ownBlock] at hg
    omega

/-- the tee has grown -/
theorem tee_at {F : Fx} {w w' : World} {x : Sd} {v' : Value} {ys : List UInt8} (A : At F w x) (hg : Grewb w w' (F.s + 4) x.tv v' x.T ys) :
    At F (w'.setCell ⟨F.s + 1, 0, none⟩ v') { x with tv := v', T := x.T ++ ys } ∧ Below F.s w (w'.setCell ⟨F.s + 1, 0, none⟩ v') ∧ w'.heap[F.s + 1]? = some (.cells #[x.tv] 28 (0, 0)) := by
  have hsz := lt_of_heap A.src
  have keep : ∀ k, k < F.s + 4 → w'.heap[k]? = w.heap[k]? := fun k hk => hg.2.block k (by omega) (fun e => by have := own_ge A.row k e.symm; omega)
  have b1 := (keep (F.s + 1) (by omega)).trans A.tee
  have B : Below F.s w w' := ⟨hg.2.os, hg.2.tape, hg.2.output, hg.2.size, fun k hk => keep k (by omega)⟩
  have B2 := B.setCell (p := ⟨F.s + 1, 0, none⟩) (by show F.s ≤ F.s + 1; omega) v'
  refine ⟨A.keep B2 ?_ ?_ ?_ ?_ ?_ A.bl A.da A.dc, B2, b1⟩
  · rw [heap_set_other (by omega), keep _ (by omega)]; exact A.rdr
  · exact heap_setCell_at b1 v'
  · rw [heap_set_other (by omega), keep _ (by omega)]; exact A.buf
  · rw [heap_set_other (by omega), keep _ (by omega)]; exact A.src
  · exact own_other hg.1 (fun k hk => heap_set_other (by omega))

set_option maxRecDepth 100000 in
theorem write_any (F : Fx) (w : World) (x : Sd) (A : At F w x) (ad : Addr) (n c : Nat) (ys : List UInt8) (hn : n = ys.length) (hc : ∀ j (hj : j < ys.length), w.cell? (ad.add j) = some (.int .u8 ys[j].toNat)) (hlen : x.T.length + ys.length ≤ 100000) :
    Calls Ybad.prog 23 #[.pointer (some ⟨F.s + 1, 0, none⟩), .slice (some ad) n c] w fun e w' => ∃ v', e = .returned (.tuple #[.int .i64 n, .nilIface]) ∧ At F w' { x with tv := v', T := x.T ++ ys } ∧ Below F.s w w' := by
  have t0 : w.cell? ⟨F.s + 1, 0, none⟩ = some x.tv := cell_at A.tee rfl
  have HA : Hid (At F w x) := A
  have HC : Hid (∀ j (hj : j < ys.length), w.cell? (ad.add j) = some (.int .u8 ys[j].toNat)) := hc
  have HN : Hid (n = ys.length) := hn
  clear A hc hn
  go_enter Ybad.func23, Ybad.ntmps23
  go_wp2_with (at_builtin; refine append_bts (by rfl) (.tmp 10) (.tmp 11) (by rfl) (F.s + 4) _ x.T (by rfl) HA.out.row ad n c ys HN.out (by rfl) HC.out (by omega) ?_ ?_)
  · have := lt_of_heap HA.out.src; omega
  intro v' w' hg
  obtain ⟨h1, h2, h3⟩ := tee_at HA.out hg
  have c1 : w'.cell? ⟨F.s + 1, 0, none⟩ = some x.tv := cell_at h3 rfl
  have c2 : w'.frozen? ⟨F.s + 1, 0, none⟩ = false := frozen_at h3
  have H1 : Hid (At F (w'.setCell ⟨F.s + 1, 0, none⟩ v') { x with tv := v', T := x.T ++ ys } ∧ Below F.s w (w'.setCell ⟨F.s + 1, 0, none⟩ v')) := ⟨h1, h2⟩
  have hvo : v'.oneCell' = true := by
    rcases hg.1.2 with ⟨e, _⟩ | ⟨g, cap, cur, e, _⟩ <;> (rw [e]; rfl)
  have hvf : ∃ ao l c, v' = .slice ao l c := by
    rcases hg.1.2 with ⟨e, _⟩ | ⟨g, cap, cur, e, _⟩
    · exact ⟨none, 0, 0, e⟩
    · exact ⟨_, _, _, e⟩
  obtain ⟨ao, l', c', rfl⟩ := hvf
  clear h1 h2 h3 hg t0 hvo
  go_wp2_with fail
  go_ret2
  exact ⟨_, rfl, H1.out.1, H1.out.2⟩
end Go.Proofs.YbulkxqwDoor
