/-
  WHAT refill NEEDS.
-/
import Derived.Test.YbulkxmoDoorBits
set_option linter.unusedSimpArgs false
namespace Go.Proofs.YbulkxmoDoor
open Go.RowKit

/-- a number that lies in memory -/
def natAt (w : World) (a : Addr) : Nat :=
  match w.cell? a with
  | some (.int _ v) => v.toNat
  | some (.bool b) => if b then 1 else 0
  | _ => 0

theorem natAt_int {w : World} {a : Addr} {k : IntKind} {n : Nat} (h : w.cell? a = some (.int k n)) : natAt w a = n := by simp [natAt, h]
theorem natAt_bool {w : World} {a : Addr} {b : Bool} (h : w.cell? a = some (.bool b)) : natAt w a = if b then 1 else 0 := by simp [natAt, h]

theorem At.r1 {s : Nat} {w : World} {src : List UInt8} {ch : Nat} {x : Sd} (A : At s w src ch x) : w.cell? ⟨s + 1, 1, none⟩ = some (.int .i64 x.rp) := cell_at A.rdr rfl

/-- how far the filling has to go -/
def goes (s len : Nat) (w : World) : Nat := (64 - natAt w ⟨s + 3, 7, none⟩) + (len - natAt w ⟨s + 1, 1, none⟩) + (1 - natAt w ⟨s + 3, 4, none⟩)

theorem goes_at {s : Nat} {w : World} {src : List UInt8} {ch : Nat} {x : Sd} (A : At s w src ch x) : goes s src.length w = (64 - x.nb) + (src.length - x.rp) + (1 - if x.eof then 1 else 0) := by
  unfold goes
  rw [natAt_int A.d7, natAt_int A.r1, natAt_bool A.d4]

structure Env (s : Nat) (w : World) (a b : Addr) : Prop where
  eof : w.cell? ⟨1, 0, none⟩ = some (.iface 46 (.pointer (some a)))
  une : w.cell? ⟨0, 0, none⟩ = some (.iface 46 (.pointer (some b)))
  two : 1 < s

theorem Env.below {s : Nat} {w w' : World} {a b : Addr} (h : Env s w a b) (hb : Below s w w') : Env s w' a b :=
  ⟨(hb.cell (p := ⟨1, 0, none⟩) h.two).trans h.eof, (hb.cell (p := ⟨0, 0, none⟩) (Nat.lt_trans Nat.zero_lt_one h.two)).trans h.une, h.two⟩

theorem input_any (s : Nat) (src : List UInt8) (ch con : Nat) (x : Sd) (w : World) (A : At s w src ch x) (I : Inv src con x) (hl : src.length ≤ 1024) (hch0 : 1 ≤ ch) (hch : ch ≤ 16) (h2 : x.n < x.dp + 8) (a b : Addr) (hE : Env s w a b) :
    Calls Ybad.prog 8 #[.pointer (some ⟨s + 3, 0, none⟩)] w fun e w' => e = .returned .nilIface ∧ At s w' src ch (more src ch x) ∧ Below s w w' := by
  have := I.nr
  have := I.rl
  by_cases hr : x.rp < src.length
  · exact input_some s src ch x w A hr hl hch0 hch I.dn h2 I.n23 (by omega) a hE.eof hE.two
  · exact input_eof s src ch x w A (by omega) I.dn h2 I.n23 (by omega) a hE.eof hE.two

theorem more_less {src : List UInt8} {ch : Nat} (y : Sd) (he : y.eof = false) (h8 : y.n < y.dp + 8) (hch0 : 1 ≤ ch) (hdn : y.dp ≤ y.n) :
    64 - (more src ch y).nb + (src.length - (more src ch y).rp) + (1 - if (more src ch y).eof then 1 else 0) < 64 - y.nb + (src.length - y.rp) + (1 - if y.eof then 1 else 0) := by
  unfold more
  by_cases hr : y.rp < src.length
  · rw [if_pos hr]
    have : 1 ≤ much src ch y.rp (64 - (y.n - y.dp)) := by unfold much; omega
    show 64 - y.nb + (src.length - (y.rp + much src ch y.rp (64 - (y.n - y.dp)))) + (1 - if y.eof then 1 else 0) < _
    omega
  · rw [if_neg hr, he]
    show 64 - y.nb + (src.length - y.rp) + (1 - 1) < 64 - y.nb + (src.length - y.rp) + (1 - 0)
    omega

theorem nought_at {s : Nat} {w : World} {src : List UInt8} {ch : Nat} {y : Sd} (A : At s w src ch y) (k : Nat) :
    At s (((w.drewN k).setCell ⟨s + 3, 8, none⟩ (.int .u64 ((y.pd : Int) + 1))).setCell ⟨s + 3, 7, none⟩ (.int .u64 ((y.nb : Int) + 8))) src ch { y with pd := y.pd + 1, nb := y.nb + 8 } ∧
      Below s w (((w.drewN k).setCell ⟨s + 3, 8, none⟩ (.int .u64 ((y.pd : Int) + 1))).setCell ⟨s + 3, 7, none⟩ (.int .u64 ((y.nb : Int) + 8))) := by
  obtain ⟨A2, B2⟩ := (A.of_heap (w' := w.drewN k) rfl).put 8 (.int .u64 ((y.pd : Int) + 1)) { y with pd := y.pd + 1 } rfl rfl rfl
  obtain ⟨A3, B3⟩ := A2.put 7 (.int .u64 ((y.nb : Int) + 8)) { y with pd := y.pd + 1, nb := y.nb + 8 } rfl rfl rfl
  have B := B2.trans B3
  exact ⟨A3, B.os, B.tape, B.output, B.size, B.block⟩

theorem Inv.nought {src : List UInt8} {con : Nat} {y : Sd} (I : Inv src con y) (hend : y.dp = y.n) (he : y.eof = true) : Inv src con { y with pd := y.pd + 1, nb := y.nb + 8 } := by
  have := I.eof he
  exact ⟨I.buf.none (by show y.rp - (y.n - y.dp) = _; omega), I.dn, I.n23, I.nr, I.rl, I.bl, I.bytes, I.eof, fun _ => ⟨he, hend⟩⟩

theorem run_at22 (g len cap k : Nat) (i : Int) (hi : i = k) (hk : k < len) (w : World) :
    (Instr.indexAt 22 (.slice (some ⟨g, 0, none⟩) len cap) (.int .i64 i)).run Ybad.prog w = .ok (.pointer (some ⟨g, k, none⟩)) w := by
  subst hi
  have hk' : (0 : Int) ≤ (k : Int) ∧ (k : Int) < (len : Int) := ⟨by omega, by omega⟩
  rw [run_indexAt_slice _ _ _ _ _ _ _ (by rw [Ybad.underlying22]; rfl), if_pos hk']
  have : (sizeOf (Ybad.prog.elem 22)).run Ybad.prog w = .ok 1 w := by kernel_rfl
  rw [this]
  by_cases h0 : k = 0
  · subst h0
    simp [Result.andThen, Addr.add]
  · simp [Result.andThen, Addr.add, h0]

theorem byte_at {s : Nat} {w : World} {src : List UInt8} {ch : Nat} {y : Sd} (A : At s w src ch y) (k N : Nat) :
    At s ((((w.drewN k).setCell ⟨s + 3, 6, none⟩ (.int .u64 N)).setCell ⟨s + 3, 3, none⟩ (.int .i64 ((y.dp : Int) + 1))).setCell ⟨s + 3, 7, none⟩ (.int .u64 ((y.nb : Int) + 8))) src ch { y with bits := N, dp := y.dp + 1, nb := y.nb + 8 } ∧
      Below s w ((((w.drewN k).setCell ⟨s + 3, 6, none⟩ (.int .u64 N)).setCell ⟨s + 3, 3, none⟩ (.int .i64 ((y.dp : Int) + 1))).setCell ⟨s + 3, 7, none⟩ (.int .u64 ((y.nb : Int) + 8))) := by
  obtain ⟨A1, B1⟩ := (A.of_heap (w' := w.drewN k) rfl).put 6 (.int .u64 N) { y with bits := N } rfl rfl rfl
  obtain ⟨A2, B2⟩ := A1.put 3 (.int .i64 ((y.dp : Int) + 1)) { y with bits := N, dp := y.dp + 1 } rfl rfl rfl
  obtain ⟨A3, B3⟩ := A2.put 7 (.int .u64 ((y.nb : Int) + 8)) { y with bits := N, dp := y.dp + 1, nb := y.nb + 8 } rfl rfl rfl
  have B := (B1.trans B2).trans B3
  exact ⟨A3, B.os, B.tape, B.output, B.size, B.block⟩

theorem Inv.byte {src : List UInt8} {con N : Nat} {y : Sd} {Y : UInt8} (I : Inv src con y) (hlt : y.dp < y.n) (hY : y.bf[y.dp]? = some Y) (hN : N = y.bits + Y.toNat * 2 ^ y.nb) : Inv src con { y with bits := N, dp := y.dp + 1, nb := y.nb + 8 } := by
  have hnr := I.nr
  have hrl := I.rl
  have hp : y.pd = 0 := by
    rcases Nat.eq_zero_or_pos y.pd with h | h
    · exact h
    · have := (I.pad h).2; omega
  have hb := I.buf
  rw [hp] at hb
  have hc : y.rp - (y.n - y.dp) < src.length := by omega
  have hsrc : src[y.rp - (y.n - y.dp)] = Y := by
    have h1 := I.bytes y.dp hlt
    rw [hY, show y.off + y.dp = y.rp - (y.n - y.dp) by omega, List.getElem?_eq_getElem hc] at h1
    exact (Option.some.inj h1).symm
  have h2 := hb.byte hc
  rw [hsrc, ← hN] at h2
  refine ⟨?_, by show y.dp + 1 ≤ y.n; omega, I.n23, I.nr, I.rl, I.bl, I.bytes, I.eof, fun h => ?_⟩
  · show Buf src con (y.rp - (y.n - (y.dp + 1))) y.pd (y.nb + 8) N
    rw [hp, show y.rp - (y.n - (y.dp + 1)) = y.rp - (y.n - y.dp) + 1 by omega]
    exact h2
  · have : 0 < y.pd := h
    omega

/-- what refill leaves -/
def Filled (s : Nat) (src : List UInt8) (ch con : Nat) (b : Addr) (w : World) (e : Ending) (w' : World) : Prop :=
  ∃ y, At s w' src ch y ∧ Inv src con y ∧ 56 < y.nb ∧ y.nb ≤ 64 ∧ Below s w w' ∧ e = .returned (if y.nb < 8 * y.pd then .iface 46 (.pointer (some b)) else .nilIface)
end Go.Proofs.YbulkxmoDoor
