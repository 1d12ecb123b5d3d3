/-
  io.ReadAtLeast over the law's reader.
-/
import Derived.Test.YbulkxmoDoorW1
namespace Go.Proofs.YbulkxmoDoor
open Go.RowKit

theorem below_drew {B : Nat} {w w' : World} (h : Below B w.drew w') : Below B w w' := ⟨h.os, h.tape, h.output, h.size, h.block⟩

@[go_sem] theorem nil_ahead (a : Addr) (w : World) : (nilAhead 173 23 (.pointer (some a)) "Read").run Ybad.prog w = .ok (some false) w := by kernel_rfl
@[go_sem] theorem method_read (a : Addr) (w : World) : (method 173 23 (.pointer (some a)) "Read").run Ybad.prog w = .ok (25, .pointer (some a)) w := by kernel_rfl

set_option maxRecDepth 100000 in
theorem least_eof (s o m c : Nat) (src : List UInt8) (ch : Nat) (x : Sd) (w : World) (A : At s w src ch x) (hr : x.rp = src.length) (hm : 16 ≤ m) (hm2 : m ≤ 64) (t : TypeId) (p : Value) (hE : w.cell? ⟨1, 0, none⟩ = some (.iface t p)) :
    Calls Ybad.prog 9 #[.iface 23 (.pointer (some ⟨s + 1, 0, none⟩)), .slice (some ⟨s + 2, o, none⟩) m c, .int .i64 1] w fun e w' => e = .returned (.tuple #[.int .i64 0, .iface t p]) ∧ At s w' src ch x ∧ Below s w w' := by
  go_enter Ybad.func9, Ybad.ntmps9
  go_wp2_with fail
  refine wp_loop_rounds 2 ?_
  rw [rounds_succ]
  go_wp2_with fail
  go_region_held3 (fun _ => True) (trivial) ((go_at_call 25; refine (read_eof s o m c src ch x w.drew (A.of_heap rfl) hr t p (show w.drew.cell? _ = _ from hE)).mono ?_; rintro e w' ⟨rfl, hA, hb⟩))
  go_wp2_with fail
  rw [rounds_succ]
  go_wp2_with fail
  go_ret2
  exact ⟨rfl, hA, below_drew hb⟩

set_option maxRecDepth 100000 in
theorem least_some (s o m c : Nat) (src : List UInt8) (ch : Nat) (x : Sd) (w : World) (A : At s w src ch x) (hr : x.rp < src.length) (hl : src.length ≤ 1024) (hch0 : 1 ≤ ch) (hch : ch ≤ 16) (hm : 16 ≤ m) (hm2 : m ≤ 64) (ho : o + m ≤ 64) :
    Calls Ybad.prog 9 #[.iface 23 (.pointer (some ⟨s + 1, 0, none⟩)), .slice (some ⟨s + 2, o, none⟩) m c, .int .i64 1] w fun e w' => e = .returned (.tuple #[.int .i64 (much src ch x.rp m), .nilIface]) ∧
      At s w' src ch { x with rp := x.rp + much src ch x.rp m, bf := splice x.bf o ((src.drop x.rp).take (much src ch x.rp m)) } ∧ Below s w w' := by
  have hR := read_some s o m c src ch x w.drew (A.of_heap rfl) hr hl hch hm hm2 ho
  have hK : 1 ≤ much src ch x.rp m ∧ much src ch x.rp m ≤ 16 := by unfold much; omega
  generalize much src ch x.rp m = K at *
  obtain ⟨hK1, hK2⟩ := hK
  go_enter Ybad.func9, Ybad.ntmps9
  go_wp2_with fail
  refine wp_loop_rounds 2 ?_
  rw [rounds_succ]
  go_wp2_with fail
  go_region_held3 (fun _ => True) (trivial) ((go_at_call 25; refine hR.mono ?_; rintro e w' ⟨rfl, hA, hb⟩))
  go_wp2_with fail
  rw [rounds_succ]
  go_wp2_with fail
  go_ret2
  exact ⟨rfl, hA, below_drew hb⟩
end Go.Proofs.YbulkxmoDoor
