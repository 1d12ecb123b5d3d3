/-
  ReadByte.
-/
import Derived.Test.YbulkxqwDoorW6
set_option linter.unusedSimpArgs false
namespace Go.Proofs.YbulkxqwDoor
open Go.RowKit

/-- what the state says of the data -/
structure Inv (F : Fx) (x : Sd) : Prop where
  sum : x.con + (x.en - x.ps) = x.rp
  pe : x.ps ≤ x.en
  eb : x.en ≤ F.bs
  rl : x.rp ≤ F.L.length
  er_ : x.en ≤ x.rp
  bytes : ∀ j, j < x.en → x.bf[j]? = F.L[x.rp - x.en + j]?
  tp : x.tf ≤ x.ps
  eof : x.er = true → x.rp = F.L.length
  k : x.kk ≤ x.rp
  tc : x.ps - x.tf ≤ x.con
  T : F.ut = true → x.T = F.L.take (x.con - (x.ps - x.tf))
  T0 : F.ut = false → x.T = []

theorem Inv.tlen {F : Fx} {x : Sd} (I : Inv F x) : x.T.length ≤ F.L.length := by
  cases h : F.ut
  · rw [I.T0 h]; simp
  · rw [I.T h, List.length_take]; omega

theorem Inv.flush {F : Fx} {x : Sd} (I : Inv F x) (v' : Value) : Inv F (flushed F x v') := by
  have h1 := I.sum
  have h2 := I.pe
  have h3 := I.eb
  have h4 := I.rl
  have h5 := I.er_
  have h7 := I.tp
  have h8 := I.tc
  refine ⟨I.sum, I.pe, I.eb, I.rl, I.er_, I.bytes, Nat.le_refl _, I.eof, I.k, by show x.ps - x.ps ≤ _; omega, fun hut => ?_, fun hut => ?_⟩
  · show (if F.ut then x.T ++ (x.bf.drop x.tf).take (x.ps - x.tf) else x.T) = F.L.take (x.con - (x.ps - x.ps))
    rw [hut, if_pos rfl, I.T hut, Nat.sub_self, Nat.sub_zero]
    have e : (x.bf.drop x.tf).take (x.ps - x.tf) = (F.L.drop (x.con - (x.ps - x.tf))).take (x.ps - x.tf) := by
      apply List.ext_getElem?
      intro j
      rw [List.getElem?_take, List.getElem?_take]
      split
      · rw [List.getElem?_drop, List.getElem?_drop, I.bytes (x.tf + j) (by omega)]
        congr 1
        omega
      · rfl
    rw [e, ← List.take_add]
    congr 1
    omega
  · show (if F.ut then x.T ++ (x.bf.drop x.tf).take (x.ps - x.tf) else x.T) = []
    rw [hut]
    exact I.T0 hut

theorem Inv.refill {F : Fx} {x : Sd} (I : Inv F x) (hpe : x.ps = x.en) (htf : x.tf = x.ps) (n : Nat) (a' : Option Addr) (hn : n ≤ F.bs) (hr : x.rp + n ≤ F.L.length) (h1n : 1 ≤ n) : Inv F (refilled F x n a') := by
  have h1 := I.sum
  have hk := I.k
  have hcl : ((F.L.drop x.rp).take n).length = n := by simp; omega
  refine ⟨by show x.con + (n - 0) = x.rp + n; omega, Nat.zero_le _, hn, hr, by show n ≤ x.rp + n; omega, fun j hj => ?_, Nat.le_refl _, fun h => ?_, by show x.kk + 1 ≤ x.rp + n; omega, by show 0 - 0 ≤ _; omega, fun hut => ?_, I.T0⟩
  · have hj : j < n := hj
    show (splice x.bf 0 ((F.L.drop x.rp).take n))[j]? = F.L[x.rp + n - n + j]?
    unfold splice
    rw [List.take_zero, List.nil_append, List.getElem?_append_left (by omega), List.getElem?_take, if_pos hj, List.getElem?_drop]
    congr 1
    omega
  · have h : (F.ew && decide (x.rp + n = F.L.length)) = true := h
    rw [Bool.and_eq_true] at h
    exact of_decide_eq_true h.2
  · show x.T = F.L.take (x.con - (0 - 0))
    rw [I.T hut, htf]
    congr 1
    omega

theorem Inv.ended {F : Fx} {x : Sd} (I : Inv F x) (hpe : x.ps = x.en) (htf : x.tf = x.ps) (hr : x.rp = F.L.length) : Inv F (ended x) := by
  have h1 := I.sum
  refine ⟨by show x.con + (0 - 0) = x.rp; omega, Nat.le_refl _, Nat.zero_le _, I.rl, Nat.zero_le _, fun j hj => by have : j < 0 := hj; omega, Nat.le_refl _, fun _ => hr, I.k, by show 0 - 0 ≤ _; omega, fun hut => ?_, I.T0⟩
  show x.T = F.L.take (x.con - (0 - 0))
  rw [I.T hut, htf]
  congr 1
  omega

def stepped (x : Sd) : Sd := { x with ps := x.ps + 1, con := x.con + 1 }

theorem Inv.step {F : Fx} {x : Sd} (I : Inv F x) (h : x.ps < x.en) : Inv F (stepped x) := by
  have h1 := I.sum
  have h7 := I.tp
  have h8 := I.tc
  refine ⟨by show x.con + 1 + (x.en - (x.ps + 1)) = x.rp; omega, h, I.eb, I.rl, I.er_, I.bytes, by show x.tf ≤ x.ps + 1; omega, I.eof, I.k, by show x.ps + 1 - x.tf ≤ x.con + 1; omega, fun hut => ?_, I.T0⟩
  show x.T = F.L.take (x.con + 1 - (x.ps + 1 - x.tf))
  rw [I.T hut]
  congr 1
  omega

theorem two_at {F : Fx} {w : World} {x : Sd} (A : At F w x) (k : Nat) :
    At F (((w.drewN k).setCell ⟨F.s + 3, 3, none⟩ (.int .i64 ((x.ps : Int) + 1))).setCell ⟨F.s + 3, 7, none⟩ (.int .i64 ((x.con : Int) + 1))) (stepped x) ∧
    Below F.s w (((w.drewN k).setCell ⟨F.s + 3, 3, none⟩ (.int .i64 ((x.ps : Int) + 1))).setCell ⟨F.s + 3, 7, none⟩ (.int .i64 ((x.con : Int) + 1))) := by
  obtain ⟨A1, B1⟩ := (A.drewN k).put 3 (.int .i64 ((x.ps : Int) + 1)) { x with ps := x.ps + 1 } rfl rfl rfl rfl rfl rfl rfl rfl
  obtain ⟨A2, B2⟩ := A1.put 7 (.int .i64 ((x.con : Int) + 1)) (stepped x) rfl rfl rfl rfl rfl rfl rfl rfl
  have B := B1.trans B2
  exact ⟨A2, B.os, B.tape, B.output, B.size, B.block⟩

theorem run_at22b (g o len cap k : Nat) (i : Int) (hi : i = k) (hk : k < len) (w : World) :
    (Instr.indexAt 22 (.slice (some ⟨g, o, none⟩) len cap) (.int .i64 i)).run Ybad.prog w = .ok (.pointer (some ⟨g, o + k, none⟩)) w := by
  subst hi
  have hk' : (0 : Int) ≤ (k : Int) ∧ (k : Int) < (len : Int) := ⟨by omega, by omega⟩
  rw [run_indexAt_slice _ _ _ _ _ _ _ (by rw [Ybad.underlying22]; rfl), if_pos hk']
  have : (sizeOf (Ybad.prog.elem 22)).run Ybad.prog w = .ok 1 w := by kernel_rfl
  rw [this]
  by_cases h0 : k = 0
  · subst h0
    simp [Result.andThen, Addr.add]
  · simp [Result.andThen, Addr.add, h0]

/-- a byte comes -/
def More (F : Fx) (x : Sd) (w : World) (e : Ending) (w' : World) : Prop :=
  ∃ (b : UInt8) (y : Sd), F.L[x.con]? = some b ∧ e = .returned (.tuple #[.int .u8 b.toNat, .nilIface]) ∧ At F w' y ∧ Inv F y ∧ y.con = x.con + 1 ∧ Below F.s w w'

/-- the end -/
def Over (F : Fx) (x : Sd) (w : World) (e : Ending) (w' : World) : Prop :=
  ∃ y, e = .returned (.tuple #[.int .u8 0, eofV F]) ∧ At F w' y ∧ Inv F y ∧ y.con = x.con ∧ y.tf = y.ps ∧ Below F.s w w'

set_option maxRecDepth 100000 in
set_option maxHeartbeats 2000000 in
theorem byte_more (F : Fx) (w : World) (x : Sd) (A : At F w x) (I : Inv F x) (hc : x.con < F.L.length) (hl : F.L.length ≤ 1024) (hcl : F.Ch.length ≤ 1024) (hbs : 1 ≤ F.bs) (hbs2 : F.bs ≤ 16) :
    Calls Ybad.prog 4 #[.pointer (some ⟨F.s + 3, 0, none⟩)] w (More F x w) := by
  by_cases hlt0 : x.ps < x.en
  · obtain ⟨y, rfl⟩ : ∃ y, y = x := ⟨_, rfl⟩
    obtain ⟨w1, rfl⟩ : ∃ w1, w1 = w := ⟨_, rfl⟩
    have A1 := A
    have I1 := I
    have hlt := hlt0
    have B1 : Below F.s w1 w1 := Below.refl _ _
    have hyc : y.con = y.con := rfl
    have hblen := A1.bl
    have heb := I1.eb
    have c2 := A1.c2
    have c3 := A1.c3
    have c4 := A1.c4
    have c7 := A1.c7
    have z3 := A1.z 3
    have z7 := A1.z 7
    have hsum := I1.sum
    have hrl := I1.rl
    obtain ⟨b, hb⟩ : ∃ b, y.bf[y.ps]? = some b := ⟨y.bf[y.ps]'(by omega), List.getElem?_eq_getElem _⟩
    have hbc : w1.cell? ⟨F.s + 2, 0 + y.ps, none⟩ = some (.int .u8 b.toNat) := cell_at A1.buf (by simp [bvl, hb])
    rw [Nat.zero_add] at hbc
    have hLb : Hid (F.L[y.con]? = some b) := by
      have h := I1.bytes y.ps hlt
      rw [hb] at h
      have hee := I1.er_
      rw [show y.con = y.rp - y.en + y.ps by omega]
      exact h.symm
    have hix := run_at22b (F.s + 2) 0 F.bs F.bs y.ps y.ps rfl (by omega)
    simp only [Nat.zero_add] at hix
    have hw3 : IntKind.i64.wrap ((y.ps : Int) + 1) = (y.ps : Int) + 1 := by rw [IntKind.wrap_i64]; omega
    have hw7 : IntKind.i64.wrap ((y.con : Int) + 1) = (y.con : Int) + 1 := by rw [IntKind.wrap_i64]; omega
    have HS : Hid (∀ k, At F (((w1.drewN k).setCell ⟨F.s + 3, 3, none⟩ (.int .i64 ((y.ps : Int) + 1))).setCell ⟨F.s + 3, 7, none⟩ (.int .i64 ((y.con : Int) + 1))) (stepped y) ∧ Below F.s w1 (((w1.drewN k).setCell ⟨F.s + 3, 3, none⟩ (.int .i64 ((y.ps : Int) + 1))).setCell ⟨F.s + 3, 7, none⟩ (.int .i64 ((y.con : Int) + 1)))) := fun k => two_at A1 k
    have HI : Hid (Inv F (stepped y)) := I1.step hlt
    have HBB : Hid (Below F.s w1 w1) := B1
    clear A1 I1 hb B1
    have hne : ((y.ps : Int) == (y.en : Int)) = false := by rw [beq_eq_false_iff_ne]; omega
    clear A I hyc
    go_enter Ybad.func4, Ybad.ntmps4
    go_wp2_with fail
    go_quiet (fail)
    go_wp2_with fail
    go_quiet (fail)
    go_wp2_with fail
    go_ret2
    exact ⟨b, stepped y, hLb.out, rfl, (HS.out _).1, HI.out, rfl, (HS.out _).2⟩
  · have hpe : x.ps = x.en := by have := I.pe; omega
    have hs := I.sum
    have hrp : x.rp = x.con := by omega
    have her : x.er = false := by
      cases h : x.er
      · rfl
      · have := I.eof h; omega
    have HFL : Hid (∀ k, Calls Ybad.prog 5 #[.pointer (some ⟨F.s + 3, 0, none⟩)] (w.drewN k) (Fl F x (w.drewN k))) := fun k => fill_any F (w.drewN k) x (A.drewN k) I.tp (by have := I.eb; omega) (by have := I.tlen; omega) hl hcl hbs hbs2 (by have := I.k; have := I.rl; omega) I.rl
    have c3 := A.c3
    have c4 := A.c4
    rw [← hpe] at c4
    have HA : Hid (At F w x) := A
    have HII : Hid (Inv F x) := I
    clear A I
    go_enter Ybad.func4, Ybad.ntmps4
    go_wp2_with fail
    go_quiet (fail)
    go_wp2_with fail
    refine (HFL.out nq).mono ?_
    rintro e w1 ⟨v', hB, (⟨h1, _, _⟩ | ⟨_, h2, _, _⟩ | ⟨_, _, rfl, n, a', hn1, hn2, hn3, A0⟩)⟩
    · rw [her] at h1; cases h1
    · omega
    obtain ⟨y, hy⟩ : ∃ y, y = refilled F (flushed F x v') n a' := ⟨_, rfl⟩
    have A1 : At F w1 y := by rw [hy]; exact A0
    have I1 : Inv F y := by rw [hy]; exact (HII.out.flush v').refill hpe rfl n a' hn2 hn3 hn1
    have hyc : y.con = x.con := by rw [hy]; rfl
    have hlt : y.ps < y.en := by rw [hy]; show 0 < n; omega
    have B1 : Below F.s w w1 := ⟨hB.os, hB.tape, hB.output, hB.size, hB.block⟩
    clear hy A0 hB c3 c4 hpe hs hrp her hlt0 HFL
    have HYC : Hid (y.con = x.con) := hyc
    have hblen := A1.bl
    have heb := I1.eb
    have c2 := A1.c2
    have c3 := A1.c3
    have c4 := A1.c4
    have c7 := A1.c7
    have z3 := A1.z 3
    have z7 := A1.z 7
    have hsum := I1.sum
    have hrl := I1.rl
    obtain ⟨b, hb⟩ : ∃ b, y.bf[y.ps]? = some b := ⟨y.bf[y.ps]'(by omega), List.getElem?_eq_getElem _⟩
    have hbc : w1.cell? ⟨F.s + 2, 0 + y.ps, none⟩ = some (.int .u8 b.toNat) := cell_at A1.buf (by simp [bvl, hb])
    rw [Nat.zero_add] at hbc
    have hLb : Hid (F.L[x.con]? = some b) := by
      have h := I1.bytes y.ps hlt
      rw [hb] at h
      have hee := I1.er_
      rw [show x.con = y.rp - y.en + y.ps by omega]
      exact h.symm
    have hix := run_at22b (F.s + 2) 0 F.bs F.bs y.ps y.ps rfl (by omega)
    simp only [Nat.zero_add] at hix
    have hw3 : IntKind.i64.wrap ((y.ps : Int) + 1) = (y.ps : Int) + 1 := by rw [IntKind.wrap_i64]; omega
    have hw7 : IntKind.i64.wrap ((y.con : Int) + 1) = (y.con : Int) + 1 := by rw [IntKind.wrap_i64]; omega
    have HS : Hid (∀ k, At F (((w1.drewN k).setCell ⟨F.s + 3, 3, none⟩ (.int .i64 ((y.ps : Int) + 1))).setCell ⟨F.s + 3, 7, none⟩ (.int .i64 ((y.con : Int) + 1))) (stepped y) ∧ Below F.s w1 (((w1.drewN k).setCell ⟨F.s + 3, 3, none⟩ (.int .i64 ((y.ps : Int) + 1))).setCell ⟨F.s + 3, 7, none⟩ (.int .i64 ((y.con : Int) + 1)))) := fun k => two_at A1 k
    have HI : Hid (Inv F (stepped y)) := I1.step hlt
    have HBB : Hid (Below F.s w w1) := B1
    clear A1 I1 hb B1
    clear hyc
    go_wp2_with fail
    go_quiet (fail)
    go_wp2_with fail
    go_ret2
    exact ⟨b, stepped y, hLb.out, rfl, (HS.out _).1, HI.out, by show y.con + 1 = _; rw [HYC.out], HBB.out.trans (HS.out _).2⟩

set_option maxRecDepth 100000 in
set_option maxHeartbeats 2000000 in
theorem byte_over (F : Fx) (w : World) (x : Sd) (A : At F w x) (I : Inv F x) (hc : x.con = F.L.length) (hl : F.L.length ≤ 1024) (hcl : F.Ch.length ≤ 1024) (hbs : 1 ≤ F.bs) (hbs2 : F.bs ≤ 16) :
    Calls Ybad.prog 4 #[.pointer (some ⟨F.s + 3, 0, none⟩)] w (Over F x w) := by
  have hs := I.sum
  have hrl := I.rl
  have hpe : x.ps = x.en := by have := I.pe; omega
  have hrp : x.rp = F.L.length := by omega
  have HFL : Hid (∀ k, Calls Ybad.prog 5 #[.pointer (some ⟨F.s + 3, 0, none⟩)] (w.drewN k) (Fl F x (w.drewN k))) := fun k => fill_any F (w.drewN k) x (A.drewN k) I.tp (by have := I.eb; omega) (by have := I.tlen; omega) hl hcl hbs hbs2 (by have := I.k; have := I.rl; omega) I.rl
  have c3 := A.c3
  have c4 := A.c4
  rw [← hpe] at c4
  have HII : Hid (Inv F x) := I
  have HPE : Hid (x.ps = x.en ∧ x.rp = F.L.length ∧ x.con = F.L.length) := ⟨hpe, hrp, hc⟩
  clear A I hpe hrp hs hrl hc
  go_enter Ybad.func4, Ybad.ntmps4
  go_wp2_with fail
  go_quiet (fail)
  go_wp2_with fail
  refine (HFL.out nq).mono ?_
  rintro e w1 ⟨v', hB, hcase⟩
  have B1 : Hid (Below F.s w w1) := ⟨hB.os, hB.tape, hB.output, hB.size, hB.block⟩
  have hfin : e = .returned (eofV F) ∧ ∃ y, At F w1 y ∧ Inv F y ∧ y.con = x.con ∧ y.tf = y.ps := by
    rcases hcase with ⟨_, he, A0⟩ | ⟨_, _, he, A0⟩ | ⟨_, h2, _⟩
    · exact ⟨he, _, A0, HII.out.flush v', rfl, rfl⟩
    · exact ⟨he, _, A0, (HII.out.flush v').ended HPE.out.1 rfl HPE.out.2.1, rfl, rfl⟩
    · have := HPE.out.2.1; omega
  obtain ⟨rfl, y, hA, hI, hyc, hyt⟩ := hfin
  have HY : Hid (At F w1 y ∧ Inv F y ∧ y.con = x.con ∧ y.tf = y.ps) := ⟨hA, hI, hyc, hyt⟩
  clear hcase hB hA hI hyc hyt c3 c4 HFL
  unfold eofV
  go_wp2_with fail
  go_ret2
  exact ⟨y, rfl, HY.out.1, HY.out.2.1, HY.out.2.2.1, HY.out.2.2.2, B1.out⟩
end Go.Proofs.YbulkxqwDoor
