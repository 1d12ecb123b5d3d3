/-
  WHAT THE DECODER'S STATE SAYS OF THE SOURCE. No Go in sight.
-/
import Derived.Test.YbulkxmoDoorW3
namespace Go.Proofs.YbulkxmoDoor

structure Inv (src : List UInt8) (con : Nat) (x : Sd) : Prop where
  buf : Buf src con (x.rp - (x.n - x.dp)) x.pd x.nb x.bits
  dn : x.dp ≤ x.n
  n23 : x.n ≤ 23
  nr : x.off + x.n = x.rp
  rl : x.rp ≤ src.length
  bl : x.bf.length = 64
  bytes : ∀ j, j < x.n → x.bf[j]? = src[x.off + j]?
  eof : x.eof = true → x.rp = src.length
  pad : 0 < x.pd → x.eof = true ∧ x.dp = x.n

theorem splice_get (L cs : List UInt8) (o j : Nat) (h : o + cs.length ≤ L.length) :
    (splice L o cs)[j]? = if o ≤ j ∧ j < o + cs.length then cs[j - o]? else L[j]? := by
  unfold splice
  have hl : (L.take o).length = o := by simp; omega
  by_cases h1 : j < o
  · rw [if_neg (by omega), List.getElem?_append_left (by rw [hl]; exact h1), List.getElem?_take, if_pos h1]
  · rw [List.getElem?_append_right (by rw [hl]; omega), hl]
    by_cases h2 : j < o + cs.length
    · rw [if_pos ⟨by omega, h2⟩, List.getElem?_append_left (by omega)]
    · rw [if_neg (by omega), List.getElem?_append_right (by omega), List.getElem?_drop]
      congr 1
      omega

theorem moved_get (bf : List UInt8) (dp n j : Nat) (h : bf.length = 64) (h1 : dp ≤ n) (h2 : n ≤ 23) (hj : j < n - dp) : (moved bf dp n)[j]? = bf[dp + j]? := by
  have hl : ((bf.drop dp).take (n - dp)).length = n - dp := by simp; omega
  unfold moved
  rw [splice_get _ _ _ _ (by omega), if_pos ⟨by omega, by omega⟩, Nat.sub_zero, List.getElem?_take, if_pos hj, List.getElem?_drop]

theorem Inv.more {src : List UInt8} {con ch : Nat} {x : Sd} (I : Inv src con x) (h8 : x.n < x.dp + 8) (he : x.eof = false) (hch0 : 1 ≤ ch) (hch : ch ≤ 16) : Inv src con (more src ch x) := by
  have hdn := I.dn
  have hn := I.n23
  have hnr := I.nr
  have hrl := I.rl
  have hml := moved_len x.bf x.dp x.n I.bl I.dn I.n23
  have hpd : x.pd = 0 := by
    rcases Nat.eq_zero_or_pos x.pd with h | h
    · exact h
    · have := (I.pad h).1; rw [he] at this; cases this
  have hb := I.buf
  unfold Go.Proofs.YbulkxmoDoor.more
  by_cases hr : x.rp < src.length
  · rw [if_pos hr]
    have hK : much src ch x.rp (64 - (x.n - x.dp)) ≤ 16 ∧ much src ch x.rp (64 - (x.n - x.dp)) ≤ src.length - x.rp := by unfold much; omega
    generalize much src ch x.rp (64 - (x.n - x.dp)) = K at *
    have hcs : ((src.drop x.rp).take K).length = K := by simp; omega
    refine ⟨?_, by show 0 ≤ _; omega, by show x.n - x.dp + K ≤ 23; omega, by show x.off + x.dp + (x.n - x.dp + K) = x.rp + K; omega, by show x.rp + K ≤ _; omega, ?_, ?_, fun h => ?_, fun h => ?_⟩
    · show Buf src con (x.rp + K - (x.n - x.dp + K - 0)) x.pd x.nb x.bits
      rw [show x.rp + K - (x.n - x.dp + K - 0) = x.rp - (x.n - x.dp) by omega]
      exact hb
    · show (splice _ _ _).length = 64
      rw [length_splice _ _ _ (by rw [hcs, hml]; omega), hml]
    · intro j hlt
      have hlt' : j < x.n - x.dp + K := hlt
      show (splice (moved x.bf x.dp x.n) (x.n - x.dp) ((src.drop x.rp).take K))[j]? = src[x.off + x.dp + j]?
      rw [splice_get _ _ _ _ (by rw [hcs, hml]; omega), hcs]
      by_cases hc : x.n - x.dp ≤ j ∧ j < x.n - x.dp + K
      · rw [if_pos hc, List.getElem?_take, if_pos (by omega), List.getElem?_drop]
        congr 1
        omega
      · rw [if_neg hc, moved_get _ _ _ _ I.bl I.dn I.n23 (by omega), I.bytes (x.dp + j) (by omega)]
        congr 1
        omega
    · rw [show ({ x with rp := x.rp + K, n := x.n - x.dp + K, dp := 0, off := x.off + x.dp, bf := splice (moved x.bf x.dp x.n) (x.n - x.dp) ((src.drop x.rp).take K) } : Sd).eof = x.eof from rfl, he] at h
      cases h
    · have : 0 < x.pd := h
      omega
  · rw [if_neg hr]
    refine ⟨?_, by show 0 ≤ _; omega, by show x.n - x.dp ≤ 23; omega, by show x.off + x.dp + (x.n - x.dp) = x.rp; omega, hrl, hml, ?_, fun _ => ?_, fun h => ?_⟩
    · show Buf src con (x.rp - (x.n - x.dp - 0)) x.pd x.nb x.bits
      rw [Nat.sub_zero]
      exact hb
    · intro j hlt
      have hlt' : j < x.n - x.dp := hlt
      show (moved x.bf x.dp x.n)[j]? = src[x.off + x.dp + j]?
      rw [moved_get _ _ _ _ I.bl I.dn I.n23 hlt', I.bytes (x.dp + j) (by omega)]
      congr 1
      omega
    · show x.rp = src.length
      omega
    · have : 0 < x.pd := h
      omega
end Go.Proofs.YbulkxmoDoor
