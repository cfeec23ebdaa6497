import Derived.Test.YbulkfnteFmtIndex
import Derived.Deep.OwnRows
import Derived.Deep.CutRange
import Derived.Deep.CutBlock
import Derived.Lib.ItoaNum
import Derived.Laws.IdiomStrings
namespace Go.Proofs.YbulkfnteFmt
open Go.RowKit
set_option linter.unusedVariables false
theorem wp_world {P : Program} {c : Code} {K : Exit → Act → World → Prop} {a : Act} {w : World} (R : World → Prop) (h : R w) (hk : ∀ W, R W → c.wp P K a W) : c.wp P K a w := hk w h

/-- the digits that are still to be written. -/
def dgs (u : Nat) : List UInt8 := if u = 0 then [] else Lib.decDigits u
theorem dgs_step {u : Nat} (h : 0 < u) (tl : List UInt8) : dgs (u / 10) ++ (UInt8.ofNat (48 + u % 10) :: tl) = dgs u ++ tl := by
  unfold dgs
  rw [if_neg (by omega : ¬ u = 0)]
  by_cases h10 : u < 10
  · rw [if_pos (by omega), Lib.decDigits, dif_pos h10, Nat.mod_eq_of_lt h10]; rfl
  · rw [if_neg (by omega), Lib.decDigits.eq_1 u, dif_neg h10]; simp
def bF (k : Nat) (tl : List UInt8) (j : Nat) : Value := if j < k then .int .u8 0 else .int .u8 ((tl.getD (j - k) 0).toNat : Int)
theorem bF_step (k : Nat) (c : UInt8) (tl : List UInt8) (j : Nat) : (if j = k then Value.int .u8 (c.toNat : Int) else bF (k + 1) tl j) = bF k (c :: tl) j := by
  unfold bF
  by_cases e : j = k
  · subst e; simp
  · rw [if_neg e]
    by_cases h : j < k
    · rw [if_pos (by omega), if_pos h]
    · rw [if_neg (by omega), if_neg h, show j - k = (j - (k + 1)) + 1 by omega]; simp
theorem row_digit {w : World} {b k : Nat} {tl : List UInt8} (h : w.rowIs b 78 24 (bF (k + 1) tl)) (c : UInt8) : (w.setCell ⟨b, k, none⟩ (.int .u8 (c.toNat : Int))).rowIs b 78 24 (bF k (c :: tl)) :=
  (h.set k _).congr (fun j _ => bF_step k c tl j)
theorem pow_bd {u U t : Nat} (hu : 0 < u) (h : u * 10 ^ t ≤ U) (hU : U ≤ 9223372036854775808) : t < 20 := by
  rcases Nat.lt_or_ge t 20 with h' | h'
  · exact h'
  · have h1 : 10 ^ 20 ≤ 10 ^ t := Nat.pow_le_pow_right (by decide) h'
    have h2 : 10 ^ t ≤ u * 10 ^ t := Nat.le_mul_of_pos_left _ hu
    have h3 : (10 : Nat) ^ 20 = 100000000000000000000 := by decide
    omega
theorem pow_step {u U t : Nat} (h : u * 10 ^ t ≤ U) : u / 10 * 10 ^ (t + 1) ≤ U := by
  have h1 : u / 10 * 10 ^ (t + 1) = (u / 10 * 10) * 10 ^ t := by rw [Nat.pow_succ, Nat.mul_comm (10 ^ t) 10, ← Nat.mul_assoc]
  rw [h1]
  exact Nat.le_trans (Nat.mul_le_mul_right _ (by omega)) h
theorem itoa_neg {n : Int} (h : n < 0) : Lib.itoa n = 45 :: Lib.decDigits n.natAbs := by unfold Lib.itoa; rw [if_pos h]
theorem itoa_pos {n : Int} (h : ¬ n < 0) : Lib.itoa n = Lib.decDigits n.natAbs := by unfold Lib.itoa; rw [if_neg h, show n.toNat = n.natAbs by omega]
theorem itoa_zero : Lib.itoa 0 = [48] := by rw [itoa_pos (by decide), Lib.decDigits]; rfl

theorem dig_val (v : Nat) : ((UInt8.ofNat (48 + v % 10)).toNat : Int) = 48 + (v : Int) % 10 := by
  have h : v % 10 < 10 := Nat.mod_lt _ (by decide)
  rw [UInt8.toNat_ofNat']
  omega
theorem zero_row (w : World) : (w.alloc (.cells #[.int .u8 0, .int .u8 0, .int .u8 0, .int .u8 0, .int .u8 0, .int .u8 0, .int .u8 0, .int .u8 0, .int .u8 0, .int .u8 0, .int .u8 0, .int .u8 0, .int .u8 0, .int .u8 0, .int .u8 0, .int .u8 0, .int .u8 0, .int .u8 0, .int .u8 0, .int .u8 0, .int .u8 0, .int .u8 0, .int .u8 0, .int .u8 0] 78)).rowIs w.heap.size 78 24 (bF 24 []) := by
  refine World.rowIs_alloc w #[.int .u8 0, .int .u8 0, .int .u8 0, .int .u8 0, .int .u8 0, .int .u8 0, .int .u8 0, .int .u8 0, .int .u8 0, .int .u8 0, .int .u8 0, .int .u8 0, .int .u8 0, .int .u8 0, .int .u8 0, .int .u8 0, .int .u8 0, .int .u8 0, .int .u8 0, .int .u8 0, .int .u8 0, .int .u8 0, .int .u8 0, .int .u8 0] 78 (bF 24 []) (fun i hi => ?_)
  have hi' : i < 24 := hi
  have e : bF 24 [] i = .int .u8 0 := by unfold bF; rw [if_pos hi']
  rw [e]
  show (Array.replicate 24 (Value.int .u8 0))[i]? = some (.int .u8 0)
  rw [Array.getElem?_replicate, if_pos hi']

theorem dec_pos (u : Nat) : 0 < (Lib.decDigits u).length := by
  rw [Lib.decDigits]
  by_cases h : u < 10
  · rw [dif_pos h]; simp
  · rw [dif_neg h]; simp
theorem slice_row (w : World) (b k : Nat) (hk : k < 24) :
    (Instr.sliceAt 78 (.pointer (some ⟨b, 0, none⟩)) (some (.int .i64 (k : Int))) none none).run Ybaf.prog w = .ok (.slice (some ⟨b, k, none⟩) (24 - k) (24 - k)) w := by
  have e24 : Ybaf.prog.arrayLen 78 = 24 := by kernel_rfl
  rw [run_sliceAt_array_l (P := Ybaf.prog) w 78 ⟨b, 0, none⟩ (by kernel_rfl) .i64 (k : Int) (by omega) (by rw [e24]; omega), e24]
  have es : (sizeOf (Ybaf.prog.elem 78)).run Ybaf.prog w = .ok 1 w := by
    have e1 : Ybaf.prog.elem 78 = 5 := by kernel_rfl
    rw [e1]; go_simp
  rw [es]
  show Result.ok (slicedAt ⟨b, 0, none⟩ (k : Int).toNat 24 24 1) w = _
  have ek : (k : Int).toNat = k := by omega
  rw [ek, slicedAt, if_neg (by omega)]
  simp [Addr.add]
  try omega
theorem conv_row {w : World} {b k : Nat} {tl : List UInt8} (h : w.rowIs b 78 24 (bF k tl)) (hkt : k + tl.length = 24) :
    (convert 23 9 (.slice (some ⟨b, k, none⟩) (24 - k) (24 - k))).run Ybaf.prog w = .ok (.string ⟨tl.toArray⟩) w := by
  rw [show 24 - k = tl.length by omega]
  refine run_convert_bytes_back w 23 9 5 ⟨b, k, none⟩ tl.length tl (by kernel_rfl) (by kernel_rfl) (by kernel_rfl) (fun j hj => ?_)
  have e := h.cell (i := k + j) (by omega)
  have e2 : (⟨b, k, none⟩ : Addr).add j = ⟨b, k + j, none⟩ := by
    simp [Addr.add]
    try omega
  rw [e2, e, bF, if_neg (by omega), show k + j - k = j by omega]
  simp [List.getD, List.getElem?_eq_getElem hj]

set_option maxRecDepth 100000 in
set_option maxHeartbeats 400000 in
theorem itoa_any (n : Int) (w : World) (h0 : -9223372036854775808 ≤ n) (h1 : n ≤ 9223372036854775807) :
    Calls Ybaf.prog 7 #[.int .i64 n] w fun e w' => e = .returned (.string ⟨(Lib.itoa n).toArray⟩) ∧ Below w.heap.size w w' := by
  go_enter Ybaf.func7, Ybaf.ntmps7
  go_upto_if 9 with fail
  go_cut [3] from 9 to 16 (fun u w' => u = .int .u64 (n.natAbs : Int) ∧ w' = w)
  case first =>
    by_cases hn : n < 0
    · go_wp2
      go_meet
      case rel => exact ⟨by congr 1; omega, rfl⟩
    · go_wp2
      go_meet
      case rel => exact ⟨by congr 1; omega, rfl⟩
  case rest =>
    obtain ⟨rfl, hw⟩ := hcut
    replace hw := hw.symm
    subst hw
    obtain ⟨U, hU⟩ : ∃ U, n.natAbs = U := ⟨_, rfl⟩
    have hU2 : U ≤ 9223372036854775808 := by omega
    rw [hU]
    by_cases hz : U = 0
    · have hn0 : n = 0 := by omega
      have ht : ((U : Int) == 0) = true := by simp [hz]
      have E0 : Hid (Lib.itoa n = [48]) := by show Lib.itoa n = [48]; rw [hn0]; exact itoa_zero
      clear hn0 hz hU
      go_wp2_with fail
      go_ret
      exact ⟨ret_str (by rw [E0.out]), Below.refl _ _⟩
    · have ht : ((U : Int) == 0) = false := by simp; omega
      have HU : Hid (n.natAbs = U) := hU
      clear hU
      go_wp2_with fail
      go_loopw [3, 6] (fun u i wr => ∃ (v k : Nat) (tl : List UInt8), u = .int .u64 v ∧ i = .int .i64 k ∧ k + tl.length = 24 ∧ dgs v ++ tl = Lib.decDigits U ∧ v * 10 ^ tl.length ≤ U ∧ tl.length ≤ 20 ∧ wr.rowIs w.heap.size 78 24 (bF k tl) ∧ Below w.heap.size w wr) (fun u _ _ => (intOf u).toNat)
      case atStart =>
        refine ⟨U, 24, [], rfl, rfl, rfl, by unfold dgs; rw [if_neg hz]; simp, by simp, by simp, ?_, (Below.refl _ _).alloc (Nat.le_refl _) _⟩
        exact zero_row w
      case round =>
        obtain ⟨v, k, tl, rfl, rfl, hkt, hdg, hpw, hl20, hrow, hbel⟩ := hrel
        by_cases hv : 0 < v
        · have ht20 := pow_bd hv hpw hU2
          obtain ⟨j, rfl⟩ : ∃ j, k = j + 1 := ⟨k - 1, by omega⟩
          have hj : j < 24 := by omega
          have c1 := hrow.cell hj
          have f1 := hrow.frozen j
          have hvU : v ≤ 9223372036854775808 := by
            have := Nat.le_mul_of_pos_right v (Nat.pow_pos (n := tl.length) (by decide : 0 < 10)); omega
          have hvi : (0 : Int) < (v : Int) := by omega
          go_wp2_with fail
          go_roundw
          case rel =>
            rw [← dig_val v]
            exact ⟨v / 10, j, UInt8.ofNat (48 + v % 10) :: tl, by go_num, rfl, by simp; omega, by rw [dgs_step hv]; exact hdg, pow_step hpw, by simp; omega, row_digit hrow _, hbel.setCell (Nat.le_refl _) _⟩
          case measure => simp [intOf]; omega
        · obtain rfl : v = 0 := by omega
          have hT : tl = Lib.decDigits U := by rw [← hdg]; rfl
          have HT : Hid (tl = Lib.decDigits U) := hT
          clear hT hdg hpw
          by_cases hn : n < 0
          · obtain ⟨j, rfl⟩ : ∃ j, k = j + 1 := ⟨k - 1, by omega⟩
            have hj : j < 24 := by omega
            have c1 := hrow.cell hj
            have f1 := hrow.frozen j
            have hrow2 : (wr.setCell ⟨w.heap.size, j, none⟩ (.int .u8 45)).rowIs w.heap.size 78 24 (bF j (45 :: tl)) := row_digit hrow 45
            have hs1 := slice_row (wr.setCell ⟨w.heap.size, j, none⟩ (.int .u8 45)) w.heap.size j hj
            have hs2 := conv_row (k := j) hrow2 (by simp; omega)
            have E1 : Hid (Lib.itoa n = 45 :: tl) := by
              show Lib.itoa n = 45 :: tl
              rw [itoa_neg hn, HU.out, HT.out]
            go_wp2_with fail
            go_ret
            exact ⟨ret_str (by rw [E1.out]), hbel.setCell (Nat.le_refl _) _⟩
          · have hk : k < 24 := by have := dec_pos U; rw [← HT.out] at this; omega
            have hs1 := slice_row wr w.heap.size k hk
            have hs2 := conv_row hrow hkt
            have E1 : Hid (Lib.itoa n = tl) := by
              show Lib.itoa n = tl
              rw [itoa_pos hn, HU.out, HT.out]
            go_wp2_with fail
            go_ret
            exact ⟨ret_str (by rw [E1.out]), hbel⟩
end Go.Proofs.YbulkfnteFmt
