/- The walks of (*agenda).mark and of LawS8073BWhole at entries that are there (0 < m <= 2^20) and at most 2^20 slots. -/
import Derived.Test.YbulkfkeaRows
import Derived.Test.YbulkfkeaPlainB
import Derived.WalkKit
import Derived.WalkSpells
import Derived.WalkLawsBesides
import Derived.Deep.OwnRows
import Derived.Deep.DeepCutAuto
import Derived.Deep.CutBlock
import Derived.Lib.Builder
import Derived.BigRegion
import Derived.BigQuiet
import Derived.ChangeAlike
namespace Go.Proofs.Ybulkfkea
open Go.RowKit
set_option linter.unusedVariables false

theorem wp_world {P : Program} {c : Code} {K : Exit → Act → World → Prop} {a : Act} {w : World} (R : World → Prop) (h : R w) (hk : ∀ W, R W → c.wp P K a W) : c.wp P K a w := hk w h
theorem info37 : (Yba.prog.info? 37).map (fun i => (i.size, i.bytes)) = some (12, 128) := by kernel_rfl
theorem neq26 (w : World) (a : Addr) : (binOp .neq 26 (.pointer (some a)) (.pointer (some a))).run Yba.prog w = .ok (.bool false) w := by
  obtain ⟨j, hj, _⟩ := Option.map_eq_some_iff.1 info37
  exact Lib.run_neq_ptr_same (P := Yba.prog) w a Yba.underlying26 hj
theorem info26 : (Yba.prog.info? 26).map (fun i => (i.zero, i.size, i.bytes)) = some (some (.pointer none), 1, 8) := by kernel_rfl
theorem info3 : (Yba.prog.info? 3).map (fun i => (i.zero, i.size, i.bytes)) = some (some (.int .i64 0), 1, 8) := by kernel_rfl
theorem info46 : (Yba.prog.info? 46).map (fun i => (i.zero, i.size, i.bytes)) = some (some (.agg #[.int .i64 0, .int .u64 0, .int .i64 0, .pointer none, .pointer none]), 5, 40) := by kernel_rfl

theorem make46 (m : Nat) (hm : m ≤ 1048576) (w : World) :
    (Instr.makeSlice 39 (.int .i64 (m : Int)) (.int .i64 (m : Int))).run Yba.prog w = .ok (.slice (some ⟨w.heap.size, 0, none⟩) m m) (w.alloc (.cells (madeCells #[.int .i64 0, .int .u64 0, .int .i64 0, .pointer none, .pointer none] (m * 5)) 46)) := by
  obtain ⟨i, hi, hz0, hz1, hz2⟩ := info_parts info46
  have hr := run_make (P := Yba.prog) w 39 46 i _ Yba.underlying39 hi hz0 .i64 .i64 m m (by omega) (Int.le_refl _) (by rw [hz2]; omega) (by omega)
  rw [hz1] at hr
  exact hr

set_option maxHeartbeats 400000 in
theorem mark_none (AB HB m idx : Nat) (w : World) (hi : idx < m) (hm : m ≤ 1048576) (h0 : w.cell? ⟨AB, 0, none⟩ = some (.slice (some ⟨HB, 0, none⟩) m m)) (h3 : w.cell? ⟨HB, idx * 5 + 3, none⟩ = some (.pointer none)) :
    Calls Yba.prog 5 #[.pointer (some ⟨AB, 0, none⟩), .int .i64 (idx : Int)] w fun e w' => e = .returned (.tuple #[]) ∧ w' = w := by
  go_enter Yba.func5, Yba.ntmps5
  go_wp2_with fail
  go_end0
  exact ⟨rfl, rfl⟩
set_option maxHeartbeats 400000 in
theorem mark_some (AB HB m idx gb : Nat) (s : Int) (w : World) (hi : idx < m) (hm : m ≤ 1048576) (h0 : w.cell? ⟨AB, 0, none⟩ = some (.slice (some ⟨HB, 0, none⟩) m m)) (h3 : w.cell? ⟨HB, idx * 5 + 3, none⟩ = some (.pointer (some ⟨gb, 0, none⟩)))
    (hs : w.cell? ⟨gb, 10, none⟩ = some (.int .i64 s)) (hf : w.frozen? ⟨gb, 10, none⟩ = false) :
    Calls Yba.prog 5 #[.pointer (some ⟨AB, 0, none⟩), .int .i64 (idx : Int)] w fun e w' => e = .returned (.tuple #[]) ∧ w' = w.setCell ⟨gb, 10, none⟩ (.int .i64 idx) := by
  go_enter Yba.func5, Yba.ntmps5
  go_wp2_with fail
  go_end0
  exact ⟨rfl, rfl⟩

set_option maxHeartbeats 1000000 in
set_option maxRecDepth 100000 in
theorem lawB (sa : Option Addr) (n caps bs offs be offe m cape : Nat) (seq i : Int) (w : World)
    (S A Q H O I : Nat → Int) (G : Nat → Bool) (hn : n ≤ 1048576) (hm : m ≤ 1048576) (hm0 : 0 < m) (hi0 : 0 ≤ i)
    (hix : ∀ (k : Nat) (w : World), k < n → (Instr.indexAt 23 (.slice sa n caps) (.int .i64 (k : Int))).run Yba.prog w = .ok (.pointer (some ⟨bs, offs + k, none⟩)) w)
    (hbe : be < w.heap.size) (hA : ∀ k, k < m → w.cell? ⟨be, offe + k * 5, none⟩ = some (.int .i64 (A k))) (hQ : ∀ k, k < m → w.cell? ⟨be, offe + k * 5 + 1, none⟩ = some (.int .u64 (Q k)))
    (hH : ∀ k, k < m → w.cell? ⟨be, offe + k * 5 + 2, none⟩ = some (.int .i64 (H k))) (hG : ∀ k, k < m → w.cell? ⟨be, offe + k * 5 + 3, none⟩ = some (.bool (G k))) (hI : ∀ k, k < m → w.cell? ⟨be, offe + k * 5 + 4, none⟩ = some (.int .u8 (I k)))
    (hI0 : ∀ k, k < m → 0 ≤ I k ∧ I k ≤ 255) (hO : ∀ k, O k = if G k = true ∧ 0 < n then I k % n else -1)
    (hbs : 0 < n → bs < w.heap.size) (hsl : ∀ k, k < n → w.cell? ⟨bs, offs + k, none⟩ = some (.int .i64 (S k))) :
    Calls Yba.prog 3 #[.slice (some ⟨be, offe, none⟩) m cape, .slice sa n caps, .int .u64 seq, .int .u64 i] w fun e w' => e = .returned (.bool true) ∧ Below w.heap.size w w' := by
  have hmk := run_make_row' (P := Yba.prog) 25 26 (.pointer none) 8 Yba.underlying25 info26 rfl .i64 .i64 n (by omega) (by omega)
  go_enter Yba.func3, Yba.ntmps3
  go_upto_block 0 with fail
  go_cut [10] (fun _ w' => Pool w w' w.heap.size n n S)
  case first =>
    go_wp2_with fail
    go_loopw [10] (fun i wr => ∃ k : Nat, k ≤ n ∧ i = .int .i64 k ∧ Pool w wr w.heap.size n k S) (fun i _ => n - (intOf i).toNat)
    case atStart => exact ⟨0, Nat.zero_le _, rfl, Pool.start w n S⟩
    case round =>
      obtain ⟨k, hk, rfl, hP⟩ := hrel
      by_cases hlt : k < n
      · have hrow := hP.2.2.1.cell hlt
        have hfr := hP.2.2.1.frozen k
        rw [if_neg (Nat.lt_irrefl k)] at hrow
        have hi := hix k wr hlt
        have hcx : wr.cell? ⟨bs, offs + k, none⟩ = some (.int .i64 (S k)) := (hP.1.cell (by exact hbs (by omega))).trans (hsl k hlt)
        have hB : w.heap.size < wr.heap.size := by have := hP.2.1; omega
        clear hix hsl
        go_wp2_with fail
        go_roundw
        case rel => exact ⟨k + 1, by omega, by go_num, hP.step hlt⟩
        case measure => simp [intOf]; omega
      · obtain rfl : k = n := by omega
        go_wp2_with fail
        go_meet
        case rel => exact hP
  case rest =>
    have hmk2 := run_make_row' (P := Yba.prog) 23 3 (.int .i64 0) 8 Yba.underlying23 info3 rfl .i64 .i64 m (by omega) (by omega)
    have hmk3 := make46 m hm
    have hz := hcut.2.1
    go_upto_block 2 with fail
    go_cut [13] (fun _ w' => St w w' w.heap.size n m m S A Q H O seq)
    case first =>
      go_wp2_with fail
      go_loopw [13] (fun i wr => ∃ k : Nat, k ≤ m ∧ i = .int .i64 k ∧ St w wr w.heap.size n m k S A Q H O seq) (fun i _ => m - (intOf i).toNat)
      case atStart => exact ⟨0, Nat.zero_le _, rfl, St.start A Q H O seq hcut⟩
      case round =>
        clear hcut hz hmk hmk2 hmk3 hix hsl
        obtain ⟨k, hk, rfl, hP⟩ := hrel
        by_cases hlt : k < m
        · have a0 : wr.cell? ⟨be, offe + k * 5, none⟩ = some (.int .i64 (A k)) := (hP.1.cell (by exact hbe)).trans (hA k hlt)
          have a1 : wr.cell? ⟨be, offe + k * 5 + 1, none⟩ = some (.int .u64 (Q k)) := (hP.1.cell (by exact hbe)).trans (hQ k hlt)
          have a2 : wr.cell? ⟨be, offe + k * 5 + 2, none⟩ = some (.int .i64 (H k)) := (hP.1.cell (by exact hbe)).trans (hH k hlt)
          have a3 : wr.cell? ⟨be, offe + k * 5 + 3, none⟩ = some (.bool (G k)) := (hP.1.cell (by exact hbe)).trans (hG k hlt)
          have a4 : wr.cell? ⟨be, offe + k * 5 + 4, none⟩ = some (.int .u8 (I k)) := (hP.1.cell (by exact hbe)).trans (hI k hlt)
          have o1 : wr.cell? ⟨w.heap.size + 1 + n, k, none⟩ = some (.int .i64 0) := by rw [hP.2.2.2.2.1.cell hlt]; simp [ofn]
          have o2 := hP.2.2.2.2.1.frozen k
          have hzr := hP.2.1
          obtain ⟨i0, i1⟩ := hI0 k hlt
          have hOk := hO k
          have l0 : w.heap.size < wr.heap.size := by omega
          have l1 : w.heap.size + 1 + n < wr.heap.size := by omega
          have l2 : w.heap.size + 1 + n + 1 < wr.heap.size := by omega
          have l3 : w.heap.size + 1 + n + 1 + 1 < wr.heap.size := by omega
          have l4 : w.heap.size + 1 + n ≠ w.heap.size := by omega
          clear hzr
          clear hA hQ hH hG hI hI0 hO
          by_cases hg : G k = true ∧ 0 < n
          · obtain ⟨hgt, hn0⟩ := hg
            rw [hgt] at a3
            have hO2 : O k = I k % n := by rw [hOk, if_pos ⟨hgt, hn0⟩]
            have b1 : 0 ≤ I k % (n : Int) := Int.emod_nonneg _ (by omega)
            have b2 : I k % (n : Int) < n := Int.emod_lt_of_pos _ (by omega)
            obtain ⟨x, hx⟩ : ∃ x : Nat, I k % (n : Int) = x := ⟨(I k % (n : Int)).toNat, by omega⟩
            rw [hx] at b1 b2 hO2
            have hxn : x < n := by omega
            have p1 := hP.2.2.1.cell hxn
            have HO : Hid (O k = x) := hO2
            unfold gptr at p1
            clear hO2 hOk b1 b2
            go_upto_region 21 with fail
            refine wp_world (fun W => Rws w W w.heap.size n m S (ofn (k + 1) O) (hcell w.heap.size k A Q H O) seq ∧ Ent W wr.heap.size (A k) (Q k) (H k)) ?_ ?_
            · exact mid_two hP HO.out
            · intro W hW
              clear hx o1 o2 p1 a0 a1 a2 a3 a4 l0 l1 l2 l3 l4
              obtain ⟨hR, e0, e1, e2⟩ := hW
              have g0 : W.cell? ⟨w.heap.size + 1 + n + 1 + 1, 0, none⟩ = some (.slice (some ⟨w.heap.size + 1 + n + 1, 0, none⟩) m m) := hR.2.2.2.2.2.2.cell (by omega)
              have c0 := hR.2.2.2.2.2.1.cell (i := k * 5) (by omega)
              have c1 := hR.2.2.2.2.2.1.cell (i := k * 5 + 1) (by omega)
              have c2 := hR.2.2.2.2.2.1.cell (i := k * 5 + 2) (by omega)
              have c3 := hR.2.2.2.2.2.1.cell (i := k * 5 + 3) (by omega)
              have c4 := hR.2.2.2.2.2.1.cell (i := k * 5 + 4) (by omega)
              have f0 := hR.2.2.2.2.2.1.frozen (k * 5)
              have f1 := hR.2.2.2.2.2.1.frozen (k * 5 + 1)
              have f2 := hR.2.2.2.2.2.1.frozen (k * 5 + 2)
              have f3 := hR.2.2.2.2.2.1.frozen (k * 5 + 3)
              have f4 := hR.2.2.2.2.2.1.frozen (k * 5 + 4)
              go_region
              go_wp2_with fail
              go_roundw
              case rel => exact ⟨k + 1, by omega, by go_num, (by have h2 := St.store hR; rw [optr_pos _ x HO.out] at h2; exact Rws.drew h2)⟩
              case measure => simp [intOf]; omega
          · have HO : Hid (O k = -1) := by show O k = -1; rw [hOk, if_neg hg]
            clear hOk
            have hgd : G k = false ∨ (G k = true ∧ n = 0) := by
              cases hgk : G k
              · exact .inl rfl
              · exact .inr ⟨rfl, by rcases Nat.eq_zero_or_pos n with h | h; exact h; exact absurd ⟨hgk, h⟩ hg⟩
            clear hg
            rcases hgd with hgf | ⟨hgt, hn0⟩
            · rw [hgf] at a3
              go_upto_region 21 with fail
              refine wp_world (fun W => Rws w W w.heap.size n m S (ofn (k + 1) O) (hcell w.heap.size k A Q H O) seq ∧ Ent W wr.heap.size (A k) (Q k) (H k)) ?_ ?_
              · exact mid_one hP HO.out
              · intro W hW
                clear o1 o2 a0 a1 a2 a3 a4 l0 l1 l2 l3 l4
                obtain ⟨hR, e0, e1, e2⟩ := hW
                have g0 : W.cell? ⟨w.heap.size + 1 + n + 1 + 1, 0, none⟩ = some (.slice (some ⟨w.heap.size + 1 + n + 1, 0, none⟩) m m) := hR.2.2.2.2.2.2.cell (by omega)
                have c0 := hR.2.2.2.2.2.1.cell (i := k * 5) (by omega)
                have c1 := hR.2.2.2.2.2.1.cell (i := k * 5 + 1) (by omega)
                have c2 := hR.2.2.2.2.2.1.cell (i := k * 5 + 2) (by omega)
                have c3 := hR.2.2.2.2.2.1.cell (i := k * 5 + 3) (by omega)
                have c4 := hR.2.2.2.2.2.1.cell (i := k * 5 + 4) (by omega)
                have f0 := hR.2.2.2.2.2.1.frozen (k * 5)
                have f1 := hR.2.2.2.2.2.1.frozen (k * 5 + 1)
                have f2 := hR.2.2.2.2.2.1.frozen (k * 5 + 2)
                have f3 := hR.2.2.2.2.2.1.frozen (k * 5 + 3)
                have f4 := hR.2.2.2.2.2.1.frozen (k * 5 + 4)
                go_region
                go_wp2_with fail
                go_roundw
                case rel => exact ⟨k + 1, by omega, by go_num, (by have h2 := St.store hR; rw [optr_neg _ HO.out] at h2; exact Rws.drew h2)⟩
                case measure => simp [intOf]; omega
            · rw [hgt] at a3
              have hn1 : ¬ 0 < n := by omega
              have hn2 : ¬ (0 : Int) < (n : Int) := by omega
              clear hn0
              go_upto_region 21 with fail
              refine wp_world (fun W => Rws w W w.heap.size n m S (ofn (k + 1) O) (hcell w.heap.size k A Q H O) seq ∧ Ent W wr.heap.size (A k) (Q k) (H k)) ?_ ?_
              · exact mid_one hP HO.out
              · intro W hW
                clear o1 o2 a0 a1 a2 a3 a4 l0 l1 l2 l3 l4
                obtain ⟨hR, e0, e1, e2⟩ := hW
                have g0 : W.cell? ⟨w.heap.size + 1 + n + 1 + 1, 0, none⟩ = some (.slice (some ⟨w.heap.size + 1 + n + 1, 0, none⟩) m m) := hR.2.2.2.2.2.2.cell (by omega)
                have c0 := hR.2.2.2.2.2.1.cell (i := k * 5) (by omega)
                have c1 := hR.2.2.2.2.2.1.cell (i := k * 5 + 1) (by omega)
                have c2 := hR.2.2.2.2.2.1.cell (i := k * 5 + 2) (by omega)
                have c3 := hR.2.2.2.2.2.1.cell (i := k * 5 + 3) (by omega)
                have c4 := hR.2.2.2.2.2.1.cell (i := k * 5 + 4) (by omega)
                have f0 := hR.2.2.2.2.2.1.frozen (k * 5)
                have f1 := hR.2.2.2.2.2.1.frozen (k * 5 + 1)
                have f2 := hR.2.2.2.2.2.1.frozen (k * 5 + 2)
                have f3 := hR.2.2.2.2.2.1.frozen (k * 5 + 3)
                have f4 := hR.2.2.2.2.2.1.frozen (k * 5 + 4)
                go_region
                go_wp2_with fail
                go_roundw
                case rel => exact ⟨k + 1, by omega, by go_num, (by have h2 := St.store hR; rw [optr_neg _ HO.out] at h2; exact Rws.drew h2)⟩
                case measure => simp [intOf]; omega
        · obtain rfl : k = m := by omega
          go_wp2_with fail
          go_meet
          case rel => exact hP
    case rest =>
      clear hmk hmk2 hmk3 hz
      obtain ⟨x, hx⟩ : ∃ x : Nat, i % (m : Int) = x := ⟨(i % (m : Int)).toNat, by have := Int.emod_nonneg i (b := (m : Int)) (by omega); omega⟩
      have hxm : x < m := by have := Int.emod_lt_of_pos i (b := (m : Int)) (by omega); omega
      have hg0 : wc.cell? ⟨w.heap.size + 1 + n + 1 + 1, 0, none⟩ = some (.slice (some ⟨w.heap.size + 1 + n + 1, 0, none⟩) m m) := hcut.2.2.2.2.2.2.cell (by omega)
      have hd : wc.cell? ⟨w.heap.size + 1 + n + 1, x * 5 + 3, none⟩ = some (optr w.heap.size (O x)) := by rw [hcut.2.2.2.2.2.1.cell (by omega), hcell_at _ _ _ 3 _ _ _ _ hxm (by omega)]; rfl
      go_wp2_with fail
      have hmark : Calls Yba.prog 5 #[.pointer (some ⟨w.heap.size + 1 + n + 1 + 1, 0, none⟩), .int .i64 (x : Int)] wc fun e w' => e = .returned (.tuple #[]) ∧ Rws w w' w.heap.size n m (mS S O x) (ofn m O) (hcell w.heap.size m A Q H O) seq := by
        by_cases hg : G x = true ∧ 0 < n
        · have b1 : 0 ≤ I x % (n : Int) := Int.emod_nonneg _ (by omega)
          have b2 : I x % (n : Int) < n := Int.emod_lt_of_pos _ (by omega)
          have ho : O x = ((I x % (n : Int)).toNat : Int) := by rw [hO x, if_pos hg]; omega
          have hyn : (I x % (n : Int)).toNat < n := by omega
          rw [optr_pos _ _ ho] at hd
          refine (mark_some _ _ m x _ (S (I x % (n : Int)).toNat) wc hxm hm hg0 hd ((hcut.2.2.2.1 _ hyn).cell (by omega)) ((hcut.2.2.2.1 _ hyn).frozen 10)).mono ?_
          rintro e w' ⟨rfl, rfl⟩
          exact ⟨rfl, mark_in hcut hyn ho⟩
        · have ho : O x = -1 := by rw [hO x, if_neg hg]
          rw [optr_neg _ ho] at hd
          refine (mark_none _ _ m x wc hxm hm hg0 hd).mono ?_
          rintro e w' ⟨rfl, rfl⟩
          exact ⟨rfl, mark_out hcut ho⟩
      refine hmark.mono ?_
      rintro e w2 ⟨rfl, hR⟩
      have hg1 : w2.cell? ⟨w.heap.size + 1 + n + 1 + 1, 0, none⟩ = some (.slice (some ⟨w.heap.size + 1 + n + 1, 0, none⟩) m m) := hR.2.2.2.2.2.2.cell (by omega)
      have hg2 : w2.cell? ⟨w.heap.size + 1 + n + 1 + 1, 1, none⟩ = some (.int .u64 seq) := hR.2.2.2.2.2.2.cell (by omega)
      clear hmark hcut hg0 hd
      go_wp2_with fail
      go_loopw [17] (fun i wr => ∃ k : Nat, k ≤ m ∧ i = .int .i64 k ∧ Rws w wr w.heap.size n m (mS S O x) (ofn m O) (hcell w.heap.size m A Q H O) seq) (fun i _ => m - (intOf i).toNat)
      case atStart => exact ⟨0, Nat.zero_le _, rfl, hR⟩
      case round =>
        clear hR hg1 hg2
        obtain ⟨k, hk, rfl, hR⟩ := hrel
        by_cases hlt : k < m
        · have a0 : wr.cell? ⟨be, offe + k * 5, none⟩ = some (.int .i64 (A k)) := (hR.1.cell (by exact hbe)).trans (hA k hlt)
          have a1 : wr.cell? ⟨be, offe + k * 5 + 1, none⟩ = some (.int .u64 (Q k)) := (hR.1.cell (by exact hbe)).trans (hQ k hlt)
          have a2 : wr.cell? ⟨be, offe + k * 5 + 2, none⟩ = some (.int .i64 (H k)) := (hR.1.cell (by exact hbe)).trans (hH k hlt)
          have a3 : wr.cell? ⟨be, offe + k * 5 + 3, none⟩ = some (.bool (G k)) := (hR.1.cell (by exact hbe)).trans (hG k hlt)
          have a4 : wr.cell? ⟨be, offe + k * 5 + 4, none⟩ = some (.int .u8 (I k)) := (hR.1.cell (by exact hbe)).trans (hI k hlt)
          have g0 : wr.cell? ⟨w.heap.size + 1 + n + 1 + 1, 0, none⟩ = some (.slice (some ⟨w.heap.size + 1 + n + 1, 0, none⟩) m m) := hR.2.2.2.2.2.2.cell (by omega)
          have c0 : wr.cell? ⟨w.heap.size + 1 + n + 1, k * 5, none⟩ = some (.int .i64 (A k)) := by rw [hR.2.2.2.2.2.1.cell (by omega)]; exact congrArg some (hcell_at _ _ _ 0 _ _ _ _ hlt (by omega))
          have c1 : wr.cell? ⟨w.heap.size + 1 + n + 1, k * 5 + 1, none⟩ = some (.int .u64 (Q k)) := by rw [hR.2.2.2.2.2.1.cell (by omega)]; exact congrArg some (hcell_at _ _ _ 1 _ _ _ _ hlt (by omega))
          have c2 : wr.cell? ⟨w.heap.size + 1 + n + 1, k * 5 + 2, none⟩ = some (.int .i64 (H k)) := by rw [hR.2.2.2.2.2.1.cell (by omega)]; exact congrArg some (hcell_at _ _ _ 2 _ _ _ _ hlt (by omega))
          have c3 : wr.cell? ⟨w.heap.size + 1 + n + 1, k * 5 + 3, none⟩ = some (optr w.heap.size (O k)) := by rw [hR.2.2.2.2.2.1.cell (by omega)]; exact congrArg some (hcell_at _ _ _ 3 _ _ _ _ hlt (by omega))
          have c4 : wr.cell? ⟨w.heap.size + 1 + n + 1, k * 5 + 4, none⟩ = some (.pointer none) := by rw [hR.2.2.2.2.2.1.cell (by omega)]; exact congrArg some (hcell_at _ _ _ 4 _ _ _ _ hlt (by omega))
          have o1 : wr.cell? ⟨w.heap.size + 1 + n, k, none⟩ = some (.int .i64 (O k)) := by rw [hR.2.2.2.2.1.cell hlt]; simp [ofn, hlt]
          have hzr := hR.2.1
          have l0 : w.heap.size < wr.heap.size := by omega
          have l1 : w.heap.size + 1 + n < wr.heap.size := by omega
          have l2 : w.heap.size + 1 + n + 1 < wr.heap.size := by omega
          have l3 : w.heap.size + 1 + n + 1 + 1 < wr.heap.size := by omega
          have l5 : be < wr.heap.size := by omega
          have l0' : w.heap.size < wr.heap.size + 1 := by omega
          have l1' : w.heap.size + 1 + n < wr.heap.size + 1 := by omega
          have l2' : w.heap.size + 1 + n + 1 < wr.heap.size + 1 := by omega
          have l3' : w.heap.size + 1 + n + 1 + 1 < wr.heap.size + 1 := by omega
          obtain ⟨i0, i1⟩ := hI0 k hlt
          have hOk := hO k
          clear hzr
          clear hA hQ hH hG hI hI0 hO hix hsl
          by_cases hg : G k = true ∧ 0 < n
          · have b1 : 0 ≤ I k % (n : Int) := Int.emod_nonneg _ (by omega)
            have b2 : I k % (n : Int) < n := Int.emod_lt_of_pos _ (by omega)
            obtain ⟨y, hy⟩ : ∃ y : Nat, I k % (n : Int) = y := ⟨(I k % (n : Int)).toNat, by omega⟩
            rw [if_pos hg, hy] at hOk
            have hyn : y < n := by omega
            have p1 := hR.2.2.1.cell hyn
            unfold gptr at p1
            rw [optr_pos _ y hOk] at c3
            rw [hOk] at o1
            clear hOk hy b1 b2 hg i0 i1
            have hki : (k : Int) < (m : Int) := by omega
            have hpn := neq26
            have hyi : (y : Int) < (n : Int) := by omega
            go_wp2_with fail
            go_region
            go_wp2_with fail
            go_roundw
            case rel => exact ⟨k + 1, by omega, by go_num, ((hR.alloc _).alloc _).drew⟩
            case measure => simp [intOf]; omega
          · rw [if_neg hg] at hOk
            rw [optr_neg _ hOk] at c3
            rw [hOk] at o1
            clear hOk hg i0 i1
            go_wp2_with fail
            go_roundw
            case rel => exact ⟨k + 1, by omega, by go_num, (hR.alloc _).alloc _⟩
            case measure => simp [intOf]; omega
        · obtain rfl : k = m := by omega
          have hend := hR.1
          clear hA hQ hH hG hI hI0
          go_wp2_with fail
          go_loop [20] (fun i => ∃ j : Nat, j ≤ n ∧ i = .int .i64 j) (fun i => n - (intOf i).toNat)
          case atStart => exact ⟨0, Nat.zero_le _, rfl⟩
          case round =>
            obtain ⟨j, hj, rfl⟩ := hrel
            by_cases hjl : j < n
            · have hi := hix j wr hjl
              have hcx : wr.cell? ⟨bs, offs + j, none⟩ = some (.int .i64 (S j)) := (hR.1.cell (by exact hbs (by omega))).trans (hsl j hjl)
              have p1 := hR.2.2.1.cell hjl
              unfold gptr at p1
              have o1 : wr.cell? ⟨w.heap.size + 1 + n, x, none⟩ = some (.int .i64 (O x)) := by rw [hR.2.2.2.2.1.cell hxm]; simp [ofn, hxm]
              have q0 : wr.cell? ⟨w.heap.size + 1 + j, 0, none⟩ = some (.int .i64 (j : Int)) := (hR.2.2.2.1 j hjl).cell (by omega)
              have q4 : wr.cell? ⟨w.heap.size + 1 + j, 4, none⟩ = some (.slice none 0 0) := (hR.2.2.2.1 j hjl).cell (by omega)
              have q5 : wr.cell? ⟨w.heap.size + 1 + j, 5, none⟩ = some (.pointer none) := (hR.2.2.2.1 j hjl).cell (by omega)
              have q6 : wr.cell? ⟨w.heap.size + 1 + j, 6, none⟩ = some (.pointer none) := (hR.2.2.2.1 j hjl).cell (by omega)
              have q7 : wr.cell? ⟨w.heap.size + 1 + j, 7, none⟩ = some (.pointer none) := (hR.2.2.2.1 j hjl).cell (by omega)
              have q8 : wr.cell? ⟨w.heap.size + 1 + j, 8, none⟩ = some (.int .i64 0) := (hR.2.2.2.1 j hjl).cell (by omega)
              have q9 : wr.cell? ⟨w.heap.size + 1 + j, 9, none⟩ = some (.int .i64 0) := (hR.2.2.2.1 j hjl).cell (by omega)
              have q10 : wr.cell? ⟨w.heap.size + 1 + j, 10, none⟩ = some (.int .i64 (mS S O x j)) := (hR.2.2.2.1 j hjl).cell (by omega)
              have q11 : wr.cell? ⟨w.heap.size + 1 + j, 11, none⟩ = some (.bool false) := (hR.2.2.2.1 j hjl).cell (by omega)
              clear hix hsl hR hO
              by_cases hw : O x = (j : Int)
              · have e1 : mS S O x j = x := by unfold mS; rw [if_pos hw]
                rw [e1] at q10
                rw [hw] at o1
                clear e1 hw
                go_wp2_with fail
                go_round
                case rel => exact ⟨j + 1, by omega, by go_num⟩
                case measure => simp [intOf]; omega
              · have e1 : mS S O x j = S j := by unfold mS; rw [if_neg hw]
                rw [e1] at q10
                have hw' : (O x == (j : Int)) = false := by simpa using hw
                clear e1 hw
                go_wp2_with fail
                go_round
                case rel => exact ⟨j + 1, by omega, by go_num⟩
                case measure => simp [intOf]; omega
            · obtain rfl : j = n := by omega
              go_wp2_with fail
              go_ret
              exact ⟨rfl, hend⟩
end Go.Proofs.Ybulkfkea
