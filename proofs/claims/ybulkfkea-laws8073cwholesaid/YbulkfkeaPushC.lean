/- (*runq).push: there is room; the ring grows. -/
import Derived.Test.YbulkfkeaRows
import Derived.Test.YbulkfkeaPlainC
import Derived.WalkKit
import Derived.WalkSpells
import Derived.WalkLawsBesides
import Derived.BigRegion
import Derived.BigQuiet
import Derived.Deep.DeepCutAuto
import Derived.Deep.CutBlock

namespace Go.Proofs.Ybulkfkea
open Go.RowKit
set_option linter.unusedVariables false

theorem wp_worldC {P : Program} {c : Code} {K : Exit → Act → World → Prop} {a : Act} {w : World} (R : World → Prop) (h : R w) (hk : ∀ W, R W → c.wp P K a W) : c.wp P K a w := hk w h

set_option maxHeartbeats 400000 in
set_option maxRecDepth 100000 in
theorem push_room (qb RB L head n : Nat) (ga : Option Addr) (f : Nat → Option Addr) (w : World) (hL : L ≤ 65536) (hh : head < L) (hn : n < L) (hne : RB ≠ qb)
    (hq : w.rowIs qb 59 3 (qcell RB L head n)) (hr : w.rowIs RB 26 L (fun j => .pointer (f j))) :
    Calls Yba.prog 8 #[.pointer (some ⟨qb, 0, none⟩), .pointer ga] w fun e w' => e = .returned (.tuple #[]) ∧ w'.rowIs qb 59 3 (qcell RB L head (n + 1 : Nat)) ∧ w'.rowIs RB 26 L (fun j => .pointer (roomF ((head + n) % L) f ga j)) ∧ Frm [qb, RB] w w' := by
  obtain ⟨x, hx⟩ : ∃ x : Nat, (head + n) % L = x := ⟨_, rfl⟩
  have hxi : ((head : Int) + (n : Int)) % (L : Int) = (x : Int) := by rw [← hx]; simp
  have hxL : x < L := by rw [← hx]; exact Nat.mod_lt _ (by omega)
  have c0 : w.cell? ⟨qb, 0, none⟩ = some (.slice (some ⟨RB, 0, none⟩) L L) := hq.cell (by omega)
  have c1 : w.cell? ⟨qb, 1, none⟩ = some (.int .i64 (head : Int)) := hq.cell (by omega)
  have c2 : w.cell? ⟨qb, 2, none⟩ = some (.int .i64 (n : Int)) := hq.cell (by omega)
  have f2 := hq.frozen 2
  have r1 := hr.cell hxL
  have r2 := hr.frozen x
  have ht : ((n : Int) == (L : Int)) = false := by simp; omega
  go_enter Yba.func8, Yba.ntmps8
  go_wp2_with fail
  go_quiet (fail)
  go_wp2_with fail
  go_region
  go_wp2_with fail
  go_end0
  have e : (Value.int .i64 ((n : Int) + 1)) = .int .i64 ((n + 1 : Nat) : Int) := by simp
  rw [e]
  refine ⟨rfl, q_n (World.rowIs.setOther (w := w.drewN (nq + 1)) hq (Ne.symm hne) _), ?_, ?_⟩
  · rw [hx]
    exact (row_room (w := w.drewN (nq + 1)) hr x ga).setOther hne _
  · exact ((Frm.refl [qb, RB] w).setCell (b := w.drewN (nq + 1)) (by simp) _).setCell (by simp) _

theorem info26c : (Yba.prog.info? 26).map (fun i => (i.zero, i.size, i.bytes)) = some (some (.pointer none), 1, 8) := by kernel_rfl

set_option maxHeartbeats 400000 in
set_option maxRecDepth 100000 in
theorem push_grow (qb RB L head : Nat) (ga : Option Addr) (f : Nat → Option Addr) (w : World) (hL : L ≤ 65536) (hh : head < L ∨ L = 0) (hne : RB ≠ qb)
    (hq : w.rowIs qb 59 3 (qcell RB L head L)) (hr : w.rowIs RB 26 L (fun j => .pointer (f j))) :
    Calls Yba.prog 8 #[.pointer (some ⟨qb, 0, none⟩), .pointer ga] w fun e w' => e = .returned (.tuple #[]) ∧ w'.rowIs qb 59 3 (qcell w.heap.size (max 8 (2 * L)) (0 : Int) (L + 1 : Nat)) ∧ w'.rowIs w.heap.size 26 (max 8 (2 * L)) (fun j => .pointer (roomF L (grownF L head L f) ga j)) ∧ Frm [qb] w w' := by
  obtain ⟨M, hM⟩ : ∃ M : Nat, max 8 (2 * L) = M := ⟨_, rfl⟩
  have hM1 : 8 ≤ M := by omega
  have hM2 : L < M := by omega
  have hM3 : M ≤ 131072 := by omega
  have hmk8 : ∀ w : World, (Instr.makeSlice 25 (.int .i64 8) (.int .i64 8)).run Yba.prog w = .ok (.slice (some ⟨w.heap.size, 0, none⟩) 8 8) (w.alloc (.cells (madeCells #[.pointer none] 8) 26)) := run_make_row' (P := Yba.prog) 25 26 (.pointer none) 8 Yba.underlying25 info26c rfl .i64 .i64 8 (by omega) (by omega)
  have hmkL : ∀ w : World, (Instr.makeSlice 25 (.int .i64 (2 * (L : Int))) (.int .i64 (2 * (L : Int)))).run Yba.prog w = .ok (.slice (some ⟨w.heap.size, 0, none⟩) (2 * L) (2 * L)) (w.alloc (.cells (madeCells #[.pointer none] (2 * L)) 26)) := fun w => by
    have := run_make_row' (P := Yba.prog) 25 26 (.pointer none) 8 Yba.underlying25 info26c rfl .i64 .i64 (2 * L) (by omega) (by omega) w
    simpa using this
  have c0 : w.cell? ⟨qb, 0, none⟩ = some (.slice (some ⟨RB, 0, none⟩) L L) := hq.cell (by omega)
  have c1 : w.cell? ⟨qb, 1, none⟩ = some (.int .i64 (head : Int)) := hq.cell (by omega)
  have c2 : w.cell? ⟨qb, 2, none⟩ = some (.int .i64 (L : Int)) := hq.cell (by omega)
  have lq := hq.lt
  rw [hM]
  go_enter Yba.func8, Yba.ntmps8
  go_wp2_with fail
  go_quiet (fail)
  go_upto_region 1 with fail
  go_cut [4] (fun s w' => s = .slice (some ⟨w.heap.size, 0, none⟩) M M ∧ w'.rowIs w.heap.size 26 M (fun _ => .pointer none) ∧ Frm [] w w' ∧ w'.heap.size = w.heap.size + 1)
  case first =>
    by_cases h4 : (8 : Int) < 2 * (L : Int)
    · have E : Hid (M = 2 * L) := by show M = 2 * L; omega
      clear hM
      go_wp2_with fail
      go_meet
      case rel => rw [E.out]; exact ⟨rfl, World.rowIs_made (w.drewN nq) (.pointer none) (2 * L) 26, (Frm.refl [] w).alloc (b := w.drewN nq) _, by simp [World.drewN]⟩
    · have E : Hid (M = 8) := by show M = 8; omega
      clear hM
      go_wp2_with fail
      go_meet
      case rel => rw [E.out]; exact ⟨rfl, World.rowIs_made (w.drewN nq) (.pointer none) 8 26, (Frm.refl [] w).alloc (b := w.drewN nq) _, by simp [World.drewN]⟩
  case rest =>
    obtain ⟨rfl, hN, hF, hz⟩ := hcut
    have hq1 := hF.row hq (by simp)
    have hr1 := hF.row hr (by simp)
    have d0 : wc.cell? ⟨qb, 0, none⟩ = some (.slice (some ⟨RB, 0, none⟩) L L) := hq1.cell (by omega)
    have d2 : wc.cell? ⟨qb, 2, none⟩ = some (.int .i64 (L : Int)) := hq1.cell (by omega)
    clear c0 c1 c2 hmk8 hmkL
    go_upto_block 0 with fail
    go_cut [28] (fun _ w' => w'.rowIs qb 59 3 (qcell RB L head L) ∧ w'.rowIs w.heap.size 26 M (fun j => .pointer (grownF L head L f j)) ∧ Frm [] w w')
    case first =>
      go_wp2_with fail
      go_loopw [28] (fun i wr => ∃ k : Nat, k ≤ L ∧ i = .int .i64 k ∧ wr.rowIs qb 59 3 (qcell RB L head L) ∧ wr.rowIs RB 26 L (fun j => .pointer (f j)) ∧ wr.rowIs w.heap.size 26 M (fun j => .pointer (grownF L head k f j)) ∧ Frm [] w wr) (fun i _ => L - (intOf i).toNat)
      case atStart => exact ⟨0, Nat.zero_le _, rfl, hq1, hr1, hN.congr (fun j _ => by simp [grownF]), hF⟩
      case round =>
        clear d0 d2 hq1 hr1 hN hF hz
        obtain ⟨k, hk, rfl, hq2, hr2, hN2, hF2⟩ := hrel
        by_cases hlt : k < L
        · obtain ⟨x, hx⟩ : ∃ x : Nat, (head + k) % L = x := ⟨_, rfl⟩
          have hxi : ((head : Int) + (k : Int)) % (L : Int) = (x : Int) := by rw [← hx]; simp
          have hxL : x < L := by rw [← hx]; exact Nat.mod_lt _ (by omega)
          have e0 : wr.cell? ⟨qb, 0, none⟩ = some (.slice (some ⟨RB, 0, none⟩) L L) := hq2.cell (by omega)
          have e1 : wr.cell? ⟨qb, 1, none⟩ = some (.int .i64 (head : Int)) := hq2.cell (by omega)
          have r1 := hr2.cell hxL
          have n1 := hN2.cell (i := k) (by omega)
          have n2 := hN2.frozen k
          have hhL : head < L := by omega
          have HX : Hid ((head + k) % L = x) := hx
          clear hx hh
          go_wp2_with fail
          go_region
          go_wp2_with fail
          go_roundw
          case rel =>
            refine ⟨k + 1, by omega, by go_num, ?_, ?_, ?_, ?_⟩
            · exact hq2.setOther (by show qb ≠ w.heap.size; omega) _
            · exact hr2.setOther (by show RB ≠ w.heap.size; have := hr.lt; omega) _
            · rw [← HX.out]; exact row_grow hN2
            · exact hF2.setCell (.inr (Nat.le_refl _)) _
          case measure => simp [intOf]; omega
        · obtain rfl : k = L := by omega
          go_wp2_with fail
          go_meet
          case rel => exact ⟨hq2, hN2, hF2⟩
    case rest =>
      obtain ⟨hq3, hN3, hF3⟩ := hcut
      clear d0 d2 hq1 hr1 hN hF hz hM
      have g0 := hq3.cell (i := 0) (by omega)
      have g1 := hq3.cell (i := 1) (by omega)
      have f0 := hq3.frozen 0
      have f1 := hq3.frozen 1
      go_upto_region 8 with fail
      refine wp_worldC (fun W => W.rowIs qb 59 3 (qcell w.heap.size M (0 : Int) L) ∧ W.rowIs w.heap.size 26 M (fun j => .pointer (grownF L head L f j)) ∧ Frm [qb] w W) ?_ ?_
      · exact ⟨q_ring hq3, (hN3.setOther (by show w.heap.size ≠ qb; omega) _).setOther (by show w.heap.size ≠ qb; omega) _, ((hF3.mono (by simp)).setCell (by simp) _).setCell (by simp) _⟩
      · intro W hW
        obtain ⟨hq4, hN4, hF4⟩ := hW
        clear g0 g1 f0 f1 hq3 hN3 hF3
        have e0 : W.cell? ⟨qb, 0, none⟩ = some (.slice (some ⟨w.heap.size, 0, none⟩) M M) := hq4.cell (by omega)
        have e1 : W.cell? ⟨qb, 1, none⟩ = some (.int .i64 0) := hq4.cell (by omega)
        have e2 : W.cell? ⟨qb, 2, none⟩ = some (.int .i64 (L : Int)) := hq4.cell (by omega)
        have f2 := hq4.frozen 2
        have n1 := hN4.cell (i := L) hM2
        have n2 := hN4.frozen L
        have hxi : (L : Int) % (M : Int) = (L : Int) := Int.emod_eq_of_lt (by omega) (by omega)
        go_region
        go_wp2_with fail
        go_end0
        have e : (Value.int .i64 ((L : Int) + 1)) = .int .i64 ((L + 1 : Nat) : Int) := by simp
        rw [e]
        refine ⟨rfl, q_n (World.rowIs.setOther (w := W.drew) hq4 (by show qb ≠ w.heap.size; omega) _), ?_, ?_⟩
        · exact (row_room (w := W.drew) hN4 L ga).setOther (by show w.heap.size ≠ qb; omega) _
        · exact (hF4.drew.setCell (.inr (Nat.le_refl _)) _).setCell (by simp) _
end Go.Proofs.Ybulkfkea
