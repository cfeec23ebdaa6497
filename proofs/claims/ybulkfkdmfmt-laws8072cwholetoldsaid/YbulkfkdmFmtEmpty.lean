/- The law's walk at a slice that is not nil and holds nothing. -/
import Derived.Test.YbulkfkdmFmtLaw
namespace Go.Proofs.YbulkfkdmFmt
open Go.RowKit Go.Extern.Stop Go.Stop Go.Extern
open Go.WideMaps Go.Maps

set_option maxHeartbeats 1000000 in
set_option maxRecDepth 100000 in
theorem law_empty (F : Interp) (x : Addr) (cap : Nat) (proc : ByteArray) (pick line : Int) (w : World) (hF : F.answers w.tape) (hp : proc.size ≤ maxLen) (hp0 : 0 ≤ pick) (hp1 : pick ≤ 255) :
    Calls Ybaf.prog 3 #[.slice (some x) 0 cap, .string proc, .int .u8 pick, .int .i64 line] w fun e w' => e = .returned (.bool true) ∧ Below w.heap.size w w' := by
  have hmm := @run_makeMap Ybaf.prog
  have q23 : ∀ (w : World) (r : Option Nat), (binOp .eql 23 (.map r) (.map none)).run Ybaf.prog w = .ok (.bool r.isNone) w := fun w r => run_eql_map_nil w _ _ _ r Ybaf.underlying23
  have q22 : ∀ (w : World) (a : Option Addr) (l c : Nat), (binOp .eql 22 (.slice a l c) (.slice none 0 0)).run Ybaf.prog w = .ok (.bool a.isNone) w := eql22
  go_enter Ybaf.func3, Ybaf.ntmps3
  go_upto_region 4 with fail
  go_cut [35] (fun s w' => s = .bool false ∧ w' = w)
  case first =>
    by_cases hev : (pick % 2 == 0) = true
    · go_wp2
      go_meet
      case rel => exact ⟨rfl, rfl⟩
    · have hev' : (pick % 2 == 0) = false := by simpa using hev
      clear hev
      go_wp2
      go_meet
      case rel => exact ⟨rfl, rfl⟩
  case rest =>
    obtain ⟨rfl, hw⟩ := hcut
    replace hw := hw.symm
    subst hw
    have o1 := (World.ownsMap_made (H := Unit) w Ybaf.prog 9 (plainElem Ybaf.prog 3)).alloc (.map #[] 0)
    have o2 := own_second w
    go_wp2_with fail
    refine wp_loop_rounds 1 ?_
    rw [rounds_succ]
    go_wp2_with fail
    refine wp_loop_rounds 1 ?_
    rw [rounds_succ]
    go_wp2_with fail
    refine (name_out F proc _ w.heap.size 0 (.map []) _ (by exact hF) hp (by go_simp) (o1.alloc _) rfl).mono ?_
    rintro e w' ⟨a, rfl, hB⟩
    have hc0 := hB.cell (p := ⟨w.heap.size + 2, 0, none⟩) (by simp)
    have hc1 := hB.cell (p := ⟨w.heap.size + 2, 1, none⟩) (by simp)
    have hc3 := hB.cell (p := ⟨w.heap.size + 2, 3, none⟩) (by simp)
    have hd0 : w'.cell? ⟨w.heap.size + 1 + 1, 0, none⟩ = some (.string ⟨#[102]⟩) := by rw [hc0]; go_simp
    have hd1 : w'.cell? ⟨w.heap.size + 1 + 1, 1, none⟩ = some (.int .i64 line) := by rw [hc1]; go_simp
    have hd3 : w'.cell? ⟨w.heap.size + 1 + 1, 3, none⟩ = some (.map (some w.heap.size)) := by rw [hc3]; go_simp
    have hl1 := (own_below hB (by simp; omega) (o1.alloc _)).len Ybaf.underlying23 3
    have hl2 := (own_below hB (by simp) (o2.alloc _)).len Ybaf.underlying23 3
    have hend : Below w.heap.size w w' := ((((Below.refl _ _).alloc (Nat.le_refl _) _).alloc (by simp) _).alloc (by simp; omega) _).trans (hB.mono (by simp; omega))
    clear hc0 hc1 hc3 hB hF o1 o2
    go_wp2_with fail
    refine wp_loop_rounds 1 ?_
    rw [rounds_succ]
    go_wp2_with fail
    go_ret
    exact ⟨rfl, hend⟩
end Go.Proofs.YbulkfkdmFmt
