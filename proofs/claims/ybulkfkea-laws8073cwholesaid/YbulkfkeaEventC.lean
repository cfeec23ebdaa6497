/- The closure that gathers the log; (*sim).event. -/
import Derived.Test.YbulkfkeaRows
import Derived.Test.YbulkfkeaPlainC
import Derived.WalkKit
import Derived.WalkSpells
import Derived.WalkLawsBesides
import Derived.Deep.RegionHeld3
import Derived.Deep.RegionWith
import Derived.Deep.AppendLies
import Derived.Laws.EntriesVeiled

namespace Go.Proofs.Ybulkfkea
open Go.RowKit
set_option linter.unusedVariables false

/-- an event's sixteen cells. -/
def evt (now k g p : Int) (on : ByteArray) : List Value := [.int .i64 now, .int .i64 k, .int .i64 g, .int .i64 0, .int .i64 p, .int .i64 0, .int .i64 0, .int .i64 0, .int .i64 0, .slice none 0 0, .int .i64 0, .bool false, .int .i64 0, .string ⟨#[]⟩, .string on, .pointer none]
theorem info74 : (Yba.prog.info? 74).map (fun i => (i.zero, i.size, i.bytes)) = some (some (.agg #[.int .i64 0, .int .i64 0, .int .i64 0, .int .i64 0, .int .i64 0, .int .i64 0, .int .i64 0, .int .i64 0, .int .i64 0, .slice none 0 0, .int .i64 0, .bool false, .int .i64 0, .string ⟨#[]⟩, .string ⟨#[]⟩, .pointer none]), 16, 160) := by kernel_rfl

theorem owns_cells {w : World} {base g cap : Nat} {xs : List Value} (h : w.ownsRow base 74 16 (.slice (some ⟨g, 0, none⟩) 1 cap) 1 xs) : ∀ j u, xs[j]? = some u → w.cell? ⟨g, j, none⟩ = some u := by
  intro j u hj
  obtain ⟨hl, h⟩ := h
  rcases h with ⟨h0, _⟩ | ⟨g', cap', cur, hv, hb, hh, _, _, hs, ht⟩
  · simp at h0
  · simp at hv
    obtain ⟨rfl, rfl⟩ := hv
    rw [← ht, List.getElem?_take] at hj
    split at hj
    · simp [World.cell?, hh]; simpa using hj
    · simp at hj

theorem news_new (X : World) (l : List Value) (t : TypeId) (b : Nat) (hb : b = X.heap.size) : ∀ j u, l[j]? = some u → (X.alloc (.cells l.toArray t)).cell? ((⟨b, 0, none⟩ : Addr).add j) = some u := by
  intro j u hj
  subst hb
  rw [Go.WideShapes.add_plain, Nat.zero_add, World.cell?_alloc_new]
  simpa using hj
theorem evt_one (now k g p : Int) (on : ByteArray) : ∀ u ∈ evt now k g p on, u.oneCell' = true := by
  intro u hu
  simp [evt] at hu
  rcases hu with rfl | rfl | rfl | rfl | rfl | rfl | rfl | rfl | rfl | rfl | rfl | rfl | rfl <;> rfl

set_option maxHeartbeats 400000 in
set_option maxRecDepth 100000 in
theorem emit_any (lb : Nat) (now k g p : Int) (on : ByteArray) (w : World) (hl : w.cell? ⟨lb, 0, none⟩ = some (.slice none 0 0)) (hf : w.frozen? ⟨lb, 0, none⟩ = false) (hlb : lb < w.heap.size) :
    Calls Yba.prog 6 #[.agg #[.int .i64 now, .int .i64 k, .int .i64 g, .int .i64 0, .int .i64 p, .int .i64 0, .int .i64 0, .int .i64 0, .int .i64 0, .slice none 0 0, .int .i64 0, .bool false, .int .i64 0, .string ⟨#[]⟩, .string on, .pointer none], .pointer (some ⟨lb, 0, none⟩)] w fun e w' => e = .returned (.tuple #[]) ∧ (∃ eb cap, w'.cell? ⟨lb, 0, none⟩ = some (.slice (some ⟨eb, 0, none⟩) 1 cap) ∧ ∀ j u, (evt now k g p on)[j]? = some u → w'.cell? ⟨eb, j, none⟩ = some u) ∧ Frm [lb] w w' := by
  obtain ⟨i0, hi, hz0, hz1, hz2⟩ := info_parts info74
  go_enter Yba.func6, Yba.ntmps6
  go_wp2_with (at_builtin; refine wpList_append_lies _ (by rfl) _ _ _ (by rfl) w.heap.size 74 i0 _ 16 160 Yba.underlying50 hi hz0 hz1 hz2 rfl (by omega) (.slice none 0 0) 0 [] (by rfl) (World.ownsRow_nil _ _ _ _) ⟨w.heap.size + 1, 0, none⟩ 1 1 (evt now k g p on) (by rfl) rfl (news_new _ (evt now k g p on) 74 _ (by simp)) (evt_one now k g p on) (by omega) (by unfold maxLen; omega) (by omega) (by simp; omega) (w.heap.size + 2) (by simp) ?_)
  intro eb cap w1 hown hgrow hat hlt
  have hG : Frm [] w w1 := (((Frm.refl [] w).alloc _).alloc _).grown hgrow (by intro k hk; cases hk)
  have hlb1 : w1.cell? ⟨lb, 0, none⟩ = some (.slice none 0 0) := (hG.cell (by exact hlb) (by simp)).trans hl
  have hlf1 : w1.frozen? ⟨lb, 0, none⟩ = false := (hG.frozen (by exact hlb) (by simp)).trans hf
  have heb : lb ≠ eb := by
    rcases hat with h | h
    · cases h
    · omega
  clear hgrow hat
  go_wp2_with fail
  go_end0
  refine ⟨rfl, ⟨eb, cap, by rw [World.cell?_setCell_same' _ _ _ (by rw [hlb1]; rfl)], fun j u hj => ?_⟩, (hG.mono (by simp)).setCell (by simp) _⟩
  have hne : (⟨lb, 0, none⟩ : Addr) ≠ ⟨eb, j, none⟩ := by intro e; injection e with e1 _ _; exact heb e1
  rw [show (w1.setCell ⟨lb, 0, none⟩ (.slice (some ⟨eb, 0, none⟩) 1 cap)).cell? ⟨eb, j, none⟩ = w1.cell? ⟨eb, j, none⟩ from World.cell?_setCell_other _ _ _ _ hne]
  exact owns_cells hown j u hj

set_option maxHeartbeats 400000 in
set_option maxRecDepth 100000 in
theorem event_any (sb lb : Nat) (now k g p : Int) (on : ByteArray) (w : World) (hn : w.cell? ⟨sb, 10, none⟩ = some (.int .i64 now)) (he : w.cell? ⟨sb, 9, none⟩ = some (.func (.func 6) #[] #[.pointer (some ⟨lb, 0, none⟩)])) (hsb : sb < w.heap.size)
    (hl : w.cell? ⟨lb, 0, none⟩ = some (.slice none 0 0)) (hf : w.frozen? ⟨lb, 0, none⟩ = false) (hlb : lb < w.heap.size) (hne : sb ≠ lb) :
    Calls Yba.prog 10 #[.pointer (some ⟨sb, 0, none⟩), .agg #[.int .i64 0, .int .i64 k, .int .i64 g, .int .i64 0, .int .i64 p, .int .i64 0, .int .i64 0, .int .i64 0, .int .i64 0, .slice none 0 0, .int .i64 0, .bool false, .int .i64 0, .string ⟨#[]⟩, .string on, .pointer none]] w fun e w' => e = .returned (.tuple #[]) ∧ (∃ eb cap, w'.cell? ⟨lb, 0, none⟩ = some (.slice (some ⟨eb, 0, none⟩) 1 cap) ∧ ∀ j u, (evt now k g p on)[j]? = some u → w'.cell? ⟨eb, j, none⟩ = some u) ∧ Frm [lb] w w' := by
  go_enter Yba.func10, Yba.ntmps10
  go_wp2_with fail
  go_region_held3 (fun w' => w'.cell? ⟨sb, 9, none⟩ = some (.func (.func 6) #[] #[.pointer (some ⟨lb, 0, none⟩)]) ∧ w'.cell? ⟨w.heap.size, 0, none⟩ = some (.int .i64 now) ∧ w'.cell? ⟨w.heap.size, 1, none⟩ = some (.int .i64 k) ∧ w'.cell? ⟨w.heap.size, 2, none⟩ = some (.int .i64 g) ∧ w'.cell? ⟨w.heap.size, 3, none⟩ = some (.int .i64 0) ∧ w'.cell? ⟨w.heap.size, 4, none⟩ = some (.int .i64 p) ∧ w'.cell? ⟨w.heap.size, 5, none⟩ = some (.int .i64 0) ∧ w'.cell? ⟨w.heap.size, 6, none⟩ = some (.int .i64 0) ∧ w'.cell? ⟨w.heap.size, 7, none⟩ = some (.int .i64 0) ∧ w'.cell? ⟨w.heap.size, 8, none⟩ = some (.int .i64 0) ∧ w'.cell? ⟨w.heap.size, 9, none⟩ = some (.slice none 0 0) ∧ w'.cell? ⟨w.heap.size, 10, none⟩ = some (.int .i64 0) ∧ w'.cell? ⟨w.heap.size, 11, none⟩ = some (.bool false) ∧ w'.cell? ⟨w.heap.size, 12, none⟩ = some (.int .i64 0) ∧ w'.cell? ⟨w.heap.size, 13, none⟩ = some (.string ⟨#[]⟩) ∧ w'.cell? ⟨w.heap.size, 14, none⟩ = some (.string on) ∧ w'.cell? ⟨w.heap.size, 15, none⟩ = some (.pointer none))
    (first | (go_keep; done) | (refine ⟨?_, ?_, ?_, ?_, ?_, ?_, ?_, ?_, ?_, ?_, ?_, ?_, ?_, ?_, ?_, ?_, ?_⟩ <;> (rw [hF.cell (by simp <;> omega) (by simp <;> omega)]; go_simp)))
    ((go_at_call 6; refine (emit_any lb now k g p on _ ?h1 ?h2 ?h3).mono ?_; (case h1 => go_simp); (case h2 => go_simp); (case h3 => (simp; omega)); rintro e w' ⟨rfl, hE, hF⟩))
  all_goals
    go_wp2_with fail
    go_end0
    exact ⟨rfl, hE, ((Frm.refl [lb] w).alloc _).drew.trans hF⟩
end Go.Proofs.Ybulkfkea
