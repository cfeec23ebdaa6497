/- (*sim).leave, push both ways, (*sim).block. -/
import Derived.Test.YbulkfkeaPushC
import Derived.Test.YbulkfkeaEventC

namespace Go.Proofs.Ybulkfkea
open Go.RowKit
set_option linter.unusedVariables false

/-- the one event that lies in the log. -/
def Logged (w : World) (lb : Nat) (now k g p : Int) (on : ByteArray) : Prop :=
  ∃ eb cap, w.cell? ⟨lb, 0, none⟩ = some (.slice (some ⟨eb, 0, none⟩) 1 cap) ∧ ∀ j u, (evt now k g p on)[j]? = some u → w.cell? ⟨eb, j, none⟩ = some u

set_option maxHeartbeats 400000 in
set_option maxRecDepth 100000 in
theorem leave_any (sb lb pb : Nat) (now k g p : Int) (on : ByteArray) (cv : Value) (w : World) (hn : w.cell? ⟨sb, 10, none⟩ = some (.int .i64 now)) (he : w.cell? ⟨sb, 9, none⟩ = some (.func (.func 6) #[] #[.pointer (some ⟨lb, 0, none⟩)])) (hsb : sb < w.heap.size)
    (hl : w.cell? ⟨lb, 0, none⟩ = some (.slice none 0 0)) (hf : w.frozen? ⟨lb, 0, none⟩ = false) (hlb : lb < w.heap.size) (hne : sb ≠ lb)
    (hp : w.cell? ⟨pb, 7, none⟩ = some cv) (hpf : w.frozen? ⟨pb, 7, none⟩ = false) (hpb : pb < w.heap.size) (hps : pb ≠ sb) (hpl : pb ≠ lb) :
    Calls Yba.prog 9 #[.pointer (some ⟨sb, 0, none⟩), .pointer (some ⟨pb, 0, none⟩), .agg #[.int .i64 0, .int .i64 k, .int .i64 g, .int .i64 0, .int .i64 p, .int .i64 0, .int .i64 0, .int .i64 0, .int .i64 0, .slice none 0 0, .int .i64 0, .bool false, .int .i64 0, .string ⟨#[]⟩, .string on, .pointer none]] w fun e w' => e = .returned (.tuple #[]) ∧ Logged w' lb now k g p on ∧ Frm [lb] (w.setCell ⟨pb, 7, none⟩ (.pointer none)) w' := by
  go_enter Yba.func9, Yba.ntmps9
  go_wp2_with fail
  refine (event_any sb lb now k g p on _ (by go_simp) (by go_simp) (by simp; omega) (by go_simp) (by go_simp) (by simp; omega) hne).mono ?_
  rintro e w' ⟨rfl, hE, hF⟩
  go_wp2_with fail
  go_end0
  refine ⟨rfl, hE, ?_⟩
  exact ((Frm.refl [lb] _).alloc _).trans hF

theorem block_lt {w : World} {a : Addr} {v : Value} (h : w.cell? a = some v) : a.block < w.heap.size := by
  rcases Nat.lt_or_ge a.block w.heap.size with h' | h'
  · exact h'
  · simp [World.cell?, Array.getElem?_eq_none h'] at h

/-- push, both ways at once. -/
def Pushed (w w' : World) (qb RB L head n : Nat) (ga : Option Addr) (f : Nat → Option Addr) : Prop :=
  ∃ RB' M head' F, w'.rowIs qb 59 3 (qcell RB' M (head' : Nat) (n + 1 : Nat)) ∧ w'.rowIs RB' 26 M (fun j => .pointer (F j)) ∧ Holds M head' F (n + 1) (fun i => if i < n then f ((head + i) % L) else ga) ∧
    (n = L → M = max 8 (2 * L) ∧ head' = 0) ∧ (n ≠ L → M = L ∧ head' = head) ∧ head' < M ∧ M ≤ 131072 ∧ n < M ∧ (RB' = RB ∨ w.heap.size ≤ RB') ∧ Frm [qb, RB] w w'

theorem push_any (qb RB L head n : Nat) (ga : Option Addr) (f : Nat → Option Addr) (w : World) (hL : L ≤ 65536) (hh : head < L ∨ L = 0) (hn : n ≤ L) (hne : RB ≠ qb)
    (hq : w.rowIs qb 59 3 (qcell RB L head n)) (hr : w.rowIs RB 26 L (fun j => .pointer (f j))) :
    Calls Yba.prog 8 #[.pointer (some ⟨qb, 0, none⟩), .pointer ga] w fun e w' => e = .returned (.tuple #[]) ∧ Pushed w w' qb RB L head n ga f := by
  by_cases h : n = L
  · subst h
    refine (push_grow qb RB n head ga f w hL hh hne hq hr).mono ?_
    rintro e w' ⟨rfl, h1, h2, h3⟩
    exact ⟨rfl, w.heap.size, max 8 (2 * n), 0, _, h1, h2, holds_grown (by omega) ga, fun _ => ⟨rfl, rfl⟩, fun h => absurd rfl h, by omega, by omega, by omega, .inr (Nat.le_refl _), h3.mono (by simp)⟩
  · refine (push_room qb RB L head n ga f w hL (by omega) (by omega) hne hq hr).mono ?_
    rintro e w' ⟨rfl, h1, h2, h3⟩
    exact ⟨rfl, RB, L, head, _, h1, h2, holds_room (by omega) (by omega) ga, fun h' => absurd h' h, fun _ => ⟨rfl, rfl⟩, by omega, by omega, by omega, .inl rfl, h3⟩

set_option maxHeartbeats 800000 in
set_option maxRecDepth 100000 in
theorem block_any (sb lb pb gb qb RB L head n : Nat) (now bl gid pid : Int) (on : ByteArray) (cv : Value) (f : Nat → Option Addr) (w : World) (hL : L ≤ 65536) (hh : head < L ∨ L = 0) (hnL : n ≤ L) (hRq : RB ≠ qb)
    (hq : w.rowIs qb 59 3 (qcell RB L head n)) (hr : w.rowIs RB 26 L (fun j => .pointer (f j)))
    (hn : w.cell? ⟨sb, 10, none⟩ = some (.int .i64 now)) (he : w.cell? ⟨sb, 9, none⟩ = some (.func (.func 6) #[] #[.pointer (some ⟨lb, 0, none⟩)])) (hbl : w.cell? ⟨sb, 24, none⟩ = some (.int .i64 bl)) (hbf : w.frozen? ⟨sb, 24, none⟩ = false) (hsb : sb < w.heap.size)
    (hl : w.cell? ⟨lb, 0, none⟩ = some (.slice none 0 0)) (hf : w.frozen? ⟨lb, 0, none⟩ = false) (hlb : lb < w.heap.size)
    (hp0 : w.cell? ⟨pb, 0, none⟩ = some (.int .i64 pid)) (hp : w.cell? ⟨pb, 7, none⟩ = some cv) (hpf : w.frozen? ⟨pb, 7, none⟩ = false) (hpb : pb < w.heap.size)
    (hg0 : w.cell? ⟨gb, 0, none⟩ = some (.int .i64 gid)) (hgb : gb < w.heap.size)
    (d1 : sb ≠ lb) (d2 : pb ≠ sb) (d3 : pb ≠ lb) (d4 : sb ≠ qb) (d5 : sb ≠ RB) (d6 : lb ≠ qb) (d7 : lb ≠ RB) (d8 : pb ≠ qb) (d9 : pb ≠ RB) (d10 : gb ≠ qb) (d11 : gb ≠ RB) (d12 : gb ≠ sb) (d13 : gb ≠ lb) (d14 : gb ≠ pb) :
    Calls Yba.prog 7 #[.pointer (some ⟨sb, 0, none⟩), .pointer (some ⟨pb, 0, none⟩), .pointer (some ⟨gb, 0, none⟩), .pointer (some ⟨qb, 0, none⟩), .string on] w fun e w' => e = .returned (.tuple #[]) ∧
      ∃ w1, Pushed w w1 qb RB L head n (some ⟨gb, 0, none⟩) f ∧ Logged w' lb now 17 gid pid on ∧ Frm [lb] ((w1.setCell ⟨sb, 24, none⟩ (.int .i64 (wrap64 (bl + 1)))).setCell ⟨pb, 7, none⟩ (.pointer none)) w' := by
  go_enter Yba.func7, Yba.ntmps7
  go_wp2_with fail
  refine (push_any qb RB L head n (some ⟨gb, 0, none⟩) f w hL hh hnL hRq hq hr).mono ?_
  rintro e w1 ⟨rfl, hP⟩
  obtain ⟨RB', M, head', F, hq1, hr1, hH, hx1, hx2, hx3, hx4, hx5, hx6, hF⟩ := id hP
  have n1 : w1.cell? ⟨sb, 10, none⟩ = some (.int .i64 now) := (hF.cell (by exact hsb) (by simp [d4, d5])).trans hn
  have n2 : w1.cell? ⟨sb, 9, none⟩ = some (.func (.func 6) #[] #[.pointer (some ⟨lb, 0, none⟩)]) := (hF.cell (by exact hsb) (by simp [d4, d5])).trans he
  have n3 : w1.cell? ⟨sb, 24, none⟩ = some (.int .i64 bl) := (hF.cell (by exact hsb) (by simp [d4, d5])).trans hbl
  have n4 : w1.frozen? ⟨sb, 24, none⟩ = false := (hF.frozen (by exact hsb) (by simp [d4, d5])).trans hbf
  have n5 : w1.cell? ⟨lb, 0, none⟩ = some (.slice none 0 0) := (hF.cell (by exact hlb) (by simp [d6, d7])).trans hl
  have n6 : w1.frozen? ⟨lb, 0, none⟩ = false := (hF.frozen (by exact hlb) (by simp [d6, d7])).trans hf
  have n7 : w1.cell? ⟨pb, 0, none⟩ = some (.int .i64 pid) := (hF.cell (by exact hpb) (by simp [d8, d9])).trans hp0
  have n8 : w1.cell? ⟨pb, 7, none⟩ = some cv := (hF.cell (by exact hpb) (by simp [d8, d9])).trans hp
  have n9 : w1.frozen? ⟨pb, 7, none⟩ = false := (hF.frozen (by exact hpb) (by simp [d8, d9])).trans hpf
  have n10 : w1.cell? ⟨gb, 0, none⟩ = some (.int .i64 gid) := (hF.cell (by exact hgb) (by simp [d10, d11])).trans hg0
  have hz := hF.2.2.2.1
  have s1 : sb < w1.heap.size := by omega
  have s2 : lb < w1.heap.size := by omega
  have s3 : pb < w1.heap.size := by omega
  clear hq1 hr1 hH hx1 hx2 hx3 hx4 hx5 hx6 hF hz hq hr hn he hbl hbf hl hf hp0 hp hpf hg0 hh
  go_wp2_with fail
  refine wp_worldC (fun W => W = w1.setCell ⟨sb, 24, none⟩ (.int .i64 (wrap64 (bl + 1)))) rfl ?_
  intro W hW
  have m1 : W.cell? ⟨sb, 10, none⟩ = some (.int .i64 now) := by rw [hW]; go_simp
  have m2 : W.cell? ⟨sb, 9, none⟩ = some (.func (.func 6) #[] #[.pointer (some ⟨lb, 0, none⟩)]) := by rw [hW]; go_simp
  have m5 : W.cell? ⟨lb, 0, none⟩ = some (.slice none 0 0) := by rw [hW]; go_simp
  have m6 : W.frozen? ⟨lb, 0, none⟩ = false := by rw [hW]; go_simp
  have m7 : W.cell? ⟨pb, 0, none⟩ = some (.int .i64 pid) := by rw [hW]; go_simp
  have m8 : W.cell? ⟨pb, 7, none⟩ = some cv := by rw [hW]; go_simp
  have m9 : W.frozen? ⟨pb, 7, none⟩ = false := by rw [hW]; go_simp
  have m10 : W.cell? ⟨gb, 0, none⟩ = some (.int .i64 gid) := by rw [hW]; go_simp
  have t1 : sb < W.heap.size := by rw [hW]; simpa [World.setCell] using s1
  have t2 : lb < W.heap.size := by rw [hW]; simpa [World.setCell] using s2
  have t3 : pb < W.heap.size := by rw [hW]; simpa [World.setCell] using s3
  have t4 : gb < W.heap.size := block_lt m10
  have HW : Hid (W = w1.setCell ⟨sb, 24, none⟩ (.int .i64 (wrap64 (bl + 1)))) := hW
  clear hW n1 n2 n3 n4 n5 n6 n7 n8 n9 n10 s1 s2 s3
  go_region_held3 (fun w' => w'.cell? ⟨gb, 0, none⟩ = some (.int .i64 gid) ∧ w'.cell? ⟨pb, 0, none⟩ = some (.int .i64 pid))
    (first | (go_keep; done) | (refine ⟨?_, ?_⟩ <;> (rw [hF.cell (by simp [World.setCell] <;> omega) (by simp <;> omega)]; go_simp)))
    ((go_at_call 9; refine (leave_any sb lb pb now 17 gid pid on cv _ ?h1 ?h2 ?h3 ?h4 ?h5 ?h6 d1 ?h7 ?h8 ?h9 d2 d3).mono ?_; (case h1 => (exact m1)); (case h2 => (exact m2)); (case h3 => (exact t1)); (case h4 => (exact m5)); (case h5 => (exact m6)); (case h6 => (exact t2)); (case h7 => (exact m8)); (case h8 => (exact m9)); (case h9 => (exact t3)); rintro e w' ⟨rfl, hE, hF⟩))
  all_goals
    go_wp2_with fail
    go_end0
    refine ⟨rfl, w1, hP, hE, ?_⟩
    rw [← HW.out]
    exact hF
end Go.Proofs.Ybulkfkea
