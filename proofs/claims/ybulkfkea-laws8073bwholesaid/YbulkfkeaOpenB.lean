/- LawS8073BWhole: the short ways (no entry; too many), and how a slice of entries that came in is opened. -/
import Derived.Test.YbulkfkeaRows
import Derived.WalkKit
import Derived.WalkSpells
import Derived.WalkLawsBesides
import Derived.Deep.Slices
import Derived.ProofKit
namespace Go.Proofs.Ybulkfkea
open Go.RowKit Go.ChangeShapes Go.WideShapes Go.Deep
theorem cells43 : Yba.prog.cellsOf 43 = 5 := by kernel_rfl
theorem cells2 : Yba.prog.cellsOf 2 = 1 := by kernel_rfl
theorem cells24 : Yba.prog.cellsOf 24 = 1 := by kernel_rfl
theorem cells3 : Yba.prog.cellsOf 3 = 1 := by kernel_rfl
theorem cells4 : Yba.prog.cellsOf 4 = 1 := by kernel_rfl
theorem cells5 : Yba.prog.cellsOf 5 = 1 := by kernel_rfl

set_option maxHeartbeats 400000 in
set_option maxRecDepth 100000 in
/-- no entry at all. -/
theorem lawB_none (ea sa : Option Addr) (cape n caps : Nat) (seq i : Int) (w : World) (hm : n ≤ maxLen) :
    Calls Yba.prog 3 #[.slice ea 0 cape, .slice sa n caps, .int .u64 seq, .int .u64 i] w fun e w' => e = .returned (.bool true) ∧ Below w.heap.size w w' := by
  unfold maxLen at hm
  by_cases hn : n ≤ 1048576
  all_goals
    go_enter Yba.func3, Yba.ntmps3
    go_wp2_with fail
    go_ret
    exact ⟨rfl, Below.refl _ _⟩
set_option maxHeartbeats 400000 in
set_option maxRecDepth 100000 in
/-- too many entries or slots. -/
theorem lawB_many (ea sa : Option Addr) (m cape n caps : Nat) (seq i : Int) (w : World) (hm : m ≤ maxLen) (hn : n ≤ maxLen) (h : 1048576 < m ∨ 1048576 < n) :
    Calls Yba.prog 3 #[.slice ea m cape, .slice sa n caps, .int .u64 seq, .int .u64 i] w fun e w' => e = .returned (.bool true) ∧ Below w.heap.size w w' := by
  unfold maxLen at hm hn
  by_cases hm1 : 1048576 < m
  · go_enter Yba.func3, Yba.ntmps3
    go_wp2_with fail
    go_ret
    exact ⟨rfl, Below.refl _ _⟩
  · have hn1 : 1048576 < n := by omega
    go_enter Yba.func3, Yba.ntmps3
    go_wp2_with fail
    go_ret
    exact ⟨rfl, Below.refl _ _⟩

theorem list5 {α : Type} : ∀ l : List α, l.length = 5 → ∃ a b c d e, l = [a, b, c, d, e]
  | [a, b, c, d, e], _ => ⟨a, b, c, d, e, rfl⟩
/-- one entry's five cells. -/
def EntAt (w : World) (a : Addr) (i : Nat) (A Q H I : Int) (G : Bool) : Prop :=
  w.cell? (a.add (i * 5)) = some (.int .i64 A) ∧ w.cell? (a.add (i * 5 + 1)) = some (.int .u64 Q) ∧ w.cell? (a.add (i * 5 + 2)) = some (.int .i64 H) ∧ w.cell? (a.add (i * 5 + 3)) = some (.bool G) ∧ w.cell? (a.add (i * 5 + 4)) = some (.int .u8 I) ∧ 0 ≤ I ∧ I ≤ 255

theorem open_entries {Hh : Type} {enc : TypeId × Value → Hh} {w : World} {base : Nat} {spare : Nat → Bool} {held : Bool} {fuel : Nat} {cs : List Value} {x : DataW Hh × List MemPlace}
    (h : DataW.trod enc Yba.prog w base spare held fuel 22 cs = some x) :
    cs = [.slice none 0 0] ∨ ∃ (a : Addr) (len cap : Nat) (q : Nat → Int × Int × Int × Int × Bool), cs = [.slice (some a) len cap] ∧ len ≤ cap ∧ cap ≤ maxLen ∧
      ∀ i, i < len → EntAt w a i (q i).1 (q i).2.1 (q i).2.2.1 (q i).2.2.2.1 (q i).2.2.2.2 := by
  rcases open_slice Yba.underlying22 h with h0 | ⟨a, len, cap, m, n, D, Pl, rfl, hb, hl, hm, hmm, _, hx⟩
  · exact .inl h0.1
  right
  have hlm : len ≤ m := by rw [hmm]; split <;> omega
  have each : ∀ i, i < len → ∃ q : Int × Int × Int × Int × Bool, EntAt w a i q.1 q.2.1 q.2.2.1 q.2.2.2.1 q.2.2.2.2 := by
    intro i hi
    obtain ⟨cs', h1, h2⟩ := hx i (by omega)
    rw [cells43] at h1
    obtain ⟨_, hlen, hcell⟩ := World.cells?_some h1
    obtain ⟨xs, k, hk, hxy, _, hxl, hf⟩ := DataW.trod_struct Yba.underlying43 h2
    obtain ⟨y0, y1, y2, y3, y4, rfl⟩ := list5 xs hxl
    obtain ⟨v0, v1, v2, v3, v4, rfl⟩ := list5 cs' hlen
    · skip
      have g0 := hf 0 _ rfl
      have g1 := hf 1 _ rfl
      have g2 := hf 2 _ rfl
      have g3 := hf 3 _ rfl
      have g4 := hf 4 _ rfl
      simp [cells2, cells24, cells3, cells4, cells5] at g0 g1 g2 g3 g4
      obtain ⟨A, rA, _, _⟩ := DataW.trod_int Yba.underlying2 g0
      obtain ⟨Q, rQ, _, _⟩ := DataW.trod_int Yba.underlying24 g1
      obtain ⟨H, rH, _, _⟩ := DataW.trod_int Yba.underlying3 g2
      obtain ⟨G, rG, _⟩ := DataW.trod_bool Yba.underlying4 g3
      obtain ⟨I, rI, _, wI⟩ := DataW.trod_int Yba.underlying5 g4
      simp at rA rQ rH rG rI
      subst rA rQ rH rG rI
      have e0 := hcell 0 (by omega)
      have e1 := hcell 1 (by omega)
      have e2 := hcell 2 (by omega)
      have e3 := hcell 3 (by omega)
      have e4 := hcell 4 (by omega)
      rw [add_add] at e0 e1 e2 e3 e4
      have hI : 0 ≤ I ∧ I ≤ 255 := by simp [Lit.wf, IntKind.min, IntKind.max, IntKind.signed, IntKind.bits] at wI; omega
      exact ⟨(A, Q, H, I, G), by simpa using e0, by simpa using e1, by simpa using e2, by simpa using e3, by simpa using e4, hI.1, hI.2⟩
  obtain ⟨q, hq⟩ := choose_lt each
  exact ⟨a, len, cap, q, rfl, hl, hm, hq⟩
end Go.Proofs.Ybulkfkea
