/- slices.Contains at pointers to users. -/
import Derived.Test.YbulkfnteFmtApp
import Derived.Lib.Builder
namespace Go.Proofs.YbulkfnteFmt
open Go.RowKit
set_option linter.unusedVariables false

def PAt (w : World) (a : Option Addr) (ps : List Nat) : Prop :=
  ps = [] ∨ ∃ b off, a = some ⟨b, off, none⟩ ∧ b < w.heap.size ∧ ∀ j, j < ps.length → w.cell? ⟨b, off + j, none⟩ = some (.pointer (some ⟨ps.getD j 0, 0, none⟩))

/-- every user's block is a block of cells. -/
def Cel (w : World) (p : Nat) : Prop := ∃ ca t, w.heap[p]? = some (.cells ca t (0, 0))
theorem sz27 : (Ybaf.prog.info? 32).map (fun i => i.size) = some 5 := by kernel_rfl
theorem peq (w : World) (p q : Nat) (hp : Cel w p) (hq : Cel w q) : (binOp .eql 27 (.pointer (some ⟨p, 0, none⟩)) (.pointer (some ⟨q, 0, none⟩))).run Ybaf.prog w = .ok (.bool (decide (p = q))) w := by
  obtain ⟨j, hj, hs⟩ := Option.map_eq_some_iff.1 sz27
  have hu : Ybaf.prog.underlying 27 = some (.pointer 32) := by kernel_rfl
  obtain ⟨ca, ta, ha⟩ := hp
  obtain ⟨cb, tb, hb⟩ := hq
  by_cases e : p = q
  · subst e
    have h : ∀ d : Nat, (Op.equalIn (d + 1) 27 (.pointer (some ⟨p, 0, none⟩)) (.pointer (some ⟨p, 0, none⟩))).run Ybaf.prog w = .ok true w := fun d => by
      simp [Op.equalIn, run_underlying hu, sizeOf, typeInfo, hj, run_sameAddr_same]
    simp only [binOp]
    simp [Op.equal, Op.maxDepth, h 9999]
  · have h : ∀ d : Nat, (Op.equalIn (d + 1) 27 (.pointer (some ⟨p, 0, none⟩)) (.pointer (some ⟨q, 0, none⟩))).run Ybaf.prog w = .ok false w := fun d => by
      simp [Op.equalIn, run_underlying hu, sizeOf, typeInfo, hj, hs, run_sameAddr_other w (a := ⟨p, 0, none⟩) (b := ⟨q, 0, none⟩) (by simp) ha hb]
    simp only [binOp]
    simp [Op.equal, Op.maxDepth, h 9999, e]

set_option maxRecDepth 100000 in
set_option maxHeartbeats 400000 in
theorem pindex_any (a : Option Addr) (cap : Nat) (ps : List Nat) (p : Nat) (w : World) (hx : PAt w a ps) (hl : ps.length ≤ 1048576) (hp : Cel w p) (hps : ∀ j, j < ps.length → Cel w (ps.getD j 0)) :
    Calls Ybaf.prog 25 #[.slice a ps.length cap, .pointer (some ⟨p, 0, none⟩)] w fun e w' => (∃ k : Int, e = .returned (.int .i64 k) ∧ (0 ≤ k ↔ p ∈ ps) ∧ k ≤ 1048576) ∧ w' = w := by
  rcases hx with rfl | ⟨b, off, rfl, hb, hc⟩
  · go_enter Ybaf.func25, Ybaf.ntmps25
    go_wp2
    refine wp_loop_rounds 1 ?_
    rw [rounds_succ]
    go_wp2
    go_ret
    exact ⟨⟨-1, rfl, by simp, by omega⟩, rfl⟩
  · obtain ⟨n, hn⟩ : ∃ n, ps.length = n := ⟨_, rfl⟩
    rw [hn] at hl ⊢
    go_enter Ybaf.func25, Ybaf.ntmps25
    go_wp2
    go_loop [8] (fun i => ∃ k : Nat, k ≤ n ∧ i = .int .i64 k ∧ ∀ j, j < k → ps.getD j 0 ≠ p) (fun i => n - (intOf i).toNat)
    case atStart => exact ⟨0, Nat.zero_le _, rfl, fun j hj => by omega⟩
    case round =>
      obtain ⟨k, hk, rfl, hout⟩ := hrel
      by_cases hlt : k < n
      · have hcx := hc k (by omega)
        have hpq := peq w p (ps.getD k 0) hp (hps k (by omega))
        obtain ⟨x, hx⟩ : ∃ x, x = ps.getD k 0 := ⟨_, rfl⟩
        rw [← hx] at hcx hpq
        have HX : Hid (x = ps.getD k 0) := hx
        have HN : Hid (ps.length = n) := hn
        clear hx hc hn
        by_cases hpx : p = x
        · subst hpx
          rw [decide_eq_true rfl] at hpq
          clear hps
          go_wp2
          go_ret
          refine ⟨⟨k, rfl, ⟨fun _ => ?_, fun _ => by omega⟩, by omega⟩, rfl⟩
          have h1 : k < ps.length := by rw [HN.out]; exact hlt
          rw [HX.out, List.getD, List.getElem?_eq_getElem h1]
          simp
        · rw [decide_eq_false hpx] at hpq
          clear hps
          go_wp2
          go_round
          case rel =>
            refine ⟨k + 1, by omega, by go_num, fun j hj => ?_⟩
            rcases Nat.lt_or_ge j k with h | h
            · exact hout j h
            · obtain rfl : j = k := by omega
              exact fun e => hpx (e.symm.trans HX.out.symm)
          case measure => simp [intOf]; omega
      · obtain rfl : k = n := by omega
        go_wp2
        go_ret
        refine ⟨⟨-1, rfl, ⟨fun h => by omega, fun h => ?_⟩, by omega⟩, rfl⟩
        obtain ⟨j, hj, e⟩ := List.getElem_of_mem h
        exact absurd (by rw [List.getD, List.getElem?_eq_getElem hj]; simpa using e) (hout j (by omega))

set_option maxRecDepth 100000 in
set_option maxHeartbeats 400000 in
theorem contains_any (a : Option Addr) (cap : Nat) (ps : List Nat) (p : Nat) (w : World) (hx : PAt w a ps) (hl : ps.length ≤ 1048576) (hp : Cel w p) (hps : ∀ j, j < ps.length → Cel w (ps.getD j 0)) :
    Calls Ybaf.prog 16 #[.slice a ps.length cap, .pointer (some ⟨p, 0, none⟩)] w fun e w' => e = .returned (.bool (decide (p ∈ ps))) ∧ w' = w := by
  go_enter Ybaf.func16, Ybaf.ntmps16
  go_wp2_with (go_at_call 25; refine (pindex_any a cap ps p _ hx hl hp hps).mono ?_; rintro e w' ⟨⟨k, rfl, hk, hk2⟩, hw⟩; replace hw := hw.symm; subst hw)
  go_ret
  have e : decide (p ∈ ps) = decide (0 ≤ k) := by
    by_cases h : p ∈ ps
    · rw [decide_eq_true h, decide_eq_true (hk.2 h)]
    · rw [decide_eq_false h, decide_eq_false (fun h' => h (hk.1 h'))]
  refine ⟨?_, rfl⟩
  rw [e]
  rfl
end Go.Proofs.YbulkfnteFmt
