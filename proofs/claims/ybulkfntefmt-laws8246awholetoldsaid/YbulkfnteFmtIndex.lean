/- zzs8246aindex and zzs8246apick by their contracts. -/
import Derived.Test.YbulkfnteFmtRows
import Derived.WalkKit
import Derived.WalkSpells
import Derived.WalkLawsBesides
namespace Go.Proofs.YbulkfnteFmt
open Go.RowKit
set_option linter.unusedVariables false

/-- the first place of s from k on, else -1. -/
def ixFrom (s : ByteArray) : List ByteArray → Nat → Int
  | [], _ => -1
  | x :: xs, k => if x = s then (k : Int) else ixFrom s xs (k + 1)
def ix (xs : List ByteArray) (s : ByteArray) : Int := ixFrom s xs 0

theorem ixFrom_bd (s : ByteArray) : ∀ (xs : List ByteArray) (k : Nat), ixFrom s xs k = -1 ∨ ((k : Int) ≤ ixFrom s xs k ∧ ixFrom s xs k < k + xs.length)
  | [], _ => .inl rfl
  | x :: xs, k => by
    unfold ixFrom
    split
    · right; simp; omega
    · rcases ixFrom_bd s xs (k + 1) with h | h
      · exact .inl h
      · right; simp; omega
theorem ixFrom_drop {xs : List ByteArray} {s : ByteArray} : ∀ k, k ≤ xs.length → (∀ j, j < k → xs.getD j ByteArray.empty ≠ s) → ix xs s = ixFrom s (xs.drop k) k
  | 0, _, _ => rfl
  | k + 1, hk, h => by
    rw [ixFrom_drop k (by omega) (fun j hj => h j (by omega))]
    have hlt : k < xs.length := by omega
    rw [List.drop_eq_getElem_cons hlt, ixFrom]
    have := h k (by omega)
    rw [List.getD, List.getElem?_eq_getElem hlt] at this
    rw [if_neg (by simpa using this)]
theorem ix_hit {xs : List ByteArray} {s : ByteArray} {k : Nat} (hk : k < xs.length) (h : ∀ j, j < k → xs.getD j ByteArray.empty ≠ s) (e : xs.getD k ByteArray.empty = s) : ix xs s = k := by
  rw [ixFrom_drop k (by omega) h, List.drop_eq_getElem_cons hk, ixFrom]
  rw [List.getD, List.getElem?_eq_getElem hk] at e
  rw [if_pos (by simpa using e)]
theorem ix_miss {xs : List ByteArray} {s : ByteArray} (h : ∀ j, j < xs.length → xs.getD j ByteArray.empty ≠ s) : ix xs s = -1 := by
  rw [ixFrom_drop xs.length (Nat.le_refl _) h, List.drop_length]; rfl

/-- what a walk is told of a slice of strings: nothing lies there, or the strings xs lie from the address on. -/
def SAt (w : World) (a : Option Addr) (xs : List ByteArray) : Prop :=
  xs = [] ∨ ∃ b off, a = some ⟨b, off, none⟩ ∧ b < w.heap.size ∧ ∀ j, j < xs.length → w.cell? ⟨b, off + j, none⟩ = some (.string (xs.getD j ByteArray.empty))

theorem eq_of_bytes {s q : ByteArray} (h : (s.toList == q.toList) = true) : s = q := by
  rw [ByteArray.toList_eq, ByteArray.toList_eq] at h
  exact ByteArray.ext (Array.toList_inj.1 (by simpa using h))
theorem ne_of_bytes {s q : ByteArray} (h : (s.toList == q.toList) = false) : s ≠ q := by
  intro e; rw [e] at h; simp at h
theorem ret_int {k : IntKind} {a b : Int} (h : a = b) : Ending.returned (.int k a) = .returned (.int k b) := by rw [h]

set_option maxHeartbeats 400000 in
theorem index_any (a : Option Addr) (cap : Nat) (xs : List ByteArray) (s : ByteArray) (w : World) (hx : SAt w a xs) (hl : xs.length ≤ 1048576) :
    Calls Ybaf.prog 5 #[.slice a xs.length cap, .string s] w fun e w' => e = .returned (.int .i64 (ix xs s)) ∧ w' = w := by
  rcases hx with rfl | ⟨b, off, rfl, hb, hc⟩
  · go_enter Ybaf.func5, Ybaf.ntmps5
    go_wp2
    refine wp_loop_rounds 1 ?_
    rw [rounds_succ]
    go_wp2
    go_ret
    exact ⟨rfl, rfl⟩
  · obtain ⟨n, hn⟩ : ∃ n, xs.length = n := ⟨_, rfl⟩
    rw [hn] at hl ⊢
    go_enter Ybaf.func5, Ybaf.ntmps5
    go_wp2
    go_loop [5] (fun i => ∃ k : Nat, k ≤ n ∧ i = .int .i64 k ∧ ∀ j, j < k → xs.getD j ByteArray.empty ≠ s) (fun i => n - (intOf i).toNat)
    case atStart => exact ⟨0, Nat.zero_le _, rfl, fun j hj => by omega⟩
    case round =>
      obtain ⟨k, hk, rfl, hout⟩ := hrel
      by_cases hlt : k < n
      · have hcx := hc k (by omega)
        obtain ⟨x, hx⟩ : ∃ x, x = xs.getD k ByteArray.empty := ⟨_, rfl⟩
        rw [← hx] at hcx
        have HX : Hid (x = xs.getD k ByteArray.empty) := hx
        have HN : Hid (xs.length = n) := hn
        clear hx hc hn
        go_wp2
        · have hsq : (x.toList == s.toList) = true := by assumption
          go_ret
          exact ⟨ret_int (ix_hit (by rw [HN.out]; exact hlt) hout (HX.out.symm.trans (eq_of_bytes hsq))).symm, rfl⟩
        · have hsq : (x.toList == s.toList) = false := by assumption
          go_round
          case rel =>
            refine ⟨k + 1, by omega, by go_num, fun j hj => ?_⟩
            rcases Nat.lt_or_ge j k with h | h
            · exact hout j h
            · obtain rfl : j = k := by omega
              exact fun e => ne_of_bytes hsq (HX.out.trans e)
          case measure => simp [intOf]; omega
      · obtain rfl : k = n := by omega
        go_wp2
        go_ret
        exact ⟨ret_int (ix_miss (by rw [hn]; exact hout)).symm, rfl⟩

/-- the pick: a place of the list or the fallback. -/
def pk (sel : Nat) (xs : List ByteArray) (fb : ByteArray) : ByteArray := if sel % (xs.length + 1) = xs.length then fb else xs.getD (sel % (xs.length + 1)) ByteArray.empty
theorem ret_str {a b : ByteArray} (h : a = b) : Ending.returned (.string a) = .returned (.string b) := by rw [h]

set_option maxHeartbeats 400000 in
theorem pick_any (sel : Nat) (a : Option Addr) (cap : Nat) (xs : List ByteArray) (fb : ByteArray) (w : World) (hs : sel ≤ 255) (hx : SAt w a xs) (hl : xs.length ≤ 1048576) :
    Calls Ybaf.prog 6 #[.int .u8 (sel : Int), .slice a xs.length cap, .string fb] w fun e w' => e = .returned (.string (pk sel xs fb)) ∧ w' = w := by
  obtain ⟨k, hk⟩ : ∃ k : Nat, sel % (xs.length + 1) = k := ⟨_, rfl⟩
  have hki : (sel : Int) % ((xs.length : Int) + 1) = (k : Int) := by rw [← hk]; simp
  have hk2 : k ≤ xs.length := by have h9 : sel % (xs.length + 1) < xs.length + 1 := Nat.mod_lt sel (Nat.succ_pos xs.length); omega
  by_cases he : k = xs.length
  · have hp : pk sel xs fb = fb := by unfold pk; rw [hk, if_pos he]
    have ht : ((k : Int) == (xs.length : Int)) = true := by simp [he]
    have HP : Hid (pk sel xs fb = fb) := hp
    clear hp hk he
    go_enter Ybaf.func6, Ybaf.ntmps6
    go_wp2
    go_ret
    exact ⟨ret_str HP.out.symm, rfl⟩
  · have hp : pk sel xs fb = xs.getD k ByteArray.empty := by unfold pk; rw [hk, if_neg he]
    have ht : ((k : Int) == (xs.length : Int)) = false := by simp; omega
    have hlt : k < xs.length := by omega
    have HP : Hid (pk sel xs fb = xs.getD k ByteArray.empty) := hp
    rcases hx with rfl | ⟨b, off, rfl, hb, hc⟩
    · simp at hlt
    · have hcx := hc k hlt
      obtain ⟨x, hx⟩ : ∃ x, x = xs.getD k ByteArray.empty := ⟨_, rfl⟩
      rw [← hx] at hcx
      have HX : Hid (x = xs.getD k ByteArray.empty) := hx
      have hli : (k : Int) < (xs.length : Int) := by omega
      clear hx hc hp hk he
      go_enter Ybaf.func6, Ybaf.ntmps6
      go_wp2
      go_ret
      exact ⟨ret_str (HX.out.trans HP.out.symm), rfl⟩
end Go.Proofs.YbulkfnteFmt
