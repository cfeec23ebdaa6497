/- append of one element by a law of its own; the sizes of the strings. -/
import Derived.Test.YbulkfnteFmtDd
namespace Go.Proofs.YbulkfnteFmt
open Go.RowKit
set_option linter.unusedVariables false

def SzOK (xs : List ByteArray) : Prop := ∀ j, (xs.getD j ByteArray.empty).size ≤ 140737488351232
def ubox (s : ByteArray) : Array Value := #[.string s, .int .u8 0, .int .i64 0, .slice none 0 0, .slice none 0 0]


theorem info_parts' {P : Program} {e : TypeId} {z : Value} {sz by_ : Nat} (h : (P.info? e).map (fun i => (i.zero, i.size, i.bytes)) = some (some z, sz, by_)) : ∃ i, P.info? e = some i ∧ i.zero = some z ∧ i.size = sz ∧ i.bytes = by_ := by
  cases hi : P.info? e with
  | none => rw [hi] at h; simp at h
  | some i => rw [hi] at h; simp at h; exact ⟨i, rfl, h.1, h.2.1, h.2.2⟩
/-- append of one element of one cell. -/
theorem wpList_app1 {P : Program} {ops : Array Oper} {rest : List Oper} {o : Oper} {a : Act} {Q : Exit → Act → World → Prop} (w : World) (t e : TypeId) (z : Value) (by_ : Nat)
    (hi : (P.info? e).map (fun i => (i.zero, i.size, i.bytes)) = some (some z, 1, by_)) (hz1 : z.cells.size = 1) (ht : P.underlying t = some (.slice e)) (hby : by_ ≤ 16)
    (hgd : o.guard = none) (s x : Operand) (ho : o.op = .call { callee := .builtin .append, args := #[s, x], argTypes := #[t, t] })
    (B : Nat) (v : Value) (n : Nat) (xs : List Value) (hs : a.eval s = v) (hown : w.ownsRow B e 1 v n xs) (nb c : Nat) (u : Value) (hx : a.eval x = .slice (some ⟨nb, 0, none⟩) 1 c)
    (hu : w.cell? ⟨nb, 0, none⟩ = some u) (hone : u.oneCell' = true) (hn : n ≤ 1048576) (hB : B ≤ w.heap.size)
    (h : ∀ g cap w', w'.ownsRow B e 1 (.slice (some ⟨g, 0, none⟩) (n + 1) cap) (n + 1) (xs ++ [u]) → w.grownBy w' v.ownBlock → (v.ownBlock = some g ∨ g = w.heap.size) → g < w'.heap.size → wpList P ops Q rest (a.put o.dst (.slice (some ⟨g, 0, none⟩) (n + 1) cap)) w') :
    wpList P ops Q (o :: rest) a w := by
  obtain ⟨i, hi0, hz, hsz, hb⟩ := info_parts' hi
  refine wpList_append_lies w hgd s x t ho B e i z 1 by_ ht hi0 hz hsz hb hz1 (by omega) v n xs hs hown ⟨nb, 0, none⟩ 1 c [u] hx rfl (fun j q hj => ?_) (by simpa using hone) (by omega) (by unfold maxLen; omega) ?_ hB _ rfl h
  · cases j with
    | zero => simp at hj; subst hj; simpa [Addr.add] using hu
    | succ j => simp at hj
  · have : (n + 1) * by_ ≤ (n + 1) * 16 := Nat.mul_le_mul_left _ hby
    omega
theorem info9 : (Ybaf.prog.info? 9).map (fun i => (i.zero, i.size, i.bytes)) = some (some (.string ⟨#[]⟩), 1, 16) := by kernel_rfl
theorem info27 : (Ybaf.prog.info? 27).map (fun i => (i.zero, i.size, i.bytes)) = some (some (.pointer none), 1, 8) := by kernel_rfl
theorem info35 : (Ybaf.prog.info? 35).map (fun i => (i.zero, i.size, i.bytes)) = some (some (.pointer none), 1, 8) := by kernel_rfl
theorem info49 : (Ybaf.prog.info? 49).map (fun i => (i.zero, i.size, i.bytes)) = some (some (.pointer none), 1, 8) := by kernel_rfl
theorem SzOK.snoc {xs : List ByteArray} {s : ByteArray} (h : SzOK xs) (hs : s.size ≤ 140737488351232) : SzOK (xs ++ [s]) := fun j => by
  rcases Nat.lt_trichotomy j xs.length with h1 | h1 | h1
  · have : (xs ++ [s]).getD j ByteArray.empty = xs.getD j ByteArray.empty := by simp [List.getD, List.getElem?_append_left h1]
    rw [this]; exact h j
  · subst h1; simpa [List.getD] using hs
  · have : (xs ++ [s]).getD j ByteArray.empty = ByteArray.empty := by simp [List.getD, List.getElem?_eq_none (show (xs ++ [s]).length ≤ j by simp; omega)]
    rw [this]; show 0 ≤ _; omega
end Go.Proofs.YbulkfnteFmt
