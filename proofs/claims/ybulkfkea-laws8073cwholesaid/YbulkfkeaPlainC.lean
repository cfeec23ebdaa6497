/- LawS8073CWhole: frames by blocks; the ring's plain arithmetic; the rows of cells that the law looks at. -/
import Derived.Deep.OwnRows
import Derived.Below
import Derived.Deep.Quiet
namespace Go.Proofs.Ybulkfkea
open Go.RowKit

/-- w' is w but for the listed blocks, and new ones. -/
def Frm (ex : List Nat) (w w' : World) : Prop :=
  w'.os = w.os ∧ w'.tape = w.tape ∧ w'.output = w.output ∧ w.heap.size ≤ w'.heap.size ∧ ∀ k, k < w.heap.size → k ∉ ex → w'.heap[k]? = w.heap[k]?

theorem Frm.refl (ex : List Nat) (w : World) : Frm ex w w := ⟨rfl, rfl, rfl, Nat.le_refl _, fun _ _ _ => rfl⟩
theorem Frm.trans {ex : List Nat} {a b c : World} (h : Frm ex a b) (k : Frm ex b c) : Frm ex a c :=
  ⟨k.1.trans h.1, k.2.1.trans h.2.1, k.2.2.1.trans h.2.2.1, Nat.le_trans h.2.2.2.1 k.2.2.2.1, fun i hi hn => (k.2.2.2.2 i (Nat.lt_of_lt_of_le hi h.2.2.2.1) hn).trans (h.2.2.2.2 i hi hn)⟩
theorem Frm.mono {ex ex' : List Nat} {a b : World} (h : Frm ex a b) (hs : ∀ k, k ∈ ex → k ∈ ex') : Frm ex' a b :=
  ⟨h.1, h.2.1, h.2.2.1, h.2.2.2.1, fun i hi hn => h.2.2.2.2 i hi (fun hm => hn (hs i hm))⟩
theorem Frm.alloc {ex : List Nat} {a b : World} (h : Frm ex a b) (o : Obj) : Frm ex a (b.alloc o) :=
  h.trans ⟨rfl, rfl, rfl, by simp, fun k hk _ => Below.heap_alloc b o k hk⟩
theorem Frm.setCell {ex : List Nat} {a b : World} (h : Frm ex a b) {p : Addr} (hp : p.block ∈ ex ∨ a.heap.size ≤ p.block) (v : Value) : Frm ex a (b.setCell p v) := by
  refine ⟨h.1, h.2.1, h.2.2.1, by simpa [World.setCell] using h.2.2.2.1, fun k hk hn => ?_⟩
  rw [Below.heap_setCell b p v k (by rintro rfl; rcases hp with hp | hp; exact hn hp; omega)]
  exact h.2.2.2.2 k hk hn
theorem Frm.drew {ex : List Nat} {a b : World} (h : Frm ex a b) : Frm ex a b.drew := h
theorem Frm.grown {ex : List Nat} {a b c : World} {row : Option Nat} (h : Frm ex a b) (hg : b.grownBy c row) (hr : ∀ k, row = some k → k ∈ ex ∨ a.heap.size ≤ k) : Frm ex a c := by
  refine ⟨hg.os.trans h.1, hg.tape.trans h.2.1, hg.output.trans h.2.2.1, Nat.le_trans h.2.2.2.1 hg.size, fun k hk hn => ?_⟩
  rw [hg.block k (Nat.lt_of_lt_of_le hk h.2.2.2.1) (by intro e; rcases hr k e.symm with h1 | h1; exact hn h1; omega)]
  exact h.2.2.2.2 k hk hn
theorem Frm.cell {ex : List Nat} {w w' : World} (h : Frm ex w w') {p : Addr} (hp : p.block < w.heap.size) (hn : p.block ∉ ex) : w'.cell? p = w.cell? p := World.cell?_of_block (w := w) (h.2.2.2.2 _ hp hn)
theorem Frm.frozen {ex : List Nat} {w w' : World} (h : Frm ex w w') {p : Addr} (hp : p.block < w.heap.size) (hn : p.block ∉ ex) : w'.frozen? p = w.frozen? p := World.frozen?_of_block (w := w) (h.2.2.2.2 _ hp hn)
theorem Frm.row {ex : List Nat} {w w' : World} (h : Frm ex w w') {b : Nat} {t : TypeId} {n : Nat} {f : Nat → Value} (hr : w.rowIs b t n f) (hn : b ∉ ex) : w'.rowIs b t n f := hr.of_block (h.2.2.2.2 _ hr.lt hn)
theorem Frm.below {ex : List Nat} {B : Nat} {w0 w w' : World} (h0 : Below B w0 w) (hB : B ≤ w.heap.size) (h : Frm ex w w') (hx : ∀ k, k ∈ ex → B ≤ k) : Below B w0 w' :=
  h0.trans ⟨h.1, h.2.1, h.2.2.1, h.2.2.2.1, fun k hk => h.2.2.2.2 k (by omega) (fun hm => by have := hx k hm; omega)⟩

/-! ### the ring -/
def qcell (RB L : Nat) (head n : Int) : Nat → Value
  | 0 => .slice (some ⟨RB, 0, none⟩) L L
  | 1 => .int .i64 head
  | _ => .int .i64 n

theorem modlt {h i L : Nat} (hL : h < L) (hi : i < L) : (h + i) % L = if h + i < L then h + i else h + i - L := by
  by_cases hlt : h + i < L
  · rw [if_pos hlt, Nat.mod_eq_of_lt hlt]
  · rw [if_neg hlt, Nat.mod_eq_sub_mod (by omega), Nat.mod_eq_of_lt (by omega)]
theorem mod_inj {h i j L : Nat} (hL : h < L) (hi : i < L) (hj : j < L) (he : (h + i) % L = (h + j) % L) : i = j := by
  rw [modlt hL hi, modlt hL hj] at he
  split at he <;> split at he <;> omega

/-- what the queue holds: place i behind its head. -/
def Holds (M head : Nat) (f : Nat → Option Addr) (n : Nat) (c : Nat → Option Addr) : Prop := ∀ i, i < n → f ((head + i) % M) = c i

/-- there was room: the new one at the tail. -/
def roomF (x : Nat) (f : Nat → Option Addr) (g : Option Addr) (j : Nat) : Option Addr := if j = x then g else f j
theorem holds_room {L head n : Nat} {f : Nat → Option Addr} (hh : head < L) (hn : n < L) (g : Option Addr) :
    Holds L head (roomF ((head + n) % L) f g) (n + 1) (fun i => if i < n then f ((head + i) % L) else g) := by
  intro i hi
  unfold roomF
  by_cases e : i = n
  · subst e; simp
  · have hne : ¬ (head + i) % L = (head + n) % L := fun he => e (mod_inj hh (by omega) hn he)
    simp only [if_neg hne]
    rw [if_pos (by omega)]
/-- the grown ring behind k rounds of the copy. -/
def grownF (L head k : Nat) (f : Nat → Option Addr) (j : Nat) : Option Addr := if j < k then f ((head + j) % L) else none
theorem grown_step (L head k : Nat) (f : Nat → Option Addr) (j : Nat) : (if j = k then Value.pointer (f ((head + k) % L)) else .pointer (grownF L head k f j)) = .pointer (grownF L head (k + 1) f j) := by
  unfold grownF
  by_cases e : j = k
  · subst e; simp
  · rw [if_neg e]
    by_cases e2 : j < k
    · rw [if_pos e2, if_pos (by omega)]
    · rw [if_neg e2, if_neg (by omega)]
theorem holds_grown {L M head : Nat} {f : Nat → Option Addr} (hM : L < M) (g : Option Addr) :
    Holds M 0 (roomF L (grownF L head L f) g) (L + 1) (fun i => if i < L then f ((head + i) % L) else g) := by
  intro i hi
  unfold roomF
  rw [Nat.zero_add, Nat.mod_eq_of_lt (by omega)]
  by_cases e : i = L
  · subst e; simp
  · simp only [if_neg e]
    unfold grownF
    rw [if_pos (by omega), if_pos (by omega)]
theorem row_room {w : World} {b n : Nat} {f : Nat → Option Addr} (h : w.rowIs b 26 n (fun j => .pointer (f j))) (x : Nat) (g : Option Addr) :
    (w.setCell ⟨b, x, none⟩ (.pointer g)).rowIs b 26 n (fun j => .pointer (roomF x f g j)) :=
  (h.set x _).congr (fun j _ => by unfold roomF; by_cases e : j = x <;> simp [e])
theorem row_grow {w : World} {b n L head k : Nat} {f : Nat → Option Addr} (h : w.rowIs b 26 n (fun j => .pointer (grownF L head k f j))) :
    (w.setCell ⟨b, k, none⟩ (.pointer (f ((head + k) % L)))).rowIs b 26 n (fun j => .pointer (grownF L head (k + 1) f j)) :=
  (h.set k _).congr (fun j _ => grown_step L head k f j)
theorem q_n {w : World} {qb RB L : Nat} {head n m : Int} (h : w.rowIs qb 59 3 (qcell RB L head n)) : (w.setCell ⟨qb, 2, none⟩ (.int .i64 m)).rowIs qb 59 3 (qcell RB L head m) :=
  (h.set 2 _).congr (fun j hj => by
    match j, hj with
    | 0, _ => rfl
    | 1, _ => rfl
    | 2, _ => rfl)
theorem q_ring {w : World} {qb RB L RB' L' : Nat} {head n h' : Int} (h : w.rowIs qb 59 3 (qcell RB L head n)) : ((w.setCell ⟨qb, 0, none⟩ (.slice (some ⟨RB', 0, none⟩) L' L')).setCell ⟨qb, 1, none⟩ (.int .i64 h')).rowIs qb 59 3 (qcell RB' L' h' n) :=
  ((h.set 0 _).set 1 _).congr (fun j hj => by
    match j, hj with
    | 0, _ => rfl
    | 1, _ => rfl
    | 2, _ => rfl)
end Go.Proofs.Ybulkfkea
