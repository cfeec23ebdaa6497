/- LawS8073BWhole: what memory holds: the pool, the goroutines, the owners, the agenda; plain laws on rows of cells. -/
import Derived.Deep.OwnRows
import Derived.Below
import Derived.Deep.Quiet
namespace Go.Proofs.Ybulkfkea
open Go.RowKit

/-- a goroutine's twelve cells: its number and its slot, all else nought. -/
def gcell (id s : Int) : Nat → Value
  | 0 => .int .i64 id
  | 1 => .slice none 0 0
  | 2 => .int .i64 0
  | 3 => .int .i64 0
  | 4 => .slice none 0 0
  | 5 => .pointer none
  | 6 => .pointer none
  | 7 => .pointer none
  | 8 => .int .i64 0
  | 9 => .int .i64 0
  | 10 => .int .i64 s
  | _ => .bool false
def gptr (B : Nat) (j : Nat) : Value := .pointer (some ⟨B + 1 + j, 0, none⟩)

/-- behind k rounds of the first loop. -/
def Pool (w0 w : World) (B n k : Nat) (S : Nat → Int) : Prop :=
  Below B w0 w ∧ w.heap.size = B + 1 + k ∧ w.rowIs B 26 n (fun j => if j < k then gptr B j else .pointer none) ∧ ∀ j, j < k → w.rowIs (B + 1 + j) 37 12 (gcell j (S j))

theorem rowIs_new {w : World} (c : Array Value) (t : TypeId) (n : Nat) (f : Nat → Value) (hs : c.size = n) (hc : ∀ i, i < n → c[i]? = some (f i)) : (w.alloc (.cells c t)).rowIs w.heap.size t n f := by
  subst hs; exact World.rowIs_alloc w c t f hc

theorem Pool.start (w : World) (n : Nat) (S : Nat → Int) : Pool w (w.alloc (.cells (madeCells #[.pointer none] n) 26)) w.heap.size n 0 S :=
  ⟨(Below.refl _ _).alloc (Nat.le_refl _) _, by simp, (World.rowIs_made w (.pointer none) n 26).congr (fun i _ => by simp), fun j hj => by omega⟩

theorem gcells_at (id s : Int) (i : Nat) (hi : i < 12) : (#[Value.int .i64 id, .slice none 0 0, .int .i64 0, .int .i64 0, .slice none 0 0, .pointer none, .pointer none, .pointer none, .int .i64 0, .int .i64 0, .int .i64 s, .bool false])[i]? = some (gcell id s i) := by
  match i, hi with
  | 0, _ => rfl
  | 1, _ => rfl
  | 2, _ => rfl
  | 3, _ => rfl
  | 4, _ => rfl
  | 5, _ => rfl
  | 6, _ => rfl
  | 7, _ => rfl
  | 8, _ => rfl
  | 9, _ => rfl
  | 10, _ => rfl
  | 11, _ => rfl

theorem Pool.step {w0 w : World} {B n k : Nat} {S : Nat → Int} (h : Pool w0 w B n k S) (hk : k < n) :
    Pool w0 ((w.setCell ⟨B, k, none⟩ (.pointer (some ⟨w.heap.size, 0, none⟩))).alloc (.cells #[.int .i64 k, .slice none 0 0, .int .i64 0, .int .i64 0, .slice none 0 0, .pointer none, .pointer none, .pointer none, .int .i64 0, .int .i64 0, .int .i64 (S k), .bool false] 37)) B n (k + 1) S := by
  obtain ⟨h1, h2, h3, h4⟩ := h
  have hz : (w.setCell ⟨B, k, none⟩ (.pointer (some ⟨w.heap.size, 0, none⟩))).heap.size = B + 1 + k := by simp [World.setCell, h2]
  refine ⟨(h1.setCell (Nat.le_refl _) _).alloc (by omega) _, by simp [World.setCell, h2]; omega, ?_, ?_⟩
  · refine ((h3.set k _).alloc _).congr (fun i hi => ?_)
    by_cases e : i = k
    · subst e; simp [gptr, h2]
    · simp only [if_neg e]
      by_cases e2 : i < k
      · rw [if_pos e2, if_pos (by omega)]
      · rw [if_neg e2, if_neg (by omega)]
  · intro j hj
    by_cases e : j = k
    · subst e
      have := rowIs_new (w := w.setCell ⟨B, j, none⟩ (.pointer (some ⟨w.heap.size, 0, none⟩))) _ 37 12 (gcell j (S j)) rfl (gcells_at j (S j))
      rwa [hz] at this
    · exact ((h4 j (by omega)).setOther (by show B + 1 + j ≠ B; omega) _).alloc _

/-! ### behind the second loop's k rounds -/
/-- an entry of the agenda: five cells. -/
def dcell (a s h : Int) (g : Value) : Nat → Value
  | 0 => .int .i64 a
  | 1 => .int .u64 s
  | 2 => .int .i64 h
  | 3 => g
  | _ => .pointer none
/-- the goroutine of an entry by its owner's number. -/
def optr (B : Nat) (o : Int) : Value := if o < 0 then .pointer none else .pointer (some ⟨B + 1 + o.toNat, 0, none⟩)
def acell (HB m : Nat) (seq : Int) : Nat → Value
  | 0 => .slice (some ⟨HB, 0, none⟩) m m
  | _ => .int .u64 seq
def hcell (B k : Nat) (A Q H O : Nat → Int) (i : Nat) : Value :=
  if i < 5 * k then dcell (A (i / 5)) (Q (i / 5)) (H (i / 5)) (optr B (O (i / 5))) (i % 5) else dcell 0 0 0 (.pointer none) (i % 5)

/-- all that the call has made: the pool, its goroutines (slots S), the owners (fO), the agenda's entries (fH), the agenda. -/
def Rws (w0 w : World) (B n m : Nat) (S : Nat → Int) (fO fH : Nat → Value) (seq : Int) : Prop :=
  Below B w0 w ∧ B + 1 + n + 3 ≤ w.heap.size ∧ w.rowIs B 26 n (gptr B) ∧ (∀ j, j < n → w.rowIs (B + 1 + j) 37 12 (gcell j (S j)))
  ∧ w.rowIs (B + 1 + n) 3 m fO ∧ w.rowIs (B + 1 + n + 1) 46 (5 * m) fH ∧ w.rowIs (B + 1 + n + 1 + 1) 41 2 (acell (B + 1 + n + 1) m seq)

theorem Rws.congr {w0 w : World} {B n m : Nat} {S : Nat → Int} {fO fH fO' fH' : Nat → Value} {seq : Int} (h : Rws w0 w B n m S fO fH seq) (e : ∀ j, j < m → fO j = fO' j) (e' : ∀ j, j < 5 * m → fH j = fH' j) : Rws w0 w B n m S fO' fH' seq := by
  obtain ⟨h1, h2, h3, h4, h5, h6, h7⟩ := h
  exact ⟨h1, h2, h3, h4, h5.congr e, h6.congr e', h7⟩
theorem Rws.alloc {w0 w : World} {B n m : Nat} {S : Nat → Int} {fO fH : Nat → Value} {seq : Int} (h : Rws w0 w B n m S fO fH seq) (o : Obj) : Rws w0 (w.alloc o) B n m S fO fH seq := by
  obtain ⟨h1, h2, h3, h4, h5, h6, h7⟩ := h
  exact ⟨h1.alloc (by omega) _, by simp; omega, h3.alloc _, fun j hj => (h4 j hj).alloc _, h5.alloc _, h6.alloc _, h7.alloc _⟩
theorem Rws.drewN {w0 w : World} {B n m : Nat} {S : Nat → Int} {fO fH : Nat → Value} {seq : Int} (h : Rws w0 w B n m S fO fH seq) (k : Nat) : Rws w0 (w.drewN k) B n m S fO fH seq := by
  obtain ⟨h1, h2, h3, h4, h5, h6, h7⟩ := h
  exact ⟨h1.trans ⟨rfl, rfl, rfl, Nat.le_refl _, fun _ _ => rfl⟩, h2, h3, h4, h5, h6, h7⟩
theorem Rws.drew {w0 w : World} {B n m : Nat} {S : Nat → Int} {fO fH : Nat → Value} {seq : Int} (h : Rws w0 w B n m S fO fH seq) : Rws w0 w.drew B n m S fO fH seq := by
  obtain ⟨h1, h2, h3, h4, h5, h6, h7⟩ := h
  exact ⟨h1.drew, h2, h3, h4, h5, h6, h7⟩
theorem Rws.setO {w0 w : World} {B n m : Nat} {S : Nat → Int} {fO fH : Nat → Value} {seq : Int} (h : Rws w0 w B n m S fO fH seq) (k : Nat) (v : Value) :
    Rws w0 (w.setCell ⟨B + 1 + n, k, none⟩ v) B n m S (fun j => if j = k then v else fO j) fH seq := by
  obtain ⟨h1, h2, h3, h4, h5, h6, h7⟩ := h
  exact ⟨h1.setCell (by show B ≤ B + 1 + n; omega) _, by simp [World.setCell]; omega, h3.setOther (by show B ≠ B + 1 + n; omega) _, fun j hj => (h4 j hj).setOther (by show B + 1 + j ≠ B + 1 + n; omega) _,
    h5.set k v, h6.setOther (by show B + 1 + n + 1 ≠ B + 1 + n; omega) _, h7.setOther (by show B + 1 + n + 1 + 1 ≠ B + 1 + n; omega) _⟩
theorem Rws.setH {w0 w : World} {B n m : Nat} {S : Nat → Int} {fO fH : Nat → Value} {seq : Int} (h : Rws w0 w B n m S fO fH seq) (k : Nat) (v : Value) :
    Rws w0 (w.setCell ⟨B + 1 + n + 1, k, none⟩ v) B n m S fO (fun j => if j = k then v else fH j) seq := by
  obtain ⟨h1, h2, h3, h4, h5, h6, h7⟩ := h
  exact ⟨h1.setCell (by show B ≤ B + 1 + n + 1; omega) _, by simp [World.setCell]; omega, h3.setOther (by show B ≠ B + 1 + n + 1; omega) _, fun j hj => (h4 j hj).setOther (by show B + 1 + j ≠ B + 1 + n + 1; omega) _,
    h5.setOther (by show B + 1 + n ≠ B + 1 + n + 1; omega) _, h6.set k v, h7.setOther (by show B + 1 + n + 1 + 1 ≠ B + 1 + n + 1; omega) _⟩
theorem gcell_set (id s t : Int) (c : Nat) : (if c = 10 then Value.int .i64 t else gcell id s c) = gcell id t c := by
  match c with
  | 0 => rfl
  | 1 => rfl
  | 2 => rfl
  | 3 => rfl
  | 4 => rfl
  | 5 => rfl
  | 6 => rfl
  | 7 => rfl
  | 8 => rfl
  | 9 => rfl
  | 10 => rfl
  | c + 11 => rw [if_neg (by omega)]; rfl
/-- mark's store: the slot of goroutine x. -/
theorem Rws.setG {w0 w : World} {B n m : Nat} {S : Nat → Int} {fO fH : Nat → Value} {seq : Int} (h : Rws w0 w B n m S fO fH seq) (x : Nat) (hx : x < n) (t : Int) :
    Rws w0 (w.setCell ⟨B + 1 + x, 10, none⟩ (.int .i64 t)) B n m (fun j => if j = x then t else S j) fO fH seq := by
  obtain ⟨h1, h2, h3, h4, h5, h6, h7⟩ := h
  refine ⟨h1.setCell (by show B ≤ B + 1 + x; omega) _, by simp [World.setCell]; omega, h3.setOther (by show B ≠ B + 1 + x; omega) _, fun j hj => ?_,
    h5.setOther (by show B + 1 + n ≠ B + 1 + x; omega) _, h6.setOther (by show B + 1 + n + 1 ≠ B + 1 + x; omega) _, h7.setOther (by show B + 1 + n + 1 + 1 ≠ B + 1 + x; omega) _⟩
  by_cases e : j = x
  · subst e
    simp only [if_pos]
    exact ((h4 j hj).set 10 _).congr (fun c _ => gcell_set _ _ _ c)
  · simp only [if_neg e]
    exact (h4 j hj).setOther (by show B + 1 + j ≠ B + 1 + x; omega) _

def ofn (k : Nat) (O : Nat → Int) (j : Nat) : Value := if j < k then .int .i64 (O j) else .int .i64 0
def St (w0 w : World) (B n m k : Nat) (S A Q H O : Nat → Int) (seq : Int) : Prop := Rws w0 w B n m S (ofn k O) (hcell B k A Q H O) seq

theorem made5 (w : World) (N : Nat) (f : Nat → Value) (hf : ∀ i, i < N → f i = dcell 0 0 0 (.pointer none) (i % 5)) :
    (w.alloc (.cells (madeCells #[.int .i64 0, .int .u64 0, .int .i64 0, .pointer none, .pointer none] N) 46)).rowIs w.heap.size 46 N f := by
  refine rowIs_new _ _ _ _ (by simp [madeCells]) (fun i hi => ?_)
  rw [hf i hi]
  have h5 : i % 5 < 5 := Nat.mod_lt _ (by omega)
  generalize hr : i % 5 = r at h5
  simp [madeCells, hi, hr]
  match r, h5 with
  | 0, _ => rfl
  | 1, _ => rfl
  | 2, _ => rfl
  | 3, _ => rfl
  | 4, _ => rfl

theorem St.start {w0 w : World} {B n m : Nat} {S : Nat → Int} (A Q H O : Nat → Int) (seq : Int) (h : Pool w0 w B n n S) :
    St w0 (((w.alloc (.cells (madeCells #[.int .i64 0] m) 3)).alloc (.cells (madeCells #[.int .i64 0, .int .u64 0, .int .i64 0, .pointer none, .pointer none] (m * 5)) 46)).alloc (.cells #[.slice (some ⟨B + 1 + n + 1, 0, none⟩) m m, .int .u64 seq] 41)) B n m 0 S A Q H O seq := by
  obtain ⟨h1, h2, h3, h4⟩ := h
  have z1 : (w.alloc (.cells (madeCells #[.int .i64 0] m) 3)).heap.size = B + 1 + n + 1 := by simp [h2]
  have z2 : ((w.alloc (.cells (madeCells #[.int .i64 0] m) 3)).alloc (.cells (madeCells #[.int .i64 0, .int .u64 0, .int .i64 0, .pointer none, .pointer none] (m * 5)) 46)).heap.size = B + 1 + n + 1 + 1 := by simp [h2]
  refine ⟨((h1.alloc (by omega) _).alloc (by omega) _).alloc (by omega) _, by simp [h2], ?_, ?_, ?_, ?_, ?_⟩
  · exact (((h3.alloc _).alloc _).alloc _).congr (fun i hi => by simp [hi])
  · exact fun j hj => (((h4 j hj).alloc _).alloc _).alloc _
  · have := World.rowIs_made w (.int .i64 0) m 3
    rw [h2] at this
    rw [show B + 1 + n = B + 1 + n from rfl]
    exact ((this.alloc _).alloc _).congr (fun i hi => by simp [ofn])
  · have := made5 (w.alloc (.cells (madeCells #[.int .i64 0] m) 3)) (m * 5) (hcell B 0 A Q H O) (fun i hi => by simp [hcell])
    rw [z1, Nat.mul_comm m 5] at this
    rw [Nat.mul_comm m 5]
    exact this.alloc _
  · have := rowIs_new (w := (w.alloc (.cells (madeCells #[.int .i64 0] m) 3)).alloc (.cells (madeCells #[.int .i64 0, .int .u64 0, .int .i64 0, .pointer none, .pointer none] (m * 5)) 46)) #[.slice (some ⟨B + 1 + n + 1, 0, none⟩) m m, .int .u64 seq] 41 2 (acell (B + 1 + n + 1) m seq) rfl (fun i hi => by
      match i, hi with
      | 0, _ => rfl
      | 1, _ => rfl)
    rwa [z2] at this

/-- the cells of a copy of entry k. -/
def Ent (w : World) (eb : Nat) (a q h : Int) : Prop :=
  w.cell? ⟨eb, 0, none⟩ = some (.int .i64 a) ∧ w.cell? ⟨eb, 1, none⟩ = some (.int .u64 q) ∧ w.cell? ⟨eb, 2, none⟩ = some (.int .i64 h)
theorem Ent.new (w : World) (eb : Nat) (he : w.heap.size = eb) (a q h : Int) (g i : Value) : Ent (w.alloc (.cells #[.int .i64 a, .int .u64 q, .int .i64 h, g, i] 43)) eb a q h := by
  subst he
  exact ⟨by simp, by simp, by simp⟩

theorem ofn_step (k : Nat) (O : Nat → Int) (j : Nat) : (if j = k then Value.int .i64 (O k) else ofn k O j) = ofn (k + 1) O j := by
  unfold ofn
  by_cases e : j = k
  · subst e; simp
  · rw [if_neg e]
    by_cases e2 : j < k
    · rw [if_pos e2, if_pos (by omega)]
    · rw [if_neg e2, if_neg (by omega)]

theorem mid_two {w0 w : World} {B n m k : Nat} {S A Q H O : Nat → Int} {seq x u : Int} {g i : Value} (h : St w0 w B n m k S A Q H O seq) (hx : O k = x) :
    Rws w0 (((w.setCell ⟨B + 1 + n, k, none⟩ (.int .i64 u)).setCell ⟨B + 1 + n, k, none⟩ (.int .i64 x)).alloc (.cells #[.int .i64 (A k), .int .u64 (Q k), .int .i64 (H k), g, i] 43)) B n m S (ofn (k + 1) O) (hcell B k A Q H O) seq
    ∧ Ent (((w.setCell ⟨B + 1 + n, k, none⟩ (.int .i64 u)).setCell ⟨B + 1 + n, k, none⟩ (.int .i64 x)).alloc (.cells #[.int .i64 (A k), .int .u64 (Q k), .int .i64 (H k), g, i] 43)) w.heap.size (A k) (Q k) (H k) := by
  subst hx
  refine ⟨(((Rws.setO h k _).setO k _).alloc _).congr (fun j _ => ?_) (fun _ _ => rfl), Ent.new _ _ (by simp [World.setCell]) _ _ _ _ _⟩
  rw [← ofn_step]
  by_cases e : j = k
  · simp [e]
  · simp [e]
theorem mid_one {w0 w : World} {B n m k : Nat} {S A Q H O : Nat → Int} {seq x : Int} {g i : Value} (h : St w0 w B n m k S A Q H O seq) (hx : O k = x) :
    Rws w0 ((w.setCell ⟨B + 1 + n, k, none⟩ (.int .i64 x)).alloc (.cells #[.int .i64 (A k), .int .u64 (Q k), .int .i64 (H k), g, i] 43)) B n m S (ofn (k + 1) O) (hcell B k A Q H O) seq
    ∧ Ent ((w.setCell ⟨B + 1 + n, k, none⟩ (.int .i64 x)).alloc (.cells #[.int .i64 (A k), .int .u64 (Q k), .int .i64 (H k), g, i] 43)) w.heap.size (A k) (Q k) (H k) := by
  subst hx
  exact ⟨((Rws.setO h k _).alloc _).congr (fun j _ => ofn_step k O j) (fun _ _ => rfl), Ent.new _ _ (by simp [World.setCell]) _ _ _ _ _⟩
theorem optr_neg (B : Nat) {o : Int} (h : o = -1) : optr B o = .pointer none := by subst h; rfl
theorem optr_pos (B x : Nat) {o : Int} (h : o = x) : optr B o = .pointer (some ⟨B + 1 + x, 0, none⟩) := by
  subst h; unfold optr; rw [if_neg (by omega)]; simp

theorem hcell_step (B k : Nat) (A Q H O : Nat → Int) (j : Nat) :
    (if j = k * 5 + 4 then Value.pointer none else if j = k * 5 + 3 then optr B (O k) else if j = k * 5 + 2 then .int .i64 (H k) else if j = k * 5 + 1 then .int .u64 (Q k) else if j = k * 5 then .int .i64 (A k) else hcell B k A Q H O j) = hcell B (k + 1) A Q H O j := by
  by_cases h : j < 5 * k
  · rw [if_neg (by omega), if_neg (by omega), if_neg (by omega), if_neg (by omega), if_neg (by omega)]
    unfold hcell
    rw [if_pos h, if_pos (by omega)]
  · by_cases h2 : j < 5 * (k + 1)
    · have hd : j / 5 = k := by omega
      unfold hcell
      rw [if_pos h2, hd]
      rcases (by omega : j = k * 5 ∨ j = k * 5 + 1 ∨ j = k * 5 + 2 ∨ j = k * 5 + 3 ∨ j = k * 5 + 4) with e | e | e | e | e
      · rw [if_neg (by omega), if_neg (by omega), if_neg (by omega), if_neg (by omega), if_pos e, show j % 5 = 0 by omega]; rfl
      · rw [if_neg (by omega), if_neg (by omega), if_neg (by omega), if_pos e, show j % 5 = 1 by omega]; rfl
      · rw [if_neg (by omega), if_neg (by omega), if_pos e, show j % 5 = 2 by omega]; rfl
      · rw [if_neg (by omega), if_pos e, show j % 5 = 3 by omega]; rfl
      · rw [if_pos e, show j % 5 = 4 by omega]; rfl
    · rw [if_neg (by omega), if_neg (by omega), if_neg (by omega), if_neg (by omega), if_neg (by omega)]
      unfold hcell
      rw [if_neg h, if_neg h2]

/-- the entry's store: five cells. -/
theorem St.store {w0 w : World} {B n m k : Nat} {S A Q H O : Nat → Int} {seq : Int} (h : Rws w0 w B n m S (ofn (k + 1) O) (hcell B k A Q H O) seq) :
    St w0 (((((w.setCell ⟨B + 1 + n + 1, k * 5, none⟩ (.int .i64 (A k))).setCell ⟨B + 1 + n + 1, k * 5 + 1, none⟩ (.int .u64 (Q k))).setCell ⟨B + 1 + n + 1, k * 5 + 2, none⟩ (.int .i64 (H k))).setCell ⟨B + 1 + n + 1, k * 5 + 3, none⟩ (optr B (O k))).setCell ⟨B + 1 + n + 1, k * 5 + 4, none⟩ (.pointer none)) B n m (k + 1) S A Q H O seq :=
  (((((h.setH (k * 5) (.int .i64 (A k))).setH (k * 5 + 1) (.int .u64 (Q k))).setH (k * 5 + 2) (.int .i64 (H k))).setH (k * 5 + 3) (optr B (O k))).setH (k * 5 + 4) (.pointer none)).congr (fun _ _ => rfl) (fun j _ => hcell_step B k A Q H O j)

/-! ### reading an entry back -/
theorem hcell_at (B m k c : Nat) (A Q H O : Nat → Int) (hk : k < m) (hc : c < 5) : hcell B m A Q H O (k * 5 + c) = dcell (A k) (Q k) (H k) (optr B (O k)) c := by
  unfold hcell
  rw [if_pos (by omega), show (k * 5 + c) / 5 = k by omega, show (k * 5 + c) % 5 = c by omega]

/-- the slots behind mark(idx). -/
def mS (S O : Nat → Int) (idx : Nat) (j : Nat) : Int := if O idx = (j : Int) then (idx : Int) else S j

theorem mark_out {w0 w : World} {B n m idx : Nat} {S : Nat → Int} {O : Nat → Int} {fO fH : Nat → Value} {seq : Int} (h : Rws w0 w B n m S fO fH seq) (ho : O idx = -1) : Rws w0 w B n m (mS S O idx) fO fH seq := by
  obtain ⟨h1, h2, h3, h4, h5, h6, h7⟩ := h
  refine ⟨h1, h2, h3, fun j hj => ?_, h5, h6, h7⟩
  have e : mS S O idx j = S j := by unfold mS; rw [ho, if_neg (by omega)]
  rw [e]; exact h4 j hj
theorem mark_in {w0 w : World} {B n m idx x : Nat} {S : Nat → Int} {O : Nat → Int} {fO fH : Nat → Value} {seq : Int} (h : Rws w0 w B n m S fO fH seq) (hx : x < n) (ho : O idx = x) :
    Rws w0 (w.setCell ⟨B + 1 + x, 10, none⟩ (.int .i64 idx)) B n m (mS S O idx) fO fH seq := by
  have h' := h.setG x hx idx
  have e : (fun j => if j = x then (idx : Int) else S j) = mS S O idx := by
    funext j
    unfold mS
    rw [ho]
    by_cases e : j = x
    · rw [if_pos e, if_pos (by omega)]
    · rw [if_neg e, if_neg (by omega)]
  rwa [e] at h'
end Go.Proofs.Ybulkfkea
