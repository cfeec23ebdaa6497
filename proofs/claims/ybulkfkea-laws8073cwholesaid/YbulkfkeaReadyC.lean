/- LawS8073CWhole: what lies in memory when block is called, and behind it: plain laws on rows of cells. -/
import Derived.Test.YbulkfkeaBlockC
namespace Go.Proofs.Ybulkfkea
open Go.RowKit
set_option linter.unusedVariables false

/-- the ring behind k rounds of the first loop. -/
def ringF (B k j : Nat) : Option Addr := if j < k then some ⟨B + 1 + j, 0, none⟩ else none
def Ring (w0 w : World) (B L k : Nat) : Prop := Below B w0 w ∧ w.heap.size = B + 1 + k ∧ w.rowIs B 26 L (fun j => .pointer (ringF B k j))
theorem Ring.start (w : World) (L : Nat) : Ring w (w.alloc (.cells (madeCells #[.pointer none] L) 26)) w.heap.size L 0 :=
  ⟨(Below.refl _ _).alloc (Nat.le_refl _) _, by simp, (World.rowIs_made w (.pointer none) L 26).congr (fun i _ => by simp [ringF])⟩
theorem Ring.step {w0 w : World} {B L k : Nat} (h : Ring w0 w B L k) (o : Obj) : Ring w0 ((w.setCell ⟨B, k, none⟩ (.pointer (some ⟨w.heap.size, 0, none⟩))).alloc o) B L (k + 1) := by
  obtain ⟨h1, h2, h3⟩ := h
  refine ⟨(h1.setCell (Nat.le_refl _) _).alloc (by simp [World.setCell]; omega) _, by simp [World.setCell, h2]; omega, ?_⟩
  refine ((h3.set k _).alloc _).congr (fun j hj => ?_)
  unfold ringF
  by_cases e : j = k
  · subst e; simp [h2]
  · rw [if_neg e]
    by_cases e2 : j < k
    · rw [if_pos e2, if_pos (by omega)]
    · rw [if_neg e2, if_neg (by omega)]

/-- a goroutine's twelve cells: its number and its processor. -/
def gocell (id : Int) (pp : Option Addr) : Nat → Value
  | 0 => .int .i64 id
  | 1 => .slice none 0 0
  | 2 => .int .i64 0
  | 3 => .int .i64 0
  | 4 => .slice none 0 0
  | 5 => .pointer pp
  | 6 => .pointer none
  | 7 => .pointer none
  | 8 => .int .i64 0
  | 9 => .int .i64 0
  | 10 => .int .i64 0
  | _ => .bool false
theorem gocells_at (id : Int) (i : Nat) (hi : i < 12) : (#[Value.int .i64 id, .slice none 0 0, .int .i64 0, .int .i64 0, .slice none 0 0, .pointer none, .pointer none, .pointer none, .int .i64 0, .int .i64 0, .int .i64 0, .bool false])[i]? = some (gocell id none i) := by
  match i, hi with
  | 0, _ => rfl
  | 1, _ => rfl
  | 2, _ => rfl
  | 3, _ => rfl
  | 4, _ => rfl
  | 5, _ => rfl
  | 6, _ => rfl
  | 7, _ => rfl
  | 8, _ => rfl
  | 9, _ => rfl
  | 10, _ => rfl
  | 11, _ => rfl
theorem gocell_p (id : Int) (pp : Option Addr) (c : Nat) : (if c = 5 then Value.pointer pp else gocell id none c) = gocell id pp c := by
  match c with
  | 0 => rfl
  | 1 => rfl
  | 2 => rfl
  | 3 => rfl
  | 4 => rfl
  | 5 => rfl
  | 6 => rfl
  | 7 => rfl
  | 8 => rfl
  | 9 => rfl
  | 10 => rfl
  | c + 11 => rw [if_neg (by omega)]; rfl
theorem row_new {w : World} (c : Array Value) (t : TypeId) (n b : Nat) (f : Nat → Value) (hb : w.heap.size = b) (hs : c.size = n) (hc : ∀ i, i < n → c[i]? = some (f i)) : (w.alloc (.cells c t)).rowIs b t n f := by
  subst hs hb; exact World.rowIs_alloc w c t f hc
/-- an array's cells by the index. -/
def atF (c : Array Value) (i : Nat) : Value := c[i]?.getD undef
theorem row_arr {w : World} (c : Array Value) (t : TypeId) (n b : Nat) (hb : w.heap.size = b) (hs : c.size = n) : (w.alloc (.cells c t)).rowIs b t n (atF c) :=
  row_new c t n b _ hb hs (fun i hi => by unfold atF; rw [Array.getElem?_eq_getElem (by omega)]; rfl)

/-- the ring, the new goroutine, and the wanted queue behind k rounds. -/
def Want (w0 w : World) (B L head n k : Nat) (gid : Int) : Prop :=
  Below B w0 w ∧ w.heap.size = B + 1 + L + 1 + 1 ∧ w.rowIs B 26 L (fun j => .pointer (ringF B L j)) ∧ w.rowIs (B + 1 + L) 37 12 (gocell gid none) ∧ w.rowIs (B + 1 + L + 1) 26 (n + 1) (fun j => .pointer (grownF L head k (ringF B L) j))
theorem Want.start {w0 w : World} {B L : Nat} (head n : Nat) (gid : Int) (h : Ring w0 w B L L) :
    Want w0 ((w.alloc (.cells #[.int .i64 gid, .slice none 0 0, .int .i64 0, .int .i64 0, .slice none 0 0, .pointer none, .pointer none, .pointer none, .int .i64 0, .int .i64 0, .int .i64 0, .bool false] 37)).alloc (.cells (madeCells #[.pointer none] (n + 1)) 26)) B L head n 0 gid := by
  obtain ⟨h1, h2, h3⟩ := h
  refine ⟨(h1.alloc (by omega) _).alloc (by simp; omega) _, by simp [h2], (h3.alloc _).alloc _, (row_new _ 37 12 _ _ h2 rfl (gocells_at gid)).alloc _, ?_⟩
  have := World.rowIs_made (w.alloc (.cells #[.int .i64 gid, .slice none 0 0, .int .i64 0, .int .i64 0, .slice none 0 0, .pointer none, .pointer none, .pointer none, .int .i64 0, .int .i64 0, .int .i64 0, .bool false] 37)) (.pointer none) (n + 1) 26
  rw [show (w.alloc (.cells #[.int .i64 gid, .slice none 0 0, .int .i64 0, .int .i64 0, .slice none 0 0, .pointer none, .pointer none, .pointer none, .int .i64 0, .int .i64 0, .int .i64 0, .bool false] 37)).heap.size = B + 1 + L + 1 by simp [h2]] at this
  exact this.congr (fun j _ => by simp [grownF])
theorem Want.step {w0 w : World} {B L head n k : Nat} {gid : Int} (h : Want w0 w B L head n k gid) :
    Want w0 (w.setCell ⟨B + 1 + L + 1, k, none⟩ (.pointer (ringF B L ((head + k) % L)))) B L head n (k + 1) gid := by
  obtain ⟨h1, h2, h3, h4, h5⟩ := h
  exact ⟨h1.setCell (by show B ≤ B + 1 + L + 1; omega) _, by simp [World.setCell, h2], h3.setOther (by show B ≠ B + 1 + L + 1; omega) _, h4.setOther (by show B + 1 + L ≠ B + 1 + L + 1; omega) _, row_grow h5⟩

/-- the simulator's cells. -/
def sarr (now bl cr : Int) (LB : Nat) : Array Value := #[.int .i64 0, .bool false, .int .i64 0, .bool false, .int .u64 0, .int .i64 0, .int .i64 0, .int .i64 0, .int .i64 0, .func (.func 6) #[] #[.pointer (some ⟨LB, 0, none⟩)], .int .i64 now, .slice none 0 0, .int .u64 0, .slice none 0 0, .slice none 0 0, .int .i64 0, .int .i64 0, .slice none 0 0, .int .i64 0, .int .i64 0, .slice none 0 0, .pointer none, .int .i64 cr, .int .i64 0, .int .i64 bl, .slice none 0 0, .slice none 0 0, .bool false, .int .i64 0, .int .i64 0, .int .i64 0, .slice none 0 0, .int .i64 0, .int .i64 0, .int .i64 0, .int .i64 0, .bool false]
/-- the processor's. -/
def parr (pid : Int) (GB : Nat) : Array Value := #[.int .i64 pid, .pointer none, .pointer none, .slice none 0 0, .int .i64 0, .int .i64 0, .int .i64 3, .pointer (some ⟨GB, 0, none⟩), .int .i64 0]
/-- what the queue shall hold. -/
def wantF (B L head n : Nat) (j : Nat) : Option Addr := roomF n (grownF L head n (ringF B L)) (some ⟨B + 1 + L, 0, none⟩) j

def Ready (w0 w : World) (B L head n : Nat) (now bl pid gid cr : Int) : Prop :=
  Below B w0 w ∧ w.heap.size = B + 1 + L + 1 + 1 + 1 + 1 + 1 + 1 ∧ w.rowIs B 26 L (fun j => .pointer (ringF B L j)) ∧ w.rowIs (B + 1 + L) 37 12 (gocell gid (some ⟨B + 1 + L + 1 + 1 + 1 + 1, 0, none⟩))
  ∧ w.rowIs (B + 1 + L + 1) 26 (n + 1) (fun j => .pointer (wantF B L head n j)) ∧ w.rowIs (B + 1 + L + 1 + 1) 50 1 (atF #[.slice none 0 0]) ∧ w.rowIs (B + 1 + L + 1 + 1 + 1) 69 37 (atF (sarr now bl cr (B + 1 + L + 1 + 1)))
  ∧ w.rowIs (B + 1 + L + 1 + 1 + 1 + 1) 76 9 (atF (parr pid (B + 1 + L))) ∧ w.rowIs (B + 1 + L + 1 + 1 + 1 + 1 + 1) 59 3 (qcell B L head n)

theorem Ready.mk {w0 w : World} {B L head n : Nat} {gid : Int} (now bl pid cr : Int) (h : Want w0 w B L head n n gid) :
    Ready w0 ((((((w.setCell ⟨B + 1 + L + 1, n, none⟩ (.pointer (some ⟨B + 1 + L, 0, none⟩))).setCell ⟨B + 1 + L, 5, none⟩ (.pointer (some ⟨B + 1 + L + 1 + 1 + 1 + 1, 0, none⟩))).alloc (.cells #[.slice none 0 0] 50)).alloc
      (.cells (sarr now bl cr (B + 1 + L + 1 + 1)) 69)).alloc (.cells (parr pid (B + 1 + L)) 76)).alloc (.cells #[.slice (some ⟨B, 0, none⟩) L L, .int .i64 head, .int .i64 n] 59)) B L head n now bl pid gid cr := by
  obtain ⟨h1, h2, h3, h4, h5⟩ := h
  have z0 : ((w.setCell ⟨B + 1 + L + 1, n, none⟩ (.pointer (some ⟨B + 1 + L, 0, none⟩))).setCell ⟨B + 1 + L, 5, none⟩ (.pointer (some ⟨B + 1 + L + 1 + 1 + 1 + 1, 0, none⟩))).heap.size = B + 1 + L + 1 + 1 := by simp [World.setCell, h2]
  generalize hX : (w.setCell ⟨B + 1 + L + 1, n, none⟩ (.pointer (some ⟨B + 1 + L, 0, none⟩))).setCell ⟨B + 1 + L, 5, none⟩ (.pointer (some ⟨B + 1 + L + 1 + 1 + 1 + 1, 0, none⟩)) = X at z0
  have b1 : Below B w0 X := by rw [← hX]; exact (h1.setCell (by show B ≤ B + 1 + L + 1; omega) _).setCell (by show B ≤ B + 1 + L; omega) _
  have r3 : X.rowIs B 26 L (fun j => .pointer (ringF B L j)) := by rw [← hX]; exact (h3.setOther (by show B ≠ B + 1 + L + 1; omega) _).setOther (by show B ≠ B + 1 + L; omega) _
  have r4 : X.rowIs (B + 1 + L) 37 12 (gocell gid (some ⟨B + 1 + L + 1 + 1 + 1 + 1, 0, none⟩)) := by
    rw [← hX]; exact ((h4.setOther (by show B + 1 + L ≠ B + 1 + L + 1; omega) _).set 5 _).congr (fun c _ => gocell_p gid _ c)
  have r5 : X.rowIs (B + 1 + L + 1) 26 (n + 1) (fun j => .pointer (wantF B L head n j)) := by
    rw [← hX]; exact (row_room h5 n _).setOther (by show B + 1 + L + 1 ≠ B + 1 + L; omega) _
  have z1 : (X.alloc (.cells #[.slice none 0 0] 50)).heap.size = B + 1 + L + 1 + 1 + 1 := by simp [z0]
  have z2 : ((X.alloc (.cells #[.slice none 0 0] 50)).alloc (.cells (sarr now bl cr (B + 1 + L + 1 + 1)) 69)).heap.size = B + 1 + L + 1 + 1 + 1 + 1 := by simp [z0]
  have z3 : (((X.alloc (.cells #[.slice none 0 0] 50)).alloc (.cells (sarr now bl cr (B + 1 + L + 1 + 1)) 69)).alloc (.cells (parr pid (B + 1 + L)) 76)).heap.size = B + 1 + L + 1 + 1 + 1 + 1 + 1 := by simp [z0]
  refine ⟨(((b1.alloc (by omega) _).alloc (by omega) _).alloc (by omega) _).alloc (by omega) _, by simp [z0], (((r3.alloc _).alloc _).alloc _).alloc _, (((r4.alloc _).alloc _).alloc _).alloc _, (((r5.alloc _).alloc _).alloc _).alloc _, ?_, ?_, ?_, ?_⟩
  · exact (((row_arr #[.slice none 0 0] 50 1 _ z0 rfl).alloc _).alloc _).alloc _
  · exact ((row_arr (sarr now bl cr (B + 1 + L + 1 + 1)) 69 37 _ z1 rfl).alloc _).alloc _
  · exact (row_arr (parr pid (B + 1 + L)) 76 9 _ z2 rfl).alloc _
  · refine row_new _ 59 3 _ _ z3 rfl (fun i hi => ?_)
    match i, hi with
    | 0, _ => rfl
    | 1, _ => rfl
    | 2, _ => rfl

/-- behind block: every block by a letter. -/
def After (w0 w : World) (B L head n GB WB LB SB PB QB : Nat) (now bl pid gid cr : Int) (on : ByteArray) : Prop :=
  Below B w0 w ∧ Logged w LB now 17 gid pid on
  ∧ (∃ (RB' M head' : Nat) (F : Nat → Option Addr), w.rowIs QB 59 3 (qcell RB' M (head' : Nat) (n + 1 : Nat)) ∧ w.rowIs RB' 26 M (fun j => .pointer (F j)) ∧ (∀ i, i < n + 1 → F ((head' + i) % M) = wantF B L head n i) ∧
      (n = L → M = max 8 (2 * L) ∧ head' = 0) ∧ (n ≠ L → M = L ∧ head' = head) ∧ head' < M ∧ M ≤ 131072 ∧ n < M)
  ∧ (∀ i, i < n + 1 → w.cell? ⟨WB, i, none⟩ = some (.pointer (wantF B L head n i)))
  ∧ (w.cell? ⟨SB, 24, none⟩ = some (.int .i64 (wrap64 (bl + 1))) ∧ w.cell? ⟨SB, 10, none⟩ = some (.int .i64 now) ∧ w.cell? ⟨SB, 22, none⟩ = some (.int .i64 cr) ∧ w.cell? ⟨SB, 23, none⟩ = some (.int .i64 0))
  ∧ (w.cell? ⟨PB, 7, none⟩ = some (.pointer none) ∧ w.cell? ⟨PB, 0, none⟩ = some (.int .i64 pid) ∧ w.cell? ⟨PB, 6, none⟩ = some (.int .i64 3) ∧ w.cell? ⟨PB, 2, none⟩ = some (.pointer none) ∧ w.cell? ⟨PB, 1, none⟩ = some (.pointer none))
  ∧ (w.cell? ⟨GB, 0, none⟩ = some (.int .i64 gid) ∧ w.cell? ⟨GB, 5, none⟩ = some (.pointer (some ⟨PB, 0, none⟩)) ∧ w.cell? ⟨GB, 6, none⟩ = some (.pointer none))
theorem After.drewN {w0 w : World} {B L head n GB WB LB SB PB QB : Nat} {now bl pid gid cr : Int} {on : ByteArray} (h : After w0 w B L head n GB WB LB SB PB QB now bl pid gid cr on) (q : Nat) : After w0 (w.drewN q) B L head n GB WB LB SB PB QB now bl pid gid cr on :=
  ⟨h.1.trans ⟨rfl, rfl, rfl, Nat.le_refl _, fun _ _ => rfl⟩, h.2⟩
/-- the sixteen cells of the event that was logged, read one by one. -/
def EvAt (w : World) (eb : Nat) (now k g p : Int) (on : ByteArray) : Prop := ∀ j u, (evt now k g p on)[j]? = some u → w.cell? ⟨eb, j, none⟩ = some u
theorem EvAt.new (w : World) (eb : Nat) (he : w.heap.size = eb) (now k g p : Int) (on : ByteArray) : EvAt (w.alloc (.cells #[.int .i64 now, .int .i64 k, .int .i64 g, .int .i64 0, .int .i64 p, .int .i64 0, .int .i64 0, .int .i64 0, .int .i64 0, .slice none 0 0, .int .i64 0, .bool false, .int .i64 0, .string ⟨#[]⟩, .string on, .pointer none] 74)) eb now k g p on := by
  subst he
  intro j u hj
  rw [World.cell?_alloc_new]
  simpa [evt] using hj

theorem setc_other (w : World) (b o b' o' : Nat) (v : Value) (h : b ≠ b' ∨ o ≠ o') : (w.setCell ⟨b, o, none⟩ v).cell? ⟨b', o', none⟩ = w.cell? ⟨b', o', none⟩ :=
  World.cell?_setCell_other _ _ _ _ (by intro e; injection e with e1 e2 _; rcases h with h | h; exact h e1; exact h e2)

theorem wantF_eq (B L head n i : Nat) (hi : i < n + 1) : (if i < n then ringF B L ((head + i) % L) else some ⟨B + 1 + L, 0, none⟩) = wantF B L head n i := by
  unfold wantF roomF grownF
  by_cases e : i = n
  · subst e; simp
  · rw [if_neg e, if_pos (by omega), if_pos (by omega)]

theorem After.of {w0 W w1 w' : World} {B L head n : Nat} {now bl pid gid cr : Int} {on : ByteArray} (h : Ready w0 W B L head n now bl pid gid cr)
    (hP : Pushed W w1 (B + 1 + L + 1 + 1 + 1 + 1 + 1) B L head n (some ⟨B + 1 + L, 0, none⟩) (ringF B L)) (hE : Logged w' (B + 1 + L + 1 + 1) now 17 gid pid on)
    (hF : Frm [B + 1 + L + 1 + 1] ((w1.setCell ⟨B + 1 + L + 1 + 1 + 1, 24, none⟩ (.int .i64 (wrap64 (bl + 1)))).setCell ⟨B + 1 + L + 1 + 1 + 1 + 1, 7, none⟩ (.pointer none)) w') :
    After w0 w' B L head n (B + 1 + L) (B + 1 + L + 1) (B + 1 + L + 1 + 1) (B + 1 + L + 1 + 1 + 1) (B + 1 + L + 1 + 1 + 1 + 1) (B + 1 + L + 1 + 1 + 1 + 1 + 1) now bl pid gid cr on := by
  obtain ⟨h1, h2, h3, h4, h5, h6, h7, h8, h9⟩ := h
  obtain ⟨RB', M, head', F, q1, r1, hH, x1, x2, x3, x4, x5, x6, hG⟩ := hP
  have hz := hG.2.2.2.1
  have hzX : ((w1.setCell ⟨B + 1 + L + 1 + 1 + 1, 24, none⟩ (.int .i64 (wrap64 (bl + 1)))).setCell ⟨B + 1 + L + 1 + 1 + 1 + 1, 7, none⟩ (.pointer none)).heap.size = w1.heap.size := by simp [World.setCell]
  have g4 := hG.row h4 (by simp; omega)
  have g5 := hG.row h5 (by simp; omega)
  have g7 := hG.row h7 (by simp; omega)
  have g8 := hG.row h8 (by simp; omega)
  have cellX : ∀ b o v, b < w1.heap.size → b ≠ B + 1 + L + 1 + 1 → (b ≠ B + 1 + L + 1 + 1 + 1 ∨ o ≠ 24) → (b ≠ B + 1 + L + 1 + 1 + 1 + 1 ∨ o ≠ 7) → w1.cell? ⟨b, o, none⟩ = some v → w'.cell? ⟨b, o, none⟩ = some v := by
    intro b o v hb hn hs hp hv
    rw [hF.cell (by show b < _; rw [hzX]; exact hb) (by simpa using hn), setc_other _ _ _ _ _ _ (by omega), setc_other _ _ _ _ _ _ (by omega)]
    exact hv
  have rowX : ∀ b t m f, w1.rowIs b t m f → b ≠ B + 1 + L + 1 + 1 → b ≠ B + 1 + L + 1 + 1 + 1 → b ≠ B + 1 + L + 1 + 1 + 1 + 1 → w'.rowIs b t m f := by
    intro b t m f hr ha hb hc
    exact hF.row ((hr.setOther (by exact hb) _).setOther (by exact hc) _) (by simpa using ha)
  have bX : Below B w0 w' := by
    have b1 := Frm.below h1 (by omega) hG (by intro k hk; simp at hk; omega)
    have b2 := (b1.setCell (p := ⟨B + 1 + L + 1 + 1 + 1, 24, none⟩) (by show B ≤ B + 1 + L + 1 + 1 + 1; omega) (.int .i64 (wrap64 (bl + 1)))).setCell (p := ⟨B + 1 + L + 1 + 1 + 1 + 1, 7, none⟩) (by show B ≤ B + 1 + L + 1 + 1 + 1 + 1; omega) (.pointer none)
    exact Frm.below b2 (by rw [hzX]; omega) hF (by intro k hk; simp at hk; omega)
  have c24 : w'.cell? ⟨B + 1 + L + 1 + 1 + 1, 24, none⟩ = some (.int .i64 (wrap64 (bl + 1))) := by
    rw [hF.cell (by show B + 1 + L + 1 + 1 + 1 < _; rw [hzX]; omega) (by simp <;> omega), setc_other _ _ _ _ _ _ (by omega), World.cell?_setCell_same' _ _ _ (by rw [g7.cell (by omega)]; rfl)]
  have c7 : w'.cell? ⟨B + 1 + L + 1 + 1 + 1 + 1, 7, none⟩ = some (.pointer none) := by
    rw [hF.cell (by show B + 1 + L + 1 + 1 + 1 + 1 < _; rw [hzX]; omega) (by simp <;> omega), World.cell?_setCell_same' _ _ _ (by rw [setc_other _ _ _ _ _ _ (by omega), g8.cell (by omega)]; rfl)]
  refine ⟨bX, hE, ⟨RB', M, head', F, rowX _ _ _ _ q1 (by omega) (by omega) (by omega), rowX _ _ _ _ r1 (by omega) (by omega) (by omega), ?_, x1, x2, x3, x4, x5⟩, ?_, ⟨c24, ?_, ?_, ?_⟩, ⟨c7, ?_, ?_, ?_, ?_⟩, ⟨?_, ?_, ?_⟩⟩
  · intro i hi; rw [hH i hi]; exact wantF_eq B L head n i hi
  · intro i hi; exact cellX _ _ _ (by omega) (by omega) (by omega) (by omega) (g5.cell (by omega))
  · exact cellX _ _ _ (by omega) (by omega) (by omega) (by omega) (g7.cell (by omega))
  · exact cellX _ _ _ (by omega) (by omega) (by omega) (by omega) (g7.cell (by omega))
  · exact cellX _ _ _ (by omega) (by omega) (by omega) (by omega) (g7.cell (by omega))
  · exact cellX _ _ _ (by omega) (by omega) (by omega) (by omega) (g8.cell (by omega))
  · exact cellX _ _ _ (by omega) (by omega) (by omega) (by omega) (g8.cell (by omega))
  · exact cellX _ _ _ (by omega) (by omega) (by omega) (by omega) (g8.cell (by omega))
  · exact cellX _ _ _ (by omega) (by omega) (by omega) (by omega) (g8.cell (by omega))
  · exact cellX _ _ _ (by omega) (by omega) (by omega) (by omega) (g4.cell (by omega))
  · exact cellX _ _ _ (by omega) (by omega) (by omega) (by omega) (g4.cell (by omega))
  · exact cellX _ _ _ (by omega) (by omega) (by omega) (by omega) (g4.cell (by omega))
end Go.Proofs.Ybulkfkea
