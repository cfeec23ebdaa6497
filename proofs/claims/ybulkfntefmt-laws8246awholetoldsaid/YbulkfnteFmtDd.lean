/- The state of one of the three loops that build a list without doubles: DD, and one round of it. No walk here. -/
import Derived.Test.YbulkfnteFmtOwn
namespace Go.Proofs.YbulkfnteFmt
open Go.RowKit
set_option linter.unusedVariables false

def pt (p : Nat) : Value := .pointer (some ⟨p, 0, none⟩)
theorem row_kept {w w' : World} {B e sz n : Nat} {v : Value} {xs : List Value} (h : w.ownsRow B e sz v n xs) (hk : ∀ g, v.ownBlock = some g → w'.heap[g]? = w.heap[g]?) : w'.ownsRow B e sz v n xs := by
  obtain ⟨h1, h2 | ⟨g, cap, cur, rfl, hb, hg, r⟩⟩ := h
  · exact ⟨h1, .inl h2⟩
  · exact ⟨h1, .inr ⟨g, cap, cur, rfl, hb, (hk g rfl).trans hg, r⟩⟩
theorem row_tag {w : World} {B e sz n : Nat} {v : Value} {xs : List Value} (h : w.ownsRow B e sz v n xs) {g : Nat} (hg : v.ownBlock = some g) : B ≤ g ∧ ∃ cur, w.heap[g]? = some (.cells cur e (0, 0)) := by
  obtain ⟨h1, ⟨rfl, _⟩ | ⟨g', cap, cur, rfl, hb, hg', r⟩⟩ := h
  · simp [Value.ownBlock] at hg
  · have : g' = g := by simpa [Value.ownBlock] using hg
    subst this; exact ⟨hb, cur, hg'⟩
theorem lt_of_some {w : World} {g : Nat} {o : Obj} (h : w.heap[g]? = some o) : g < w.heap.size := (Array.getElem?_eq_some_iff.1 h).1
/-- the form of the value, and its cells. -/
theorem row_form {w : World} {B e n : Nat} {v : Value} {xs : List Value} (h : w.ownsRow B e 1 v n xs) :
    ∃ a cap, v = .slice a n cap ∧ (n = 0 ∨ ∃ g, a = some ⟨g, 0, none⟩ ∧ B ≤ g ∧ g < w.heap.size ∧ ∀ j, j < n → w.cell? ⟨g, j, none⟩ = xs[j]?) := by
  obtain ⟨h1, ⟨rfl, rfl⟩ | ⟨g, cap, cur, rfl, hb, hg, hn, hc, hs, ht⟩⟩ := h
  · exact ⟨none, 0, rfl, .inl rfl⟩
  · refine ⟨some ⟨g, 0, none⟩, cap, rfl, .inr ⟨g, rfl, hb, lt_of_some hg, fun j hj => ?_⟩⟩
    rw [cell_of_row w g j cur e (0, 0) hg, ← ht, List.getElem?_take_of_lt (by omega)]
    simp
theorem row_sat {w : World} {B : Nat} {v : Value} {ds : List ByteArray} (h : w.ownsRow B 9 1 v ds.length (ds.map .string)) : ∃ a cap, v = .slice a ds.length cap ∧ SAt w a ds := by
  obtain ⟨a, cap, hv, h0 | ⟨g, ha, _, hlt, hc⟩⟩ := row_form h
  · exact ⟨a, cap, hv, .inl (List.length_eq_zero_iff.1 h0)⟩
  · refine ⟨a, cap, hv, .inr ⟨g, 0, ha, hlt, fun j hj => ?_⟩⟩
    rw [Nat.zero_add, hc j hj]
    simp [List.getD, List.getElem?_eq_getElem hj]

structure DD (w : World) (B tP tB : Nat) (bx : ByteArray → Array Value) (vl vp : Value) (m : Nat) (ds : List ByteArray) (ps : List Nat) : Prop where
  len : ps.length = ds.length
  row : w.ownsRow B 9 1 vl ds.length (ds.map .string)
  ptr : w.ownsRow B tP 1 vp ds.length (ps.map pt)
  map : PMap w m (atp ds ps) ds.length
  mB : B ≤ m
  box : ∀ k, k < ds.length → B ≤ ps.getD k 0 ∧ w.heap[ps.getD k 0]? = some (.cells (bx (ds.getD k ByteArray.empty)) tB (0, 0))
  own : ∀ k, k < ds.length → ix ds (ds.getD k ByteArray.empty) = k
  sz : ∀ k, k < ds.length → (ds.getD k ByteArray.empty).size ≤ maxLen

section
variable {w : World} {B tP tB : Nat} {bx : ByteArray → Array Value} {vl vp : Value} {m : Nat} {ds : List ByteArray} {ps : List Nat}

theorem DD.start (w : World) (B : Nat) (hB : B ≤ w.heap.size) (tP tB : Nat) (bx : ByteArray → Array Value) : DD (w.alloc (.map #[] 0)) B tP tB bx (.slice none 0 0) (.slice none 0 0) w.heap.size [] [] :=
  ⟨rfl, ⟨rfl, .inl ⟨rfl, rfl⟩⟩, ⟨rfl, .inl ⟨rfl, rfl⟩⟩, (PMap.made w).congr (fun s => by simp [atp, ix, ixFrom]), hB, fun k hk => absurd hk (by simp), fun k hk => absurd hk (by simp), fun k hk => absurd hk (by simp)⟩
/-- all blocks from B on are as they were. -/
theorem DD.kept {w' : World} (h : DD w B tP tB bx vl vp m ds ps) (hk : ∀ b, B ≤ b → b < w.heap.size → w'.heap[b]? = w.heap[b]?) : DD w' B tP tB bx vl vp m ds ps :=
  ⟨h.len, row_kept h.row (fun g hg => have t := row_tag h.row hg; hk g t.1 (lt_of_some t.2.choose_spec)), row_kept h.ptr (fun g hg => have t := row_tag h.ptr hg; hk g t.1 (lt_of_some t.2.choose_spec)),
   h.map.kept (hk m h.mB h.map.lt), h.mB, fun k hk' => ⟨(h.box k hk').1, (hk _ (h.box k hk').1 (lt_of_some (h.box k hk').2)).trans (h.box k hk').2⟩, h.own, h.sz⟩
theorem DD.below {w' : World} (h : DD w B tP tB bx vl vp m ds ps) (hk : Below w.heap.size w w') : DD w' B tP tB bx vl vp m ds ps := h.kept (fun b _ hb => hk.block b hb)
theorem DD.m_ne_row (h : DD w B tP tB bx vl vp m ds ps) : some m ≠ vl.ownBlock := fun e => by
  obtain ⟨_, cur, hc⟩ := row_tag h.row e.symm
  obtain ⟨es, cl, hm⟩ := h.map.isMap
  rw [hm] at hc; simp at hc
theorem DD.m_ne_ptr (h : DD w B tP tB bx vl vp m ds ps) : some m ≠ vp.ownBlock := fun e => by
  obtain ⟨_, cur, hc⟩ := row_tag h.ptr e.symm
  obtain ⟨es, cl, hm⟩ := h.map.isMap
  rw [hm] at hc; simp at hc
theorem DD.m_ne_box (h : DD w B tP tB bx vl vp m ds ps) {k : Nat} (hk : k < ds.length) : ps.getD k 0 ≠ m := fun e => by
  obtain ⟨es, cl, hm⟩ := h.map.isMap
  have := (h.box k hk).2
  rw [e, hm] at this; simp at this
theorem DD.row_ne_box (h : DD w B tP tB bx vl vp m ds ps) (ht : tB ≠ 9) {k : Nat} (hk : k < ds.length) : some (ps.getD k 0) ≠ vl.ownBlock := fun e => by
  obtain ⟨_, cur, hc⟩ := row_tag h.row e.symm
  rw [(h.box k hk).2] at hc; simp at hc; exact ht hc.2
theorem DD.ptr_ne_box (h : DD w B tP tB bx vl vp m ds ps) (ht : tB ≠ tP) {k : Nat} (hk : k < ds.length) : some (ps.getD k 0) ≠ vp.ownBlock := fun e => by
  obtain ⟨_, cur, hc⟩ := row_tag h.ptr e.symm
  rw [(h.box k hk).2] at hc; simp at hc; exact ht hc.2
theorem DD.row_ne_ptr (h : DD w B tP tB bx vl vp m ds ps) (ht : tP ≠ 9) {g : Nat} (h1 : vl.ownBlock = some g) (h2 : vp.ownBlock = some g) : False := by
  obtain ⟨_, cur, hc⟩ := row_tag h.row h1
  obtain ⟨_, cur', hc'⟩ := row_tag h.ptr h2
  rw [hc] at hc'; simp at hc'; exact ht hc'.2.symm

/-- ahead of the first append: the list's row, behind the box and the map's store. -/
theorem DD.row2 (h : DD w B tP tB bx vl vp m ds ps) {W2 W3 : World} {o1 : Obj} (hg2 : (w.alloc o1).grownBy W2 (some m)) (h3 : ∀ b, b < W2.heap.size → W3.heap[b]? = W2.heap[b]?) : W3.ownsRow B 9 1 vl ds.length (ds.map .string) :=
  row_kept h.row (fun g hg => by
    have t := row_tag h.row hg
    have hlt := lt_of_some t.2.choose_spec
    have hs : w.heap.size < W2.heap.size := by have := hg2.size; simp at this; omega
    rw [h3 g (by omega), hg2.block g (by simp; omega) (fun e => h.m_ne_row (by rw [hg, ← e])), Below.heap_alloc _ _ _ hlt])
/-- ahead of the second append: the pointers' row. -/
theorem DD.ptr2 (h : DD w B tP tB bx vl vp m ds ps) (ht : tP ≠ 9) {W2 W3 W4 W5 : World} {o1 : Obj} (hg2 : (w.alloc o1).grownBy W2 (some m)) (hs3 : W2.heap.size ≤ W3.heap.size) (h3 : ∀ b, b < W2.heap.size → W3.heap[b]? = W2.heap[b]?) (hg4 : W3.grownBy W4 vl.ownBlock) (h5 : ∀ b, b < W4.heap.size → W5.heap[b]? = W4.heap[b]?) : W5.ownsRow B tP 1 vp ds.length (ps.map pt) :=
  row_kept h.ptr (fun g hg => by
    have t := row_tag h.ptr hg
    have hlt := lt_of_some t.2.choose_spec
    have hs : w.heap.size < W2.heap.size := by have := hg2.size; simp at this; omega
    have hs4 := hg4.size
    rw [h5 g (by omega), hg4.block g (by omega) (fun e => h.row_ne_ptr ht e.symm hg), h3 g (by omega), hg2.block g (by simp; omega) (fun e => h.m_ne_ptr (by rw [hg, ← e])), Below.heap_alloc _ _ _ hlt])
/-- ONE ROUND. -/
theorem DD.round (h : DD w B tP tB bx vl vp m ds ps) (hB : B ≤ w.heap.size) (ht9 : tP ≠ 9) (htb9 : tB ≠ 9) (htbp : tB ≠ tP) {s : ByteArray} (hix : ix ds s < 0) (hsz : s.size ≤ maxLen) {W2 W3 W4 W5 W6 : World} {vl' vp' : Value}
    (hm2 : PMap W2 m (fun q => if q = s then some w.heap.size else atp ds ps q) (ds.length + 1)) (hg2 : (w.alloc (.cells (bx s) tB)).grownBy W2 (some m))
    (h3 : Below W2.heap.size W2 W3) (hr4 : W4.ownsRow B 9 1 vl' (ds.length + 1) (ds.map .string ++ [.string s])) (hg4 : W3.grownBy W4 vl.ownBlock) (hat : ∀ g, vl'.ownBlock = some g → vl.ownBlock = some g ∨ w.heap.size < g)
    (h5 : Below W4.heap.size W4 W5) (hr6 : W6.ownsRow B tP 1 vp' (ds.length + 1) (ps.map pt ++ [pt w.heap.size])) (hg6 : W5.grownBy W6 vp.ownBlock) :
    DD W6 B tP tB bx vl' vp' m (ds ++ [s]) (ps ++ [w.heap.size]) ∧ Below B w W6 ∧ w.heap.size ≤ W6.heap.size := by
  have e2 := hg2.size
  simp at e2
  have e3 := h3.size
  have e4 := hg4.size
  have e5 := h5.size
  have e6 := hg6.size
  -- a block that is neither the map nor one of the rows
  have far : ∀ b, b ≤ w.heap.size → b ≠ m → some b ≠ vl.ownBlock → some b ≠ vp.ownBlock → W6.heap[b]? = (w.alloc (.cells (bx s) tB)).heap[b]? := fun b hb h1 h2 h3' => by
    rw [hg6.block b (by omega) h3', h5.block b (by omega), hg4.block b (by omega) h2, h3.block b (by omega), hg2.block b (by simp; omega) (by simpa using h1)]
  have hlen : (ds ++ [s]).length = ds.length + 1 := by simp
  refine ⟨⟨by simp [h.len], ?_, ?_, ?_, h.mB, fun k hk => ?_, fun k hk => ?_, fun k hk => ?_⟩, ?_, by omega⟩
  · rw [hlen, List.map_append]
    refine row_kept hr4 (fun g hg => ?_)
    obtain ⟨_, cur, hc⟩ := row_tag hr4 hg
    have hlt := lt_of_some hc
    rw [hg6.block g (by omega) ?_, h5.block g hlt]
    intro e
    rcases hat g hg with h1 | h1
    · exact h.row_ne_ptr ht9 h1 e.symm
    · obtain ⟨_, cur', hc'⟩ := row_tag h.ptr e.symm
      have := lt_of_some hc'; omega
  · rw [hlen, List.map_append]; exact hr6
  · rw [hlen]
    have hmlt := hm2.lt
    have hmw := h.map.lt
    refine (hm2.kept (?_ : W6.heap[m]? = W2.heap[m]?)).congr (fun q => (atp_snoc h.len hix _ q).symm)
    rw [hg6.block m (by omega) h.m_ne_ptr, h5.block m (by omega), hg4.block m (by omega) h.m_ne_row, h3.block m hmlt]
  · rw [hlen] at hk
    rcases Nat.lt_or_ge k ds.length with hk' | hk'
    · have e1 : (ps ++ [w.heap.size]).getD k 0 = ps.getD k 0 := by simp [List.getD, List.getElem?_append_left (show k < ps.length by rw [h.len]; exact hk')]
      have e2' : (ds ++ [s]).getD k ByteArray.empty = ds.getD k ByteArray.empty := by simp [List.getD, List.getElem?_append_left hk']
      have hb := h.box k hk'
      have hlt := lt_of_some hb.2
      rw [e1, e2']
      refine ⟨hb.1, ?_⟩
      rw [far _ (by omega) (h.m_ne_box hk') (h.row_ne_box htb9 hk') (h.ptr_ne_box htbp hk'), Below.heap_alloc _ _ _ hlt]
      exact hb.2
    · have hke : k = ds.length := by omega
      have e1 : (ps ++ [w.heap.size]).getD k 0 = w.heap.size := by rw [hke, ← h.len]; simp [List.getD]
      have e2' : (ds ++ [s]).getD k ByteArray.empty = s := by rw [hke]; simp [List.getD]
      rw [e1, e2']
      refine ⟨hB, ?_⟩
      have hmw := h.map.lt
      rw [far _ (Nat.le_refl _) (by omega) (fun e => by obtain ⟨_, cur, hc⟩ := row_tag h.row e.symm; have := lt_of_some hc; omega) (fun e => by obtain ⟨_, cur, hc⟩ := row_tag h.ptr e.symm; have := lt_of_some hc; omega)]
      show (w.heap.push _)[w.heap.size]? = _
      simp
  · rw [hlen] at hk
    rcases Nat.lt_or_ge k ds.length with hk' | hk'
    · have e2' : (ds ++ [s]).getD k ByteArray.empty = ds.getD k ByteArray.empty := by simp [List.getD, List.getElem?_append_left hk']
      rw [e2', ix_snoc, h.own k hk', if_neg (by omega)]
    · have hke : k = ds.length := by omega
      have e2' : (ds ++ [s]).getD k ByteArray.empty = s := by rw [hke]; simp [List.getD]
      rw [e2', ix_snoc, if_pos hix, if_pos rfl, hke]
  · rw [hlen] at hk
    rcases Nat.lt_or_ge k ds.length with hk' | hk'
    · have e2' : (ds ++ [s]).getD k ByteArray.empty = ds.getD k ByteArray.empty := by simp [List.getD, List.getElem?_append_left hk']
      rw [e2']; exact h.sz k hk'
    · have hke : k = ds.length := by omega
      have e2' : (ds ++ [s]).getD k ByteArray.empty = s := by rw [hke]; simp [List.getD]
      rw [e2']; exact hsz
  · refine ⟨?_, ?_, ?_, by omega, fun b hb => ?_⟩
    · rw [hg6.os, h5.os, hg4.os, h3.os, hg2.os]; rfl
    · rw [hg6.tape, h5.tape, hg4.tape, h3.tape, hg2.tape]; rfl
    · rw [hg6.output, h5.output, hg4.output, h3.output, hg2.output]; rfl
    · have hmB := h.mB
      rw [far b (by omega) (by omega) (fun e => by have := (row_tag h.row e.symm).1; omega) (fun e => by have := (row_tag h.ptr e.symm).1; omega), Below.heap_alloc _ _ _ (by omega)]
end
end Go.Proofs.YbulkfnteFmt
