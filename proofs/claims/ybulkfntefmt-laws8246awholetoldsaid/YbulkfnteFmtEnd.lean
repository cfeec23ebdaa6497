/- What the checks behind addIssue read. No walk here. -/
import Derived.Test.YbulkfnteFmtAdd
namespace Go.Proofs.YbulkfnteFmt
open Go.RowKit
set_option linter.unusedVariables false

theorem nq_of {tp te : TypeId} (hu : Ybaf.prog.underlying tp = some (.pointer te)) (hi : (Ybaf.prog.info? te).isSome = true) (a : Addr) (W : World) : (binOp .neq tp (.pointer (some a)) (.pointer (some a))).run Ybaf.prog W = .ok (.bool false) W := by
  obtain ⟨j, hj⟩ := Option.isSome_iff_exists.1 hi
  exact Lib.run_neq_ptr_same W a hu hj
theorem nq27 (a : Addr) (W : World) : (binOp .neq 27 (.pointer (some a)) (.pointer (some a))).run Ybaf.prog W = .ok (.bool false) W := nq_of (te := 32) (by kernel_rfl) (by kernel_rfl) a W
theorem nq35 (a : Addr) (W : World) : (binOp .neq 35 (.pointer (some a)) (.pointer (some a))).run Ybaf.prog W = .ok (.bool false) W := nq_of (te := 44) (by kernel_rfl) (by kernel_rfl) a W
theorem nq49 (a : Addr) (W : World) : (binOp .neq 49 (.pointer (some a)) (.pointer (some a))).run Ybaf.prog W = .ok (.bool false) W := nq_of (te := 51) (by kernel_rfl) (by kernel_rfl) a W

section
variable {w : World} {B tP tB : Nat} {bx : ByteArray → Array Value} {vl vp : Value} {m : Nat} {ds : List ByteArray} {ps : List Nat}
/-- every block but one that holds a map is as it was. -/
theorem row_other {w' : World} {e n : Nat} {v : Value} {xs : List Value} (h : w.ownsRow B e 1 v n xs) {m0 : Nat} (hm0 : ∃ es cl, w.heap[m0]? = some (.map es cl)) (hk : ∀ b, b < w.heap.size → some b ≠ some m0 → w'.heap[b]? = w.heap[b]?) : w'.ownsRow B e 1 v n xs :=
  row_kept h (fun g hg => by
    obtain ⟨_, cur, hc⟩ := row_tag h hg
    refine hk g (lt_of_some hc) (fun e => ?_)
    obtain ⟨es, cl, hm⟩ := hm0
    have e' : g = m0 := by simpa using e
    rw [e', hm] at hc; simp at hc)
theorem box_other {w' : World} {g t : Nat} {cs : Array Value} (h : w.heap[g]? = some (.cells cs t (0, 0))) {m0 : Nat} (hm0 : ∃ es cl, w.heap[m0]? = some (.map es cl)) (hk : ∀ b, b < w.heap.size → some b ≠ some m0 → w'.heap[b]? = w.heap[b]?) : w'.heap[g]? = some (.cells cs t (0, 0)) := by
  rw [hk g (lt_of_some h) (fun e => ?_)]
  · exact h
  · obtain ⟨es, cl, hm⟩ := hm0
    have e' : g = m0 := by simpa using e
    rw [e', hm] at h; simp at h
theorem DD.other {w' : World} (h : DD w B tP tB bx vl vp m ds ps) {m0 : Nat} (hm0 : ∃ es cl, w.heap[m0]? = some (.map es cl)) (hne : m ≠ m0) (hk : ∀ b, b < w.heap.size → some b ≠ some m0 → w'.heap[b]? = w.heap[b]?) : DD w' B tP tB bx vl vp m ds ps :=
  ⟨h.len, row_other h.row hm0 hk, row_other h.ptr hm0 hk, h.map.kept (hk m h.map.lt (by simpa using hne)), h.mB, fun k hk' => ⟨(h.box k hk').1, box_other (h.box k hk').2 hm0 hk⟩, h.own, h.sz⟩
/-- the pointers are all different. -/
theorem DD.inj {bx : ByteArray → Array Value} (hbx : ∀ s t, bx s = bx t → s = t) (h : DD w B tP tB bx vl vp m ds ps) (j k : Nat) (hj : j < ds.length) (hk : k < ds.length) (e : ps.getD j 0 = ps.getD k 0) : j = k := by
  have h1 := (h.box j hj).2
  have h2 := (h.box k hk).2
  rw [e, h2] at h1
  have e2 : bx (ds.getD k ByteArray.empty) = bx (ds.getD j ByteArray.empty) := by simpa using h1
  have e3 := hbx _ _ e2
  have o1 := h.own j hj
  have o2 := h.own k hk
  rw [e3, o1] at o2
  omega
theorem ubox_inj (s t : ByteArray) (h : ubox s = ubox t) : s = t := by
  have := congrArg (fun a => a[0]?) h
  simpa [ubox] using this
theorem DD.cel (h : DD w B tP tB bx vl vp m ds ps) (k : Nat) (hk : k < ds.length) : Cel w (ps.getD k 0) := ⟨_, _, (h.box k hk).2⟩
theorem DD.at (h : DD w B tP tB bx vl vp m ds ps) (k : Nat) (hk : k < ds.length) : atp ds ps (ds.getD k ByteArray.empty) = some (ps.getD k 0) := by
  unfold atp
  rw [h.own k hk, if_neg (by omega), Int.toNat_natCast]
/-- the pointers' row, cell by cell. -/
theorem DD.ptrs (h : DD w B tP tB bx vl vp m ds ps) : ∃ a cap, vp = .slice a ds.length cap ∧ (ds.length = 0 ∨ ∃ g, a = some ⟨g, 0, none⟩ ∧ g < w.heap.size ∧ ∀ j, j < ds.length → w.cell? ⟨g, j, none⟩ = some (.pointer (some ⟨ps.getD j 0, 0, none⟩))) := by
  obtain ⟨a, cap, hv, h0 | ⟨g, ha, _, hlt, hc⟩⟩ := row_form h.ptr
  · exact ⟨a, cap, hv, .inl h0⟩
  · refine ⟨a, cap, hv, .inr ⟨g, ha, hlt, fun j hj => ?_⟩⟩
    rw [hc j hj]
    have : j < ps.length := by rw [h.len]; exact hj
    simp [List.getD, List.getElem?_eq_getElem this, pt]
theorem DD.names (h : DD w B tP tB bx vl vp m ds ps) : ∃ a cap, vl = .slice a ds.length cap ∧ (ds.length = 0 ∨ ∃ g, a = some ⟨g, 0, none⟩ ∧ g < w.heap.size ∧ ∀ j, j < ds.length → w.cell? ⟨g, j, none⟩ = some (.string (ds.getD j ByteArray.empty))) := by
  obtain ⟨a, cap, hv, h0 | ⟨g, ha, _, hlt, hc⟩⟩ := row_form h.row
  · exact ⟨a, cap, hv, .inl h0⟩
  · refine ⟨a, cap, hv, .inr ⟨g, ha, hlt, fun j hj => ?_⟩⟩
    rw [hc j hj]
    simp [List.getD, List.getElem?_eq_getElem hj]
end
theorem row_names {w : World} {B : Nat} {vl : Value} {ds : List ByteArray} (h : w.ownsRow B 9 1 vl ds.length (ds.map .string)) : ∃ a cap, vl = .slice a ds.length cap ∧ (ds.length = 0 ∨ ∃ g, a = some ⟨g, 0, none⟩ ∧ g < w.heap.size ∧ ∀ j, j < ds.length → w.cell? ⟨g, j, none⟩ = some (.string (ds.getD j ByteArray.empty))) := by
  obtain ⟨a, cap, hv, h0 | ⟨g, ha, _, hlt, hc⟩⟩ := row_form h
  · exact ⟨a, cap, hv, .inl h0⟩
  · refine ⟨a, cap, hv, .inr ⟨g, ha, hlt, fun j hj => ?_⟩⟩
    rw [hc j hj]
    simp [List.getD, List.getElem?_eq_getElem hj]
theorem row_ptrs {w : World} {B e n : Nat} {vp : Value} {ps : List Nat} (hl : ps.length = n) (h : w.ownsRow B e 1 vp n (ps.map pt)) : ∃ a cap, vp = .slice a n cap ∧ (n = 0 ∨ ∃ g, a = some ⟨g, 0, none⟩ ∧ g < w.heap.size ∧ ∀ j, j < n → w.cell? ⟨g, j, none⟩ = some (.pointer (some ⟨ps.getD j 0, 0, none⟩))) := by
  obtain ⟨a, cap, hv, h0 | ⟨g, ha, _, hlt, hc⟩⟩ := row_form h
  · exact ⟨a, cap, hv, .inl h0⟩
  · refine ⟨a, cap, hv, .inr ⟨g, ha, hlt, fun j hj => ?_⟩⟩
    rw [hc j hj]
    simp [List.getD, List.getElem?_eq_getElem (show j < ps.length by omega), pt]
theorem row_ints {w : World} {B : Nat} {v : Value} {l : List Nat} (h : w.ownsRow B 3 1 v l.length (l.map (fun j : Nat => .int .i64 j))) : ∃ a cap, v = .slice a l.length cap ∧ (l.length = 0 ∨ ∃ g, a = some ⟨g, 0, none⟩ ∧ g < w.heap.size ∧ ∀ j, j < l.length → w.cell? ⟨g, j, none⟩ = some (.int .i64 ((l.getD j 0 : Nat) : Int))) := by
  obtain ⟨a, cap, hv, h0 | ⟨g, ha, _, hlt, hc⟩⟩ := row_form h
  · exact ⟨a, cap, hv, .inl h0⟩
  · refine ⟨a, cap, hv, .inr ⟨g, ha, hlt, fun j hj => ?_⟩⟩
    rw [hc j hj]
    simp [List.getD, List.getElem?_eq_getElem hj]
theorem sn_len (us : List ByteArray) : ∀ (ns : List ByteArray) (acc l : List Nat), sn us ns acc = some l → l.length = acc.length + ns.length
  | [], acc, l, h => by
    have e : acc = l := by simpa [sn] using h
    rw [← e]; simp
  | n :: ns, acc, l, h => by
    unfold sn at h
    split at h
    · cases h
    · split at h
      · cases h
      · have := sn_len us ns _ l h
        simp at this ⊢
        omega
/-- rf is not among the names. -/
theorem ne_of_ix {ds : List ByteArray} {rf : ByteArray} (h : ix ds rf < 0) {k : Nat} (hown : ix ds (ds.getD k ByteArray.empty) = k) : ds.getD k ByteArray.empty ≠ rf := fun e => by
  rw [e] at hown; omega
end Go.Proofs.YbulkfnteFmt
