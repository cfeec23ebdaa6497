/- What the three loops of the law build: a list without doubles, the row of pointers beside it, the map, the boxes. No walk here. -/
import Derived.Test.YbulkfnteFmtItoa
import Derived.Maps.OwnSet
import Derived.StringKeys
import Derived.Deep.AppendLies
namespace Go.Proofs.YbulkfnteFmt
open Go.RowKit
set_option linter.unusedVariables false

/-! ### the first place in a list that grows -/
theorem ixFrom_snoc (s q : ByteArray) : ∀ (xs : List ByteArray) (k : Nat), ixFrom q (xs ++ [s]) k = if ixFrom q xs k < 0 then (if s = q then (k + xs.length : Int) else -1) else ixFrom q xs k
  | [], k => by simp [ixFrom]
  | x :: xs, k => by
    have e0 : ixFrom q (x :: xs) k = if x = q then (k : Int) else ixFrom q xs (k + 1) := rfl
    have e1 : ixFrom q (x :: xs ++ [s]) k = if x = q then (k : Int) else ixFrom q (xs ++ [s]) (k + 1) := rfl
    have e2 : ((x :: xs).length : Int) = xs.length + 1 := by simp
    rw [e0, e1, e2, ixFrom_snoc s q xs (k + 1)]
    generalize ixFrom q xs (k + 1) = A
    by_cases e : x = q
    · simp only [if_pos e]; rw [if_neg (by omega)]
    · simp only [if_neg e]
      have e3 : ((k + 1 : Nat) : Int) + xs.length = k + (xs.length + 1) := by omega
      rw [e3]
theorem ix_snoc (xs : List ByteArray) (s q : ByteArray) : ix (xs ++ [s]) q = if ix xs q < 0 then (if s = q then (xs.length : Int) else -1) else ix xs q := by
  unfold ix
  rw [ixFrom_snoc s q xs 0]
  simp only [Int.natCast_zero, Int.zero_add]
theorem ix_bd (xs : List ByteArray) (s : ByteArray) : ix xs s = -1 ∨ (0 ≤ ix xs s ∧ ix xs s < xs.length) := by
  have := ixFrom_bd s xs 0; simpa [ix] using this

/-- what stands beside s. -/
def atp (ds : List ByteArray) (ps : List Nat) (s : ByteArray) : Option Nat := if ix ds s < 0 then none else some (ps.getD (ix ds s).toNat 0)
theorem atp_snoc {ds : List ByteArray} {ps : List Nat} (hl : ps.length = ds.length) {s : ByteArray} (h : ix ds s < 0) (p : Nat) (q : ByteArray) :
    atp (ds ++ [s]) (ps ++ [p]) q = if q = s then some p else atp ds ps q := by
  unfold atp
  rw [ix_snoc]
  by_cases hq : ix ds q < 0
  · rw [if_pos hq, if_pos hq]
    by_cases e : s = q
    · rw [if_pos e, if_pos e.symm, if_neg (by omega)]
      simp [List.getD, ← hl]
    · rw [if_neg e, if_neg (fun h : q = s => e h.symm), if_pos (by decide)]
  · have e : q ≠ s := fun e => hq (e ▸ h)
    rw [if_neg hq, if_neg hq, if_neg e]
    have hb := ix_bd ds q
    have : (ix ds q).toNat < ps.length := by omega
    simp [List.getD, List.getElem?_append_left this]
    try omega

/-! ### maps of strings to pointers -/
def pv : Option Nat → Value
  | none => .pointer none
  | some p => .pointer (some ⟨p, 0, none⟩)
def pd : Option Nat → Int
  | none => -1
  | some p => (p : Int)
def PR : Value → Option (DataW Unit × List MemPlace)
  | .pointer none => some (.lit (.int .i64 (-1)), [])
  | .pointer (some ⟨p, 0, none⟩) => some (.lit (.int .i64 p), [])
  | _ => none
theorem PR_pv (o : Option Nat) : PR (pv o) = some (.lit (.int .i64 (pd o)), []) := by cases o <;> rfl
theorem pd_inj {o o' : Option Nat} (h : pd o = pd o') : o = o' := by
  cases o with
  | none => cases o' with
    | none => rfl
    | some q => simp only [pd] at h; omega
  | some p => cases o' with
    | none => simp only [pd] at h; omega
    | some q => simp only [pd] at h; rw [Int.ofNat_inj.1 h]
theorem PR_inv {v : Value} {o : Option Nat} {ps : List MemPlace} (h : PR v = some (.lit (.int .i64 (pd o)), ps)) : v = pv o := by
  unfold PR at h
  split at h
  · simp at h; have e := pd_inj (o := none) (o' := o) h.1; rw [← e]; rfl
  · rename_i p; simp at h; have e := pd_inj (o := some p) (o' := o) h.1; rw [← e]; rfl
  · cases h

def PMap (w : World) (b : Nat) (f : ByteArray → Option Nat) (c : Nat) : Prop :=
  ∃ D, w.ownsMap (H := Unit) Ybaf.prog 9 PR b c D ∧ Maps.size D = c ∧ ∀ s : ByteArray, s.size ≤ maxLen → D.atKey (.string s.data.toList) (.lit (.int .i64 (-1))) = .lit (.int .i64 (pd (f s))) ∧ Maps.has D (.string s.data.toList) = (f s).isSome
theorem K9 : Maps.Keyed Ybaf.prog 9 := Maps.string_keyed (by kernel_rfl)

theorem PMap.made (w : World) : PMap (w.alloc (.map #[] 0)) w.heap.size (fun _ => none) 0 :=
  ⟨.map [], World.ownsMap_made w _ _ _, rfl, fun s _ => ⟨rfl, rfl⟩⟩
theorem PMap.lt {w : World} {b c : Nat} {f : ByteArray → Option Nat} (h : PMap w b f c) : b < w.heap.size := by
  obtain ⟨D, h, _⟩ := h; exact h.lt
theorem PMap.isMap {w : World} {b c : Nat} {f : ByteArray → Option Nat} (h : PMap w b f c) : ∃ es clock, w.heap[b]? = some (.map es clock) := by
  obtain ⟨D, ⟨es, clock, hb, _⟩, _⟩ := h; exact ⟨es, clock, hb⟩
theorem PMap.kept {w w' : World} {b c : Nat} {f : ByteArray → Option Nat} (h : PMap w b f c) (hb : w'.heap[b]? = w.heap[b]?) : PMap w' b f c := by
  obtain ⟨D, ⟨es, clock, h1, h2⟩, h3⟩ := h
  exact ⟨D, ⟨es, clock, hb.trans h1, h2⟩, h3⟩
theorem PMap.congr {w : World} {b c : Nat} {f g : ByteArray → Option Nat} (h : PMap w b f c) (e : ∀ s, f s = g s) : PMap w b g c := by
  have : f = g := funext e
  subst this; exact h
theorem PMap.len {w : World} {b c : Nat} {f : ByteArray → Option Nat} (h : PMap w b f c) {t e : TypeId} (ht : Ybaf.prog.underlying t = some (.map 9 e)) (ty : TypeId) :
    (Builtin.len_ #[t] ty #[.map (some b)]).run Ybaf.prog w = .ok (.int .i64 c) w := by
  obtain ⟨D, h1, h2, _⟩ := h
  rw [h1.len ht ty, h2]
theorem PMap.look {w : World} {b c : Nat} {f : ByteArray → Option Nat} (h : PMap w b f c) {t e : TypeId} (ht : Ybaf.prog.underlying t = some (.map 9 e)) (hz : (zeroValue e).run Ybaf.prog w = .ok (.pointer none) w) (s : ByteArray) (hs : s.size ≤ maxLen) :
    (Instr.lookup t (.map (some b)) (.string s) false).run Ybaf.prog w = .ok (pv (f s)) w := by
  obtain ⟨D, h1, h2, h3⟩ := h
  obtain ⟨v, ps, hrun, hv⟩ := h1.lookup K9 ht hz (zd := .lit (.int .i64 (-1))) (zp := []) rfl (WideMaps.keyOf_string_mk (by kernel_rfl) hs)
  rw [(h3 s hs).1] at hv
  rw [hrun, PR_inv hv]
theorem PMap.store {w : World} {b c : Nat} {f : ByteArray → Option Nat} (h : PMap w b f c) {t e : TypeId} (ht : Ybaf.prog.underlying t = some (.map 9 e)) (hc : c < maxLen) (s : ByteArray) (hs : s.size ≤ maxLen) (hf : f s = none) (p : Nat) :
    ∃ w', (Instr.mapUpdate t (.map (some b)) (.string s) (.pointer (some ⟨p, 0, none⟩))).run Ybaf.prog w = .ok () w' ∧ PMap w' b (fun q => if q = s then some p else f q) (c + 1) ∧ w.grownBy w' (some b) ∧ w'.heap.size = w.heap.size := by
  obtain ⟨D, h1, h2, h3⟩ := h
  obtain ⟨w', hrun, ho, ht⟩ := h1.store K9 ht hc (WideMaps.keyOf_string_mk (by kernel_rfl) hs) (PR_pv (some p))
  refine ⟨w', hrun, ⟨_, ho, ?_, fun q hq => ?_⟩, ht.grown, ?_⟩
  · rw [Maps.size_put (h1.tidy K9), (h3 s hs).2, hf, h2]; rfl
  · by_cases e : q = s
    · subst e
      rw [Maps.atKey_put_same h1.isMap (show WideAt.IsKeyLit (.string _) from trivial), Maps.has_put_same h1.isMap (show WideAt.IsKeyLit (.string _) from trivial)]
      simp
    · have hne : Lit.string q.data.toList ≠ Lit.string s.data.toList := fun h => e (ByteArray.ext (Array.toList_inj.1 (by simpa using h)))
      rw [Maps.atKey_put_other hne, Maps.has_put_other hne]
      show _ = DataW.lit (.int .i64 (pd (if q = s then some p else f q))) ∧ _ = (if q = s then some p else f q).isSome
      rw [if_neg e]
      exact h3 q hq
  · obtain ⟨es, clock, es', clock', hb, rfl⟩ := ht
    simp [Go.ChangeMaps.setBlock]
end Go.Proofs.YbulkfnteFmt
