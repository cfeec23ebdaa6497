/- The arguments opened; the witness's world. No walk here. -/
import Derived.Test.YbulkfnteFmtCards
import Derived.Test.YbulkfnteFmtTie
import Derived.Test.YbulkfnteFmtEnd
import Derived.ProofKit
import Derived.OpenShut
import Derived.ShutString
import Derived.ChangeOld
import Derived.Below
import Derived.SliceStrings
import Derived.SizedLaws
import Derived.Stop.JoinedAt
import Derived.Stop.JoinedTold
import Derived.Stop.LaidErr
import Derived.Lib.LaidTab
import Derived.Lib.LaidIn
import Derived.SevenTiedAt
namespace Go.Proofs.YbulkfnteFmt
open Go.ChangeShapes Go.WideShapes Go.ChangeAt Go.RowKit
open Go.ChangeMaps (open_string shut_string)
open Go.Extern.Stop Go.Stop Go.Extern
set_option linter.unusedVariables false

theorem gP : Ybaf.prog.globalNamed "internal/strconv.uint64pow10" = some 1 := by kernel_rfl
theorem gPT : (Ybaf.prog.globals[1]?).map (·.type) = some 108 := by kernel_rfl
theorem pow_eq {H : Type} : (Rows.laid_internal_strconv_uint64pow10 : DataW H) = Lib.tabData .u64 Lib.pow10Tab := by kernel_rfl
theorem own : ownKnob Ybaf.prog.godebug = none := by kernel_rfl
theorem laidOut : laidOutB Ybaf.pinned.checked.prog = true := by kernel_rfl
theorem laidOut' : laidOutB Ybaf.prog = true := by kernel_rfl
theorem stops : Ybaf.pinned.checked.prog.stops = ["fmt.errorf", "fmt.Sprintf, its operands' methods called"] := by kernel_rfl
theorem stopKnobs : Ybaf.pinned.checked.prog.stopKnobs = [] := by kernel_rfl
theorem quiet (os : Os) : Stop.quiet Ybaf.pinned.checked.prog os := by
  intro x hx
  rw [stopKnobs] at hx
  cases hx

/-- THE WITNESS: the settled world, the three tables laid. -/
noncomputable def laidWorld (os : Os) : World :=
  let w0 := World.holding Ybaf.prog os ⟨#[], #[], []⟩
  { w0 with heap := ((w0.heap.modify 1 fun
      | .cells _ t frozen => .cells (Lib.pow10Tab.map fun z => Value.int .u64 z).toArray t frozen
      | o => o).modify 4 fun
      | .cells _ t frozen => .cells #[.int .u8 0, .int .u8 1, .int .u8 28, .int .u8 2, .int .u8 29, .int .u8 14, .int .u8 24, .int .u8 3, .int .u8 30, .int .u8 22, .int .u8 20, .int .u8 15, .int .u8 25, .int .u8 17, .int .u8 4, .int .u8 8, .int .u8 31, .int .u8 27, .int .u8 13, .int .u8 23, .int .u8 21, .int .u8 19, .int .u8 16, .int .u8 7, .int .u8 26, .int .u8 12, .int .u8 18, .int .u8 6, .int .u8 11, .int .u8 5, .int .u8 10, .int .u8 9] t frozen
      | o => o).modify 5 fun
      | .cells _ t frozen => .cells #[.int .u8 0, .int .u8 1, .int .u8 56, .int .u8 2, .int .u8 57, .int .u8 49, .int .u8 28, .int .u8 3, .int .u8 61, .int .u8 58, .int .u8 42, .int .u8 50, .int .u8 38, .int .u8 29, .int .u8 17, .int .u8 4, .int .u8 62, .int .u8 47, .int .u8 59, .int .u8 36, .int .u8 45, .int .u8 43, .int .u8 51, .int .u8 22, .int .u8 53, .int .u8 39, .int .u8 33, .int .u8 30, .int .u8 24, .int .u8 18, .int .u8 12, .int .u8 5, .int .u8 63, .int .u8 55, .int .u8 48, .int .u8 27, .int .u8 60, .int .u8 41, .int .u8 37, .int .u8 16, .int .u8 46, .int .u8 35, .int .u8 44, .int .u8 21, .int .u8 52, .int .u8 32, .int .u8 23, .int .u8 11, .int .u8 54, .int .u8 26, .int .u8 40, .int .u8 15, .int .u8 34, .int .u8 20, .int .u8 31, .int .u8 10, .int .u8 25, .int .u8 14, .int .u8 19, .int .u8 9, .int .u8 13, .int .u8 8, .int .u8 7, .int .u8 6] t frozen
      | o => o }
theorem laid_met (os : Os) (args : Array Value) : laidMet Ybaf.prog Rows.lawS8246AWholeRow.laid ((laidWorld os).forCall (fun _ _ => 0) ⟨#[], args, []⟩).memory :=
  (LaidIn.of_run [1, 4, 5] 8 (by kernel_rfl) (by kernel_rfl) (by kernel_rfl) (by kernel_rfl)).met

/-! ### the arguments, opened -/
def BAt0 (w : World) (a : Option Addr) (bs : List UInt8) : Prop :=
  bs = [] ∨ ∃ b off, a = some ⟨b, off, none⟩ ∧ b < w.heap.size ∧ ∀ j, j < bs.length → w.cell? ⟨b, off + j, none⟩ = some (.int .u8 ((bs.getD j 0).toNat : Int))
theorem cell_lt {w : World} {a : Addr} {v : Value} (h : w.cell? a = some v) : a.block < w.heap.size := by
  rcases Nat.lt_or_ge a.block w.heap.size with h' | h'
  · exact h'
  · simp [World.cell?, Array.getElem?_eq_none h'] at h
theorem mem_weightsAll {H : Type} {P : Program} {e : TypeId} : ∀ {ss : List ByteArray} {s : ByteArray}, s ∈ ss → s.size ∈ DataW.weightsAll (H := H) P e (strs ss)
  | [], s, h => by cases h
  | x :: ss, s, h => by
    simp only [strs, List.map_cons, DataW.weightsAll, DataW.weights, List.mem_append, List.mem_singleton]
    rcases List.mem_cons.1 h with rfl | h'
    · left; rw [← Lib.size_eq]
    · right; exact mem_weightsAll h'
theorem open_names {H : Type} {enc : TypeId × Value → H} {W : World} {a : Option Addr} {len cap : Nat} {d : DataW H} {p : List MemPlace} (h : DataW.Trod enc Ybaf.prog W 0 (fun _ => true) true 22 (.slice a len cap) d p)
    (hw : ∀ n ∈ d.weights Ybaf.prog 22, n ≤ reachBytes) : ∃ xs : List ByteArray, xs.length = len ∧ SAt W a xs ∧ SzOK xs ∧ len ≤ 140737488351232 := by
  obtain ⟨fuel, hf⟩ := h
  rcases open_strings Ybaf.underlying22 Ybaf.underlying9 (by kernel_rfl) hf with ⟨hcs, _⟩ | ⟨x, l, c, ss, hcs, _, hl, hm, hz, hx, hcell, hwz⟩
  · simp [Value.cells] at hcs
    obtain ⟨rfl, rfl, rfl⟩ := hcs
    exact ⟨[], rfl, .inl rfl, fun j => by simp [List.getD], by omega⟩
  · simp [Value.cells] at hcs
    obtain ⟨rfl, rfl, rfl⟩ := hcs
    have hd : d = .slice (strs (ss.take len)) (strs (ss.drop len)) := (Prod.mk.inj hx).1
    have hz' : ss.length = cap := by simpa using hz
    have hlen : (ss.take len).length = len := by rw [List.length_take]; omega
    have hb16 : Ybaf.prog.bytesOf 9 = 16 := by kernel_rfl
    have hwt : d.weights Ybaf.prog 22 = ((strs (H := H) (ss.take len)).length + (strs (H := H) (ss.drop len)).length) * 16 :: (DataW.weightsAll (H := H) Ybaf.prog 9 (strs (ss.take len)) ++ DataW.weightsAll (H := H) Ybaf.prog 9 (strs (ss.drop len))) := by
      rw [hd]; simp only [DataW.weights, Ybaf.underlying22, hb16]
    rw [hwt] at hw
    have hmem : ∀ s ∈ ss.take len, s.size ≤ 140737488351232 := fun s hs => hw _ (List.mem_cons_of_mem _ (List.mem_append_left _ (mem_weightsAll hs)))
    have hll : len ≤ 140737488351232 := by
      have h1 := hw _ (List.mem_cons_self ..)
      have e1 : (strs (H := H) (ss.take len)).length = len := by rw [strs, List.length_map]; exact hlen
      rw [e1] at h1
      have h2 : reachBytes = 140737488351232 := rfl
      omega
    refine ⟨ss.take len, hlen, ?_, fun j => ?_, hll⟩
    · by_cases h0 : len = 0
      · left; apply List.length_eq_zero_iff.1; omega
      · right
        obtain ⟨b, off, spot⟩ := x
        have c0 := hcell 0 (by omega)
        have hspot : spot = none := by simpa [Addr.add] using World.cell?_spot c0
        subst hspot
        refine ⟨b, off, rfl, cell_lt c0, fun j hj => ?_⟩
        rw [← Go.WideShapes.add_plain, hcell j (by omega)]
        simp [List.getD, List.getElem?_take_of_lt (show j < len by omega)]
    · rcases Nat.lt_or_ge j (ss.take len).length with h | h
      · have e : (ss.take len).getD j ByteArray.empty = (ss.take len)[j] := by rw [List.getD, List.getElem?_eq_getElem h]; rfl
        rw [e]; exact hmem _ (List.getElem_mem h)
      · have e : (ss.take len).getD j ByteArray.empty = ByteArray.empty := by simp [List.getD, List.getElem?_eq_none h]
        rw [e]; show 0 ≤ _; omega
theorem open_bytes {H : Type} {enc : TypeId × Value → H} {W : World} {a : Option Addr} {len cap : Nat} {d : DataW H} {p : List MemPlace} (h : DataW.Trod enc Ybaf.prog W 0 (fun _ => true) true 23 (.slice a len cap) d p)
    (hw : ∀ n ∈ d.weights Ybaf.prog 23, n ≤ reachBytes) : ∃ bs : List UInt8, bs.length = len ∧ BAt0 W a bs ∧ len ≤ 140737488351232 := by
  obtain ⟨fuel, hf⟩ := h
  rcases open_ints Ybaf.underlying23 Ybaf.underlying5 (by kernel_rfl) hf with ⟨hcs, _⟩ | ⟨x, l, c, zs, hcs, _, hl, hm, hz, hx, hcell, hwz⟩
  · simp [Value.cells] at hcs
    obtain ⟨rfl, rfl, rfl⟩ := hcs
    exact ⟨[], rfl, .inl rfl, by omega⟩
  · simp [Value.cells] at hcs
    obtain ⟨rfl, rfl, rfl⟩ := hcs
    have hd : d = .slice (lits .u8 (zs.take len)) (lits .u8 (zs.drop len)) := (Prod.mk.inj hx).1
    have hz' : zs.length = cap := by simpa using hz
    have hlen : (zs.take len).length = len := by rw [List.length_take]; omega
    have hb1 : Ybaf.prog.bytesOf 5 = 1 := by kernel_rfl
    have hwt : ((lits (H := H) .u8 (zs.take len)).length + (lits (H := H) .u8 (zs.drop len)).length) * 1 ∈ d.weights Ybaf.prog 23 := by
      rw [hd]; simp only [DataW.weights, Ybaf.underlying23, hb1]; exact List.mem_cons_self ..
    have hll : len ≤ 140737488351232 := by
      have h1 := hw _ hwt
      have e1 : (lits (H := H) .u8 (zs.take len)).length = len := by rw [lits, List.length_map]; exact hlen
      rw [e1] at h1
      have h2 : reachBytes = 140737488351232 := rfl
      omega
    refine ⟨(zs.take len).map (fun z => UInt8.ofNat z.toNat), by rw [List.length_map]; exact hlen, ?_, hll⟩
    by_cases h0 : len = 0
    · left
      have : zs.take len = [] := List.length_eq_zero_iff.1 (by omega)
      rw [this]; rfl
    · right
      obtain ⟨b, off, spot⟩ := x
      have c0 := hcell 0 (by omega)
      have hspot : spot = none := by simpa [Addr.add] using World.cell?_spot c0
      subst hspot
      refine ⟨b, off, rfl, cell_lt c0, fun j hj => ?_⟩
      rw [List.length_map, hlen] at hj
      rw [← Go.WideShapes.add_plain, hcell j (by omega)]
      have hj2 : j < (zs.take len).length := by omega
      have e1 : ((zs.take len).map (fun z => UInt8.ofNat z.toNat)).getD j 0 = UInt8.ofNat (zs.getD j 0).toNat := by
        rw [List.getD, List.getElem?_map, List.getElem?_take_of_lt (by omega), List.getElem?_eq_getElem (show j < zs.length by omega)]
        simp [List.getD, List.getElem?_eq_getElem (show j < zs.length by omega)]
      rw [e1]
      have hwf := hwz (zs.getD j 0) (by simp [List.getD, List.getElem?_eq_getElem (show j < zs.length by omega)])
      generalize zs.getD j 0 = z at *
      have hbd : 0 ≤ z ∧ z ≤ 255 := by simp [Lit.wf, IntKind.min, IntKind.max, IntKind.signed, IntKind.bits] at hwf; omega
      have e2 : ((UInt8.ofNat z.toNat).toNat : Int) = z := by
        rw [UInt8.toNat_ofNat']
        omega
      rw [e2]
end Go.Proofs.YbulkfnteFmt
