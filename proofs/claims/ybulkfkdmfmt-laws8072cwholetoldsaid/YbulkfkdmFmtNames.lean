/- fmt.Errorf at the one format; (*parser).declaredName: a name that the map holds, one that it does not, a nil map. -/
import Derived.Test.YbulkfkdmFmtFacts
import Derived.WalkKit
import Derived.WalkSpells
import Derived.WalkLawsBesides
import Derived.Maps.OwnSet
import Derived.Maps.OwnOps
namespace Go.Proofs.YbulkfkdmFmt
open Go.RowKit Go.Extern.Stop Go.Stop Go.Extern
open Go.WideMaps Go.Maps
attribute [local go_sem] call6 guard6 fmt0 fmt0r op9_113 op9_113w ptr41 elem41 isError41

theorem law : Keyed Ybaf.prog 9 := string_keyed Ybaf.underlying9
theorem zero3 (w : World) : (zeroValue 3).run Ybaf.prog w = .ok (.int .i64 0) w := by kernel_rfl

set_option maxHeartbeats 400000 in
theorem errorf_q (F : Interp) (q : ByteArray) (b : Nat) (w : World) (hF : F.answers w.tape) (hc : w.cell? ⟨b, 0, none⟩ = some (.iface 9 (.string q))) :
    Calls Ybaf.prog 5 #[.string fmtQ, .slice (some ⟨b, 0, none⟩) 1 1] w fun e w' => ∃ a, e = .returned (.iface 41 (.pointer (some a))) ∧ Below w.heap.size w w' := by
  have hF' := answers_open hF
  unfold fmtQ
  go_enter Ybaf.func5, Ybaf.ntmps5
  go_wp2
  go_ret
  exact ⟨_, rfl, ((Below.refl _ _).alloc (Nat.le_refl _) _).drew⟩

theorem key_str (q : ByteArray) (hq : q.size ≤ maxLen) : keyOf Ybaf.prog 9 (.string q) = some (.string q.data.toList) := keyOf_string_mk Ybaf.underlying9 hq

set_option maxHeartbeats 400000 in
/-- declaredName at a name that the map holds. -/
theorem name_in (q : ByteArray) (bp B n : Nat) (D : DataW Unit) (w : World) (hq : q.size ≤ maxLen) (hc : w.cell? ⟨bp, 3, none⟩ = some (.map (some B)))
    (hown : w.ownsMap Ybaf.prog 9 (plainElem Ybaf.prog 3) B n D) (hh : Maps.has D (.string q.data.toList) = true) :
    Calls Ybaf.prog 4 #[.pointer (some ⟨bp, 0, none⟩), .string q] w fun e w' => e = .returned (.tuple #[.string q, .nilIface]) ∧ w' = w := by
  go_enter Ybaf.func4, Ybaf.ntmps4
  go_wp2_with (first
    | (at_lookup; refine wpList_lookup_own_ok_int _ rfl _ _ 23 rfl 9 3 .i64 law Ybaf.underlying23 Ybaf.underlying3 (zero3 _) B n D rfl hown _ _ rfl (key_str q hq) ?_; intro c hat hwc; clear hat))
  go_ret2
  exact ⟨rfl, rfl⟩
set_option maxHeartbeats 400000 in
/-- .. at a name that it does not hold. -/
theorem name_out (F : Interp) (q : ByteArray) (bp B n : Nat) (D : DataW Unit) (w : World) (hF : F.answers w.tape) (hq : q.size ≤ maxLen) (hc : w.cell? ⟨bp, 3, none⟩ = some (.map (some B)))
    (hown : w.ownsMap Ybaf.prog 9 (plainElem Ybaf.prog 3) B n D) (hh : Maps.has D (.string q.data.toList) = false) :
    Calls Ybaf.prog 4 #[.pointer (some ⟨bp, 0, none⟩), .string q] w fun e w' => ∃ a, e = .returned (.tuple #[.string ⟨#[]⟩, .iface 41 (.pointer (some a))]) ∧ Below w.heap.size w w' := by
  go_enter Ybaf.func4, Ybaf.ntmps4
  go_wp2_with (first
    | (at_lookup; refine wpList_lookup_own_ok_int _ rfl _ _ 23 rfl 9 3 .i64 law Ybaf.underlying23 Ybaf.underlying3 (zero3 _) B n D rfl hown _ _ rfl (key_str q hq) ?_; intro c hat hwc; clear hat))
  refine (errorf_q F q _ _ (by exact hF) (by go_simp)).mono ?_
  rintro e w' ⟨a, rfl, hb⟩
  go_wp2_with fail
  go_ret2
  exact ⟨a, rfl, ((Below.refl _ _).alloc (Nat.le_refl _) _).trans (hb.mono (by simp))⟩
set_option maxHeartbeats 400000 in
/-- .. at a nil map. -/
theorem name_nil (F : Interp) (q : ByteArray) (bp : Nat) (w : World) (hF : F.answers w.tape) (hq : q.size ≤ maxLen) (hc : w.cell? ⟨bp, 3, none⟩ = some (.map none)) :
    Calls Ybaf.prog 4 #[.pointer (some ⟨bp, 0, none⟩), .string q] w fun e w' => ∃ a, e = .returned (.tuple #[.string ⟨#[]⟩, .iface 41 (.pointer (some a))]) ∧ Below w.heap.size w w' := by
  have hlk : (Instr.lookup 23 (.map none) (.string q) true).run Ybaf.prog w = .ok (.tuple #[.int .i64 0, .bool false]) w := Maps.look_nil (w := w) true law Ybaf.underlying23 (zero3 w) (key_str q hq)
  go_enter Ybaf.func4, Ybaf.ntmps4
  go_wp2_with fail
  refine (errorf_q F q _ _ (by exact hF) (by go_simp)).mono ?_
  rintro e w' ⟨a, rfl, hb⟩
  go_wp2_with fail
  go_ret2
  exact ⟨a, rfl, ((Below.refl _ _).alloc (Nat.le_refl _) _).trans (hb.mono (by simp))⟩
end Go.Proofs.YbulkfkdmFmt
