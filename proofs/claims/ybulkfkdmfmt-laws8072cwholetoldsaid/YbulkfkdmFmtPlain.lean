/- The plain law: what the two maps hold behind k rounds; which names they hold. -/
import Derived.Maps.OwnSet
import Derived.Maps.Views
namespace Go.Proofs.YbulkfkdmFmt
open Go.Maps

def keyAt (ss : List ByteArray) (k : Nat) : Lit := .string (ss.getD k ByteArray.empty).data.toList
/-- The map behind k rounds: each key at its last place. -/
def L (ss : List ByteArray) : Nat → DataW Unit
  | 0 => .map []
  | k + 1 => (L ss k).put (keyAt ss k) (.lit (.int .i64 (k : Int)))

theorem L_isMap (ss : List ByteArray) : ∀ k, IsMap (L ss k)
  | 0 => isMap_empty
  | k + 1 => (L_isMap ss k).put _ _

theorem has_L_in (ss : List ByteArray) (kl : Lit) : ∀ n j, j < n → keyAt ss j = kl → Maps.has (L ss n) kl = true
  | 0, _, h, _ => by omega
  | n + 1, j, h, e => by
    show Maps.has ((L ss n).put (keyAt ss n) _) kl = true
    by_cases hk : kl = keyAt ss n
    · rw [hk]; exact has_put_same (L_isMap ss n) (by unfold keyAt; exact trivial) _
    · rw [has_put_other hk]
      refine has_L_in ss kl n j ?_ e
      rcases Nat.lt_or_ge j n with h' | h'
      · exact h'
      · obtain rfl : j = n := by omega
        exact absurd e.symm hk
theorem has_L_out (ss : List ByteArray) (kl : Lit) : ∀ n, (∀ j, j < n → keyAt ss j ≠ kl) → Maps.has (L ss n) kl = false
  | 0, _ => rfl
  | n + 1, h => by
    show Maps.has ((L ss n).put (keyAt ss n) _) kl = false
    rw [has_put_other (fun e => h n (by omega) e.symm)]
    exact has_L_out ss kl n (fun j hj => h j (by omega))
theorem keyAt_eq {ss : List ByteArray} {j : Nat} {q : ByteArray} : keyAt ss j = .string q.data.toList ↔ ss.getD j ByteArray.empty = q := by
  unfold keyAt
  constructor
  · intro h
    have h' : (ss.getD j ByteArray.empty).data.toList = q.data.toList := by injection h
    exact ByteArray.ext (Array.toList_inj.1 h')
  · intro h; rw [h]
end Go.Proofs.YbulkfkdmFmt
