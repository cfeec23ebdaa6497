/-
  The proof of 'Rows.LawS8073BWholeSaid': every slice of entries, every slice of slots; the frame after the kit's template.
-/
import Derived.Test.YbulkfkeaWalkB
import Derived.Test.YbulkfkeaOpenB
import Derived.ProofKit
import Derived.OpenShut
import Derived.ShutString
import Derived.ChangeOld
namespace Go.Proofs.Ybulkfkea.lawS8073BWhole
open Go.ChangeShapes Go.WideShapes Go.ChangeAt Go.RowKit
set_option linter.unusedVariables false

theorem own : ownKnob Yba.prog.godebug = none := by kernel_rfl
theorem laidOut : laidOutB Yba.prog = true := by kernel_rfl

/-- what the walk is told of the slots. -/
def IsRow (w : World) (a : Option Addr) (len cap : Nat) (zs : List Int) : Prop :=
  (a = none ∧ len = 0 ∧ cap = 0 ∧ zs = []) ∨
  ∃ x, a = some x ∧ len ≤ cap ∧ cap ≤ maxLen ∧ zs.length = cap ∧ (∀ i, i < zs.length → w.cell? (x.add i) = some (.int .i64 (zs.getD i 0)))
def IsEnts (w : World) (a : Option Addr) (len cap : Nat) (q : Nat → Int × Int × Int × Int × Bool) : Prop :=
  (a = none ∧ len = 0 ∧ cap = 0) ∨
  ∃ x, a = some x ∧ len ≤ cap ∧ cap ≤ maxLen ∧ ∀ i, i < len → EntAt w x i (q i).1 (q i).2.1 (q i).2.2.1 (q i).2.2.2.1 (q i).2.2.2.2

theorem index23 (bs offs n caps k : Nat) (hk : k < n) (w : World) : (Instr.indexAt 23 (.slice (some ⟨bs, offs, none⟩) n caps) (.int .i64 (k : Int))).run Yba.prog w = .ok (.pointer (some ⟨bs, offs + k, none⟩)) w := by
  go_simp
theorem block_lt {w : World} {a : Addr} {v : Value} (h : w.cell? a = some v) : a.block < w.heap.size := by
  rcases Nat.lt_or_ge a.block w.heap.size with h' | h'
  · exact h'
  · simp [World.cell?, Array.getElem?_eq_none h'] at h

theorem walk (ea : Option Addr) (m cape : Nat) (q : Nat → Int × Int × Int × Int × Bool) (sa : Option Addr) (n caps : Nat) (zs : List Int) (seq i : Int) (w : World)
    (he : IsEnts w ea m cape q) (hs : IsRow w sa n caps zs) (wi : (Lit.int .u64 i).wf = true) :
    Calls Yba.prog 3 #[.slice ea m cape, .slice sa n caps, .int .u64 seq, .int .u64 i] w fun e w' => e = .returned (.bool true) ∧ Below w.heap.size w w' := by
  have hnm : n ≤ maxLen := by rcases hs with ⟨_, rfl, _⟩ | ⟨_, _, h1, h2, _⟩ <;> omega
  have hi0 : 0 ≤ i := by simp [Lit.wf, IntKind.min, IntKind.max, IntKind.signed, IntKind.bits] at wi; omega
  by_cases hm0 : m = 0
  · subst hm0; exact lawB_none ea sa cape n caps seq i w hnm
  rcases he with ⟨_, h0, _⟩ | ⟨x, rfl, hl, hm, hx⟩
  · exact absurd h0 hm0
  by_cases hbig : 1048576 < m ∨ 1048576 < n
  · exact lawB_many _ sa m cape n caps seq i w (by omega) hnm hbig
  obtain ⟨be, offe, spot⟩ := x
  have c0 := (hx 0 (by omega)).1
  have hspot : spot = none := by simpa [Addr.add] using World.cell?_spot c0
  subst hspot
  have hbe : be < w.heap.size := by simpa [Addr.add] using block_lt c0
  have key : ∀ (bs offs : Nat), (∀ (k : Nat) (w : World), k < n → (Instr.indexAt 23 (.slice sa n caps) (.int .i64 (k : Int))).run Yba.prog w = .ok (.pointer (some ⟨bs, offs + k, none⟩)) w) → (0 < n → bs < w.heap.size) → (∀ k, k < n → w.cell? ⟨bs, offs + k, none⟩ = some (.int .i64 (zs.getD k 0))) →
      Calls Yba.prog 3 #[.slice (some ⟨be, offe, none⟩) m cape, .slice sa n caps, .int .u64 seq, .int .u64 i] w fun e w' => e = .returned (.bool true) ∧ Below w.heap.size w w' := by
    intro bs offs h1 h2 h3
    refine lawB sa n caps bs offs be offe m cape seq i w (fun k => zs.getD k 0) (fun k => (q k).1) (fun k => (q k).2.1) (fun k => (q k).2.2.1) (fun k => if (q k).2.2.2.2 = true ∧ 0 < n then (q k).2.2.2.1 % n else -1) (fun k => (q k).2.2.2.1) (fun k => (q k).2.2.2.2)
      (by omega) (by omega) (by omega) hi0 h1 hbe ?_ ?_ ?_ ?_ ?_ (fun k hk => (hx k hk).2.2.2.2.2) (fun k => rfl) h2 h3
    · intro k hk; have h := (hx k hk).1; rwa [Go.WideShapes.add_plain] at h
    · intro k hk; have h := (hx k hk).2.1; rwa [Go.WideShapes.add_plain] at h
    · intro k hk; have h := (hx k hk).2.2.1; rwa [Go.WideShapes.add_plain] at h
    · intro k hk; have h := (hx k hk).2.2.2.1; rwa [Go.WideShapes.add_plain] at h
    · intro k hk; have h := (hx k hk).2.2.2.2.1; rwa [Go.WideShapes.add_plain] at h
  by_cases hn0 : n = 0
  · subst hn0
    exact key 0 0 (fun k _ hk => by omega) (fun h => by omega) (fun k hk => by omega)
  rcases hs with ⟨_, h0, _⟩ | ⟨y, rfl, hl', hm', hz, hc⟩
  · exact absurd h0 hn0
  obtain ⟨bs, offs, spot⟩ := y
  have d0 := hc 0 (by omega)
  have hspot : spot = none := by simpa [Addr.add] using World.cell?_spot d0
  subst hspot
  refine key bs offs ?_ (fun _ => by simpa [Addr.add] using block_lt d0) (fun k hk => by rw [← Go.WideShapes.add_plain]; exact hc k (by omega))
  intro k w' hk
  exact index23 bs offs n caps k hk w'

set_option maxRecDepth 100000 in
theorem lifted (os : Os) (started : os.Started) (H : Type) (enc : TypeId × Value → H) :
    ReturnsInHanded {} Yba.checked os 3 .any (Rows.lawS8073BWholeSpec.pre6 enc Yba.prog Yba.f3 Rows.lawS8073BWholeRow.domain false) (Rows.lawS8073BWholeSpec.post enc Yba.prog Yba.f3 false true false false) := by
  refine returnsInHanded_of_change (C := Yba.checked) own started (by kernel_rfl) Yba.func3
    (ChangeSpec.witness6 (enc := enc) (C := Yba.checked) false ⟨#[], #[.slice none 0 0, .slice none 0 0, .int .u64 0, .int .u64 0], []⟩ 8 (by kernel_rfl) (by kernel_rfl) (by kernel_rfl) (by kernel_rfl)) ?_
  intro W base args ds gs before hval0 hW hcnd _
  have hval : ∀ (j : Nat) t v, Yba.f3.params[j]? = some t → args[j]? = some v → Value.okWide Yba.prog W .any base t v := hval0
  have hW' := hW
  obtain ⟨p, q, hA0, hV, rfl, hfz, hnd⟩ := hW
  have hA : DataW.TrodAll enc Yba.prog W 0 (fun _ => true) true Yba.f3.params.toList args.toList ds p := hA0
  rw [Yba.params3] at hA hval
  obtain ⟨v0, vs0, d0, ds0, p0, q0, hargs, rfl, rfl, h0, r0⟩ := trodAll_cons hA
  obtain ⟨v1, vs1, d1, ds1, p1, q1, rfl, rfl, rfl, h1, r1⟩ := trodAll_cons r0
  obtain ⟨v2, vs2, d2, ds2, p2, q2, rfl, rfl, rfl, h2, r2⟩ := trodAll_cons r1
  obtain ⟨v3, vs3, d3, ds3, p3, q3, rfl, rfl, rfl, h3, r3⟩ := trodAll_cons r2
  obtain ⟨rfl, rfl, rfl⟩ := trodAll_nil r3
  obtain rfl : args = #[v0, v1, v2, v3] := by cases args; simp_all
  obtain ⟨rfl, rfl⟩ := trodVars_none hV
  obtain ⟨a0, len0, cap0, rfl⟩ := okWide_slice Yba.underlying22 (hval 0 22 v0 rfl rfl)
  obtain ⟨a1, len1, cap1, rfl⟩ := okWide_slice Yba.underlying23 (hval 1 23 v1 rfl rfl)
  have k0 := h0
  have k1 := h1
  have lt0 : ∀ x ∈ p0, x.block < W.heap.size := by obtain ⟨m, hm⟩ := k0; exact DataW.trod_lt m _ _ _ hm
  have lt1 : ∀ x ∈ p1, x.block < W.heap.size := by obtain ⟨m, hm⟩ := k1; exact DataW.trod_lt m _ _ _ hm
  obtain ⟨e0, w0⟩ : ∃ q, IsEnts W a0 len0 cap0 q := by
    obtain ⟨fuel, hf⟩ := h0
    rcases open_entries hf with hcs | ⟨x, l, c, q, hcs, hl, hm, hq⟩
    · simp [Value.cells] at hcs
      obtain ⟨rfl, rfl, rfl⟩ := hcs
      exact ⟨fun _ => (0, 0, 0, 0, false), .inl ⟨rfl, rfl, rfl⟩⟩
    · simp [Value.cells] at hcs
      obtain ⟨rfl, rfl, rfl⟩ := hcs
      exact ⟨q, .inr ⟨_, rfl, hl, hm, hq⟩⟩
  obtain ⟨z1, w1⟩ : ∃ zs, IsRow W a1 len1 cap1 zs := by
    obtain ⟨fuel, hf⟩ := h1
    rcases open_ints Yba.underlying23 Yba.underlying3 (by kernel_rfl) hf with ⟨hcs, _⟩ | ⟨x, l, c, zs, hcs, _, hl, hm, hz, _, hcell, hwz⟩
    · simp [Value.cells] at hcs
      obtain ⟨rfl, rfl, rfl⟩ := hcs
      exact ⟨[], .inl ⟨rfl, rfl, rfl, rfl⟩⟩
    · simp [Value.cells] at hcs
      obtain ⟨rfl, rfl, rfl⟩ := hcs
      exact ⟨zs, .inr ⟨_, rfl, hl, hm, by simpa using hz, hcell⟩⟩
  obtain ⟨a2, rfl, rfl, rfl, w2⟩ := open_int Yba.underlying24 (hval 2 24 v2 rfl rfl) h2
  obtain ⟨a3, rfl, rfl, rfl, w3⟩ := open_int Yba.underlying24 (hval 3 24 v3 rfl rfl) h3
  clear hA0 hval0
  refine (walk a0 len0 cap0 e0 a1 len1 cap1 z1 a2 a3 W w0 w1 w3).mono fun e W' ⟨he, bel⟩ => ?_
  subst he
  exact ⟨_, rfl, _, _, _, [], _, [], hW', trodAll_mk1 (shut_bool Yba.underlying4 _), (trodAll_cons_mk (Below.trod laidOut (by kernel_rfl) (of_decide_eq_true (by kernel_rfl)) k0 bel lt0) (trodAll_cons_mk (Below.trod laidOut (by kernel_rfl) (of_decide_eq_true (by kernel_rfl)) k1 bel lt1) (trodAll_cons_mk (shut_int Yba.underlying24 w2) (trodAll_cons_mk (shut_int Yba.underlying24 w3) trodAll_mk0)))), rfl, bel.frame _, fun h => by cases h⟩

theorem over : Rows.lawS8073BWholeRow.holds Yba.pinned (OpenSpec.ofChange Rows.lawS8073BWholeSpec) :=
  OpenClaim.holds_of_wide 3 Yba.f3 rfl rfl rfl rfl rfl rfl rfl ⟨rfl, rfl, rfl, rfl, rfl⟩ rfl rfl rfl rfl rfl (by kernel_rfl) Yba.func3 (by kernel_rfl)
    (of_decide_eq_true (by kernel_rfl)) (by unfold Func.isWrapper; first | (rw [if_pos (by decide +kernel)]; kernel_rfl) | (rw [if_neg (by decide +kernel)]; exact ⟨rfl, rfl⟩))
    (fun os started H enc _ => lifted os started H enc)

/-- THE STATEMENT. -/
theorem proved : Rows.LawS8073BWholeSaid := over
end Go.Proofs.Ybulkfkea.lawS8073BWhole
