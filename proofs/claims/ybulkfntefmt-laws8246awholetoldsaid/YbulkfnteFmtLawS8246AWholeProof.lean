/-
  The proof of 'Rows.LawS8246AWholeToldSaid': the row's frame, lifted, and the told and tied card.
-/
import Derived.Test.YbulkfnteFmtLaw
import Derived.Test.YbulkfnteFmtOpen
namespace Go.Proofs.YbulkfnteFmt.lawS8246AWhole
open Go.ChangeShapes Go.WideShapes Go.ChangeAt Go.RowKit
open Go.ChangeMaps (open_string shut_string)
open Go.Extern.Stop Go.Stop Go.Extern
set_option linter.unusedVariables false

theorem tab_of_laid {W : World} (hL : laidMetH Ybaf.prog Rows.lawS8246AWholeRow.laid W) : Lib.TabIs Ybaf.prog W "internal/strconv.uint64pow10" .u64 Lib.pow10Tab := by
  have hL' : laidMet Ybaf.prog Rows.lawS8246AWholeRow.laid W := hL
  have h := hL'.tail.tail
  rw [pow_eq] at h
  exact Lib.tabIs_of_head gP gPT Ybaf.underlying108 Ybaf.underlying65 (by kernel_rfl) (by kernel_rfl) h

set_option maxRecDepth 100000 in
set_option maxHeartbeats 4000000 in
theorem lifted (os : Os) (started : os.Started) (H : Type) (enc : TypeId × Value → H) :
    ReturnsInTold none {} Ybaf.checked os 3 .any Input.okWide ((OpenSpec.ofChange Rows.lawS8246AWholeSpec).preRow enc Ybaf.prog Ybaf.f3 [] false Rows.lawS8246AWholeRow.laid) (fun F => ((OpenSpec.ofChange Rows.lawS8246AWholeSpec).at F).post enc Ybaf.prog Ybaf.f3 false true false false) (aloneAtReturn Ybaf.prog) nothingAlways := by
  refine returnsInTold_of_row (C := Ybaf.checked) (s := OpenSpec.ofChange Rows.lawS8246AWholeSpec) (by kernel_rfl) own started (by kernel_rfl) Ybaf.func3
    (OpenSpec.witness_stopped_at (enc := enc) (C := Ybaf.checked) false (laidWorld os) #[.slice none 0 0, .slice none 0 0, .slice none 0 0, .int .u8 0, .string ⟨#[]⟩, .int .i64 0, .bool false, .int .u8 0, .string ⟨#[]⟩, .slice none 0 0, .string ⟨#[]⟩, .bool false] rfl (by kernel_rfl) (by kernel_rfl) (by kernel_rfl)
      (OpenSpec.preRow_of_B rfl 8 (by kernel_rfl) (by kernel_rfl) (laid_met os _))) ?_
  intro F W base args ds gs before _ hF hval0 hW _ _ hsz0 hL _
  have hval : ∀ (j : Nat) t v, Ybaf.f3.params[j]? = some t → args[j]? = some v → Value.okWide Ybaf.prog W .any base t v := hval0
  have hsz : (DataW.weightsEach Ybaf.prog (Ybaf.f3.params.toList ++ (OpenSpec.ofChange Rows.lawS8246AWholeSpec).bare.plain.varTypes Ybaf.prog) (ds ++ gs)).all (· ≤ reachBytes) = true := hsz0
  have hW' := hW
  obtain ⟨p, q, hA0, hV, rfl, hfz, hnd⟩ := hW
  have hA : DataW.TrodAll enc Ybaf.prog W 0 (fun _ => true) true Ybaf.f3.params.toList args.toList ds p := hA0
  rw [Ybaf.params3] at hA hval hsz
  obtain ⟨v0, vs0, d0, ds0, p0, q0, hargs, rfl, rfl, h0, r0⟩ := trodAll_cons hA
  obtain ⟨v1, vs1, d1, ds1, p1, q1, rfl, rfl, rfl, h1, r1⟩ := trodAll_cons r0
  obtain ⟨v2, vs2, d2, ds2, p2, q2, rfl, rfl, rfl, h2, r2⟩ := trodAll_cons r1
  obtain ⟨v3, vs3, d3, ds3, p3, q3, rfl, rfl, rfl, h3, r3⟩ := trodAll_cons r2
  obtain ⟨v4, vs4, d4, ds4, p4, q4, rfl, rfl, rfl, h4, r4⟩ := trodAll_cons r3
  obtain ⟨v5, vs5, d5, ds5, p5, q5, rfl, rfl, rfl, h5, r5⟩ := trodAll_cons r4
  obtain ⟨v6, vs6, d6, ds6, p6, q6, rfl, rfl, rfl, h6, r6⟩ := trodAll_cons r5
  obtain ⟨v7, vs7, d7, ds7, p7, q7, rfl, rfl, rfl, h7, r7⟩ := trodAll_cons r6
  obtain ⟨v8, vs8, d8, ds8, p8, q8, rfl, rfl, rfl, h8, r8⟩ := trodAll_cons r7
  obtain ⟨v9, vs9, d9, ds9, p9, q9, rfl, rfl, rfl, h9, r9⟩ := trodAll_cons r8
  obtain ⟨v10, vs10, d10, ds10, p10, q10, rfl, rfl, rfl, h10, r10⟩ := trodAll_cons r9
  obtain ⟨v11, vs11, d11, ds11, p11, q11, rfl, rfl, rfl, h11, r11⟩ := trodAll_cons r10
  obtain ⟨rfl, rfl, rfl⟩ := trodAll_nil r11
  obtain rfl : args = #[v0, v1, v2, v3, v4, v5, v6, v7, v8, v9, v10, v11] := by cases args; simp_all
  obtain ⟨rfl, rfl⟩ := trodVars_none hV
  obtain ⟨a0, len0, cap0, rfl⟩ := okWide_slice Ybaf.underlying22 (hval 0 22 v0 rfl rfl)
  have k0 := h0
  have lt0 : ∀ x ∈ p0, x.block < W.heap.size := by obtain ⟨m, hm⟩ := k0; exact DataW.trod_lt m _ _ _ hm
  have wt0 : ∀ n ∈ d0.weights Ybaf.prog 22, n ≤ reachBytes := fun n hn => by simpa using List.all_eq_true.1 hsz _ (DataW.weights_mem_each (j := 0) (t := 22) (d := d0) rfl rfl n hn)
  obtain ⟨x0, hl0, hx0, hz0, hb0⟩ := open_names h0 wt0
  obtain ⟨a1, len1, cap1, rfl⟩ := okWide_slice Ybaf.underlying22 (hval 1 22 v1 rfl rfl)
  have k1 := h1
  have lt1 : ∀ x ∈ p1, x.block < W.heap.size := by obtain ⟨m, hm⟩ := k1; exact DataW.trod_lt m _ _ _ hm
  have wt1 : ∀ n ∈ d1.weights Ybaf.prog 22, n ≤ reachBytes := fun n hn => by simpa using List.all_eq_true.1 hsz _ (DataW.weights_mem_each (j := 1) (t := 22) (d := d1) rfl rfl n hn)
  obtain ⟨x1, hl1, hx1, hz1, hb1⟩ := open_names h1 wt1
  obtain ⟨a2, len2, cap2, rfl⟩ := okWide_slice Ybaf.underlying22 (hval 2 22 v2 rfl rfl)
  have k2 := h2
  have lt2 : ∀ x ∈ p2, x.block < W.heap.size := by obtain ⟨m, hm⟩ := k2; exact DataW.trod_lt m _ _ _ hm
  have wt2 : ∀ n ∈ d2.weights Ybaf.prog 22, n ≤ reachBytes := fun n hn => by simpa using List.all_eq_true.1 hsz _ (DataW.weights_mem_each (j := 2) (t := 22) (d := d2) rfl rfl n hn)
  obtain ⟨x2, hl2, hx2, hz2, hb2⟩ := open_names h2 wt2
  have wt4 : ∀ n ∈ d4.weights Ybaf.prog 9, n ≤ reachBytes := fun n hn => by simpa using List.all_eq_true.1 hsz _ (DataW.weights_mem_each (j := 4) (t := 9) (d := d4) rfl rfl n hn)
  have wt8 : ∀ n ∈ d8.weights Ybaf.prog 9, n ≤ reachBytes := fun n hn => by simpa using List.all_eq_true.1 hsz _ (DataW.weights_mem_each (j := 8) (t := 9) (d := d8) rfl rfl n hn)
  obtain ⟨a9, len9, cap9, rfl⟩ := okWide_slice Ybaf.underlying23 (hval 9 23 v9 rfl rfl)
  have k9 := h9
  have lt9 : ∀ x ∈ p9, x.block < W.heap.size := by obtain ⟨m, hm⟩ := k9; exact DataW.trod_lt m _ _ _ hm
  have wt9 : ∀ n ∈ d9.weights Ybaf.prog 23, n ≤ reachBytes := fun n hn => by simpa using List.all_eq_true.1 hsz _ (DataW.weights_mem_each (j := 9) (t := 23) (d := d9) rfl rfl n hn)
  obtain ⟨x9, hl9, hx9, hb9⟩ := open_bytes h9 wt9
  have wt10 : ∀ n ∈ d10.weights Ybaf.prog 9, n ≤ reachBytes := fun n hn => by simpa using List.all_eq_true.1 hsz _ (DataW.weights_mem_each (j := 10) (t := 9) (d := d10) rfl rfl n hn)
  obtain ⟨n3, rfl, rfl, rfl, w3⟩ := open_int Ybaf.underlying5 (hval 3 5 v3 rfl rfl) h3
  have hn3 : 0 ≤ n3 ∧ n3 ≤ 255 := by have h := w3; simp [Lit.wf, IntKind.min, IntKind.max, IntKind.signed, IntKind.bits] at h; omega
  obtain ⟨m3, rfl⟩ : ∃ m : Nat, n3 = m := ⟨n3.toNat, by omega⟩
  obtain ⟨s4, rfl, rfl, rfl, w4⟩ := open_string Ybaf.underlying9 (hval 4 9 v4 rfl rfl) h4
  have z4 : s4.size ≤ 140737488351232 := by have h := wt4 s4.data.toList.length (by simp [DataW.weights]); rw [← Lib.size_eq] at h; exact h
  obtain ⟨n5, rfl, rfl, rfl, w5⟩ := open_int Ybaf.underlying3 (hval 5 3 v5 rfl rfl) h5
  have hn5 : -9223372036854775808 ≤ n5 ∧ n5 ≤ 9223372036854775807 := by have h := w5; simp [Lit.wf, IntKind.min, IntKind.max, IntKind.signed, IntKind.bits] at h; omega
  obtain ⟨b6, rfl, rfl, rfl⟩ := open_bool Ybaf.underlying4 (hval 6 4 v6 rfl rfl) h6
  obtain ⟨n7, rfl, rfl, rfl, w7⟩ := open_int Ybaf.underlying5 (hval 7 5 v7 rfl rfl) h7
  have hn7 : 0 ≤ n7 ∧ n7 ≤ 255 := by have h := w7; simp [Lit.wf, IntKind.min, IntKind.max, IntKind.signed, IntKind.bits] at h; omega
  obtain ⟨m7, rfl⟩ : ∃ m : Nat, n7 = m := ⟨n7.toNat, by omega⟩
  obtain ⟨s8, rfl, rfl, rfl, w8⟩ := open_string Ybaf.underlying9 (hval 8 9 v8 rfl rfl) h8
  have z8 : s8.size ≤ 140737488351232 := by have h := wt8 s8.data.toList.length (by simp [DataW.weights]); rw [← Lib.size_eq] at h; exact h
  obtain ⟨s10, rfl, rfl, rfl, w10⟩ := open_string Ybaf.underlying9 (hval 10 9 v10 rfl rfl) h10
  have z10 : s10.size ≤ 140737488351232 := by have h := wt10 s10.data.toList.length (by simp [DataW.weights]); rw [← Lib.size_eq] at h; exact h
  obtain ⟨b11, rfl, rfl, rfl⟩ := open_bool Ybaf.underlying4 (hval 11 4 v11 rfl rfl) h11
  clear hA0 hval0
  have htab : Lib.TabIs Ybaf.prog W "internal/strconv.uint64pow10" .u64 Lib.pow10Tab := tab_of_laid hL
  subst hl0
  subst hl1
  subst hl2
  subst hl9
  refine (law_any F.told a0 a1 a2 a9 cap0 cap1 cap2 cap9 x0 x1 x2 x9 m3 m7 s4 s8 s10 n5 b6 b11 W hF htab hx0 hx1 hx2 hx9 hz0 hz1 hz2 hb0 hb1 hb2 hb9 (by omega) (by omega) hn5.1 hn5.2 z4 z8 z10).mono fun e W' ⟨he, bel⟩ => ?_
  subst he
  exact ⟨_, rfl, _, _, _, [], _, [], hW', trodAll_mk1 (shut_bool Ybaf.underlying4 _), (trodAll_cons_mk (Below.trod laidOut' (by kernel_rfl) (of_decide_eq_true (by kernel_rfl)) k0 bel lt0) (trodAll_cons_mk (Below.trod laidOut' (by kernel_rfl) (of_decide_eq_true (by kernel_rfl)) k1 bel lt1) (trodAll_cons_mk (Below.trod laidOut' (by kernel_rfl) (of_decide_eq_true (by kernel_rfl)) k2 bel lt2) (trodAll_cons_mk (shut_int Ybaf.underlying5 w3) (trodAll_cons_mk (shut_string Ybaf.underlying9 w4) (trodAll_cons_mk (shut_int Ybaf.underlying3 w5) (trodAll_cons_mk (shut_bool Ybaf.underlying4 _) (trodAll_cons_mk (shut_int Ybaf.underlying5 w7) (trodAll_cons_mk (shut_string Ybaf.underlying9 w8) (trodAll_cons_mk (Below.trod laidOut' (by kernel_rfl) (of_decide_eq_true (by kernel_rfl)) k9 bel lt9) (trodAll_cons_mk (shut_string Ybaf.underlying9 w10) (trodAll_cons_mk (shut_bool Ybaf.underlying4 _) trodAll_mk0)))))))))))), rfl, bel.frame _, fun h => by cases h⟩

/-- THE STATEMENT. -/
theorem proved : Rows.LawS8246AWholeToldSaid :=
  Claim7.holds_of_told_tied_any_at .later (c := Rows.lawS8246AWholeRow) 3 Ybaf.f3 "fmt.errorf" ["fmt.Sprintf, its operands' methods called"] [] _ _ _ _ _ (by kernel_rfl) rfl rfl rfl laidOut (by kernel_rfl) rfl ⟨rfl, rfl, rfl, rfl, rfl, rfl, rfl⟩ rfl rfl (by kernel_rfl) (by kernel_rfl) Ybaf.func3 (by kernel_rfl)
    (of_decide_eq_true (by kernel_rfl)) (of_decide_eq_true (by kernel_rfl)) stops.symm rfl stopKnobs.symm (by kernel_rfl)
    (by kernel_rfl) (by kernel_rfl) (by kernel_rfl) (by kernel_rfl) (by kernel_rfl) (by kernel_rfl) (by kernel_rfl) (by kernel_rfl) (by kernel_rfl) rfl (by kernel_rfl) rfl rfl
    rfl rfl
    rfl (by kernel_rfl) (by kernel_rfl) (by kernel_rfl) (by decide) (by kernel_rfl) lawS8246AWhole_row_tie
    (OpenClaim.moreEntering_of (by kernel_rfl) (by kernel_rfl) (by kernel_rfl) (by kernel_rfl) (by kernel_rfl) (by kernel_rfl) (by kernel_rfl) (by kernel_rfl) (by kernel_rfl) (by kernel_rfl))
    ⟨_, WideRow.started_initial, quiet _⟩
    (fun os started _ H enc _ => lifted os started H enc)
end Go.Proofs.YbulkfnteFmt.lawS8246AWhole
