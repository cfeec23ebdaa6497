/- The law's walks: a slice that is not nil (the two maps, three loops); a nil one; a slice that is too long. -/
import Derived.Test.YbulkfkdmFmtNames
import Derived.Test.YbulkfkdmFmtPlain
import Derived.Deep.DeepCutAuto
import Derived.Deep.CutBlock
namespace Go.Proofs.YbulkfkdmFmt
open Go.RowKit Go.Extern.Stop Go.Stop Go.Extern
open Go.WideMaps Go.Maps

theorem get_size {ss : List ByteArray} (hsz : ∀ s ∈ ss, s.size ≤ maxLen) (k : Nat) : (ss.getD k ByteArray.empty).size ≤ maxLen := by
  by_cases hk : k < ss.length
  · rw [List.getD, List.getElem?_eq_getElem hk]
    exact hsz _ (List.getElem_mem hk)
  · rw [List.getD, List.getElem?_eq_none (by omega)]
    exact Nat.zero_le _

theorem eql22 (w : World) (a : Option Addr) (l c : Nat) : (binOp .eql 22 (.slice a l c) (.slice none 0 0)).run Ybaf.prog w = .ok (.bool a.isNone) w := by
  simp only [binOp]
  simp [run_equal_slice_nil w 22 _ a l c Ybaf.underlying22]
theorem own_below {B b n : Nat} {W w2 : World} {D : DataW Unit} (h : Below B W w2) (hb : b < B) (ho : W.ownsMap Ybaf.prog 9 (plainElem Ybaf.prog 3) b n D) : w2.ownsMap Ybaf.prog 9 (plainElem Ybaf.prog 3) b n D := by
  obtain ⟨es, clock, h1, F, hs, hD⟩ := ho
  exact ⟨es, clock, (h.block b hb).trans h1, F, hs, hD⟩
theorem eq_of_bytes {s q : ByteArray} (h : (s.toList == q.toList) = true) : s = q := by
  rw [ByteArray.toList_eq, ByteArray.toList_eq] at h
  exact ByteArray.ext (Array.toList_inj.1 (by simpa using h))
theorem ne_of_bytes {s q : ByteArray} (h : (s.toList == q.toList) = false) : s ≠ q := by
  intro e; rw [e] at h; simp at h
/-- both maps at one key: the same number comes out of both, and 'ok' says yes. -/
theorem both_look {B1 B2 k : Nat} {ss : List ByteArray} {w : World} (ho1 : w.ownsMap Ybaf.prog 9 (plainElem Ybaf.prog 3) B1 k (L ss k)) (ho2 : w.ownsMap Ybaf.prog 9 (plainElem Ybaf.prog 3) B2 k (L ss k))
    (s : ByteArray) (hs : s.size ≤ maxLen) (hh : Maps.has (L ss k) (.string s.data.toList) = true) :
    ∃ c : Int, (Instr.lookup 23 (.map (some B1)) (.string s) true).run Ybaf.prog w = .ok (.tuple #[.int .i64 c, .bool true]) w ∧ (Instr.lookup 23 (.map (some B2)) (.string s) false).run Ybaf.prog w = .ok (.int .i64 c) w := by
  obtain ⟨v, ps, hrun, hv⟩ := ho1.look_ok law Ybaf.underlying23 (zero3 w) (plainElem_int Ybaf.underlying3 (q := .i64) (a := 0) (by decide)) (key_str s hs)
  obtain ⟨c, hrun2, hat, _⟩ := ho2.lookup_int law Ybaf.underlying23 Ybaf.underlying3 (zero3 w) (key_str s hs)
  rw [hat] at hv
  obtain ⟨c', rfl, hc, _⟩ := plainElem_int_inv Ybaf.underlying3 hv
  have hcc : c = c' := by
    have h1 := congrArg Prod.fst hc
    injection h1 with h2
    injection h2
  subst hcc
  rw [hh] at hrun
  exact ⟨c, hrun, hrun2⟩
theorem own_second (w : World) : ((w.alloc (.map #[] 0)).alloc (.map #[] 0)).ownsMap Ybaf.prog 9 (plainElem (H := Unit) Ybaf.prog 3) (w.heap.size + 1) 0 (.map []) := by
  have h := World.ownsMap_made (H := Unit) (w.alloc (.map #[] 0)) Ybaf.prog 9 (plainElem Ybaf.prog 3)
  simpa using h

set_option maxHeartbeats 1000000 in
set_option maxRecDepth 100000 in
theorem law_some (F : Interp) (b off len cap : Nat) (ss : List ByteArray) (proc : ByteArray) (pick line : Int) (w : World) (hF : F.answers w.tape)
    (hlen : len ≤ 65536) (hz : len ≤ ss.length) (hb : b < w.heap.size)
    (hc : ∀ j, j < ss.length → w.cell? ⟨b, off + j, none⟩ = some (.string (ss.getD j ByteArray.empty))) (hsz : ∀ s ∈ ss, s.size ≤ maxLen)
    (hp : proc.size ≤ maxLen) (hp0 : 0 ≤ pick) (hp1 : pick ≤ 255) :
    Calls Ybaf.prog 3 #[.slice (some ⟨b, off, none⟩) len cap, .string proc, .int .u8 pick, .int .i64 line] w fun e w' => e = .returned (.bool true) ∧ Below w.heap.size w w' := by
  have hmm := @run_makeMap Ybaf.prog
  have q23 : ∀ (w : World) (r : Option Nat), (binOp .eql 23 (.map r) (.map none)).run Ybaf.prog w = .ok (.bool r.isNone) w := fun w r => run_eql_map_nil w _ _ _ r Ybaf.underlying23
  have q22 : ∀ (w : World) (a : Option Addr) (l c : Nat), (binOp .eql 22 (.slice a l c) (.slice none 0 0)).run Ybaf.prog w = .ok (.bool a.isNone) w := eql22
  go_enter Ybaf.func3, Ybaf.ntmps3
  go_upto_region 4 with fail
  go_cut [35] (fun s w' => (∃ bb : Bool, s = .bool bb ∧ (bb = true → 0 < len)) ∧ w' = w)
  case first =>
    by_cases hev : (pick % 2 == 0) = true
    · go_wp2
      all_goals
        go_meet
        case rel => exact ⟨⟨_, rfl, by simp⟩, rfl⟩
    · have hev' : (pick % 2 == 0) = false := by simpa using hev
      clear hev
      go_wp2
      go_meet
      case rel => exact ⟨⟨_, rfl, by simp⟩, rfl⟩
  case rest =>
    obtain ⟨⟨bb, rfl, hbb⟩, hw⟩ := hcut
    replace hw := hw.symm
    subst hw
    go_upto_if 35 with fail
    go_cut [9] (fun s w' => (∃ q : ByteArray, s = .string q ∧ q.size ≤ maxLen) ∧ w' = w)
    case first =>
      cases bb
      · go_wp2
        go_meet
        case rel => exact ⟨⟨_, rfl, hp⟩, rfl⟩
      · have hl0 := hbb rfl
        clear hbb
        have h1 : 0 ≤ (pick / 2) % (len : Int) := Int.emod_nonneg _ (by omega)
        have h2 : (pick / 2) % (len : Int) < len := Int.emod_lt_of_pos _ (by omega)
        obtain ⟨m, hm⟩ : ∃ m : Nat, (pick / 2) % (len : Int) = m := ⟨((pick / 2) % (len : Int)).toNat, by omega⟩
        rw [hm] at h1 h2
        have hml : m < len := by omega
        have hcm := hc m (by omega)
        have hqm := get_size hsz m
        clear hc h1 h2
        go_wp2
        go_meet
        case rel => exact ⟨⟨_, rfl, hqm⟩, rfl⟩
    case rest =>
      obtain ⟨⟨q, rfl, hq⟩, hw⟩ := hcut
      replace hw := hw.symm
      subst hw
      go_wp2
      go_loopw [51] (fun i wr => ∃ k : Nat, k ≤ len ∧ i = .int .i64 k ∧ wr.ownsMap Ybaf.prog 9 (plainElem Ybaf.prog 3) w.heap.size k (L ss k)
          ∧ wr.ownsMap Ybaf.prog 9 (plainElem Ybaf.prog 3) (w.heap.size + 1) k (L ss k) ∧ Below w.heap.size w wr)
        (fun i _ => len - (intOf i).toNat)
      case atStart => 
        exact ⟨0, Nat.zero_le _, rfl, (World.ownsMap_made _ _ _ _).alloc _, own_second w, ((Below.refl _ _).alloc (Nat.le_refl _) _).alloc (by simp) _⟩
      case round =>
        obtain ⟨k, hk, rfl, hown1, hown2, hnx⟩ := hrel
        by_cases hlt : k < len
        · have hcx : wr.cell? ⟨b, off + k, none⟩ = some (.string (ss.getD k ByteArray.empty)) := (hnx.cell (by exact hb)).trans (hc k (by omega))
          obtain ⟨s, hs⟩ : ∃ s, s = ss.getD k ByteArray.empty := ⟨_, rfl⟩
          rw [← hs] at hcx
          have hkey : keyOf Ybaf.prog 9 (.string s) = some (keyAt ss k) := by rw [hs]; exact key_str _ (get_size hsz k)
          clear hs hc
          go_wp2_with (first
            | (at_mapUpdate; refine wpList_mapUpdate_own _ rfl _ _ _ 23 rfl 9 3 law Ybaf.underlying23 _ w.heap.size k _ rfl hown1 (by unfold maxLen; omega) _ _ _ rfl rfl hkey _ [] (plainElem_int Ybaf.underlying3 (WalkArith.wf_i64 (by omega))) ?_))
          intro w1 ho1 hg1
          have ho2 := hown2.kept hg1 (by simp)
          have R1 := hnx.grown hg1 hnx.size (fun j hj => by cases hj; exact Nat.le_refl _)
          clear hown1 hown2 hcx hnx
          go_wp2_with (first
            | (at_mapUpdate; refine wpList_mapUpdate_own _ rfl _ _ _ 23 rfl 9 3 law Ybaf.underlying23 _ (w.heap.size + 1) k _ rfl ho2 (by unfold maxLen; omega) _ _ _ rfl rfl hkey _ [] (plainElem_int Ybaf.underlying3 (WalkArith.wf_i64 (by omega))) ?_))
          intro w2 hp2 hg2
          have hp1 := ho1.kept hg2 (by simp)
          have R2 := R1.grown hg2 R1.size (fun j hj => by cases hj; exact Nat.le_succ _)
          clear ho1 ho2 hg1 hg2 R1
          go_wp2
          go_roundw
          case rel => exact ⟨k + 1, by omega, by go_num, hp1, hp2, R2⟩
          case measure => simp [intOf]; omega
        · obtain rfl : k = len := by omega
          go_upto_block 2 with fail
          obtain ⟨hb2, hmF⟩ : b < wr.heap.size ∧ F.answers wr.tape := ⟨Nat.lt_of_lt_of_le hb hnx.size, by rw [hnx.tape]; exact hF⟩
          have hcr : ∀ j, j < k → wr.cell? ⟨b, off + j, none⟩ = some (.string (ss.getD j ByteArray.empty)) := fun j hj => (hnx.cell (by exact hb)).trans (hc j (by omega))
          have hlt2 := hown2.lt
          clear hc
          go_cut [15] (fun s w' => s = .bool (Maps.has (L ss k) (.string q.data.toList)) ∧ w' = wr.alloc (.cells #[.string ⟨#[102]⟩, .int .i64 line, .pointer none, .map (some w.heap.size), .map none, .map none, .map none, .map none, .int .u64 0, .int .i64 0] 30))
          case first =>
            go_wp2_with fail
            go_loop [15, 69] (fun f i => ∃ j : Nat, j ≤ k ∧ i = .int .i64 j ∧ f = .bool false ∧ ∀ m, m < j → keyAt ss m ≠ .string q.data.toList) (fun _ i => k - (intOf i).toNat)
            case atStart => exact ⟨0, Nat.zero_le _, rfl, rfl, fun m hm => by omega⟩
            case round =>
              obtain ⟨j, hj, rfl, rfl, hout⟩ := hrel
              by_cases hjl : j < k
              · have hcx := hcr j hjl
                obtain ⟨s, hs⟩ : ∃ s, s = ss.getD j ByteArray.empty := ⟨_, rfl⟩
                rw [← hs] at hcx
                have HS : Hid (s = ss.getD j ByteArray.empty) := hs
                clear hs hown1 hown2 hcr
                go_wp2_with fail
                · have hsq : (s.toList == q.toList) = true := by assumption
                  go_meet
                  case rel =>
                    refine ⟨?_, rfl⟩
                    rw [has_L_in ss _ k j hjl (keyAt_eq.2 (HS.out.symm.trans (eq_of_bytes hsq)))]
                · have hsq : (s.toList == q.toList) = false := by assumption
                  go_round
                  case rel => 
                    refine ⟨j + 1, by omega, by go_num, rfl, fun m hm => ?_⟩
                    rcases Nat.lt_or_ge m j with h | h
                    · exact hout m h
                    · obtain rfl : m = j := by omega
                      exact fun e => ne_of_bytes hsq (HS.out.trans (keyAt_eq.1 e))
                  case measure => simp [intOf]; omega
              · obtain rfl : j = k := by omega
                clear hown1 hown2
                go_wp2_with fail
                go_meet
                case rel =>
                  refine ⟨?_, rfl⟩
                  rw [has_L_out ss _ j hout]
          case rest =>
            obtain ⟨rfl, rfl⟩ := hcut
            obtain ⟨fd, hfd⟩ : ∃ fd, Maps.has (L ss k) (.string q.data.toList) = fd := ⟨_, rfl⟩
            rw [hfd]
            go_upto_region 25 with fail
            go_cut [18, 19] (fun g e w' => ((fd = true ∧ g = .string q ∧ e = .nilIface) ∨ (fd = false ∧ g = .string ⟨#[]⟩ ∧ ∃ a, e = .iface 41 (.pointer (some a)))) ∧ Below (wr.heap.size + 1) (wr.alloc (.cells #[.string ⟨#[102]⟩, .int .i64 line, .pointer none, .map (some w.heap.size), .map none, .map none, .map none, .map none, .int .u64 0, .int .i64 0] 30)) w')
            case first =>
              cases fd
              · go_wp2_with fail
                refine (name_out F q _ w.heap.size k (L ss k) _ (by exact hmF) hq (by go_simp) (hown1.alloc _) hfd).mono ?_
                rintro e w' ⟨a, rfl, hB⟩
                go_wp2_with fail
                go_meet
                case rel => exact ⟨.inr ⟨by simp, rfl, a, rfl⟩, by simpa using hB⟩
              · go_wp2_with fail
                refine (name_in q _ w.heap.size k (L ss k) _ hq (by go_simp) (hown1.alloc _) hfd).mono ?_
                rintro e w' ⟨rfl, rfl⟩
                go_wp2_with fail
                go_meet
                case rel => exact ⟨.inl ⟨by simp, rfl, rfl⟩, Below.refl _ _⟩
            case rest =>
              obtain ⟨hge, hB⟩ := hcut
              have hc0 := hB.cell (p := ⟨wr.heap.size, 0, none⟩) (by simp)
              have hc1 := hB.cell (p := ⟨wr.heap.size, 1, none⟩) (by simp)
              have hc3 := hB.cell (p := ⟨wr.heap.size, 3, none⟩) (by simp)
              have hd0 : wc.cell? ⟨wr.heap.size, 0, none⟩ = some (.string ⟨#[102]⟩) := by rw [hc0]; go_simp
              have hd1 : wc.cell? ⟨wr.heap.size, 1, none⟩ = some (.int .i64 line) := by rw [hc1]; go_simp
              have hd3 : wc.cell? ⟨wr.heap.size, 3, none⟩ = some (.map (some w.heap.size)) := by rw [hc3]; go_simp
              have hks : ∀ j, j < k → wc.cell? ⟨b, off + j, none⟩ = some (.string (ss.getD j ByteArray.empty)) := fun j hj =>
                (hB.cell (p := ⟨b, off + j, none⟩) (by show b < wr.heap.size + 1; omega)).trans (((Below.refl wr.heap.size wr).alloc (Nat.le_refl _) _).cell (by exact hb2) |>.trans (hcr j hj))
              have ho1 := own_below hB (b := w.heap.size) (by omega) (hown1.alloc _)
              have ho2 := own_below hB (b := w.heap.size + 1) (by omega) (hown2.alloc _)
              have hend : Below w.heap.size w wc := (hnx.alloc hnx.size _).trans (hB.mono (by have := hnx.size; omega))
              clear hc0 hc1 hc3 hcr hown1 hown2 hB hmF hF hnx
              rcases hge with ⟨rfl, rfl, rfl⟩ | ⟨rfl, rfl, a, rfl⟩
              all_goals
                have hl1 := ho1.len Ybaf.underlying23 3
                have hl2 := ho2.len Ybaf.underlying23 3
                go_wp2_with fail
                go_loop [128] (fun i => ∃ j : Nat, j ≤ k ∧ i = .int .i64 j) (fun i => k - (intOf i).toNat)
                case atStart => exact ⟨0, Nat.zero_le _, rfl⟩
                case round =>
                  obtain ⟨j, hj, rfl⟩ := hrel
                  by_cases hjl : j < k
                  · have hcx := hks j hjl
                    have hsj := get_size hsz j
                    have hin := has_L_in ss _ k j hjl rfl
                    unfold keyAt at hin
                    obtain ⟨s, hs⟩ : ∃ s, s = ss.getD j ByteArray.empty := ⟨_, rfl⟩
                    rw [← hs] at hcx hsj hin
                    obtain ⟨c, hr1, hr2⟩ := both_look ho1 ho2 s hsj hin
                    clear hs hks ho1 ho2 hin
                    go_wp2_with fail
                    go_round
                    case rel => exact ⟨j + 1, by omega, by go_num⟩
                    case measure => simp [intOf]; omega
                  · obtain rfl : j = k := by omega
                    go_wp2_with fail
                    go_ret
                    exact ⟨rfl, hend⟩

set_option maxHeartbeats 400000 in
/-- more than 65536 keys. -/
theorem law_long (a : Option Addr) (len cap : Nat) (proc : ByteArray) (pick line : Int) (w : World) (hlen : 65536 < len) (hm : len ≤ maxLen) :
    Calls Ybaf.prog 3 #[.slice a len cap, .string proc, .int .u8 pick, .int .i64 line] w fun e w' => e = .returned (.bool true) ∧ Below w.heap.size w w' := by
  unfold maxLen at hm
  go_enter Ybaf.func3, Ybaf.ntmps3
  go_wp2_with fail
  go_ret
  exact ⟨rfl, Below.refl _ _⟩

set_option maxHeartbeats 1000000 in
set_option maxRecDepth 100000 in
/-- a nil slice. -/
theorem law_nil (F : Interp) (proc : ByteArray) (pick line : Int) (w : World) (hF : F.answers w.tape) (hp : proc.size ≤ maxLen) (hp0 : 0 ≤ pick) (hp1 : pick ≤ 255) :
    Calls Ybaf.prog 3 #[.slice none 0 0, .string proc, .int .u8 pick, .int .i64 line] w fun e w' => e = .returned (.bool true) ∧ Below w.heap.size w w' := by
  have q23 : ∀ (w : World) (r : Option Nat), (binOp .eql 23 (.map r) (.map none)).run Ybaf.prog w = .ok (.bool r.isNone) w := fun w r => run_eql_map_nil w _ _ _ r Ybaf.underlying23
  have q22 : ∀ (w : World) (a : Option Addr) (l c : Nat), (binOp .eql 22 (.slice a l c) (.slice none 0 0)).run Ybaf.prog w = .ok (.bool a.isNone) w := eql22
  have hl1 := fun (w : World) => Maps.len_nil (P := Ybaf.prog) (w := w) Ybaf.underlying23 3
  go_enter Ybaf.func3, Ybaf.ntmps3
  go_upto_region 4 with fail
  go_cut [35] (fun s w' => s = .bool false ∧ w' = w)
  case first =>
    by_cases hev : (pick % 2 == 0) = true
    · go_wp2
      go_meet
      case rel => exact ⟨rfl, rfl⟩
    · have hev' : (pick % 2 == 0) = false := by simpa using hev
      clear hev
      go_wp2
      go_meet
      case rel => exact ⟨rfl, rfl⟩
  case rest =>
    obtain ⟨rfl, hw⟩ := hcut
    replace hw := hw.symm
    subst hw
    go_wp2_with fail
    refine wp_loop_rounds 1 ?_
    rw [rounds_succ]
    go_wp2_with fail
    refine (name_nil F proc _ _ (by exact hF) hp (by go_simp)).mono ?_
    rintro e w' ⟨a, rfl, hB⟩
    have hc0 := hB.cell (p := ⟨w.heap.size, 0, none⟩) (by simp)
    have hc1 := hB.cell (p := ⟨w.heap.size, 1, none⟩) (by simp)
    have hc3 := hB.cell (p := ⟨w.heap.size, 3, none⟩) (by simp)
    have hd0 : w'.cell? ⟨w.heap.size, 0, none⟩ = some (.string ⟨#[102]⟩) := by rw [hc0]; go_simp
    have hd1 : w'.cell? ⟨w.heap.size, 1, none⟩ = some (.int .i64 line) := by rw [hc1]; go_simp
    have hd3 : w'.cell? ⟨w.heap.size, 3, none⟩ = some (.map none) := by rw [hc3]; go_simp
    have hend : Below w.heap.size w w' := ((Below.refl _ _).alloc (Nat.le_refl _) _).trans (hB.mono (by simp))
    clear hc0 hc1 hc3 hB hF
    go_wp2_with fail
    refine wp_loop_rounds 1 ?_
    rw [rounds_succ]
    go_wp2_with fail
    go_ret
    exact ⟨rfl, hend⟩
end Go.Proofs.YbulkfkdmFmt
