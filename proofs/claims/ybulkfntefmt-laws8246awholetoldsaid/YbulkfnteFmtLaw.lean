import Derived.Test.YbulkfnteFmtApp
import Derived.Outline
import Derived.BigRegion
import Derived.WideMake
import Derived.Lib.ItoaLen
import Derived.Test.YbulkfnteFmtEnd
namespace Go.Proofs.YbulkfnteFmt
open Go.RowKit Go.Extern.Stop Go.Stop Go.Extern
set_option linter.unusedVariables false

theorem SAt.below {w w' : World} {a : Option Addr} {xs : List ByteArray} (h : SAt w a xs) {B : Nat} (hB : w.heap.size = B) (hb : Below B w w') : SAt w' a xs := by
  rcases h with rfl | ⟨b, off, rfl, hlt, hc⟩
  · exact .inl rfl
  · exact .inr ⟨b, off, rfl, by have := hb.size; omega, fun j hj => (hb.cell (by show b < B; omega)).trans (hc j hj)⟩
def BAt (w : World) (a : Option Addr) (bs : List UInt8) : Prop :=
  bs = [] ∨ ∃ b off, a = some ⟨b, off, none⟩ ∧ b < w.heap.size ∧ ∀ j, j < bs.length → w.cell? ⟨b, off + j, none⟩ = some (.int .u8 ((bs.getD j 0).toNat : Int))
theorem BAt.below {w w' : World} {a : Option Addr} {xs : List UInt8} (h : BAt w a xs) {B : Nat} (hB : w.heap.size = B) (hb : Below B w w') : BAt w' a xs := by
  rcases h with rfl | ⟨b, off, rfl, hlt, hc⟩
  · exact .inl rfl
  · exact .inr ⟨b, off, rfl, by have := hb.size; omega, fun j hj => (hb.cell (by show b < B; omega)).trans (hc j hj)⟩
def pbox (s : ByteArray) : Array Value := #[.string s, .int .i64 0, .pointer none, .pointer none, .int .i64 0, .int .u8 0, .int .u8 0, .int .u8 0, .int .u8 0, .int .u8 0, .int .u8 0, .int .u8 0, .int .u8 0, .int .u8 0, .bool false, .slice none 0 0, .slice none 0 0]
def ibox (s : ByteArray) : Array Value := #[.string s, .pointer none, .bool false, .pointer none, .slice none 0 0]

theorem info3 : (Ybaf.prog.info? 3).map (fun i => (i.zero, i.size, i.bytes)) = some (some (.int .i64 0), 1, 8) := by kernel_rfl
theorem cell_new2 (w : World) (o1 o2 : Obj) (cs : Array Value) (t : TypeId) (j : Nat) : (((w.alloc o1).alloc o2).alloc (.cells cs t)).cell? ⟨w.heap.size + 2, j, none⟩ = cs[j]? := by
  have := World.cell?_alloc_new ((w.alloc o1).alloc o2) cs t j
  simpa using this
theorem pk_size (sel : Nat) {xs : List ByteArray} {fb : ByteArray} (h : SzOK xs) (hf : fb.size ≤ 140737488351232) : (pk sel xs fb).size ≤ 140737488351232 := by
  unfold pk
  split
  · exact hf
  · exact h _

set_option maxRecDepth 100000 in
set_option maxHeartbeats 40000000 in
theorem law_any (F : Interp) (a1 a2 a3 a4 : Option Addr) (c1 c2 c3 c4 : Nat) (xs1 xs2 xs3 : List ByteArray) (bs : List UInt8) (psel asel : Nat) (pn an gh : ByteArray) (iid : Int) (conf dup : Bool) (w : World) (hFa : F.answers w.tape) (htab : Lib.TabIs Ybaf.prog w "internal/strconv.uint64pow10" .u64 Lib.pow10Tab)
    (h1 : SAt w a1 xs1) (h2 : SAt w a2 xs2) (h3 : SAt w a3 xs3) (hb : BAt w a4 bs) (hs1 : SzOK xs1) (hs2 : SzOK xs2) (hs3 : SzOK xs3)
    (hl1 : xs1.length ≤ 140737488351232) (hl2 : xs2.length ≤ 140737488351232) (hl3 : xs3.length ≤ 140737488351232) (hl4 : bs.length ≤ 140737488351232)
    (hp1 : psel ≤ 255) (ha1 : asel ≤ 255) (hi0 : -9223372036854775808 ≤ iid) (hi1 : iid ≤ 9223372036854775807)
    (hpn : pn.size ≤ 140737488351232) (han : an.size ≤ 140737488351232) (hgh : gh.size ≤ 140737488351232) :
    Calls Ybaf.prog 3 #[.slice a1 xs1.length c1, .slice a2 xs2.length c2, .slice a3 xs3.length c3, .int .u8 (psel : Int), .string pn, .int .i64 iid, .bool conf, .int .u8 (asel : Int), .string an, .slice a4 bs.length c4, .string gh, .bool dup] w
      fun e w' => e = .returned (.bool true) ∧ Below w.heap.size w w' := by
  by_cases hbig : ((xs1.length : Int) + xs2.length + xs3.length + bs.length) > 4096
  · go_enter Ybaf.func3, Ybaf.ntmps3
    go_wp2_with fail
    go_ret
    exact ⟨rfl, Below.refl _ _⟩
  · go_enter Ybaf.func3, Ybaf.ntmps3
    have hmk : ∀ (t : Nat) (W : World), (Instr.makeMap t none).run Ybaf.prog W = .ok (.map (some W.heap.size)) (W.alloc (.map #[] 0)) := fun t W => run_makeMap_plain W t
    have hbig2 : xs1.length + xs2.length + xs3.length + bs.length ≤ 4096 := by omega
    go_upto_block 0 with fail
    generalize hB1 : w.heap.size = B1 at *
    go_cut [25, 26, 29, 30] from 83 to 105 (fun vl vp _ _ w' => (∃ ds ps, DD w' B1 27 32 ubox vl vp B1 ds ps ∧ ds.length ≤ xs1.length ∧ SzOK ds) ∧ Below B1 w w' ∧ B1 < w'.heap.size)
    case first => as_aux_lemma =>
      go_wp2_with fail
      go_loopw [25, 26, 83] (fun vl vp i wr => (∃ (k : Nat) (ds : List ByteArray) (ps : List Nat), i = .int .i64 k ∧ k ≤ xs1.length ∧ DD wr B1 27 32 ubox vl vp B1 ds ps ∧ ds.length ≤ k ∧ SzOK ds) ∧ Below B1 w wr ∧ B1 < wr.heap.size) (fun _ _ i _ => xs1.length - (intOf i).toNat)
      case atStart =>
        exact ⟨⟨0, [], [], rfl, Nat.zero_le _, by rw [← hB1]; exact DD.start w _ (Nat.le_refl _) _ _ _, Nat.le_refl _, fun j => by simp [List.getD]⟩, (Below.refl _ _).alloc (by omega) _, by simp; omega⟩
      case round =>
        obtain ⟨⟨k, ds, ps, rfl, hk, hD, hdk, hdz⟩, hbel, hlt⟩ := hrel
        by_cases hk' : k < xs1.length
        · rcases h1 with rfl | ⟨b, off, rfl, hbw, hc⟩
          · simp at hk'
          · have hcx : wr.cell? ⟨b, off + k, none⟩ = some (.string (xs1.getD k ByteArray.empty)) := (hbel.cell (by show b < B1; omega)).trans (hc k hk')
            have hns := hs1 k
            generalize xs1.getD k ByteArray.empty = s at hcx hns
            obtain ⟨a, cap, rfl, hsat⟩ := row_sat hD.row
            clear hc h2 h3 hs1 hs2 hs3 hb
            by_cases hix : ix ds s < 0
            · obtain ⟨W2, hst, hm2, hg2, hs2⟩ := PMap.store (w := wr.alloc (.cells (ubox s) 32)) (hD.map.kept (Below.heap_alloc _ _ _ hD.map.lt)) (t := 25) (e := 27) (by kernel_rfl) (by unfold maxLen; omega) s (by unfold maxLen; omega) (by unfold atp; rw [if_pos hix]) wr.heap.size
              have hst' : (Instr.mapUpdate 25 (.map (some B1)) (.string s) (.pointer (some ⟨wr.heap.size, 0, none⟩))).run Ybaf.prog (wr.alloc (.cells #[.string s, .int .u8 0, .int .i64 0, .slice none 0 0, .slice none 0 0] 32)) = .ok () W2 := hst
              clear hst hs2
              go_upto_region 12 with (go_at_call 5; refine (index_any a cap ds s _ hsat (by omega)).mono ?_; rintro e w' ⟨rfl, hw⟩; replace hw := hw.symm; subst hw)
              have e2 := hg2.size
              simp at e2
              have hlb : B1 ≤ W2.heap.size := by omega
              have hn6 : ds.length ≤ 1048576 := by omega
              have hrow2 := hD.row2 (W3 := W2.alloc (.cells #[.string s] 9)) hg2 (fun b hb => Below.heap_alloc _ _ _ hb)
              go_wp2_with (at_builtin; refine wpList_app1 (P := Ybaf.prog) _ 22 9 (.string ⟨#[]⟩) 16 info9 rfl Ybaf.underlying22 (by decide) (by rfl) _ _ (by rfl) B1 (.slice a ds.length cap) ds.length (ds.map .string) (by rfl) hrow2 W2.heap.size 1 (.string s) (by rfl) ?zu rfl hn6 ?zb ?_)
              case zu => exact World.cell?_alloc_new _ _ _ _
              case zb => simp; omega
              intro g cap2 W4 hr4 hg4 hat4 hlt4
              have hptr2 := hD.ptr2 (W5 := W4.alloc (.cells #[pt wr.heap.size] 27)) (by decide) hg2 (by simp) (fun b hb => Below.heap_alloc _ _ _ hb) hg4 (fun b hb => Below.heap_alloc _ _ _ hb)
              have hHid : Hid (((Value.slice a ds.length cap).ownBlock = some g ∨ g = W2.heap.size + 1) ∧ (W2.alloc (.cells #[.string s] 9)).grownBy W4 (Value.slice a ds.length cap).ownBlock) := ⟨hat4, hg4⟩
              have e4 := hg4.size
              simp at e4
              clear hat4 hg4 hrow2
              go_wp2_with (at_builtin; refine wpList_app1 (P := Ybaf.prog) _ 24 27 (.pointer none) 8 info27 rfl Ybaf.underlying24 (by decide) (by rfl) _ _ (by rfl) B1 u26 ds.length (ps.map pt) (by rfl) hptr2 W4.heap.size 1 (pt wr.heap.size) (by rfl) ?zu rfl hn6 ?zb ?_)
              case zu => exact World.cell?_alloc_new _ _ _ _
              case zb => simp; omega
              intro g6 cap6 W6 hr6 hg6 hat6 hlt6
              have hR := hD.round (by omega) (by decide) (by decide) (by decide) hix (by unfold maxLen; omega) hm2 hg2 ((Below.refl _ W2).alloc (Nat.le_refl _) _) hr4 hHid.out.2 (fun g' hg' => by
                have : g = g' := by simpa [Value.ownBlock] using hg'
                subst this
                rcases hHid.out.1 with h | h
                · exact .inl h
                · right; omega) ((Below.refl _ W4).alloc (Nat.le_refl _) _) hr6 hg6
              clear hHid hr4 hr6 hg6 hat6 hptr2
              go_wp2_with fail
              go_roundw
              case rel => exact ⟨⟨k + 1, ds ++ [s], ps ++ [wr.heap.size], by go_num, by omega, by simpa using hR.1, by simp; omega, hdz.snoc hns⟩, hbel.trans hR.2.1, by omega⟩
              case measure => simp [intOf]; omega
            · go_wp2_with (go_at_call 5; refine (index_any a cap ds s _ hsat (by omega)).mono ?_; rintro e w' ⟨rfl, hw⟩; replace hw := hw.symm; subst hw)
              go_roundw
              case rel => exact ⟨⟨k + 1, ds, ps, by go_num, by omega, hD, by omega, hdz⟩, hbel, hlt⟩
              case measure => simp [intOf]; omega
        · obtain rfl : k = xs1.length := by omega
          go_wp2_with fail
          go_meet
          case rel => exact ⟨⟨ds, ps, hD, hdk, hdz⟩, hbel, hlt⟩
    case rest => as_aux_lemma =>
      obtain ⟨⟨us, ups, hU, hUl, hUz⟩, hbA, hltA⟩ := hcut
      obtain ⟨wA, hwA⟩ : ∃ W, W = wc := ⟨_, rfl⟩
      subst hwA
      obtain ⟨ua, ucap, rfl, hUs⟩ := row_sat hU.row
      replace h2 := h2.below hB1 hbA
      replace h3 := h3.below hB1 hbA
      replace hb := hb.below hB1 hbA
      clear h1 hs1
      go_upto_block 2 with fail
      generalize hB2 : wA.heap.size = B2 at *
      go_cut [31, 32, 35, 36] from 109 to 131 (fun vl vp _ _ w' => (∃ ds ps, DD w' B2 35 44 pbox vl vp B2 ds ps ∧ ds.length ≤ xs2.length ∧ SzOK ds) ∧ Below B2 wA w' ∧ B2 < w'.heap.size)
      case first => as_aux_lemma =>
        go_wp2_with fail
        go_loopw [31, 32, 109] (fun vl vp i wr => (∃ (k : Nat) (ds : List ByteArray) (ps : List Nat), i = .int .i64 k ∧ k ≤ xs2.length ∧ DD wr B2 35 44 pbox vl vp B2 ds ps ∧ ds.length ≤ k ∧ SzOK ds) ∧ Below B2 wA wr ∧ B2 < wr.heap.size) (fun _ _ i _ => xs2.length - (intOf i).toNat)
        case atStart =>
          exact ⟨⟨0, [], [], rfl, Nat.zero_le _, by rw [← hB2]; exact DD.start wA _ (Nat.le_refl _) _ _ _, Nat.le_refl _, fun j => by simp [List.getD]⟩, (Below.refl _ _).alloc (by omega) _, by simp; omega⟩
        case round =>
          obtain ⟨⟨k, ds, ps, rfl, hk, hD, hdk, hdz⟩, hbel, hlt⟩ := hrel
          by_cases hk' : k < xs2.length
          · rcases h2 with rfl | ⟨b, off, rfl, hbw, hc⟩
            · simp at hk'
            · have hcx : wr.cell? ⟨b, off + k, none⟩ = some (.string (xs2.getD k ByteArray.empty)) := (hbel.cell (by show b < B2; omega)).trans (hc k hk')
              have hns := hs2 k
              generalize xs2.getD k ByteArray.empty = s at hcx hns
              obtain ⟨a, cap, rfl, hsat⟩ := row_sat hD.row
              clear hc h3 hs2 hs3 hb
              by_cases hix : ix ds s < 0
              · obtain ⟨W2, hst, hm2, hg2, hs2⟩ := PMap.store (w := wr.alloc (.cells (pbox s) 44)) (hD.map.kept (Below.heap_alloc _ _ _ hD.map.lt)) (t := 34) (e := 35) (by kernel_rfl) (by unfold maxLen; omega) s (by unfold maxLen; omega) (by unfold atp; rw [if_pos hix]) wr.heap.size
                have hst' : (Instr.mapUpdate 34 (.map (some B2)) (.string s) (.pointer (some ⟨wr.heap.size, 0, none⟩))).run Ybaf.prog (wr.alloc (.cells #[.string s, .int .i64 0, .pointer none, .pointer none, .int .i64 0, .int .u8 0, .int .u8 0, .int .u8 0, .int .u8 0, .int .u8 0, .int .u8 0, .int .u8 0, .int .u8 0, .int .u8 0, .bool false, .slice none 0 0, .slice none 0 0] 44)) = .ok () W2 := hst
                clear hst hs2
                go_upto_region 24 with (go_at_call 5; refine (index_any a cap ds s _ hsat (by omega)).mono ?_; rintro e w' ⟨rfl, hw⟩; replace hw := hw.symm; subst hw)
                have e2 := hg2.size
                simp at e2
                have hlb : B2 ≤ W2.heap.size := by omega
                have hn6 : ds.length ≤ 1048576 := by omega
                have hrow2 := hD.row2 (W3 := W2.alloc (.cells #[.string s] 9)) hg2 (fun b hb => Below.heap_alloc _ _ _ hb)
                go_wp2_with (at_builtin; refine wpList_app1 (P := Ybaf.prog) _ 22 9 (.string ⟨#[]⟩) 16 info9 rfl Ybaf.underlying22 (by decide) (by rfl) _ _ (by rfl) B2 (.slice a ds.length cap) ds.length (ds.map .string) (by rfl) hrow2 W2.heap.size 1 (.string s) (by rfl) ?zu rfl hn6 ?zb ?_)
                case zu => exact World.cell?_alloc_new _ _ _ _
                case zb => simp; omega
                intro g cap2 W4 hr4 hg4 hat4 hlt4
                have hptr2 := hD.ptr2 (W5 := W4.alloc (.cells #[pt wr.heap.size] 35)) (by decide) hg2 (by simp) (fun b hb => Below.heap_alloc _ _ _ hb) hg4 (fun b hb => Below.heap_alloc _ _ _ hb)
                have hHid : Hid (((Value.slice a ds.length cap).ownBlock = some g ∨ g = W2.heap.size + 1) ∧ (W2.alloc (.cells #[.string s] 9)).grownBy W4 (Value.slice a ds.length cap).ownBlock) := ⟨hat4, hg4⟩
                have e4 := hg4.size
                simp at e4
                clear hat4 hg4 hrow2
                go_wp2_with (at_builtin; refine wpList_app1 (P := Ybaf.prog) _ 33 35 (.pointer none) 8 info35 rfl Ybaf.underlying33 (by decide) (by rfl) _ _ (by rfl) B2 u32 ds.length (ps.map pt) (by rfl) hptr2 W4.heap.size 1 (pt wr.heap.size) (by rfl) ?zu rfl hn6 ?zb ?_)
                case zu => exact World.cell?_alloc_new _ _ _ _
                case zb => simp; omega
                intro g6 cap6 W6 hr6 hg6 hat6 hlt6
                have hR := hD.round (by omega) (by decide) (by decide) (by decide) hix (by unfold maxLen; omega) hm2 hg2 ((Below.refl _ W2).alloc (Nat.le_refl _) _) hr4 hHid.out.2 (fun g' hg' => by
                  have : g = g' := by simpa [Value.ownBlock] using hg'
                  subst this
                  rcases hHid.out.1 with h | h
                  · exact .inl h
                  · right; omega) ((Below.refl _ W4).alloc (Nat.le_refl _) _) hr6 hg6
                clear hHid hr4 hr6 hg6 hat6 hptr2
                go_wp2_with fail
                go_roundw
                case rel => exact ⟨⟨k + 1, ds ++ [s], ps ++ [wr.heap.size], by go_num, by omega, by simpa using hR.1, by simp; omega, hdz.snoc hns⟩, hbel.trans hR.2.1, by omega⟩
                case measure => simp [intOf]; omega
              · go_wp2_with (go_at_call 5; refine (index_any a cap ds s _ hsat (by omega)).mono ?_; rintro e w' ⟨rfl, hw⟩; replace hw := hw.symm; subst hw)
                go_roundw
                case rel => exact ⟨⟨k + 1, ds, ps, by go_num, by omega, hD, by omega, hdz⟩, hbel, hlt⟩
                case measure => simp [intOf]; omega
          · obtain rfl : k = xs2.length := by omega
            go_wp2_with fail
            go_meet
            case rel => exact ⟨⟨ds, ps, hD, hdk, hdz⟩, hbel, hlt⟩
      case rest => as_aux_lemma =>
        obtain ⟨⟨pl, pps, hP, hPl, hPz⟩, hbB, hltB⟩ := hcut
        obtain ⟨wB, hwB⟩ : ∃ W, W = wc := ⟨_, rfl⟩
        subst hwB
        obtain ⟨pa, pcap, rfl, hPs⟩ := row_sat hP.row
        replace h3 := h3.below hB2 hbB
        replace hb := hb.below hB2 hbB
        replace hU := hU.below (by rw [hB2]; exact hbB)
        replace hUs := hUs.below hB2 hbB
        replace hbA := hbA.trans (hbB.mono (by omega))
        clear h2 hs2
        go_upto_region 28 with (go_at_call 6; refine (pick_any psel pa pcap pl pn _ hp1 hPs (by omega)).mono ?_; rintro e w' ⟨rfl, hw⟩; replace hw := hw.symm; subst hw)
        go_upto_region 29 with (go_at_call 6; refine (pick_any asel ua ucap us an _ ha1 hUs (by omega)).mono ?_; rintro e w' ⟨rfl, hw⟩; replace hw := hw.symm; subst hw)
        have hpj := pk_size psel hPz hpn
        have hau := pk_size asel hUz han
        generalize pk psel pl pn = pj at *
        generalize pk asel us an = au at *
        obtain ⟨i9, hi9, hi9z, hi9s, hi9b⟩ := info_parts' info9
        obtain ⟨WM, hmkM, hoM, hgM⟩ := run_make_own (P := Ybaf.prog) wB wB.heap.size 22 9 i9 _ 1 Ybaf.underlying22 hi9 hi9z hi9s .i64 .i64 bs.length (by rw [hi9b]; omega) (by unfold maxLen; omega) (Nat.le_refl _)
        have hsM := hgM.size
        have hbM : Below wB.heap.size wB WM := (Below.refl _ wB).grown hgM (Nat.le_refl _) (by intro k hk; cases hk)
        clear hi9 hi9z hi9s hi9b hgM i9
        go_upto_block 4 with fail
        generalize hB3 : wB.heap.size = B3 at *
        clear hmkM
        go_cut [39, 41] from 145 to 156 (fun v _ w' => w'.ownsRow B3 9 1 v bs.length (bs.map (fun b => .string (pk b.toNat us gh))) ∧ Below B3 wB w')
        case first => as_aux_lemma =>
          go_wp2_with fail
          go_loopw [39, 145] (fun v i wr => (∃ k : Nat, i = .int .i64 k ∧ k ≤ bs.length ∧ wr.ownsRow B3 9 1 v k ((bs.take k).map (fun b => .string (pk b.toNat us gh)))) ∧ Below B3 wB wr) (fun _ i _ => bs.length - (intOf i).toNat)
          case atStart => exact ⟨⟨0, rfl, Nat.zero_le _, hoM⟩, hbM⟩
          case round =>
            obtain ⟨⟨k, rfl, hk, hown⟩, hbel⟩ := hrel
            by_cases hk' : k < bs.length
            · rcases hb with rfl | ⟨b, off, rfl, hbw, hc⟩
              · simp at hk'
              · have hcx : wr.cell? ⟨b, off + k, none⟩ = some (.int .u8 ((bs.getD k 0).toNat : Int)) := (hbel.cell (by show b < B3; omega)).trans (hc k hk')
                have hq : (bs.getD k 0).toNat ≤ 255 := by have := UInt8.toNat_lt (bs.getD k 0); omega
                have htk : Hid (bs.take (k + 1) = bs.take k ++ [bs.getD k 0]) := by
                  show bs.take (k + 1) = bs.take k ++ [bs.getD k 0]
                  rw [List.take_add_one, List.getElem?_eq_getElem hk']
                  simp [List.getD, List.getElem?_eq_getElem hk']
                generalize bs.getD k 0 = q at hcx hq htk
                have hUr := hUs.below hB3 hbel
                have hn6 : k ≤ 1048576 := by omega
                have hwz : B3 ≤ wr.heap.size := by have := hbel.size; omega
                have hcell := World.cell?_alloc_new wr #[.string (pk q.toNat us gh)] 9 0
                have hown2 : (wr.alloc (.cells #[.string (pk q.toNat us gh)] 9)).ownsRow B3 9 1 u39 k ((bs.take k).map (fun b => .string (pk b.toNat us gh))) := row_kept hown (fun g hg => by
                  have t := row_tag hown hg
                  exact Below.heap_alloc _ _ _ (lt_of_some t.2.choose_spec))
                have hrB : ∀ g, u39.ownBlock = some g → B3 ≤ g := fun g hg => (row_tag hown hg).1
                have hwz2 : B3 ≤ (wr.alloc (.cells #[.string (pk q.toNat us gh)] 9)).heap.size := by simp; omega
                clear hc h3 hs3 hown
                go_wp2_with (first | (go_at_call 6; refine (pick_any q.toNat ua ucap us gh _ hq hUr (by omega)).mono ?_; rintro e w' ⟨rfl, hw⟩; replace hw := hw.symm; subst hw) | (at_builtin; refine wpList_app1 (P := Ybaf.prog) _ 22 9 (.string ⟨#[]⟩) 16 info9 rfl Ybaf.underlying22 (by decide) (by rfl) _ _ (by rfl) B3 u39 k _ (by rfl) hown2 wr.heap.size 1 (.string (pk q.toNat us gh)) (by rfl) hcell rfl hn6 hwz2 ?_; intro g cap2 W4 hr4 hg4 hat4 hlt4; have hb4 := (hbel.alloc hwz _).grown hg4 hwz2 hrB; clear hg4 hat4 hown2))
                go_roundw
                case rel => exact ⟨⟨k + 1, by go_num, by omega, by rw [htk.out]; simpa using hr4⟩, hb4⟩
                case measure => simp [intOf]; omega
            · obtain rfl : k = bs.length := by omega
              go_wp2_with fail
              go_meet
              case rel => exact ⟨by simpa using hown, hbel⟩
        case rest => as_aux_lemma =>
          obtain ⟨hAs, hbC⟩ := hcut
          obtain ⟨wC, hwC⟩ : ∃ W, W = wc := ⟨_, rfl⟩
          subst hwC
          replace h3 := h3.below hB3 hbC
          replace hU := hU.below (by rw [hB3]; exact hbC)
          replace hUs := hUs.below hB3 hbC
          replace hP := hP.below (by rw [hB3]; exact hbC)
          replace hPs := hPs.below hB3 hbC
          have hszC := hbC.size
          replace hbA := hbA.trans (hbC.mono (by omega))
          clear hb hoM hbM hsM WM
          obtain ⟨st, hst⟩ : ∃ st : ByteArray, st = ⟨(Lib.itoa iid).toArray⟩ := ⟨_, rfl⟩
          have hsts : st.size ≤ 21 := by rw [hst]; simpa [ByteArray.size] using Lib.itoa_length_le iid hi0 hi1
          have hitoa := itoa_any iid wC hi0 hi1
          rw [← hst] at hitoa
          have Hst : Hid (st = ⟨(Lib.itoa iid).toArray⟩) := hst
          clear hst
          go_upto_region 36 with (go_at_call 7; refine hitoa.mono ?_; rintro e wD ⟨rfl, hbD⟩)
          obtain ⟨rf, hrf⟩ : ∃ rf : ByteArray, pj ++ { data := #[35] } ++ st = rf := ⟨_, rfl⟩
          have hrfs : rf.size ≤ 140737488351300 := by
            rw [← hrf, ByteArray.size_append, ByteArray.size_append]
            have : (ByteArray.mk #[35]).size = 1 := rfl
            omega
          rw [hrf]
          have Hrf : Hid (pj ++ { data := #[35] } ++ st = rf) := hrf
          have hasC := hAs
          replace hAs := row_kept (w' := wD) hAs (fun g hg => hbD.block g (lt_of_some (row_tag hAs hg).2.choose_spec))
          replace h3 := h3.below rfl hbD
          replace hU := hU.below hbD
          replace hUs := hUs.below rfl hbD
          replace hP := hP.below hbD
          replace hPs := hPs.below rfl hbD
          have hszD := hbD.size
          replace hbA := hbA.trans (hbD.mono (by omega))
          clear hitoa hrf hasC
          go_upto_block 6 with fail
          generalize hB4 : wD.heap.size = B4 at *
          go_cut [43, 44, 47, 48] from 165 to 187 (fun vl vp _ _ w' => (∃ ds ps, DD w' B4 49 51 ibox vl vp B4 ds ps ∧ ds.length ≤ xs3.length ∧ SzOK ds) ∧ Below B4 wD w' ∧ B4 < w'.heap.size)
          case first => as_aux_lemma =>
            go_wp2_with fail
            go_loopw [43, 44, 165] (fun vl vp i wr => (∃ (k : Nat) (ds : List ByteArray) (ps : List Nat), i = .int .i64 k ∧ k ≤ xs3.length ∧ DD wr B4 49 51 ibox vl vp B4 ds ps ∧ ds.length ≤ k ∧ SzOK ds) ∧ Below B4 wD wr ∧ B4 < wr.heap.size) (fun _ _ i _ => xs3.length - (intOf i).toNat)
            case atStart =>
              exact ⟨⟨0, [], [], rfl, Nat.zero_le _, by rw [← hB4]; exact DD.start wD _ (Nat.le_refl _) _ _ _, Nat.le_refl _, fun j => by simp [List.getD]⟩, (Below.refl _ _).alloc (by omega) _, by simp; omega⟩
            case round =>
              obtain ⟨⟨k, ds, ps, rfl, hk, hD, hdk, hdz⟩, hbel, hlt⟩ := hrel
              by_cases hk' : k < xs3.length
              · rcases h3 with rfl | ⟨b, off, rfl, hbw, hc⟩
                · simp at hk'
                · have hcx : wr.cell? ⟨b, off + k, none⟩ = some (.string (xs3.getD k ByteArray.empty)) := (hbel.cell (by show b < B4; omega)).trans (hc k hk')
                  have hns := hs3 k
                  generalize xs3.getD k ByteArray.empty = s at hcx hns
                  obtain ⟨a, cap, rfl, hsat⟩ := row_sat hD.row
                  clear hc hs3
                  by_cases hix : ix ds s < 0
                  · obtain ⟨W2, hst, hm2, hg2, hs2⟩ := PMap.store (w := wr.alloc (.cells (ibox s) 51)) (hD.map.kept (Below.heap_alloc _ _ _ hD.map.lt)) (t := 48) (e := 49) (by kernel_rfl) (by unfold maxLen; omega) s (by unfold maxLen; omega) (by unfold atp; rw [if_pos hix]) wr.heap.size
                    have hst' : (Instr.mapUpdate 48 (.map (some B4)) (.string s) (.pointer (some ⟨wr.heap.size, 0, none⟩))).run Ybaf.prog (wr.alloc (.cells #[.string s, .pointer none, .bool false, .pointer none, .slice none 0 0] 51)) = .ok () W2 := hst
                    clear hst hs2
                    go_upto_region 45 with (go_at_call 5; refine (index_any a cap ds s _ hsat (by omega)).mono ?_; rintro e w' ⟨rfl, hw⟩; replace hw := hw.symm; subst hw)
                    have e2 := hg2.size
                    simp at e2
                    have hlb : B4 ≤ W2.heap.size := by omega
                    have hn6 : ds.length ≤ 1048576 := by omega
                    have hrow2 := hD.row2 (W3 := W2.alloc (.cells #[.string s] 9)) hg2 (fun b hb => Below.heap_alloc _ _ _ hb)
                    go_wp2_with (at_builtin; refine wpList_app1 (P := Ybaf.prog) _ 22 9 (.string ⟨#[]⟩) 16 info9 rfl Ybaf.underlying22 (by decide) (by rfl) _ _ (by rfl) B4 (.slice a ds.length cap) ds.length (ds.map .string) (by rfl) hrow2 W2.heap.size 1 (.string s) (by rfl) ?zu rfl hn6 ?zb ?_)
                    case zu => exact World.cell?_alloc_new _ _ _ _
                    case zb => simp; omega
                    intro g cap2 W4 hr4 hg4 hat4 hlt4
                    have hptr2 := hD.ptr2 (W5 := W4.alloc (.cells #[pt wr.heap.size] 49)) (by decide) hg2 (by simp) (fun b hb => Below.heap_alloc _ _ _ hb) hg4 (fun b hb => Below.heap_alloc _ _ _ hb)
                    have hHid : Hid (((Value.slice a ds.length cap).ownBlock = some g ∨ g = W2.heap.size + 1) ∧ (W2.alloc (.cells #[.string s] 9)).grownBy W4 (Value.slice a ds.length cap).ownBlock) := ⟨hat4, hg4⟩
                    have e4 := hg4.size
                    simp at e4
                    clear hat4 hg4 hrow2
                    go_wp2_with (at_builtin; refine wpList_app1 (P := Ybaf.prog) _ 47 49 (.pointer none) 8 info49 rfl Ybaf.underlying47 (by decide) (by rfl) _ _ (by rfl) B4 u44 ds.length (ps.map pt) (by rfl) hptr2 W4.heap.size 1 (pt wr.heap.size) (by rfl) ?zu rfl hn6 ?zb ?_)
                    case zu => exact World.cell?_alloc_new _ _ _ _
                    case zb => simp; omega
                    intro g6 cap6 W6 hr6 hg6 hat6 hlt6
                    have hR := hD.round (by omega) (by decide) (by decide) (by decide) hix (by unfold maxLen; omega) hm2 hg2 ((Below.refl _ W2).alloc (Nat.le_refl _) _) hr4 hHid.out.2 (fun g' hg' => by
                      have : g = g' := by simpa [Value.ownBlock] using hg'
                      subst this
                      rcases hHid.out.1 with h | h
                      · exact .inl h
                      · right; omega) ((Below.refl _ W4).alloc (Nat.le_refl _) _) hr6 hg6
                    clear hHid hr4 hr6 hg6 hat6 hptr2
                    go_wp2_with fail
                    go_roundw
                    case rel => exact ⟨⟨k + 1, ds ++ [s], ps ++ [wr.heap.size], by go_num, by omega, by simpa using hR.1, by simp; omega, hdz.snoc hns⟩, hbel.trans hR.2.1, by omega⟩
                    case measure => simp [intOf]; omega
                  · go_wp2_with (go_at_call 5; refine (index_any a cap ds s _ hsat (by omega)).mono ?_; rintro e w' ⟨rfl, hw⟩; replace hw := hw.symm; subst hw)
                    go_roundw
                    case rel => exact ⟨⟨k + 1, ds, ps, by go_num, by omega, hD, by omega, hdz⟩, hbel, hlt⟩
                    case measure => simp [intOf]; omega
              · obtain rfl : k = xs3.length := by omega
                go_wp2_with fail
                go_meet
                case rel => exact ⟨⟨ds, ps, hD, hdk, hdz⟩, hbel, hlt⟩
          case rest => as_aux_lemma =>
            obtain ⟨⟨es, eps, hE, hEl, hEz⟩, hbE, hltE⟩ := hcut
            obtain ⟨wE, hwE⟩ : ∃ W, W = wc := ⟨_, rfl⟩
            subst hwE
            obtain ⟨ea, ecap, rfl, hEs⟩ := row_sat hE.row
            have hszE := hbE.size
            clear h3 hs3 hbD
            have hel : es.length ≤ 4096 := by omega
            go_upto_region 48 with fail
            obtain ⟨dd, hdd⟩ : ∃ dd, dd = (dup && decide (ix es rf < 0)) := ⟨_, rfl⟩
            have Hdd : Hid (dd = (dup && decide (ix es rf < 0))) := hdd
            clear hdd
            go_cut [194] from 188 to 194 (fun b w' => b = .bool dd ∧ w' = wE)
            case first => as_aux_lemma =>
              cases dup with
              | false =>
                go_wp2_with fail
                go_meet
                case rel => exact ⟨by rw [Hdd.out]; rfl, rfl⟩
              | true =>
                go_wp2_with (go_at_call 5; refine (index_any ea ecap es rf _ hEs (by omega)).mono ?_; rintro e w' ⟨rfl, hw⟩; replace hw := hw.symm; subst hw)
                go_meet
                case rel => exact ⟨by rw [Hdd.out]; simp, rfl⟩
            case rest => as_aux_lemma =>
              obtain ⟨rfl, hw⟩ := hcut
              replace hw := hw.symm
              subst hw
              go_upto_if 194 with fail
              go_cut [43, 44, 49] from 195 to 208 (fun vl vp _ w' => (∃ ds ps, DD w' B4 49 51 ibox vl vp B4 ds ps ∧ ds.length ≤ es.length + 1) ∧ Below B4 wE w' ∧ B4 < w'.heap.size)
              case first => as_aux_lemma =>
                cases dd with
                | true =>
                  have hix : ix es rf < 0 := by have := Hdd.out; simp at this; exact this.2
                  obtain ⟨W2, hst, hm2, hg2, hs2⟩ := PMap.store (w := wE.alloc (.cells (ibox rf) 51)) (hE.map.kept (Below.heap_alloc _ _ _ hE.map.lt)) (t := 48) (e := 49) (by kernel_rfl) (by unfold maxLen; omega) rf (by unfold maxLen; omega) (by unfold atp; rw [if_pos hix]) wE.heap.size
                  have hst' : (Instr.mapUpdate 48 (.map (some B4)) (.string rf) (.pointer (some ⟨wE.heap.size, 0, none⟩))).run Ybaf.prog (wE.alloc (.cells #[.string rf, .pointer none, .bool false, .pointer none, .slice none 0 0] 51)) = .ok () W2 := hst
                  clear hst hs2
                  go_upto_region 51 with fail
                  have e2 := hg2.size
                  simp at e2
                  have hlb : B4 ≤ W2.heap.size := by omega
                  have hn6 : es.length ≤ 1048576 := by omega
                  have hrow2 := hE.row2 (W3 := W2.alloc (.cells #[.string rf] 9)) hg2 (fun b hb => Below.heap_alloc _ _ _ hb)
                  go_wp2_with (at_builtin; refine wpList_app1 (P := Ybaf.prog) _ 22 9 (.string ⟨#[]⟩) 16 info9 rfl Ybaf.underlying22 (by decide) (by rfl) _ _ (by rfl) B4 (.slice ea es.length ecap) es.length (es.map .string) (by rfl) hrow2 W2.heap.size 1 (.string rf) (by rfl) ?zu rfl hn6 ?zb ?_)
                  case zu => exact World.cell?_alloc_new _ _ _ _
                  case zb => simp; omega
                  intro g cap2 W4 hr4 hg4 hat4 hlt4
                  have hptr2 := hE.ptr2 (W5 := W4.alloc (.cells #[pt wE.heap.size] 49)) (by decide) hg2 (by simp) (fun b hb => Below.heap_alloc _ _ _ hb) hg4 (fun b hb => Below.heap_alloc _ _ _ hb)
                  have hHid : Hid (((Value.slice ea es.length ecap).ownBlock = some g ∨ g = W2.heap.size + 1) ∧ (W2.alloc (.cells #[.string rf] 9)).grownBy W4 (Value.slice ea es.length ecap).ownBlock) := ⟨hat4, hg4⟩
                  have e4 := hg4.size
                  simp at e4
                  clear hat4 hg4 hrow2
                  go_wp2_with (at_builtin; refine wpList_app1 (P := Ybaf.prog) _ 47 49 (.pointer none) 8 info49 rfl Ybaf.underlying47 (by decide) (by rfl) _ _ (by rfl) B4 u44 es.length (eps.map pt) (by rfl) hptr2 W4.heap.size 1 (pt wE.heap.size) (by rfl) ?zu rfl hn6 ?zb ?_)
                  case zu => exact World.cell?_alloc_new _ _ _ _
                  case zb => simp; omega
                  intro g6 cap6 W6 hr6 hg6 hat6 hlt6
                  have hR := hE.round (by omega) (by decide) (by decide) (by decide) hix (by unfold maxLen; omega) hm2 hg2 ((Below.refl _ W2).alloc (Nat.le_refl _) _) hr4 hHid.out.2 (fun g' hg' => by
                    have : g = g' := by simpa [Value.ownBlock] using hg'
                    subst this
                    rcases hHid.out.1 with h | h
                    · exact .inl h
                    · right; omega) ((Below.refl _ W4).alloc (Nat.le_refl _) _) hr6 hg6
                  clear hHid hr4 hr6 hg6 hat6 hptr2
                  go_wp2_with fail
                  go_meet
                  case rel => exact ⟨⟨es ++ [rf], eps ++ [wE.heap.size], by simpa using hR.1, by simp⟩, hR.2.1, by omega⟩
                | false =>
                  go_wp2_with fail
                  go_meet
                  case rel => exact ⟨⟨es, eps, hE, by omega⟩, Below.refl _ _, hltE⟩
              case rest => as_aux_lemma =>
                obtain ⟨⟨fs, fps, hF, hFl⟩, hbF, hltF⟩ := hcut
                obtain ⟨wF, hwF⟩ : ∃ W, W = wc := ⟨_, rfl⟩
                subst hwF
                obtain ⟨fa, fcap, rfl, hFs⟩ := row_sat hF.row
                replace hbF := hbE.trans hbF
                replace hAs := row_kept (w' := wF) hAs (fun g hg => hbF.block g (by have := lt_of_some (row_tag hAs hg).2.choose_spec; omega))
                replace hU := hU.below (by rw [hB4]; exact hbF)
                replace hP := hP.below (by rw [hB4]; exact hbF)
                have hszF := hbF.size
                replace hbA := hbA.trans (hbF.mono (by omega))
                have hfl : fs.length ≤ 4097 := by omega
                clear hE hEs hEz hbE hszE hltE wE hFl hEl hel
                obtain ⟨ns, hns⟩ : ∃ ns : List ByteArray, ns = bs.map (fun b => pk b.toNat us gh) := ⟨_, rfl⟩
                have hnl : ns.length = bs.length := by rw [hns]; simp
                have hnz : SzOK ns := fun j => by
                  rw [hns]
                  rcases Nat.lt_or_ge j bs.length with h | h
                  · have e : (bs.map (fun b => pk b.toNat us gh)).getD j ByteArray.empty = pk bs[j].toNat us gh := by simp [List.getD, List.getElem?_eq_getElem h]
                    rw [e]; exact pk_size _ hUz hgh
                  · have e : (bs.map (fun b => pk b.toNat us gh)).getD j ByteArray.empty = ByteArray.empty := by simp [List.getD, List.getElem?_eq_none (show (bs.map (fun b => pk b.toNat us gh)).length ≤ j by simpa using h)]
                    rw [e]; show 0 ≤ _; omega
                replace hAs : wF.ownsRow B3 9 1 u39 ns.length (ns.map .string) := by rw [hnl, hns, List.map_map]; exact hAs
                obtain ⟨aa, acap, rfl, hNs⟩ := row_sat hAs
                have hnl2 : ns.length ≤ 4096 := by omega
                clear hns hnl hAs hUs hPs hFs
                go_upto_region 53 with fail
                go_cut [50] from 209 to 215 (fun v w' => v = .pointer (some ⟨wF.heap.size + 2, 0, none⟩) ∧ Below wF.heap.size wF w' ∧ wF.heap.size + 2 < w'.heap.size ∧ w'.cell? ⟨wF.heap.size + 2, 0, none⟩ = some (.map (some B1)) ∧ w'.cell? ⟨wF.heap.size + 2, 2, none⟩ = some (.map (some B2)) ∧ w'.cell? ⟨wF.heap.size + 2, 3, none⟩ = some (.map (some B4)))
                case first => as_aux_lemma =>
                  clear hU hP hF hNs hnz
                  go_wp2_with fail
                  go_meet
                  case rel => exact ⟨rfl, (((Below.refl _ _).alloc (Nat.le_refl _) _).alloc (by simp) _).alloc (by simp; omega) _, by simp, cell_new2 _ _ _ _ _ _, cell_new2 _ _ _ _ _ _, cell_new2 _ _ _ _ _ _⟩
                case rest => as_aux_lemma =>
                  obtain ⟨rfl, hbG, hltG, G0, G2, G3⟩ := hcut
                  obtain ⟨wG, hwG⟩ : ∃ W, W = wc := ⟨_, rfl⟩
                  subst hwG
                  replace hU := hU.below hbG
                  replace hP := hP.below hbG
                  replace hF := hF.below hbG
                  replace hNs := hNs.below rfl hbG
                  have hszG := hbG.size
                  replace hbA := hbA.trans (hbG.mono (by omega))
                  generalize wF.heap.size + 2 = sb at *
                  have hFG : F.answers wG.tape := by rw [hbA.tape]; exact hFa
                  have htG : Lib.TabIs Ybaf.prog wG "internal/strconv.uint64pow10" .u64 Lib.pow10Tab := (Lib.tabBelow_of_tabIs htab) _ (by rw [hB1]; exact hbA)
                  have hzG : B4 < wG.heap.size := by omega
                  clear hbG hszG hltF hszF hbF hFa htab
                  obtain ⟨ua', ucap', hue, hUs⟩ := row_sat hU.row
                  obtain ⟨pa', pcap', hpe, hPs⟩ := row_sat hP.row
                  obtain ⟨fa', fcap', hfe, hFs⟩ := row_sat hF.row
                  obtain ⟨rfl, rfl⟩ : ua = ua' ∧ ucap = ucap' := by simpa using hue
                  obtain ⟨rfl, rfl⟩ : pa = pa' ∧ pcap = pcap' := by simpa using hpe
                  obtain ⟨rfl, rfl⟩ : fa = fa' ∧ fcap = fcap' := by simpa using hfe
                  clear hue hpe hfe
                  go_upto_region 55 with (go_at_call 5; refine (index_any pa pcap pl pj _ hPs (by omega)).mono ?_; rintro e w' ⟨rfl, hw⟩; replace hw := hw.symm; subst hw)
                  go_upto_region 56 with (go_at_call 5; refine (index_any ua ucap us au _ hUs (by omega)).mono ?_; rintro e w' ⟨rfl, hw⟩; replace hw := hw.symm; subst hw)
                  obtain ⟨ok0, Hok0⟩ : ∃ ok0, Hid (ok0 = (decide (0 ≤ ix pl pj) && decide (ix fs rf < 0) && decide (0 ≤ ix us au))) := ⟨_, rfl⟩
                  go_cut [53] from 222 to 233 (fun b w' => b = .bool ok0 ∧ w' = wG)
                  case first => as_aux_lemma =>
                    by_cases hc1 : 0 ≤ ix pl pj
                    · by_cases hc2 : ix fs rf < 0
                      · go_wp2_with (go_at_call 5; refine (index_any fa fcap fs rf _ hFs (by omega)).mono ?_; rintro e w' ⟨rfl, hw⟩; replace hw := hw.symm; subst hw)
                        go_meet
                        case rel => exact ⟨by rw [Hok0.out]; simp [hc1, hc2], rfl⟩
                      · go_wp2_with (go_at_call 5; refine (index_any fa fcap fs rf _ hFs (by omega)).mono ?_; rintro e w' ⟨rfl, hw⟩; replace hw := hw.symm; subst hw)
                        go_meet
                        case rel => exact ⟨by rw [Hok0.out]; simp [hc1]; omega, rfl⟩
                    · have hc1' : ix pl pj < 0 := by omega
                      go_wp2_with fail
                      go_meet
                      case rel => exact ⟨by rw [Hok0.out]; simp; omega, rfl⟩
                  case rest => as_aux_lemma =>
                    obtain ⟨rfl, hw⟩ := hcut
                    replace hw := hw.symm
                    subst hw
                    go_upto_if 234 with fail
                    generalize hB5 : wG.heap.size = B5 at *
                    go_cut [53, 54, 56, 57, 58, 60] from 235 to 261 (fun b sv _ _ _ _ w' => b = .bool (ok0 && (sn us ns []).isSome) ∧ (∀ l, ok0 = true → sn us ns [] = some l → w'.ownsRow B5 3 1 sv l.length (l.map (fun j : Nat => .int .i64 j)) ∧ ∀ j ∈ l, j < us.length) ∧ Below B5 wG w')
                    case first => as_aux_lemma =>
                      clear hU hP hF G0 G2 G3
                      cases ok0 with
                      | false =>
                        go_wp2_with fail
                        go_meet
                        case rel => exact ⟨rfl, fun l h => Bool.noConfusion h, Below.refl _ _⟩
                      | true =>
                        go_wp2_with fail
                        go_loopw [53, 54, 237] (fun b sv i wr => b = .bool true ∧ (∃ (k : Nat) (acc : List Nat), i = .int .i64 k ∧ k ≤ ns.length ∧ sn us ns [] = sn us (ns.drop k) acc ∧ (∀ j ∈ acc, j < us.length) ∧ acc.length ≤ k ∧ wr.ownsRow B5 3 1 sv acc.length (acc.map (fun j : Nat => .int .i64 j))) ∧ Below B5 wG wr) (fun _ _ i _ => ns.length - (intOf i).toNat)
                        case atStart => exact ⟨rfl, ⟨0, [], rfl, Nat.zero_le _, rfl, by simp, Nat.le_refl _, ⟨rfl, .inl ⟨rfl, rfl⟩⟩⟩, Below.refl _ _⟩
                        case round =>
                          obtain ⟨rfl, ⟨k, acc, rfl, hk, hsn, hacc, hakl, hrow⟩, hbr⟩ := hrel
                          by_cases hk' : k < ns.length
                          · rw [sn_step hk'] at hsn
                            have hnk := hnz k
                            rcases hNs with rfl | ⟨b, off, rfl, hbw, hc⟩
                            · simp at hk'
                            · have hcx : wr.cell? ⟨b, off + k, none⟩ = some (.string (ns.getD k ByteArray.empty)) := (hbr.cell (by show b < B5; omega)).trans (hc k hk')
                              generalize ns.getD k ByteArray.empty = s at hcx hnk hsn
                              have hidx := index_any ua ucap us s wr (hUs.below hB5 hbr) (by omega)
                              have hszr := hbr.size
                              clear hc hnk hUs hPs hFs hbA hnz
                              by_cases hix : ix us s < 0
                              · rw [if_pos hix] at hsn
                                go_wp2_with (go_at_call 5; refine hidx.mono ?_; rintro e w' ⟨rfl, hw⟩; replace hw := hw.symm; subst hw)
                                go_meet
                                case rel => exact ⟨by rw [hsn]; rfl, fun l _ h => (by rw [hsn] at h; cases h), hbr⟩
                              · rw [if_neg hix] at hsn
                                have hjb := ix_bd us s
                                obtain ⟨j, hj⟩ : ∃ j : Nat, ix us s = j := ⟨(ix us s).toNat, by omega⟩
                                rw [hj] at hidx hsn
                                have hjl : j < us.length := by omega
                                rw [Int.toNat_natCast] at hsn
                                clear hix hjb hj
                                obtain ⟨va, vcap, rfl, hv⟩ := row_form hrow
                                go_upto_block 10 with (go_at_call 5; refine hidx.mono ?_; rintro e w' ⟨rfl, hw⟩; replace hw := hw.symm; subst hw)
                                clear hidx
                                obtain ⟨dd, Hdd⟩ : ∃ dd, Hid (dd = decide (j ∈ acc)) := ⟨_, rfl⟩
                                go_cut [58, 60] from 248 to 255 (fun f _ w' => f = .bool dd ∧ w' = wr)
                                case first => as_aux_lemma =>
                                  go_wp2_with fail
                                  go_loopw [58, 248] (fun f i w' => (∃ (m : Nat) (bb : Bool), f = .bool bb ∧ i = .int .i64 m ∧ m ≤ acc.length ∧ (bb = true ↔ ∃ t, t < m ∧ acc.getD t 0 = j)) ∧ w' = wr) (fun _ i _ => acc.length - (intOf i).toNat)
                                  case atStart => exact ⟨⟨0, false, rfl, rfl, Nat.zero_le _, ⟨fun h => Bool.noConfusion h, fun ⟨t, ht, _⟩ => absurd ht (Nat.not_lt_zero _)⟩⟩, rfl⟩
                                  case round =>
                                    obtain ⟨⟨m, bb, rfl, rfl, hm, hout⟩, hw⟩ := hrel
                                    replace hw := hw.symm
                                    subst hw
                                    by_cases hm' : m < acc.length
                                    · rcases hv with h0 | ⟨g, rfl, hg1, hg2, hc⟩
                                      · omega
                                      · have hcx := hc m hm'
                                        rw [show (acc.map (fun j : Nat => Value.int .i64 j))[m]? = some (.int .i64 (acc.getD m 0 : Nat)) from by simp [List.getD, List.getElem?_eq_getElem hm']] at hcx
                                        obtain ⟨x, hx⟩ : ∃ x, acc.getD m 0 = x := ⟨_, rfl⟩
                                        rw [hx] at hcx
                                        have HX : Hid (acc.getD m 0 = x) := hx
                                        have Hout : Hid (bb = true ↔ ∃ t, t < m ∧ acc.getD t 0 = j) := hout
                                        clear hx hc hout
                                        by_cases hxj : x = j
                                        · subst hxj
                                          go_wp2_with fail
                                          go_roundw
                                          case rel => exact ⟨⟨m + 1, true, rfl, by go_num, by omega, ⟨fun _ => ⟨m, by omega, HX.out⟩, fun _ => rfl⟩⟩, trivial⟩
                                          case measure => simp [intOf]; omega
                                        · have hxj' : (x : Int) ≠ j := by omega
                                          go_wp2_with fail
                                          go_roundw
                                          case rel =>
                                            exact ⟨⟨m + 1, bb, rfl, by go_num, by omega, ⟨fun h => by
                                              obtain ⟨t, ht, e⟩ := Hout.out.1 h
                                              exact ⟨t, by omega, e⟩, fun ⟨t, ht, e⟩ => Hout.out.2 (by
                                              rcases Nat.lt_or_ge t m with h | h
                                              · exact ⟨t, h, e⟩
                                              · obtain rfl : t = m := by omega
                                                exact absurd (HX.out.symm.trans e) hxj)⟩⟩, trivial⟩
                                          case measure => simp [intOf]; omega
                                    · obtain rfl : m = acc.length := by omega
                                      go_wp2_with fail
                                      go_meet
                                      case rel =>
                                        refine ⟨?_, rfl⟩
                                        have : bb = decide (j ∈ acc) := by
                                          by_cases h : j ∈ acc
                                          · rw [decide_eq_true h]
                                            obtain ⟨t, ht, e⟩ := List.getElem_of_mem h
                                            exact hout.2 ⟨t, ht, by rw [List.getD, List.getElem?_eq_getElem ht]; simpa using e⟩
                                          · rw [decide_eq_false h]
                                            cases bb with
                                            | false => rfl
                                            | true =>
                                              obtain ⟨t, ht, e⟩ := hout.1 rfl
                                              exact absurd (by rw [← e]; simp [List.getD, List.getElem?_eq_getElem ht]) h
                                        rw [Hdd.out, this]
                                case rest => as_aux_lemma =>
                                  obtain ⟨rfl, hw⟩ := hcut
                                  replace hw := hw.symm
                                  subst hw
                                  cases dd with
                                  | true =>
                                    have h0 : j ∈ acc := of_decide_eq_true Hdd.out.symm
                                    rw [if_pos h0] at hsn
                                    go_wp2_with fail
                                    go_meet
                                    case rel => exact ⟨by rw [hsn]; rfl, fun l _ h => (by rw [hsn] at h; cases h), hbr⟩
                                  | false =>
                                    have h0 : j ∉ acc := of_decide_eq_false Hdd.out.symm
                                    rw [if_neg h0] at hsn
                                    have hrow2 : (wr.alloc (.cells #[.int .i64 (j : Int)] 3)).ownsRow B5 3 1 (.slice va acc.length vcap) acc.length (acc.map (fun j : Nat => .int .i64 j)) := row_kept hrow (fun g hg => Below.heap_alloc _ _ _ (lt_of_some (row_tag hrow hg).2.choose_spec))
                                    have hrB : ∀ g, (Value.slice va acc.length vcap).ownBlock = some g → B5 ≤ g := fun g hg => (row_tag hrow hg).1
                                    have hn6 : acc.length ≤ 1048576 := by omega
                                    have hzz : B5 ≤ (wr.alloc (.cells #[.int .i64 (j : Int)] 3)).heap.size := by simp; omega
                                    clear hrow hv
                                    go_wp2_with (at_builtin; refine wpList_app1 (P := Ybaf.prog) _ 58 3 (.int .i64 0) 8 info3 rfl Ybaf.underlying58 (by decide) (by rfl) _ _ (by rfl) B5 (.slice va acc.length vcap) acc.length _ (by rfl) hrow2 wr.heap.size 1 (.int .i64 (j : Int)) (by rfl) ?zu rfl hn6 hzz ?_)
                                    case zu => exact World.cell?_alloc_new _ _ _ _
                                    intro g cap4 W4 hr4 hg4 hat4 hlt4
                                    have hb4 := (hbr.alloc (by omega) _).grown hg4 hzz hrB
                                    clear hg4 hat4 hrow2
                                    go_wp2_with fail
                                    go_roundw
                                    case rel =>
                                      exact ⟨rfl, ⟨k + 1, acc ++ [j], by go_num, by omega, hsn, fun i hi => by
                                        rcases List.mem_append.1 hi with h | h
                                        · exact hacc i h
                                        · rw [List.mem_singleton.1 h]; exact hjl, by simp; omega, by simpa using hr4⟩, hb4⟩
                                    case measure => simp [intOf]; omega
                          · obtain rfl : k = ns.length := by omega
                            rw [List.drop_length] at hsn
                            go_wp2_with fail
                            go_meet
                            case rel => exact ⟨by rw [hsn]; rfl, fun l _ h => (by rw [hsn] at h; cases h; exact ⟨hrow, hacc⟩), hbr⟩
                    case rest => as_aux_lemma =>
                      obtain ⟨rfl, hsv, hbH⟩ := hcut
                      obtain ⟨wH, hwH⟩ : ∃ W, W = wc := ⟨_, rfl⟩
                      subst hwH
                      obtain ⟨ok, Hok⟩ : ∃ ok, Hid ((ok0 && (sn us ns []).isSome) = ok) := ⟨_, rfl⟩
                      rw [Hok.out]
                      replace hU := hU.below (by rw [hB5]; exact hbH)
                      replace hP := hP.below (by rw [hB5]; exact hbH)
                      replace hF := hF.below (by rw [hB5]; exact hbH)
                      replace hNs := hNs.below hB5 hbH
                      have hszH := hbH.size
                      replace hbA := hbA.trans (hbH.mono (by omega))
                      replace hFG : F.answers wH.tape := by rw [hbH.tape]; exact hFG
                      replace htG : Lib.TabIs Ybaf.prog wH "internal/strconv.uint64pow10" .u64 Lib.pow10Tab := (Lib.tabBelow_of_tabIs htG) _ (by rw [hB5]; exact hbH)
                      replace G0 := (hbH.cell (p := ⟨sb, 0, none⟩) hltG).trans G0
                      replace G2 := (hbH.cell (p := ⟨sb, 2, none⟩) hltG).trans G2
                      replace G3 := (hbH.cell (p := ⟨sb, 3, none⟩) hltG).trans G3
                      have hsv2 : ∀ l, ok = true → sn us ns [] = some l → (wH.ownsRow B5 3 1 u54 l.length (l.map (fun j : Nat => .int .i64 j)) ∧ ∀ j ∈ l, j < us.length) := fun l h e => hsv l (by have h' := Hok.out; rw [h] at h'; cases ok0 with | true => rfl | false => cases h') e
                      clear hsv hUs hPs hFs hbH
                      have hadd := add_any F sb B1 B2 B4 us ups pl pps fs fps pj au iid conf aa acap ns rf st wH hFG htG hi0 hi1 G0 G2 G3 (by omega) hU.map hP.map hF.map (by omega) hfl hnl2 hU.cel (hU.inj ubox_inj) hNs hnz hpj hau Hrf.out hrfs Hst.out
                      unfold ent at hadd
                      go_upto_region 76 with fail
                      go_cut [61] from 262 to 269 (fun v w' => (ok = true ∧ v = .nilIface ∧ ∃ l ib vv, sn us ns [] = some l ∧ ix fs rf < 0 ∧ AddPost wH w' B4 fs fps rf (pps.getD (ix pl pj).toNat 0) (ups.getD (ix us au).toNat 0) conf (l.map (fun j => ups.getD j 0)) ib vv) ∨ (ok = false ∧ (∃ a, v = .iface 95 (.pointer (some a))) ∧ Below wH.heap.size wH w'))
                      case first => as_aux_lemma =>
                        go_wp2_with (go_at_call 8; refine hadd.mono ?zy)
                        case zy =>
                          clear hadd hU hP hF hNs G0 G2 G3
                          rintro e w' (⟨rfl, h1, h2, h3, l, ib, vv, h4, h5⟩ | ⟨⟨a, rfl⟩, h1, h2⟩)
                          · go_wp2_with fail
                            go_meet
                            case rel => exact .inl ⟨by rw [← Hok.out, Hok0.out, h4, decide_eq_true h1, decide_eq_true h2, decide_eq_true h3]; rfl, rfl, l, ib, vv, h4, h2, h5⟩
                          · go_wp2_with fail
                            go_meet
                            case rel =>
                              refine .inr ⟨?_, ⟨a, rfl⟩, h2⟩
                              cases hok : ok with
                              | false => rfl
                              | true =>
                                have h' := Hok.out
                                rw [hok, Hok0.out] at h'
                                simp at h'
                                exact absurd ⟨h'.1.1.1, h'.1.1.2, h'.1.2, h'.2⟩ h1
                      case rest => as_aux_lemma =>
                        clear hadd
                        obtain ⟨wI, hwI⟩ : ∃ W, W = wc := ⟨_, rfl⟩
                        subst hwI
                        have hmB4 := hF.map.isMap
                        obtain ⟨hkb, hszI, hbI⟩ : (∀ b, b < wH.heap.size → some b ≠ some B4 → wI.heap[b]? = wH.heap[b]?) ∧ wH.heap.size ≤ wI.heap.size ∧ Below B4 wH wI := by
                          rcases hcut with ⟨_, _, l, ib, vv, _, _, h⟩ | ⟨_, _, h⟩
                          · exact ⟨h.keep.block, h.keep.size, (Below.refl _ _).grown h.keep (by omega) (by intro k hk; simp at hk; omega)⟩
                          · exact ⟨fun b hb _ => h.block b hb, h.size, h.mono (by omega)⟩
                        replace hbA := hbA.trans (hbI.mono (by omega))
                        have hM : ∃ f c, PMap wI B4 f c ∧ (∀ k, k < fs.length → f (fs.getD k ByteArray.empty) = some (fps.getD k 0)) ∧ c ≤ 5000 ∧ (ok = false → c = fs.length) ∧ (ok = true → c = fs.length + 1 ∧ ∃ l ib vv, sn us ns [] = some l ∧ f rf = some ib ∧ wI.heap[ib]? = some (.cells #[.string rf, pt (pps.getD (ix pl pj).toNat 0), .bool conf, pt (ups.getD (ix us au).toNat 0), vv] 51 (0, 0)) ∧ wI.ownsRow wH.heap.size 27 1 vv (l.map (fun j => ups.getD j 0)).length ((l.map (fun j => ups.getD j 0)).map pt)) := by
                          rcases hcut with ⟨h1, _, l, ib, vv, h2, h3, h⟩ | ⟨h1, _, h⟩
                          · refine ⟨_, _, h.map, fun k hk => ?_, by omega, fun e => (by rw [h1] at e; cases e), fun _ => ⟨rfl, l, ib, vv, h2, ?_, h.box, h.row⟩⟩
                            · show (if _ then _ else _) = _
                              rw [if_neg (ne_of_ix h3 (hF.own k hk))]; exact hF.at k hk
                            · show (if _ then _ else _) = _
                              rw [if_pos rfl]
                          · exact ⟨_, _, hF.map.kept (h.block B4 hF.map.lt), hF.at, by omega, fun _ => rfl, fun e => (by rw [h1] at e; cases e)⟩
                        replace hsv2 : ∀ l, ok = true → sn us ns [] = some l → (wI.ownsRow B5 3 1 u54 l.length (l.map (fun j : Nat => .int .i64 j)) ∧ ∀ j ∈ l, j < us.length) := fun l h e => ⟨row_other (hsv2 l h e).1 hmB4 hkb, (hsv2 l h e).2⟩
                        have hFr := row_other hF.row hmB4 hkb
                        have hFp := row_other hF.ptr hmB4 hkb
                        have hFb : ∀ k, k < fs.length → wI.heap[fps.getD k 0]? = some (.cells (ibox (fs.getD k ByteArray.empty)) 51 (0, 0)) := fun k hk => box_other (hF.box k hk).2 hmB4 hkb
                        have hFln := hF.len
                        have hFsz := hF.sz
                        replace hU := hU.other hmB4 (by omega) hkb
                        replace hP := hP.other hmB4 (by omega) hkb
                        have hv61 : (ok = true ∧ u61 = .nilIface) ∨ (ok = false ∧ ∃ a, u61 = .iface 95 (.pointer (some a))) := by
                          rcases hcut with ⟨h1, h2, _⟩ | ⟨h1, h2, _⟩
                          · exact .inl ⟨h1, h2⟩
                          · exact .inr ⟨h1, h2⟩
                        clear hcut hmB4 hkb hF hszI hbI hNs G0 G2 G3 hFG htG
                        go_upto_region 77 with fail
                        go_cut [273] from 270 to 273 (fun b w' => b = .bool false ∧ w' = wI)
                        case first => as_aux_lemma =>
                          rcases hv61 with ⟨rfl, rfl⟩ | ⟨rfl, a, rfl⟩
                          · go_wp2_with fail
                            go_meet
                            case rel => exact ⟨rfl, rfl⟩
                          · go_wp2_with fail
                            go_meet
                            case rel => exact ⟨rfl, rfl⟩
                        case rest => as_aux_lemma =>
                          obtain ⟨rfl, hw⟩ := hcut
                          replace hw := hw.symm
                          subst hw
                          have l1 := hU.map.len (t := 25) (e := 27) (by kernel_rfl) 3
                          have l2 := hP.map.len (t := 34) (e := 35) (by kernel_rfl) 3
                          go_upto_block 12 with fail
                          clear l1 l2
                          go_cut [62] from 286 to 316 (fun _ w' => w'.heap = wI.heap ∧ Below B1 w w')
                          case first => as_aux_lemma =>
                            clear hP hM hFr hFp hFb hsv2
                            obtain ⟨a', cap', he', hn⟩ := hU.names
                            obtain ⟨rfl, rfl⟩ : ua = a' ∧ ucap = cap' := by simpa using he'
                            obtain ⟨pa2, pcap2, rfl, hp⟩ := hU.ptrs
                            clear he'
                            go_wp2_with fail
                            go_loopw [62] (fun i wr => (∃ k : Nat, i = .int .i64 k ∧ k ≤ us.length) ∧ wr.heap = wI.heap ∧ Below B1 w wr) (fun i _ => us.length - (intOf i).toNat)
                            case atStart => exact ⟨⟨0, rfl, Nat.zero_le _⟩, by first | rfl | exact hJ, hbA⟩
                            case round =>
                              obtain ⟨⟨k, rfl, hk⟩, hwh, hbr⟩ := hrel
                              by_cases hk' : k < us.length
                              · rcases hn with h0 | ⟨ug, rfl, hu1, hu2⟩
                                · omega
                                · rcases hp with h0 | ⟨pg, rfl, hp1, hp2⟩
                                  · omega
                                  · have hcl : ∀ a : Addr, wr.cell? a = wI.cell? a := fun a => World.cell?_of_block (by rw [hwh])
                                    have c1 := (hcl _).trans (hu2 k hk')
                                    have c2 := (hcl _).trans (hp2 k hk')
                                    have c3 := (hcl ⟨ups.getD k 0, 0, none⟩).trans (cell_of_row wI _ 0 _ _ _ (hU.box k hk').2)
                                    have hz := hU.sz k hk'
                                    have lk : ∀ n, (Instr.lookup 25 (.map (some B1)) (.string (us.getD k ByteArray.empty)) false).run Ybaf.prog (wr.drewN n) = .ok (.pointer (YbulkfnteFmt.pa (atp us ups (us.getD k ByteArray.empty)))) (wr.drewN n) := fun n => (hU.map.kept (w' := wr.drewN n) (by show wr.heap[_]? = _; rw [hwh])).look25 _ hz
                                    rw [hU.at k hk'] at lk
                                    have c3' : wr.cell? ⟨ups.getD k 0, 0, none⟩ = some (.string (us.getD k ByteArray.empty)) := c3
                                    have Hwh : Hid (wr.heap = wI.heap) := hwh
                                    clear c3 hcl hu2 hp2 hwh hU
                                    have lk' : ∀ n, (Instr.lookup 25 (.map (some B1)) (.string (us.getD k ByteArray.empty)) false).run Ybaf.prog (wr.drewN n) = .ok (.pointer (some ⟨ups.getD k 0, 0, none⟩)) (wr.drewN n) := lk
                                    clear lk
                                    have nq := nq27
                                    generalize us.getD k ByteArray.empty = s at *
                                    generalize ups.getD k 0 = p at *
                                    go_upto_region 84 with fail
                                    go_quiet (fail)
                                    go_wp2_with fail
                                    go_roundw
                                    case rel => exact ⟨⟨k + 1, by go_num, by omega⟩, Hwh.out, ⟨hbr.os, hbr.tape, hbr.output, hbr.size, hbr.block⟩⟩
                                    case measure => simp [intOf]; omega
                              · obtain rfl : k = us.length := by omega
                                go_wp2_with fail
                                go_meet
                                case rel => exact ⟨hwh, hbr⟩
                          case rest => as_aux_lemma =>
                            obtain ⟨hJ, hbJ⟩ := hcut
                            obtain ⟨wJ, hwJ⟩ : ∃ W, W = wc := ⟨_, rfl⟩
                            subst hwJ
                            clear hbA
                            go_upto_block 14 with fail
                            go_cut [63] from 317 to 347 (fun _ w' => w'.heap = wI.heap ∧ Below B1 w w')
                            case first => as_aux_lemma =>
                              have hbA := hbJ
                              clear hU hM hFr hFp hFb hsv2
                              obtain ⟨a', cap', he', hn⟩ := hP.names
                              obtain ⟨rfl, rfl⟩ : pa = a' ∧ pcap = cap' := by simpa using he'
                              obtain ⟨pa2, pcap2, rfl, hp⟩ := hP.ptrs
                              clear he'
                              go_wp2_with fail
                              go_loopw [63] (fun i wr => (∃ k : Nat, i = .int .i64 k ∧ k ≤ pl.length) ∧ wr.heap = wI.heap ∧ Below B1 w wr) (fun i _ => pl.length - (intOf i).toNat)
                              case atStart => exact ⟨⟨0, rfl, Nat.zero_le _⟩, by first | rfl | exact hJ, hbA⟩
                              case round =>
                                obtain ⟨⟨k, rfl, hk⟩, hwh, hbr⟩ := hrel
                                by_cases hk' : k < pl.length
                                · rcases hn with h0 | ⟨ug, rfl, hu1, hu2⟩
                                  · omega
                                  · rcases hp with h0 | ⟨pg, rfl, hp1, hp2⟩
                                    · omega
                                    · have hcl : ∀ a : Addr, wr.cell? a = wI.cell? a := fun a => World.cell?_of_block (by rw [hwh])
                                      have c1 := (hcl _).trans (hu2 k hk')
                                      have c2 := (hcl _).trans (hp2 k hk')
                                      have c3 := (hcl ⟨pps.getD k 0, 0, none⟩).trans (cell_of_row wI _ 0 _ _ _ (hP.box k hk').2)
                                      have hz := hP.sz k hk'
                                      have lk : ∀ n, (Instr.lookup 34 (.map (some B2)) (.string (pl.getD k ByteArray.empty)) false).run Ybaf.prog (wr.drewN n) = .ok (.pointer (YbulkfnteFmt.pa (atp pl pps (pl.getD k ByteArray.empty)))) (wr.drewN n) := fun n => (hP.map.kept (w' := wr.drewN n) (by show wr.heap[_]? = _; rw [hwh])).look34 _ hz
                                      rw [hP.at k hk'] at lk
                                      have c3' : wr.cell? ⟨pps.getD k 0, 0, none⟩ = some (.string (pl.getD k ByteArray.empty)) := c3
                                      have Hwh : Hid (wr.heap = wI.heap) := hwh
                                      clear c3 hcl hu2 hp2 hwh hP
                                      have lk' : ∀ n, (Instr.lookup 34 (.map (some B2)) (.string (pl.getD k ByteArray.empty)) false).run Ybaf.prog (wr.drewN n) = .ok (.pointer (some ⟨pps.getD k 0, 0, none⟩)) (wr.drewN n) := lk
                                      clear lk
                                      have nq := nq35
                                      generalize pl.getD k ByteArray.empty = s at *
                                      generalize pps.getD k 0 = p at *
                                      go_upto_region 89 with fail
                                      go_quiet (fail)
                                      go_wp2_with fail
                                      go_roundw
                                      case rel => exact ⟨⟨k + 1, by go_num, by omega⟩, Hwh.out, ⟨hbr.os, hbr.tape, hbr.output, hbr.size, hbr.block⟩⟩
                                      case measure => simp [intOf]; omega
                                · obtain rfl : k = pl.length := by omega
                                  go_wp2_with fail
                                  go_meet
                                  case rel => exact ⟨hwh, hbr⟩
                            case rest => as_aux_lemma =>
                              obtain ⟨hK, hbK⟩ := hcut
                              obtain ⟨wK, hwK⟩ : ∃ W, W = wc := ⟨_, rfl⟩
                              subst hwK
                              clear hbJ hJ wJ
                              obtain ⟨f, c, hM, hMf, hcb, hM0, hM1⟩ := hM
                              go_upto_block 16 with fail
                              go_cut [64, 65] from 348 to 404 (fun _ _ w' => w'.heap = wI.heap ∧ Below B1 w w')
                              case first => as_aux_lemma =>
                                clear hU hP hM0 hM1 hsv2
                                obtain ⟨a', cap', he', hn⟩ := row_names hFr
                                obtain ⟨rfl, rfl⟩ : fa = a' ∧ fcap = cap' := by simpa using he'
                                obtain ⟨pa2, pcap2, rfl, hp⟩ := row_ptrs hFln hFp
                                clear he'
                                go_wp2_with fail
                                go_loopw [64] (fun i wr => (∃ k : Nat, i = .int .i64 k ∧ k ≤ fs.length) ∧ wr.heap = wI.heap ∧ Below B1 w wr) (fun i _ => fs.length - (intOf i).toNat)
                                case atStart => exact ⟨⟨0, rfl, Nat.zero_le _⟩, hK, hbK⟩
                                case round =>
                                  obtain ⟨⟨k, rfl, hk⟩, hwh, hbr⟩ := hrel
                                  by_cases hk' : k < fs.length
                                  · rcases hn with h0 | ⟨ug, rfl, hu1, hu2⟩
                                    · omega
                                    · rcases hp with h0 | ⟨pg, rfl, hp1, hp2⟩
                                      · omega
                                      · have hcl : ∀ a : Addr, wr.cell? a = wI.cell? a := fun a => World.cell?_of_block (by rw [hwh])
                                        have c1 := (hcl _).trans (hu2 k hk')
                                        have c2 := (hcl _).trans (hp2 k hk')
                                        have d0 : wr.cell? ⟨fps.getD k 0, 0, none⟩ = some (.string (fs.getD k ByteArray.empty)) := (hcl ⟨fps.getD k 0, 0, none⟩).trans (cell_of_row wI _ 0 _ _ _ (hFb k hk'))
                                        have d1 : wr.cell? ⟨fps.getD k 0, 1, none⟩ = some (.pointer none) := (hcl ⟨fps.getD k 0, 1, none⟩).trans (cell_of_row wI _ 1 _ _ _ (hFb k hk'))
                                        have d2 : wr.cell? ⟨fps.getD k 0, 2, none⟩ = some (.bool false) := (hcl ⟨fps.getD k 0, 2, none⟩).trans (cell_of_row wI _ 2 _ _ _ (hFb k hk'))
                                        have d3 : wr.cell? ⟨fps.getD k 0, 3, none⟩ = some (.pointer none) := (hcl ⟨fps.getD k 0, 3, none⟩).trans (cell_of_row wI _ 3 _ _ _ (hFb k hk'))
                                        have d4 : wr.cell? ⟨fps.getD k 0, 4, none⟩ = some (.slice none 0 0) := (hcl ⟨fps.getD k 0, 4, none⟩).trans (cell_of_row wI _ 4 _ _ _ (hFb k hk'))
                                        have hz := hFsz k hk'
                                        have lk : ∀ n, (Instr.lookup 48 (.map (some B4)) (.string (fs.getD k ByteArray.empty)) false).run Ybaf.prog (wr.drewN n) = .ok (.pointer (YbulkfnteFmt.pa (f (fs.getD k ByteArray.empty)))) (wr.drewN n) := fun n => (hM.kept (w' := wr.drewN n) (by show wr.heap[_]? = _; rw [hwh])).look48 _ hz
                                        rw [hMf k hk'] at lk
                                        have Hwh : Hid (wr.heap = wI.heap) := hwh
                                        clear hcl hu2 hp2 hwh hMf hFb hFsz hFr hFp hM
                                        have lk' : ∀ n, (Instr.lookup 48 (.map (some B4)) (.string (fs.getD k ByteArray.empty)) false).run Ybaf.prog (wr.drewN n) = .ok (.pointer (some ⟨fps.getD k 0, 0, none⟩)) (wr.drewN n) := lk
                                        clear lk
                                        have nq := nq49
                                        generalize fs.getD k ByteArray.empty = s at *
                                        generalize fps.getD k 0 = p at *
                                        go_upto_region 95 with fail
                                        go_quiet (fail)
                                        go_wp2_with fail
                                        go_roundw
                                        case rel => exact ⟨⟨k + 1, by go_num, by omega⟩, Hwh.out, ⟨hbr.os, hbr.tape, hbr.output, hbr.size, hbr.block⟩⟩
                                        case measure => simp [intOf]; omega
                                  · obtain rfl : k = fs.length := by omega
                                    go_wp2_with fail
                                    go_meet
                                    case rel => exact ⟨hwh, hbr⟩
                              case rest => as_aux_lemma =>
                                obtain ⟨hL, hbL⟩ := hcut
                                obtain ⟨wL, hwL⟩ : ∃ W, W = wc := ⟨_, rfl⟩
                                subst hwL
                                clear hbK hK wK hMf hFb hFp hFr hFsz
                                have hML : PMap wL B4 f c := hM.kept (by rw [hL])
                                have l3 := hML.len (t := 48) (e := 49) (by kernel_rfl) 3
                                cases ok with
                                | false =>
                                  obtain rfl : c = fs.length := hM0 rfl
                                  clear hU hP hM hM1 hML hM0 hsv2
                                  go_wp2_with fail
                                  go_ret
                                  exact ⟨by simp, by first | exact hbL | (rw [hB1]; exact hbL)⟩
                                | true =>
                                  obtain ⟨hc1, l, ib, vv, hsn, hfr, hbox, hrv⟩ := hM1 rfl
                                  subst hc1
                                  obtain ⟨hsl, hsb⟩ := hsv2 l rfl hsn
                                  have hok := Hok.out
                                  rw [Hok0.out] at hok
                                  simp at hok
                                  obtain ⟨i1, hi1⟩ : ∃ i1 : Nat, ix pl pj = i1 := ⟨(ix pl pj).toNat, by omega⟩
                                  obtain ⟨i2, hi2⟩ : ∃ i2 : Nat, ix us au = i2 := ⟨(ix us au).toNat, by omega⟩
                                  have hb1 := ix_bd pl pj
                                  have hb2 := ix_bd us au
                                  have hi1l : i1 < pl.length := by omega
                                  have hi2l : i2 < us.length := by omega
                                  rw [hi1, hi2] at hbox
                                  rw [hi1, hi2]
                                  obtain ⟨paP, pcapP, rfl, hpP⟩ := hP.ptrs
                                  obtain ⟨paU, pcapU, rfl, hpU⟩ := hU.ptrs
                                  rcases hpP with h0 | ⟨pg, rfl, _, hpP⟩
                                  · omega
                                  rcases hpU with h0 | ⟨ug, rfl, _, hpU⟩
                                  · omega
                                  rw [List.length_map, List.map_map] at hrv
                                  obtain ⟨sa, scap, rfl, hsS⟩ := row_ints hsl
                                  obtain ⟨va, vcap, rfl, hvV⟩ := row_form hrv
                                  have hcl : ∀ a : Addr, wL.cell? a = wI.cell? a := fun a => World.cell?_of_block (by rw [hL])
                                  have p1 := (hcl _).trans (hpP i1 hi1l)
                                  have p2 := (hcl _).trans (hpU i2 hi2l)
                                  have d0 : wL.cell? ⟨ib, 0, none⟩ = some (.string rf) := (hcl _).trans (cell_of_row wI _ 0 _ _ _ hbox)
                                  have d1 : wL.cell? ⟨ib, 1, none⟩ = some (.pointer (some ⟨pps.getD i1 0, 0, none⟩)) := (hcl _).trans (cell_of_row wI _ 1 _ _ _ hbox)
                                  have d2 : wL.cell? ⟨ib, 2, none⟩ = some (.bool conf) := (hcl _).trans (cell_of_row wI _ 2 _ _ _ hbox)
                                  have d3 : wL.cell? ⟨ib, 3, none⟩ = some (.pointer (some ⟨ups.getD i2 0, 0, none⟩)) := (hcl _).trans (cell_of_row wI _ 3 _ _ _ hbox)
                                  have d4 : wL.cell? ⟨ib, 4, none⟩ = some (.slice va l.length vcap) := (hcl _).trans (cell_of_row wI _ 4 _ _ _ hbox)
                                  have lk : (Instr.lookup 48 (.map (some B4)) (.string rf) false).run Ybaf.prog wL = .ok (.pointer (some ⟨ib, 0, none⟩)) wL := by
                                    have h := hML.look48 rf (by unfold maxLen; omega)
                                    rw [hfr] at h; exact h
                                  have nq1 := nq35
                                  have nq2 := nq27
                                  have HL : Hid (wL.heap = wI.heap) := hL
                                  have hll : l.length ≤ 4096 := by
                                    have h := sn_len us ns [] l hsn
                                    simp at h
                                    omega
                                  have e4 : wI.cell? ⟨ib, 4, none⟩ = some (.slice va l.length vcap) := cell_of_row wI _ 4 _ _ _ hbox
                                  generalize pps.getD i1 0 = pp1 at *
                                  generalize ups.getD i2 0 = pp2 at *
                                  clear hU hP hM hML hM0 hM1 hsv2 hbox hrv hcl hL hsl hfr hpP hi1 hi2 hok hb1 hb2
                                  go_upto_region 102 with fail
                                  clear l3 lk
                                  go_quiet (fail)
                                  go_upto_block 18 with fail
                                  clear p1 p2 d0 d1 d2 d3 d4 nq1
                                  go_wp2_with fail
                                  go_loopw [67] (fun i wr => (∃ k : Nat, i = .int .i64 k ∧ k ≤ l.length) ∧ wr.heap = wI.heap ∧ Below B1 w wr) (fun i _ => l.length - (intOf i).toNat)
                                  case atStart => exact ⟨⟨0, rfl, Nat.zero_le _⟩, HL.out, ⟨hbL.os, hbL.tape, hbL.output, hbL.size, hbL.block⟩⟩
                                  case round =>
                                    obtain ⟨⟨k, rfl, hk⟩, hwh, hbr⟩ := hrel
                                    by_cases hk' : k < l.length
                                    · rcases hsS with h0 | ⟨sg, rfl, _, hs2⟩
                                      · omega
                                      · rcases hvV with h0 | ⟨vg, rfl, _, _, hv2⟩
                                        · omega
                                        · have hcl : ∀ a : Addr, wr.cell? a = wI.cell? a := fun a => World.cell?_of_block (by rw [hwh])
                                          have hq : l.getD k 0 < us.length := hsb _ (by simp [List.getD, List.getElem?_eq_getElem hk'])
                                          have c1 := (hcl _).trans (hs2 k hk')
                                          have c2 : wr.cell? ⟨vg, k, none⟩ = some (.pointer (some ⟨ups.getD (l.getD k 0) 0, 0, none⟩)) := ((hcl _).trans (hv2 k hk')).trans (by simp [List.getD, List.getElem?_eq_getElem hk', pt])
                                          have c3 := (hcl _).trans (hpU _ hq)
                                          have c4 := (hcl _).trans e4
                                          have Hwh : Hid (wr.heap = wI.heap) := hwh
                                          clear hcl hs2 hv2 hpU e4 hwh hsb hsn
                                          generalize l.getD k 0 = q at *
                                          generalize ups.getD q 0 = qq at *
                                          go_upto_region 109 with fail
                                          go_quiet (fail)
                                          go_wp2_with fail
                                          go_roundw
                                          case rel => exact ⟨⟨k + 1, by go_num, by omega⟩, Hwh.out, ⟨hbr.os, hbr.tape, hbr.output, hbr.size, hbr.block⟩⟩
                                          case measure => simp [intOf]; omega
                                    · obtain rfl : k = l.length := by omega
                                      go_wp2_with fail
                                      go_ret
                                      exact ⟨rfl, by rw [hB1]; exact hbr⟩

end Go.Proofs.YbulkfnteFmt
