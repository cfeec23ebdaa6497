import Derived.Test.YbulkfnteFmtHas
import Derived.Test.YbulkfnteFmtErrs
import Derived.Test.YbulkfnteFmtShelf
import Derived.Lib.AppendIntMem
import Derived.Lib.ItoaLen
import Derived.Outline
import Derived.BigRegion
import Derived.BigQuiet
import Derived.Deep.RegionWith
import Derived.Deep.CutRange
namespace Go.Proofs.YbulkfnteFmt
open Go.RowKit Go.Extern.Stop Go.Stop Go.Extern
set_option linter.unusedVariables false

def ent (pj : ByteArray) (iid : Int) (conf : Bool) (au : ByteArray) (na : Option Addr) (n c : Nat) : Array Value := #[.string pj, .int .i64 iid, .bool conf, .string au, .slice na n c]
/-- the places of the names, or nothing where one is unknown or given twice. -/
def sn (us : List ByteArray) : List ByteArray → List Nat → Option (List Nat)
  | [], acc => some acc
  | n :: ns, acc => if ix us n < 0 then none else if (ix us n).toNat ∈ acc then none else sn us ns (acc ++ [(ix us n).toNat])
structure AddPost (w w' : World) (me : Nat) (fs : List ByteArray) (fps : List Nat) (rf : ByteArray) (pp ap : Nat) (conf : Bool) (qs : List Nat) (ib : Nat) (v : Value) : Prop where
  map : PMap w' me (fun q => if q = rf then some ib else atp fs fps q) (fs.length + 1)
  new : w.heap.size ≤ ib
  box : w'.heap[ib]? = some (.cells #[.string rf, pt pp, .bool conf, pt ap, v] 51 (0, 0))
  row : w'.ownsRow w.heap.size 27 1 v qs.length (qs.map pt)
  keep : w.grownBy w' (some me)
def pa : Option Nat → Option Addr
  | none => none
  | some p => some ⟨p, 0, none⟩
theorem pv_pa (o : Option Nat) : pv o = .pointer (pa o) := by cases o <;> rfl
theorem z25 (W : World) : (zeroValue 27).run Ybaf.prog W = .ok (.pointer none) W := by kernel_rfl
theorem z35 (W : World) : (zeroValue 35).run Ybaf.prog W = .ok (.pointer none) W := by kernel_rfl
theorem z49 (W : World) : (zeroValue 49).run Ybaf.prog W = .ok (.pointer none) W := by kernel_rfl
theorem PMap.look25 {w : World} {b c : Nat} {f : ByteArray → Option Nat} (h : PMap w b f c) (s : ByteArray) (hs : s.size ≤ maxLen) : (Instr.lookup 25 (.map (some b)) (.string s) false).run Ybaf.prog w = .ok (.pointer (pa (f s))) w := by
  rw [← pv_pa]; exact h.look (by kernel_rfl) (z25 w) s hs
theorem PMap.look34 {w : World} {b c : Nat} {f : ByteArray → Option Nat} (h : PMap w b f c) (s : ByteArray) (hs : s.size ≤ maxLen) : (Instr.lookup 34 (.map (some b)) (.string s) false).run Ybaf.prog w = .ok (.pointer (pa (f s))) w := by
  rw [← pv_pa]; exact h.look (by kernel_rfl) (z35 w) s hs
theorem PMap.look48 {w : World} {b c : Nat} {f : ByteArray → Option Nat} (h : PMap w b f c) (s : ByteArray) (hs : s.size ≤ maxLen) : (Instr.lookup 48 (.map (some b)) (.string s) false).run Ybaf.prog w = .ok (.pointer (pa (f s))) w := by
  rw [← pv_pa]; exact h.look (by kernel_rfl) (z49 w) s hs
theorem PMap.below {w w' : World} {b c : Nat} {f : ByteArray → Option Nat} (h : PMap w b f c) {B : Nat} (hB : b < B) (hk : Below B w w') : PMap w' b f c := h.kept (hk.block b hB)
theorem pa_none {ds : List ByteArray} {ps : List Nat} {s : ByteArray} (h : none = pa (atp ds ps s)) : ix ds s < 0 := by
  unfold atp at h
  split at h
  · assumption
  · cases h
theorem pa_some {ds : List ByteArray} {ps : List Nat} {s : ByteArray} {a : Addr} (h : some a = pa (atp ds ps s)) : 0 ≤ ix ds s ∧ a = ⟨ps.getD (ix ds s).toNat 0, 0, none⟩ := by
  unfold atp at h
  split at h
  · cases h
  · refine ⟨by omega, ?_⟩
    simpa [pa] using h
theorem frozen_of_block {w : World} {g i : Nat} {cs : Array Value} {t : TypeId} (h : w.heap[g]? = some (.cells cs t (0, 0))) : w.frozen? ⟨g, i, none⟩ = false := by
  simp [World.frozen?, h]
theorem row_pat {w : World} {B : Nat} {v : Value} {qs : List Nat} (h : w.ownsRow B 27 1 v qs.length (qs.map pt)) : ∃ a cap, v = .slice a qs.length cap ∧ PAt w a qs := by
  obtain ⟨a, cap, hv, h0 | ⟨g, ha, _, hlt, hc⟩⟩ := row_form h
  · exact ⟨a, cap, hv, .inl (List.length_eq_zero_iff.1 h0)⟩
  · refine ⟨a, cap, hv, .inr ⟨g, 0, ha, hlt, fun j hj => ?_⟩⟩
    rw [Nat.zero_add, hc j hj]
    simp [List.getD, List.getElem?_eq_getElem hj, pt]
theorem sn_step {us ns : List ByteArray} {k : Nat} (hk : k < ns.length) (acc : List Nat) : sn us (ns.drop k) acc = if ix us (ns.getD k ByteArray.empty) < 0 then none else if (ix us (ns.getD k ByteArray.empty)).toNat ∈ acc then none else sn us (ns.drop (k + 1)) (acc ++ [(ix us (ns.getD k ByteArray.empty)).toNat]) := by
  have e : ns.getD k ByteArray.empty = ns[k] := by simp [List.getD, List.getElem?_eq_getElem hk]
  rw [e, List.drop_eq_getElem_cons hk]
  rfl
theorem row_mono {w : World} {B B' e sz n : Nat} {v : Value} {xs : List Value} (h : w.ownsRow B e sz v n xs) (hB : B' ≤ B) : w.ownsRow B' e sz v n xs := by
  obtain ⟨h1, h2 | ⟨g, cap, cur, rfl, hb, r⟩⟩ := h
  · exact ⟨h1, .inl h2⟩
  · exact ⟨h1, .inr ⟨g, cap, cur, rfl, by omega, r⟩⟩
theorem below_grow (w : World) (k : Nat) (os : Array Obj) : Below w.heap.size w (Go.Sort.grow (w.drewN k) os) := by
  refine ⟨rfl, rfl, rfl, ?_, fun j hj => ?_⟩
  · show w.heap.size ≤ (w.heap ++ os).size
    simp
  · show (w.heap ++ os)[j]? = w.heap[j]?
    rw [Array.getElem?_append_left hj]

theorem below_grow' {w w' : World} {k : Nat} {os : Array Obj} (h : w' = Go.Sort.grow (w.drew.drewN k) os) : Below w.heap.size w w' := by
  subst h
  exact ((Below.refl _ w).drew).trans (below_grow w.drew k os)

set_option maxRecDepth 100000 in
set_option maxHeartbeats 8000000 in
theorem add_any (F : Interp) (sb mu mp me : Nat) (us : List ByteArray) (ups : List Nat) (pl : List ByteArray) (pps : List Nat) (fs : List ByteArray) (fps : List Nat) (pj au : ByteArray) (iid : Int) (conf : Bool) (na : Option Addr) (nc : Nat) (ns : List ByteArray) (rf st : ByteArray) (w : World) (hF : F.answers w.tape)
    (htab : Lib.TabIs Ybaf.prog w "internal/strconv.uint64pow10" .u64 Lib.pow10Tab) (hi0 : -9223372036854775808 ≤ iid) (hi1 : iid ≤ 9223372036854775807)
    (hs0 : w.cell? ⟨sb, 0, none⟩ = some (.map (some mu))) (hs2 : w.cell? ⟨sb, 2, none⟩ = some (.map (some mp))) (hs3 : w.cell? ⟨sb, 3, none⟩ = some (.map (some me))) (hsb : sb < w.heap.size)
    (hmu : PMap w mu (atp us ups) us.length) (hmp : PMap w mp (atp pl pps) pl.length) (hme : PMap w me (atp fs fps) fs.length)
    (hul : us.length ≤ 4096) (hfl : fs.length ≤ 4097) (hnl : ns.length ≤ 4096)
    (hcel : ∀ k, k < us.length → Cel w (ups.getD k 0)) (hinj : ∀ j k, j < us.length → k < us.length → ups.getD j 0 = ups.getD k 0 → j = k)
    (hns : SAt w na ns) (hnz : SzOK ns)
    (hpj : pj.size ≤ 140737488351232) (hau : au.size ≤ 140737488351232)
    (hrf : pj ++ { data := #[35] } ++ st = rf) (hrfs : rf.size ≤ 140737488351300) (hst : st = ⟨(Lib.itoa iid).toArray⟩) :
    Calls Ybaf.prog 8 #[.pointer (some ⟨sb, 0, none⟩), .agg (ent pj iid conf au na ns.length nc)] w
      fun e w' => (e = .returned .nilIface ∧ 0 ≤ ix pl pj ∧ ix fs rf < 0 ∧ 0 ≤ ix us au ∧ ∃ l ib v, sn us ns [] = some l ∧ AddPost w w' me fs fps rf (pps.getD (ix pl pj).toNat 0) (ups.getD (ix us au).toNat 0) conf (l.map (fun j => ups.getD j 0)) ib v)
        ∨ ((∃ a, e = .returned (.iface 95 (.pointer (some a)))) ∧ ¬ (0 ≤ ix pl pj ∧ ix fs rf < 0 ∧ 0 ≤ ix us au ∧ (sn us ns []).isSome = true) ∧ Below w.heap.size w w') := by
  unfold ent
  have Hrf : Hid (pj ++ { data := #[35] } ++ st = rf) := hrf
  have Hst : Hid (st = ⟨(Lib.itoa iid).toArray⟩) := hst
  clear hrf hst
  go_enter Ybaf.func8, Ybaf.ntmps8
  go_upto_region 1 with fail
  obtain ⟨w1, hw1⟩ : ∃ W, W = w.alloc (.cells #[.string pj, .int .i64 iid, .bool conf, .string au, .slice na ns.length nc] 63) := ⟨_, rfl⟩
  have hb1 : Below w.heap.size w w1 := by rw [hw1]; exact (Below.refl _ _).alloc (Nat.le_refl _) _
  have hsz1 : w.heap.size < w1.heap.size := by rw [hw1]; simp
  have he : w1.heap[w.heap.size]? = some (.cells #[.string pj, .int .i64 iid, .bool conf, .string au, .slice na ns.length nc] 63 (0, 0)) := by rw [hw1]; show (w.heap.push _)[w.heap.size]? = _; simp
  rw [← hw1]
  generalize hE : w.heap.size = eb at *
  clear hw1
  go_cut [5] from 10 to 16 (fun s w' => s = .string rf ∧ Below w1.heap.size w1 w')
  case first => as_aux_lemma =>
    have hitoa := Ybaf.strconv_Itoa iid hi0 hi1 w1.drew ((Lib.tabBelow_of_tabIs htab) _ (by rw [hE]; exact hb1.drew))
    rw [← Hst.out] at hitoa
    have c0 := cell_of_row w1 eb 0 _ _ _ he
    have c1 := cell_of_row w1 eb 1 _ _ _ he
    simp at c0 c1
    clear he hmu hmp hme hcel hinj hns hnz hs0 hs2 hs3 htab
    have hsts : st.size ≤ 21 := by rw [Hst.out]; simpa [ByteArray.size] using Lib.itoa_length_le iid hi0 hi1
    go_region_with (go_at_call 14; refine hitoa.mono ?_; rintro e w2 ⟨rfl, k, os, hw2⟩; have hb2 : Below w1.heap.size w1 w2 := below_grow' hw2; have d0 := (hb2.cell (p := ⟨eb, 0, none⟩) hsz1).trans c0; clear hw2)
    all_goals (go_wp2_with fail; go_meet; exact ⟨by rw [Hrf.out], hb2⟩)
  case rest => as_aux_lemma =>
    obtain ⟨rfl, hb2⟩ := hcut
    obtain ⟨wA, hwA⟩ : ∃ W, W = wc := ⟨_, rfl⟩
    subst hwA
    have heA : wA.heap[eb]? = some (.cells #[.string pj, .int .i64 iid, .bool conf, .string au, .slice na ns.length nc] 63 (0, 0)) := (hb2.block eb hsz1).trans he
    have hbA : Below eb w wA := hb1.trans (hb2.mono (by omega))
    have hltA : eb < wA.heap.size := by have := hb2.size; omega
    clear hb1 hb2 he hsz1 w1
    have E0 := cell_of_row wA eb 0 _ _ _ heA
    have E2 := cell_of_row wA eb 2 _ _ _ heA
    have E3 := cell_of_row wA eb 3 _ _ _ heA
    simp at E0 E2 E3
    have S0 := (hbA.cell (p := ⟨sb, 0, none⟩) hsb).trans hs0
    have S2 := (hbA.cell (p := ⟨sb, 2, none⟩) hsb).trans hs2
    have mU := hmu.below (by rw [← hE]; exact hmu.lt) hbA
    have mP := hmp.below (by rw [← hE]; exact hmp.lt) hbA
    have L1 := (mP.kept (w' := wA.drew) rfl).look34 pj (by unfold maxLen; omega)
    have L2 := (mU.kept (w' := wA.drew) rfl).look25 au (by unfold maxLen; omega)
    obtain ⟨pp, hpp⟩ : ∃ pp, pp = pa (atp pl pps pj) := ⟨_, rfl⟩
    obtain ⟨ap, hap⟩ : ∃ ap, ap = pa (atp us ups au) := ⟨_, rfl⟩
    rw [← hpp] at L1
    rw [← hap] at L2
    have Hpp : Hid (pp = pa (atp pl pps pj)) := hpp
    have Hap : Hid (ap = pa (atp us ups au)) := hap
    clear hpp hap
    go_upto_region 2 with fail
    go_cut [6] from 17 to 35 (fun v w' => v = .pointer (some ⟨wA.heap.size, 0, none⟩) ∧ w' = (wA.alloc (.cells #[.string rf, .pointer pp, .bool conf, .pointer ap, .slice none 0 0] 51)).drew)
    case first => as_aux_lemma =>
      clear hmu hmp hme hcel hinj hns hnz hs0 hs2 hs3 heA
      go_region
      all_goals (go_wp2_with fail; go_meet; exact ⟨rfl, rfl⟩)
    case rest => as_aux_lemma =>
      obtain ⟨rfl, hw⟩ := hcut
      have hb3 : Below wA.heap.size wA wc := by rw [hw]; exact ((Below.refl _ _).alloc (Nat.le_refl _) _).drew
      have hi : wc.heap[wA.heap.size]? = some (.cells #[.string rf, .pointer pp, .bool conf, .pointer ap, .slice none 0 0] 51 (0, 0)) := by rw [hw]; show (wA.heap.push _)[wA.heap.size]? = _; simp
      have hsz3 : wA.heap.size < wc.heap.size := by rw [hw]; show _ < (wA.heap.push _).size; simp
      clear hw
      obtain ⟨wB, hwB⟩ : ∃ W, W = wc := ⟨_, rfl⟩
      subst hwB
      generalize hI : wA.heap.size = ib at *
      have hFB : F.answers wB.tape := by rw [hb3.tape, hbA.tape]; exact hF
      replace E0 := (hb3.cell (p := ⟨eb, 0, none⟩) hltA).trans E0
      replace E3 := (hb3.cell (p := ⟨eb, 3, none⟩) hltA).trans E3
      have E4 := (hb3.cell (p := ⟨eb, 4, none⟩) hltA).trans (cell_of_row wA eb 4 _ _ _ heA)
      simp at E4
      have I1 := cell_of_row wB ib 1 _ _ _ hi
      have I3 := cell_of_row wB ib 3 _ _ _ hi
      simp at I1 I3
      have hbB : Below eb w wB := hbA.trans (hb3.mono (by omega))
      have S3 := (hbB.cell (p := ⟨sb, 3, none⟩) hsb).trans hs3
      have mE := hme.below (by rw [← hE]; exact hme.lt) hbB
      have L3 := mE.look48 rf (by unfold maxLen; omega)
      obtain ⟨ep, hep⟩ : ∃ ep, ep = pa (atp fs fps rf) := ⟨_, rfl⟩
      rw [← hep] at L3
      have Hep : Hid (ep = pa (atp fs fps rf)) := hep
      have hszB := hbB.size
      clear hep L1 L2 E2 S0 S2
      go_upto_if 40 with fail
      cases pp with
      | none => 
        go_wp2_with (go_at_call 15; refine (errorfA F pj rf wB.heap.size _ ?za ?zb ?zc).mono ?zd)
        case za => exact hFB
        case zb => exact World.cell?_alloc_new _ _ _ _
        case zc => exact World.cell?_alloc_new _ _ _ _
        case zd => 
          rintro e w' ⟨a, rfl, hb4⟩
          go_wp2_with fail
          go_ret
          have h0 := pa_none Hpp.out
          exact .inr ⟨⟨a, rfl⟩, fun h => by omega, by rw [hE]; exact (hbB.alloc (by omega) _).trans (hb4.mono (by simp; omega))⟩
      | some pp =>
        go_upto_if 54 with fail
        cases ep with
        | some ep =>
          go_wp2_with (go_at_call 15; refine (errorfB F rf wB.heap.size _ ?za ?zb).mono ?zd)
          case za => exact hFB
          case zb => exact World.cell?_alloc_new _ _ _ _
          case zd => 
            rintro e w' ⟨a, rfl, hb4⟩
            go_wp2_with fail
            go_ret
            have h0 := (pa_some Hep.out).1
            exact .inr ⟨⟨a, rfl⟩, fun h => by omega, by rw [hE]; exact (hbB.alloc (by omega) _).trans (hb4.mono (by simp; omega))⟩
        | none =>
          go_upto_if 63 with fail
          cases ap with
          | none =>
            go_wp2_with (go_at_call 15; refine (errorfC F au rf wB.heap.size _ ?za ?zb ?zc).mono ?zd)
            case za => exact hFB
            case zb => exact World.cell?_alloc_new _ _ _ _
            case zc => exact World.cell?_alloc_new _ _ _ _
            case zd => 
              rintro e w' ⟨a, rfl, hb4⟩
              go_wp2_with fail
              go_ret
              have h0 := pa_none Hap.out
              exact .inr ⟨⟨a, rfl⟩, fun h => by omega, by rw [hE]; exact (hbB.alloc (by omega) _).trans (hb4.mono (by simp; omega))⟩
          | some ap =>
            obtain ⟨hpp0, rfl⟩ := pa_some Hpp.out
            obtain ⟨hap0, rfl⟩ := pa_some Hap.out
            have hep0 := pa_none Hep.out
            have hi2 : wB.heap[ib]? = some (.cells #[.string rf, pt (pps.getD (ix pl pj).toNat 0), .bool conf, pt (ups.getD (ix us au).toNat 0), .slice none 0 0] 51 (0, 0)) := hi
            obtain ⟨pp, Hp2⟩ : ∃ pp, Hid (pps.getD (ix pl pj).toNat 0 = pp) := ⟨_, rfl⟩
            obtain ⟨ap, Ha2⟩ : ∃ ap, Hid (ups.getD (ix us au).toNat 0 = ap) := ⟨_, rfl⟩
            rw [Hp2.out, Ha2.out] at hi2
            clear hi I1 I3 L3 Hpp Hap Hep E0 E3 mE mP S3 heA
            go_upto_block 0 with fail
            go_wp2_with fail
            go_loopw [74] (fun i wr => (∃ (k : Nat) (acc : List Nat) (v : Value), i = .int .i64 k ∧ k ≤ ns.length ∧ sn us ns [] = sn us (ns.drop k) acc ∧ (∀ j ∈ acc, j < us.length) ∧ acc.length ≤ k ∧ wr.heap[ib]? = some (.cells #[.string rf, pt pp, .bool conf, pt ap, v] 51 (0, 0)) ∧ wr.ownsRow (ib + 1) 27 1 v (acc.map (fun j => ups.getD j 0)).length ((acc.map (fun j => ups.getD j 0)).map pt)) ∧ Below ib wB wr ∧ ib < wr.heap.size) (fun i _ => ns.length - (intOf i).toNat)
            case atStart => exact ⟨⟨0, [], .slice none 0 0, rfl, Nat.zero_le _, rfl, by simp, Nat.le_refl _, hi2, ⟨rfl, .inl ⟨rfl, rfl⟩⟩⟩, Below.refl _ _, hsz3⟩
            case round =>
              obtain ⟨⟨k, acc, v, rfl, hk, hsn, hacc, hakl, hib, hrow⟩, hbr, hltr⟩ := hrel
              have hbW : Below eb w wr := hbB.trans (hbr.mono (by omega))
              by_cases hk' : k < ns.length
              · rw [sn_step hk'] at hsn
                have hnk := hnz k
                rcases hns with rfl | ⟨b, off, rfl, hbw, hc⟩
                · simp at hk'
                · have hcx : wr.cell? ⟨b, off + k, none⟩ = some (.string (ns.getD k ByteArray.empty)) := (hbW.cell (by show b < eb; omega)).trans (hc k hk')
                  generalize ns.getD k ByteArray.empty = s at hcx hnk hsn
                  have S0 := (hbW.cell (p := ⟨sb, 0, none⟩) hsb).trans hs0
                  have mW := hmu.below (by rw [← hE]; exact hmu.lt) hbW
                  have L1 := mW.look25 s (by unfold maxLen; omega)
                  obtain ⟨up, hup⟩ : ∃ up, up = pa (atp us ups s) := ⟨_, rfl⟩
                  rw [← hup] at L1
                  have Hup : Hid (up = pa (atp us ups s)) := hup
                  have hFr : F.answers wr.tape := by rw [hbr.tape]; exact hFB
                  have hszr := hbr.size
                  clear hup hc
                  go_upto_if 85 with fail
                  cases up with
                  | none =>
                    go_wp2_with (go_at_call 15; refine (errorfD F s rf wr.heap.size _ ?za ?zb ?zc).mono ?zd)
                    case za => exact hFr
                    case zb => exact World.cell?_alloc_new _ _ _ _
                    case zc => exact World.cell?_alloc_new _ _ _ _
                    case zd => 
                      rintro e w' ⟨a, rfl, hb4⟩
                      go_wp2_with fail
                      go_ret
                      have h0 := pa_none Hup.out
                      rw [if_pos h0] at hsn
                      exact .inr ⟨⟨a, rfl⟩, fun h => by rw [hsn] at h; simp at h, by rw [hE]; exact (hbW.alloc (by omega) _).trans (hb4.mono (by simp; omega))⟩
                  | some up =>
                    obtain ⟨hup0, rfl⟩ := pa_some Hup.out
                    rw [if_neg (by omega)] at hsn
                    have hjb := ix_bd us s
                    generalize hj : (ix us s).toNat = j at *
                    have hjl : j < us.length := by omega
                    have hmem : ups.getD j 0 ∈ acc.map (fun j => ups.getD j 0) ↔ j ∈ acc := by
                      constructor
                      · intro h
                        obtain ⟨i, hi, e⟩ := List.mem_map.1 h
                        exact (hinj i j (hacc i hi) hjl e) ▸ hi
                      · intro h; exact List.mem_map.2 ⟨j, h, rfl⟩
                    have hcj : Cel wr (ups.getD j 0) := by
                      obtain ⟨ca, t, h⟩ := hcel j hjl
                      exact ⟨ca, t, (hbW.block _ (by rw [← hE]; exact lt_of_some h)).trans h⟩
                    have hcq : ∀ i, i < (acc.map (fun j => ups.getD j 0)).length → Cel wr ((acc.map (fun j => ups.getD j 0)).getD i 0) := fun i hi => by
                      rw [List.length_map] at hi
                      have e : (acc.map (fun j => ups.getD j 0)).getD i 0 = ups.getD acc[i] 0 := by simp [List.getD, List.getElem?_eq_getElem hi]
                      rw [e]
                      obtain ⟨ca, t, h⟩ := hcel acc[i] (hacc _ (List.getElem_mem hi))
                      exact ⟨ca, t, (hbW.block _ (by rw [← hE]; exact lt_of_some h)).trans h⟩
                    have hql : (acc.map (fun j => ups.getD j 0)).length ≤ 4096 := by simp; omega
                    have Hq : Hid (acc.map (fun j => ups.getD j 0) ++ [ups.getD j 0] = (acc ++ [j]).map (fun j => ups.getD j 0)) := by show _ = _; simp
                    generalize acc.map (fun j => ups.getD j 0) = qs at *
                    generalize ups.getD j 0 = p at *
                    obtain ⟨va, vcap, rfl, hpat⟩ := row_pat hrow
                    have I4 := cell_of_row wr ib 4 _ _ _ hib
                    simp at I4
                    obtain ⟨dd, hdd⟩ : ∃ dd, dd = decide (p ∈ qs) := ⟨_, rfl⟩
                    have Hdd : Hid (dd = decide (p ∈ qs)) := hdd
                    have hcon := contains_any va vcap qs p wr hpat (by omega) hcj hcq
                    rw [← hdd] at hcon
                    clear hdd hpat hcj hcq hinj hcel
                    go_upto_if 97 with (go_at_call 16; refine hcon.mono ?_; rintro e w' ⟨rfl, hw⟩; replace hw := hw.symm; subst hw)
                    cases dd with
                    | true =>
                      go_wp2_with (go_at_call 15; refine (errorfE F s rf wr.heap.size _ ?za ?zb ?zc).mono ?zd)
                      case za => exact hFr
                      case zb => exact World.cell?_alloc_new _ _ _ _
                      case zc => exact World.cell?_alloc_new _ _ _ _
                      case zd => 
                        rintro e w' ⟨a, rfl, hb4⟩
                        go_wp2_with fail
                        go_ret
                        have h0 : j ∈ acc := hmem.1 (of_decide_eq_true Hdd.out.symm)
                        rw [if_pos h0] at hsn
                        exact .inr ⟨⟨a, rfl⟩, fun h => by rw [hsn] at h; simp at h, by rw [hE]; exact (hbW.alloc (by omega) _).trans (hb4.mono (by simp; omega))⟩
                    | false =>
                      have h0 : j ∉ acc := fun h => by have := hmem.2 h; have e := Hdd.out; rw [decide_eq_true this] at e; cases e
                      rw [if_neg h0] at hsn
                      go_upto_region 17 with fail
                      have hrow2 : (wr.alloc (.cells #[pt p] 27)).ownsRow (ib + 1) 27 1 (.slice va qs.length vcap) qs.length (qs.map pt) := row_kept hrow (fun g hg => Below.heap_alloc _ _ _ (lt_of_some (row_tag hrow hg).2.choose_spec))
                      have hrB : ∀ g, (Value.slice va qs.length vcap).ownBlock = some g → ib + 1 ≤ g := fun g hg => (row_tag hrow hg).1
                      have hn6 : qs.length ≤ 1048576 := by omega
                      have hzz : ib + 1 ≤ (wr.alloc (.cells #[pt p] 27)).heap.size := by simp; omega
                      clear hrow hcon
                      go_wp2_with (at_builtin; refine wpList_app1 (P := Ybaf.prog) _ 24 27 (.pointer none) 8 info27 rfl Ybaf.underlying24 (by decide) (by rfl) _ _ (by rfl) (ib + 1) (.slice va qs.length vcap) qs.length (qs.map pt) (by rfl) hrow2 wr.heap.size 1 (pt p) (by rfl) ?zu rfl hn6 hzz ?_)
                      case zu => exact World.cell?_alloc_new _ _ _ _
                      intro g cap4 W4 hr4 hg4 hat4 hlt4
                      have hib4 : W4.heap[ib]? = some (.cells #[.string rf, pt pp, .bool conf, pt ap, .slice va qs.length vcap] 51 (0, 0)) := by
                        rw [hg4.block ib (by simp; omega) (fun e => by have := hrB ib e.symm; omega), Below.heap_alloc _ _ _ hltr]; exact hib
                      have hfz : W4.frozen? ⟨ib, 4, none⟩ = false := frozen_of_block hib4
                      have I4b := cell_of_row W4 ib 4 _ _ _ hib4
                      simp at I4b
                      have hb4 : Below (ib + 1) (wr.alloc (.cells #[pt p] 27)) W4 := (Below.refl _ _).grown hg4 hzz hrB
                      have hg4s := hg4.size
                      clear hg4 hat4 hrow2
                      have hib5 := heap_setCell_same W4 ib 4 _ 51 (.slice (some ⟨g, 0, none⟩) (qs.length + 1) cap4) hib4
                      have hr5 : (W4.setCell ⟨ib, 4, none⟩ (.slice (some ⟨g, 0, none⟩) (qs.length + 1) cap4)).ownsRow (ib + 1) 27 1 (.slice (some ⟨g, 0, none⟩) (qs.length + 1) cap4) (qs.length + 1) (qs.map pt ++ [pt p]) := row_kept hr4 (fun g' hg' => Below.heap_setCell _ _ _ _ (by have := (row_tag hr4 hg').1; show g' ≠ ib; omega))
                      have hb5 : Below ib wB (W4.setCell ⟨ib, 4, none⟩ (.slice (some ⟨g, 0, none⟩) (qs.length + 1) cap4)) := ((hbr.alloc (by omega) _).trans (hb4.mono (by omega))).setCell (Nat.le_refl _) _
                      have hlt5 : ib < (W4.setCell ⟨ib, 4, none⟩ (.slice (some ⟨g, 0, none⟩) (qs.length + 1) cap4)).heap.size := lt_of_some hib5
                      generalize hW5 : W4.setCell ⟨ib, 4, none⟩ (.slice (some ⟨g, 0, none⟩) (qs.length + 1) cap4) = W5 at *
                      clear hr4 hib4 hb4
                      go_wp2_with fail
                      go_roundw
                      case rel =>
                        repeat apply Exists.intro
                        exact ⟨⟨⟨k + 1, acc ++ [j], .slice (some ⟨g, 0, none⟩) (qs.length + 1) cap4, by go_num, by omega, hsn, fun i hi => by
                        rcases List.mem_append.1 hi with h | h
                        · exact hacc i h
                        · rw [List.mem_singleton.1 h]; exact hjl, by simp; omega, hib5, by rw [← Hq.out]; simpa using hr5⟩, hb5, hlt5⟩, rfl⟩
                      case measure => simp [intOf]; omega
              · obtain rfl : k = ns.length := by omega
                rw [List.drop_length] at hsn
                have S3 := (hbW.cell (p := ⟨sb, 3, none⟩) hsb).trans hs3
                have mE := hme.below (by rw [← hE]; exact hme.lt) hbW
                obtain ⟨W6, hst6, hm6, hg6, hs6⟩ := mE.store (t := 48) (e := 49) (by kernel_rfl) (by unfold maxLen; omega) rf (by unfold maxLen; omega) (by unfold atp; rw [if_pos hep0]) ib
                go_wp2_with fail
                go_ret
                have hme' := hme.lt
                have hmi : some ib ≠ some me := fun e => by simp at e; omega
                refine .inl ⟨rfl, hpp0, hep0, hap0, acc, ib, v, hsn, ?_⟩
                rw [Hp2.out, Ha2.out]
                refine ⟨hm6, by omega, ?_, ?_, ?_⟩
                · rw [hg6.block ib hltr hmi]; exact hib
                · have hr6 := row_kept (w' := W6) hrow (fun g hg => hg6.block g (lt_of_some (row_tag hrow hg).2.choose_spec) (fun e => by have := (row_tag hrow hg).1; simp at e; omega))
                  exact row_mono hr6 (by omega)
                · exact ⟨hg6.os.trans hbW.os, hg6.tape.trans hbW.tape, hg6.output.trans hbW.output, by rw [hs6]; exact hbW.size, fun k hk hne => (hg6.block k (by have := hbW.size; omega) hne).trans (hbW.block k (by omega))⟩
end Go.Proofs.YbulkfnteFmt
