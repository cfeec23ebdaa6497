/- LawS8073CWhole: the law's own walk. -/
import Derived.Test.YbulkfkeaReadyC
import Derived.Lib.Builder
import Derived.Deep.MidRow
namespace Go.Proofs.Ybulkfkea
open Go.RowKit
set_option linter.unusedVariables false

theorem info37c : (Yba.prog.info? 37).map (fun i => (i.size, i.bytes)) = some (12, 128) := by kernel_rfl
theorem info76c : (Yba.prog.info? 76).map (fun i => (i.size, i.bytes)) = some (9, 88) := by kernel_rfl
theorem neq26c (w : World) (a : Addr) : (binOp .neq 26 (.pointer (some a)) (.pointer (some a))).run Yba.prog w = .ok (.bool false) w := by
  obtain ⟨j, hj, _⟩ := Option.map_eq_some_iff.1 info37c
  exact Lib.run_neq_ptr_same (P := Yba.prog) w a Yba.underlying26 hj
theorem neq31c (w : World) (a : Addr) : (binOp .neq 31 (.pointer (some a)) (.pointer (some a))).run Yba.prog w = .ok (.bool false) w := by
  obtain ⟨j, hj, _⟩ := Option.map_eq_some_iff.1 info76c
  exact Lib.run_neq_ptr_same (P := Yba.prog) w a Yba.underlying31 hj
theorem wantF_some {B L head n i : Nat} (hi : i < n + 1) (hn : n ≤ L) : ∃ a, wantF B L head n i = some a := by
  unfold wantF roomF grownF ringF
  by_cases e : i = n
  · rw [if_pos e]; exact ⟨_, rfl⟩
  · rw [if_neg e, if_pos (by omega), if_pos (Nat.mod_lt _ (by omega))]; exact ⟨_, rfl⟩

theorem info74s (now k g p : Int) (on : ByteArray) : (Yba.prog.info? 74).map (·.size) = some (evt now k g p on).length := by
  have h : (Yba.prog.info? 74).map (·.size) = some 16 := by kernel_rfl
  rw [h]; rfl
theorem info74s' (now k g p : Int) (on : ByteArray) : (Yba.prog.info? 74).map (·.size) = some (evt now k g p on).toArray.size := by
  have h : (Yba.prog.info? 74).map (·.size) = some 16 := by kernel_rfl
  rw [h]; rfl
/-- a new variable for an event. -/
def evZ : Obj := .cells #[.int .i64 0, .int .i64 0, .int .i64 0, .int .i64 0, .int .i64 0, .int .i64 0, .int .i64 0, .int .i64 0, .int .i64 0, .slice none 0 0, .int .i64 0, .bool false, .int .i64 0, .string ⟨#[]⟩, .string ⟨#[]⟩, .pointer none] 74
theorem ev_there (W : World) : (W.alloc (.cells #[.int .i64 0, .int .i64 0, .int .i64 0, .int .i64 0, .int .i64 0, .int .i64 0, .int .i64 0, .int .i64 0, .int .i64 0, .slice none 0 0, .int .i64 0, .bool false, .int .i64 0, .string ⟨#[]⟩, .string ⟨#[]⟩, .pointer none] 74)).there W.heap.size 0 16 := by
  intro j hj
  have hr := row_arr (w := W) #[.int .i64 0, .int .i64 0, .int .i64 0, .int .i64 0, .int .i64 0, .int .i64 0, .int .i64 0, .int .i64 0, .int .i64 0, .slice none 0 0, .int .i64 0, .bool false, .int .i64 0, .string ⟨#[]⟩, .string ⟨#[]⟩, .pointer none] 74 16 _ rfl rfl
  rw [Nat.zero_add]
  exact ⟨by rw [hr.cell hj]; rfl, hr.frozen j⟩
theorem below_setCells {B b : Nat} {w0 : World} (hb : B ≤ b) : ∀ (vs : List Value) (o : Nat) (w : World), Below B w0 w → Below B w0 (w.setCells b o vs)
  | [], _, _, h => h
  | v :: vs, o, w, h => below_setCells hb vs (o + 1) _ (h.setCell (p := ⟨b, o, none⟩) hb v)
theorem ev_below {w W : World} (h : Below w.heap.size w W) (now k g p : Int) (on : ByteArray) : Below w.heap.size w ((W.alloc (.cells #[.int .i64 0, .int .i64 0, .int .i64 0, .int .i64 0, .int .i64 0, .int .i64 0, .int .i64 0, .int .i64 0, .int .i64 0, .slice none 0 0, .int .i64 0, .bool false, .int .i64 0, .string ⟨#[]⟩, .string ⟨#[]⟩, .pointer none] 74)).setCells W.heap.size 0 (evt now k g p on)) :=
  below_setCells h.size _ 0 _ (h.alloc h.size _)
theorem ev_stored (W : World) (now k g p : Int) (on : ByteArray) : EvAt ((W.alloc (.cells #[.int .i64 0, .int .i64 0, .int .i64 0, .int .i64 0, .int .i64 0, .int .i64 0, .int .i64 0, .int .i64 0, .int .i64 0, .slice none 0 0, .int .i64 0, .bool false, .int .i64 0, .string ⟨#[]⟩, .string ⟨#[]⟩, .pointer none] 74)).setCells W.heap.size 0 (evt now k g p on)) W.heap.size now k g p on := by
  intro j u hj
  have := World.rangeAt_setCells_same (W.alloc (.cells #[.int .i64 0, .int .i64 0, .int .i64 0, .int .i64 0, .int .i64 0, .int .i64 0, .int .i64 0, .int .i64 0, .int .i64 0, .slice none 0 0, .int .i64 0, .bool false, .int .i64 0, .string ⟨#[]⟩, .string ⟨#[]⟩, .pointer none] 74)) W.heap.size 0 (evt now k g p on) (ev_there W) j u hj
  rwa [Nat.zero_add] at this

set_option maxHeartbeats 10000000 in
set_option maxRecDepth 100000 in
theorem lawC (now bl pid gid : Int) (on : ByteArray) (sa : Option Addr) (L caps bs offs : Nat) (hU nU cr : Int) (w : World) (S : Nat → Int) (hL : L ≤ 65536) (hU0 : 0 ≤ hU) (nU0 : 0 ≤ nU)
    (hix : ∀ (k : Nat) (w : World), k < L → (Instr.indexAt 23 (.slice sa L caps) (.int .i64 (k : Int))).run Yba.prog w = .ok (.pointer (some ⟨bs, offs + k, none⟩)) w)
    (hbs : 0 < L → bs < w.heap.size) (hsl : ∀ k, k < L → w.cell? ⟨bs, offs + k, none⟩ = some (.int .i64 (S k))) :
    Calls Yba.prog 4 #[.int .i64 now, .int .i64 bl, .int .i64 pid, .int .i64 gid, .string on, .slice sa L caps, .int .u64 hU, .int .u64 nU, .int .i64 cr] w fun e w' => e = .returned (.bool true) ∧ Below w.heap.size w w' := by
  have hmk := run_make_row' (P := Yba.prog) 25 26 (.pointer none) 8 Yba.underlying25 info26c rfl .i64 .i64 L (by omega) (by omega)
  go_enter Yba.func4, Yba.ntmps4
  go_upto_block 0 with fail
  go_cut [21] from 40 to 53 (fun _ w' => Ring w w' w.heap.size L L)
  case first => as_aux_lemma =>
    go_wp2_with fail
    go_loopw [21] (fun i wr => ∃ k : Nat, k ≤ L ∧ i = .int .i64 k ∧ Ring w wr w.heap.size L k) (fun i _ => L - (intOf i).toNat)
    case atStart => exact ⟨0, Nat.zero_le _, rfl, Ring.start w L⟩
    case round =>
      obtain ⟨k, hk, rfl, hP⟩ := hrel
      by_cases hlt : k < L
      · have hrow := hP.2.2.cell hlt
        have hfr := hP.2.2.frozen k
        have hi := hix k wr hlt
        have hcx : wr.cell? ⟨bs, offs + k, none⟩ = some (.int .i64 (S k)) := (hP.1.cell (by exact hbs (by omega))).trans (hsl k hlt)
        have hB : w.heap.size < wr.heap.size := by have := hP.2.1; omega
        clear hix hsl
        go_wp2_with fail
        go_roundw
        case rel => exact ⟨k + 1, by omega, by go_num, hP.step _⟩
        case measure => simp [intOf]; omega
      · obtain rfl : k = L := by omega
        go_wp2_with fail
        go_meet
        case rel => exact hP
  case rest => as_aux_lemma =>
    have hz := hcut.2.1
    clear hmk hix hsl
    go_upto_if 55 with fail
    go_cut [22, 23] from 54 to 66 (fun h n w' => (∃ head m : Nat, h = .int .i64 head ∧ n = .int .i64 m ∧ m ≤ L ∧ (head < L ∨ L = 0 ∧ head = 0)) ∧ w' = wc)
    case first => as_aux_lemma =>
      by_cases hL0 : 0 < L
      · obtain ⟨x, hx⟩ : ∃ x : Nat, hU % (L : Int) = x := ⟨(hU % (L : Int)).toNat, by have := Int.emod_nonneg hU (b := (L : Int)) (by omega); omega⟩
        obtain ⟨y, hy⟩ : ∃ y : Nat, nU % ((L : Int) + 1) = y := ⟨(nU % ((L : Int) + 1)).toNat, by have := Int.emod_nonneg nU (b := (L : Int) + 1) (by omega); omega⟩
        have hx2 : x < L := by have := Int.emod_lt_of_pos hU (b := (L : Int)) (by omega); omega
        have hy2 : y ≤ L := by have := Int.emod_lt_of_pos nU (b := (L : Int) + 1) (by omega); omega
        go_wp2_with fail
        go_meet
        case rel => exact ⟨⟨x, y, rfl, rfl, hy2, .inl hx2⟩, rfl⟩
      · have hL1 : L ≤ 0 := by omega
        go_wp2_with fail
        go_meet
        case rel => exact ⟨⟨0, 0, rfl, rfl, by omega, .inr ⟨by omega, rfl⟩⟩, rfl⟩
    case rest => as_aux_lemma =>
      have hR := hcut.2
      obtain ⟨⟨head, n, rfl, rfl, hn, hh⟩, rfl⟩ := hcut
      clear hR
      have hmkn : ∀ w : World, (Instr.makeSlice 25 (.int .i64 ((n : Int) + 1)) (.int .i64 ((n : Int) + 1))).run Yba.prog w = .ok (.slice (some ⟨w.heap.size, 0, none⟩) (n + 1) (n + 1)) (w.alloc (.cells (madeCells #[.pointer none] (n + 1)) 26)) := fun w => by
        have := run_make_row' (P := Yba.prog) 25 26 (.pointer none) 8 Yba.underlying25 info26c rfl .i64 .i64 (n + 1) (by omega) (by omega) w
        simpa using this
      go_upto_block 2 with fail
      go_cut [26] from 73 to 88 (fun _ w' => Want w w' w.heap.size L head n n gid)
      case first => as_aux_lemma =>
        rename_i hRing _ _ _ _ _ _ _
        go_wp2_with fail
        go_loopw [26] (fun i wr => ∃ k : Nat, k ≤ n ∧ i = .int .i64 k ∧ Want w wr w.heap.size L head n k gid) (fun i _ => n - (intOf i).toNat)
        case atStart => exact ⟨0, Nat.zero_le _, rfl, Want.start head n gid (by assumption)⟩
        case round =>
          clear hz hmkn
          obtain ⟨k, hk, rfl, hP⟩ := hrel
          by_cases hlt : k < n
          · obtain ⟨x, hx⟩ : ∃ x : Nat, (head + k) % L = x := ⟨_, rfl⟩
            have hxi : ((head : Int) + (k : Int)) % (L : Int) = (x : Int) := by rw [← hx]; simp
            have hxL : x < L := by rw [← hx]; exact Nat.mod_lt _ (by omega)
            have r1 := hP.2.2.1.cell hxL
            have n1 := hP.2.2.2.2.cell (i := k) (by omega)
            have n2 := hP.2.2.2.2.frozen k
            have HX : Hid ((head + k) % L = x) := hx
            have hhL : head < L := by omega
            clear hx hh
            go_wp2_with fail
            go_roundw
            case rel => exact ⟨k + 1, by omega, by go_num, by rw [← HX.out]; exact hP.step⟩
            case measure => simp [intOf]; omega
          · obtain rfl : k = n := by omega
            go_wp2_with fail
            go_meet
            case rel => exact hP
      case rest => as_aux_lemma =>
        clear hz hmkn
        have hz := hcut.2.1
        have n1 := hcut.2.2.2.2.cell (i := n) (by omega)
        have n2 := hcut.2.2.2.2.frozen n
        have g1 := hcut.2.2.2.1.cell (i := 5) (by omega)
        have g2 := hcut.2.2.2.1.frozen 5
        have hmf : ∀ (fn : Fn) (first cap : Array Value) (w : World), (Instr.makeFunc fn first cap).run Yba.prog w = .ok (.func fn first cap) w := fun _ _ _ _ => rfl
        have HC : Hid (Want w wc w.heap.size L head n n gid) := hcut
        clear hcut
        go_upto_region 26 with fail
        refine wp_worldC (fun W => Ready w W w.heap.size L head n now bl pid gid cr) (Ready.mk now bl pid cr HC.out) ?_
        intro W hRd
        clear hz n1 n2 g1 g2 hmf HC
        have hcall : Calls Yba.prog 7 #[.pointer (some ⟨w.heap.size + 1 + L + 1 + 1 + 1, 0, none⟩), .pointer (some ⟨w.heap.size + 1 + L + 1 + 1 + 1 + 1, 0, none⟩), .pointer (some ⟨w.heap.size + 1 + L, 0, none⟩), .pointer (some ⟨w.heap.size + 1 + L + 1 + 1 + 1 + 1 + 1, 0, none⟩), .string on] W fun e w' => e = .returned (.tuple #[]) ∧
            After w w' w.heap.size L head n (w.heap.size + 1 + L) (w.heap.size + 1 + L + 1) (w.heap.size + 1 + L + 1 + 1) (w.heap.size + 1 + L + 1 + 1 + 1) (w.heap.size + 1 + L + 1 + 1 + 1 + 1) (w.heap.size + 1 + L + 1 + 1 + 1 + 1 + 1) now bl pid gid cr on := by
          refine (block_any (w.heap.size + 1 + L + 1 + 1 + 1) (w.heap.size + 1 + L + 1 + 1) (w.heap.size + 1 + L + 1 + 1 + 1 + 1) (w.heap.size + 1 + L) (w.heap.size + 1 + L + 1 + 1 + 1 + 1 + 1) w.heap.size L head n now bl gid pid on (.pointer (some ⟨w.heap.size + 1 + L, 0, none⟩)) (ringF w.heap.size L) W hL (by omega) hn (by omega)
            hRd.2.2.2.2.2.2.2.2 hRd.2.2.1 (hRd.2.2.2.2.2.2.1.cell (by omega)) (hRd.2.2.2.2.2.2.1.cell (by omega)) (hRd.2.2.2.2.2.2.1.cell (by omega)) (hRd.2.2.2.2.2.2.1.frozen 24) hRd.2.2.2.2.2.2.1.lt
            (hRd.2.2.2.2.2.1.cell (by omega)) (hRd.2.2.2.2.2.1.frozen 0) hRd.2.2.2.2.2.1.lt (hRd.2.2.2.2.2.2.2.1.cell (by omega)) (hRd.2.2.2.2.2.2.2.1.cell (by omega)) (hRd.2.2.2.2.2.2.2.1.frozen 7) hRd.2.2.2.2.2.2.2.1.lt
            (hRd.2.2.2.1.cell (by omega)) hRd.2.2.2.1.lt (by omega) (by omega) (by omega) (by omega) (by omega) (by omega) (by omega) (by omega) (by omega) (by omega) (by omega) (by omega) (by omega) (by omega)).mono ?_
          rintro e w2 ⟨rfl, w1, hP, hE, hF⟩
          exact ⟨rfl, After.of hRd hP hE hF⟩
        clear hRd hh hU0 nU0 hbs
        generalize w.heap.size + 1 + L + 1 + 1 + 1 + 1 + 1 = QB at hcall ⊢
        generalize w.heap.size + 1 + L + 1 + 1 + 1 + 1 = PB at hcall ⊢
        generalize w.heap.size + 1 + L + 1 + 1 + 1 = SB at hcall ⊢
        generalize w.heap.size + 1 + L + 1 + 1 = LB at hcall ⊢
        generalize w.heap.size + 1 + L + 1 = WB at hcall ⊢
        generalize w.heap.size + 1 + L = GB at hcall ⊢
        go_wp2_with fail
        refine hcall.mono ?_
        rintro e w2 ⟨rfl, hA⟩
        clear hcall
        have HA : Hid (After w w2 w.heap.size L head n GB WB LB SB PB QB now bl pid gid cr on) := hA
        obtain ⟨-, -, ⟨RB, M, hd, F, q1, r1, hH, x1, x2, x3, x4, x5⟩, wn, -⟩ := hA
        have q0 : w2.cell? ⟨QB, 0, none⟩ = some (.slice (some ⟨RB, 0, none⟩) M M) := q1.cell (by omega)
        have qh : w2.cell? ⟨QB, 1, none⟩ = some (.int .i64 (hd : Int)) := q1.cell (by omega)
        have qn : w2.cell? ⟨QB, 2, none⟩ = some (.int .i64 ((n : Int) + 1)) := by rw [q1.cell (by omega)]; simp [qcell]
        go_upto_if 130 with fail
        go_cut [] from 128 to 161 (fun w' => w' = w2)
        case first => as_aux_lemma =>
          clear HA r1 hH wn qn q1
          by_cases hnL : n = L
          · obtain ⟨hm, hd0⟩ := x1 hnL
            rw [hd0] at qh
            have t0 : ((n : Int) == (L : Int)) = true := by simp [hnL]
            by_cases h8 : (8 : Int) < 2 * (L : Int)
            · have hMi : (M : Int) = 2 * (L : Int) := by omega
              clear hm hnL x1 x2 x3 x4 x5 hd0
              as_aux_lemma =>
              go_wp2_with fail
              go_meet
              case rel => rfl
            · have hMi : (M : Int) = 8 := by omega
              clear hm hnL x1 x2 x3 x4 x5 hd0
              as_aux_lemma =>
              go_wp2_with fail
              go_meet
              case rel => rfl
          · obtain ⟨hm, hd0⟩ := x2 hnL
            rw [hd0] at qh
            have hMi : (M : Int) = (L : Int) := by omega
            have t0 : ((n : Int) == (L : Int)) = false := by simpa using (by omega : ¬ (n : Int) = (L : Int))
            clear hm hnL x1 x2 x3 x4 x5 hd0
            as_aux_lemma =>
            go_wp2_with fail
            go_meet
            case rel => rfl
        case rest => as_aux_lemma =>
          have hw := hcut.symm
          subst hw
          clear x1 x2 qn
          go_upto_block 4 with fail
          go_cut [31] from 162 to 189 (fun _ w' => ∃ q, w' = w2.drewN q)
          case first => as_aux_lemma =>
            clear HA
            go_wp2_with fail
            go_loopw [31] (fun i wr => (∃ k : Nat, k ≤ n + 1 ∧ i = .int .i64 k) ∧ ∃ q, wr = w2.drewN q) (fun i _ => n + 1 - (intOf i).toNat)
            case atStart => exact ⟨⟨0, Nat.zero_le _, rfl⟩, 0, rfl⟩
            case round =>
              obtain ⟨⟨k, hk, rfl⟩, q, rfl⟩ := hrel
              by_cases hlt : k < n + 1
              · as_aux_lemma =>
                obtain ⟨a, ha⟩ := wantF_some (B := w.heap.size) (L := L) (head := head) hlt hn
                obtain ⟨x, hx⟩ : ∃ x : Nat, (hd + k) % M = x := ⟨_, rfl⟩
                have hxi : ((hd : Int) + (k : Int)) % (M : Int) = (x : Int) := by rw [← hx]; simp
                have hxM : x < M := by rw [← hx]; exact Nat.mod_lt _ (by omega)
                have ra : w2.cell? ⟨RB, x, none⟩ = some (.pointer (some a)) := by rw [r1.cell hxM, ← hx, hH k hlt, ha]
                have wa : w2.cell? ⟨WB, k, none⟩ = some (.pointer (some a)) := by rw [wn k hlt, ha]
                have hle : (k : Int) ≤ (n : Int) := by omega
                have hki : (k : Int) < (n : Int) + 1 := by omega
                have hxMi : (x : Int) < (M : Int) := by omega
                have hpn := neq26c
                clear hx ha wn hH r1 q1
                go_wp2_with fail
                go_region
                go_wp2_with fail
                go_roundw
                case rel => exact ⟨⟨k + 1, by omega, by go_num⟩, q + 1, rfl⟩
                case measure => simp [intOf]; omega
              · as_aux_lemma =>
                have hle : ¬ (k : Int) ≤ (n : Int) := by omega
                clear wn hH r1 q1
                go_wp2_with fail
                go_meet
                case rel => exact ⟨q, rfl⟩
          case rest => as_aux_lemma =>
            obtain ⟨q, rfl⟩ := hcut
            clear wn hH r1 q1 q0 qh x3 x4 x5
            go_upto_region 39 with fail
            refine wp_worldC (fun W => After w W w.heap.size L head n GB WB LB SB PB QB now bl pid gid cr on) (After.drewN HA.out q) ?_
            intro W2 hA
            clear HA
            obtain ⟨hend, ⟨eb, ecap, l0, l1⟩, -, -, ⟨s1, s2, s3, s4⟩, ⟨p1, p2, p3, p4, p5⟩, ⟨g1, g2, g3⟩⟩ := hA
            go_cut [219] from 190 to 219 (fun s w' => s = .bool false ∧ w' = W2)
            case first => as_aux_lemma =>
              clear l0 l1 p1 p2 p3 p4 p5 g1 g2 g3
              go_wp2_with fail
              go_meet
              case rel => exact ⟨rfl, rfl⟩
            case rest => as_aux_lemma =>
              obtain ⟨rfl, hw⟩ := hcut
              replace hw := hw.symm
              subst hw
              clear s1 s2 s3 s4
              go_upto_region 41 with fail
              go_cut [253] from 220 to 253 (fun s w' => s = .bool false ∧ w' = W2)
              case first => as_aux_lemma =>
                clear l0 l1 g1 g2 g3
                go_wp2_with fail
                go_meet
                case rel => exact ⟨rfl, rfl⟩
              case rest => as_aux_lemma =>
                obtain ⟨rfl, hw⟩ := hcut
                replace hw := hw.symm
                subst hw
                clear p1 p2 p3 p4 p5
                go_upto_region 43 with fail
                go_cut [274] from 254 to 274 (fun s w' => s = .bool false ∧ w' = W2)
                case first => as_aux_lemma =>
                  clear l0 l1
                  have hpn := neq31c
                  go_wp2_with fail
                  go_meet
                  case rel => exact ⟨rfl, rfl⟩
                case rest => as_aux_lemma =>
                  obtain ⟨rfl, hw⟩ := hcut
                  replace hw := hw.symm
                  subst hw
                  clear g1 g2 g3
                  go_upto_region 45 with fail
                  go_cut [277] from 275 to 277 (fun s w' => s = .bool false ∧ w' = W2)
                  case first => as_aux_lemma =>
                    clear l1
                    go_wp2_with fail
                    go_meet
                    case rel => exact ⟨rfl, rfl⟩
                  case rest => as_aux_lemma =>
                  obtain ⟨rfl, hw⟩ := hcut
                  replace hw := hw.symm
                  subst hw
                  have hrng : W2.rangeAt eb 0 (evt now 17 gid pid on) := fun j u hj => by rw [Nat.zero_add]; exact l1 j u hj
                  have hth := ev_there W2
                  clear l1
                  go_upto_region 47 with fail
                  go_upto_region 48 with (first
                    | (refine wpList_load_mid rfl 74 (.tmp 279) rfl eb 0 (by rfl) (evt now 17 gid pid on) _ hrng Yba.underlying74 (by rfl) (info74s now 17 gid pid on) ?_)
                    | (refine wpList_store_mid rfl 74 (.tmp 32) (.tmp 280) rfl W2.heap.size 0 (evt now 17 gid pid on).toArray (by rfl) (by rfl) hth (info74s' now 17 gid pid on) (all_oneCell_toArray (evt_one now 17 gid pid on)) ?_))
                  refine wp_worldC (fun W => Below w.heap.size w W ∧ EvAt W W2.heap.size now 17 gid pid on) ⟨ev_below hend now 17 gid pid on, ev_stored W2 now 17 gid pid on⟩ ?_
                  clear l0 hrng hth
                  intro W3 hW3
                  obtain ⟨hend3, hev⟩ := hW3
                  generalize W2.heap.size = XB at hev ⊢
                  go_frame
                  go_cut [307] from 281 to 307 (fun s w' => s = .bool false ∧ w' = W3)
                  case first => as_aux_lemma =>
                    have v0 := hev 0 _ rfl
                    have v1 := hev 1 _ rfl
                    have v2 := hev 2 _ rfl
                    have v4 := hev 4 _ rfl
                    have v14 := hev 14 _ rfl
                    clear hev
                    go_wp2_with fail
                    go_meet
                    case rel => exact ⟨rfl, rfl⟩
                  case rest => as_aux_lemma =>
                    obtain ⟨rfl, hw⟩ := hcut
                    replace hw := hw.symm
                    subst hw
                    go_upto_region 50 with fail
                    go_cut [359] from 308 to 359 (fun s w' => s = .bool false ∧ w' = W3)
                    case first => as_aux_lemma =>
                      have v3 := hev 3 _ rfl
                      have v5 := hev 5 _ rfl
                      have v6 := hev 6 _ rfl
                      have v7 := hev 7 _ rfl
                      have v8 := hev 8 _ rfl
                      have v9 := hev 9 _ rfl
                      have v10 := hev 10 _ rfl
                      have v11 := hev 11 _ rfl
                      have v12 := hev 12 _ rfl
                      have v13 := hev 13 _ rfl
                      have v15 := hev 15 _ rfl
                      clear hev
                      go_wp2_with fail
                      go_meet
                      case rel => exact ⟨rfl, rfl⟩
                    case rest => as_aux_lemma =>
                      obtain ⟨rfl, hw⟩ := hcut
                      replace hw := hw.symm
                      subst hw
                      go_wp2_with fail
                      go_ret
                      exact ⟨rfl, hend3⟩
end Go.Proofs.Ybulkfkea
