/- slices.Sort at uint64: of at most thirteen numbers. Conditions: sizes. A member set as a sorted slice. Conditions: sizes. ConfState of the tracker that lies in a raft. Conditions: sizes. -/
import Derived.Sort.LotA
import Derived.Test.YtalhhplphlobbaaGreatP13
import Derived.Test.YtalhhplphlobbaaGreatP14
set_option linter.unusedVariables false
set_option linter.unusedSimpArgs false
namespace Go.Proofs.YtalhhplphlobbaaGreat
open Go.RowKit Go.Sort
set_option maxRecDepth 100000 in
set_option maxHeartbeats 1000000 in
theorem len64_13 (w : World) : Calls Tryz.prog 399 #[.int .u64 13] w fun e w' => e = .returned (.int .i64 4) ∧ w = w' := by
  go_enter Tryz.func399, Tryz.ntmps399
  go_wp2
  go_ret
  exact ⟨by kernel_rfl, rfl⟩
set_option maxRecDepth 100000 in
set_option maxHeartbeats 1000000 in
theorem len64_small (x : Nat) (hx : x ≤ 12) (w : World) : Calls Tryz.prog 399 #[.int .u64 x] w fun e w' => ∃ l : Int, e = .returned (.int .i64 l) ∧ w = w' := by
  have h1 : ¬ (4294967296 : Int) ≤ x := by omega
  have h2 : ¬ (65536 : Int) ≤ x := by omega
  have h3 : ¬ (256 : Int) ≤ x := by omega
  have h4 : (x : Int) < 256 := by omega
  have h5 : x = 0 ∨ x = 1 ∨ x = 2 ∨ x = 3 ∨ x = 4 ∨ x = 5 ∨ x = 6 ∨ x = 7 ∨ x = 8 ∨ x = 9 ∨ x = 10 ∨ x = 11 ∨ x = 12 := by omega
  clear h1 h2 h3 h4 hx
  rcases h5 with rfl | rfl | rfl | rfl | rfl | rfl | rfl | rfl | rfl | rfl | rfl | rfl | rfl
  all_goals
    go_enter Tryz.func399, Tryz.ntmps399
    go_wp2
    go_ret
    exact ⟨_, rfl, rfl⟩

set_option maxRecDepth 100000 in
set_option maxHeartbeats 1000000 in
/-- A part of at most twelve places. -/
theorem pdq_small {w : World} {b t n a e : Nat} {l : Int} {d : Array Int} {r : List Value} {cap : Nat} (h : Rw w b t d r) (hsz : d.size = n) (hn : n < 50) (hae : a ≤ e) (hen : e ≤ n) (h12 : e ≤ a + 12) :
    Calls Tryz.prog 398 #[.slice (some ⟨b, 0, none⟩) n cap, .int .i64 a, .int .i64 e, .int .i64 l] w fun x w' => x = .returned (.tuple #[]) ∧ Rw w' b t (Sort.insertionSort ltInt d a e) r ∧ (Sort.insertionSort ltInt d a e).size = n ∧ (Sort.insertionSort ltInt d a e).toList.Perm d.toList ∧ Chg [b] w w' := by
  subst hsz
  have h0 := insertionSort_holds (lt := ltInt) swo_ltInt d a e hae hen
  have h2 : (e : Int) - a ≤ 12 := by omega
  have H := Lib.hid h
  have HH := Lib.hid h.holds
  have H0 := Lib.hid h0
  clear h h0
  go_enter Tryz.func398, Tryz.ntmps398
  go_wp2_with fail
  refine wp_loop_rounds 1 ?_
  rw [rounds_succ]
  go_wp2_with (go_at_call 422; refine (insSort_u64 b 0 cap a e d _ HH.out hae hen (by omega)).mono ?_; rintro e w' ⟨rfl, m, rfl⟩)
  refine bodyPost_ret (results_none rfl _ _ _) rfl ?_
  refine ⟨rfl, H.out.put m H0.out.1.1, H0.out.1.1, ?_, chg_put _ _ _ _⟩
  exact perm_of (permIn_mono _ _ _ _ 0 d.size (Nat.zero_le _) hen (Nat.le_refl _) H0.out.1)

set_option maxRecDepth 100000 in
set_option maxHeartbeats 4000000 in
theorem pdq_13 {w : World} {b t n : Nat} {d : Array Int} {r : List Value} {cap : Nat} (h : Rw w b t d r) (hsz : d.size = n) (hn : n = 13) :
    Calls Tryz.prog 398 #[.slice (some ⟨b, 0, none⟩) n cap, .int .i64 0, .int .i64 n, .int .i64 4] w fun x w' => ∃ d', x = .returned (.tuple #[]) ∧ Rw w' b t d' r ∧ d'.size = n ∧ d'.toList.Perm d.toList ∧ Chg [b] w w' := by
  have H := Lib.hid h
  have HZ := Lib.hid hsz
  have b1 : 12 < n := by omega
  have b2 : n < 14 := by omega
  have b3 : (n : Int) < 14 := by omega
  have b4 : 12 < (n : Int) := by omega
  have HN := Lib.hid hn
  clear h hsz hn
  go_enter Tryz.func398, Tryz.ntmps398
  go_wp2_with fail
  go_loopw [1, 2, 3, 8, 9] (fun va vb vl v8 v9 wr => vl = .int .i64 4 ∧ ((va = .int .i64 0 ∧ vb = .int .i64 n ∧ v8 = .bool true ∧ v9 = .bool true ∧ w = wr) ∨
      ∃ (a e : Nat) (x y : Bool) (d2 : Array Int), va = .int .i64 a ∧ vb = .int .i64 e ∧ v8 = .bool x ∧ v9 = .bool y ∧ a ≤ e ∧ e ≤ n ∧ e ≤ a + 12 ∧ Rw wr b t d2 r ∧ d2.size = n ∧ d2.toList.Perm d.toList ∧ Chg [b] w wr)) (fun va vb _ _ _ _ => (intOf vb - intOf va).toNat)
  case atStart => exact ⟨rfl, .inl ⟨rfl, rfl, rfl, rfl, rfl⟩⟩
  case round =>
    obtain ⟨rfl, hrel⟩ := hrel
    rcases hrel with ⟨rfl, rfl, rfl, rfl, rfl⟩ | ⟨a, e, x, y, d2, rfl, rfl, rfl, rfl, hae, hen, h12, hR, hS, hP, hC⟩
    · go_wp2_with fail
      have hPv := pivot_u64 (cap := cap) H.out (HZ.out.trans HN.out)
      rw [HZ.out, show (13 : Int) = (n : Int) from by omega] at hPv
      (go_at_call 425; refine hPv.mono ?_)
      rintro z w1 ⟨pv, k, rfl, hpv, hk, hc1⟩
      have hIns := partIns_u64 (cap := cap) (H.out.chg hc1) HZ.out (by omega) (by omega)
      have HIns := Lib.hid hIns
      have HC1 := Lib.hid hc1
      clear hPv hIns hc1
      rcases hk with rfl | rfl
      · have HRW := Lib.hid (H.out.chg HC1.out)
        have HCW := Lib.hid (HC1.out.mono (L' := [b]) (by simp))
        clear HIns
        go_wp2_with fail
        go_quiet (fail)
        go_wp2_with fail
        (go_at_call 430; refine (partition_u64 (cap := cap) (pv := pv) (Rw.drewN HRW.out _) HZ.out (by omega) (by omega) (by omega)).mono ?_)
        rintro z w3 ⟨j, vv, d3, rfl, hj, hS, hP, hR, hC⟩
        have HR := Lib.hid hR
        have HS := Lib.hid hS
        have HP := Lib.hid hP
        have HC3 := Lib.hid ((HCW.out.drewN nq).trans hC)
        clear hR hS hP hC
        by_cases hlr : (j : Int) < (n : Int) - j
        · go_wp2_with fail
          (go_at_call 398; refine (pdq_small (l := 4) (a := 0) (e := j) HR.out HS.out (by omega) (by omega) (by omega) (by omega)).mono ?_)
          rintro z w4 ⟨rfl, hR4, hS4, hP4, hC4⟩
          have HR4 := Lib.hid hR4
          have HS4 := Lib.hid hS4
          have HP4 := Lib.hid (hP4.trans HP.out)
          have HC4 := Lib.hid (HC3.out.trans hC4)
          clear hR4 hS4 hP4 hC4
          go_wp2
          go_roundw
          case rel => exact ⟨rfl, .inr ⟨j + 1, n, _, _, _, by go_num, rfl, rfl, rfl, by omega, by omega, by omega, HR4.out, HS4.out, HP4.out, HC4.out⟩⟩
          case measure => simp [intOf]; omega
        · go_wp2_with fail
          have e1 : ((j : Int) + 1) = ((j + 1 : Nat) : Int) := by omega
          rw [e1]
          clear e1
          (go_at_call 398; refine (pdq_small (l := 4) (a := j + 1) (e := n) HR.out HS.out (by omega) (by omega) (by omega) (by omega)).mono ?_)
          rintro z w4 ⟨rfl, hR4, hS4, hP4, hC4⟩
          have HR4 := Lib.hid hR4
          have HS4 := Lib.hid hS4
          have HP4 := Lib.hid (hP4.trans HP.out)
          have HC4 := Lib.hid (HC3.out.trans hC4)
          clear hR4 hS4 hP4 hC4
          go_wp2
          go_roundw
          case rel => exact ⟨rfl, .inr ⟨0, j, _, _, _, by go_num, rfl, rfl, rfl, by omega, by omega, by omega, HR4.out, HS4.out, HP4.out, HC4.out⟩⟩
          case measure => simp [intOf]; omega
      · go_wp2_with fail
        (go_at_call 427; refine (HIns.out).mono ?_)
        rintro z w2 ⟨vv, m, rfl, hw2⟩
        have hCW : Chg [] w w2 := by rw [hw2]; exact HC1.out.drewN m
        have HCW := Lib.hid (hCW.mono (L' := [b]) (by simp))
        have HRW := Lib.hid (H.out.chg hCW)
        clear hCW hw2 HIns
        cases vv
        · go_wp2_with fail
          go_quiet (fail)
          go_wp2_with fail
          (go_at_call 430; refine (partition_u64 (cap := cap) (pv := pv) (Rw.drewN HRW.out _) HZ.out (by omega) (by omega) (by omega)).mono ?_)
          rintro z w3 ⟨j, vv, d3, rfl, hj, hS, hP, hR, hC⟩
          have HR := Lib.hid hR
          have HS := Lib.hid hS
          have HP := Lib.hid hP
          have HC3 := Lib.hid ((HCW.out.drewN nq).trans hC)
          clear hR hS hP hC
          by_cases hlr : (j : Int) < (n : Int) - j
          · go_wp2_with fail
            (go_at_call 398; refine (pdq_small (l := 4) (a := 0) (e := j) HR.out HS.out (by omega) (by omega) (by omega) (by omega)).mono ?_)
            rintro z w4 ⟨rfl, hR4, hS4, hP4, hC4⟩
            have HR4 := Lib.hid hR4
            have HS4 := Lib.hid hS4
            have HP4 := Lib.hid (hP4.trans HP.out)
            have HC4 := Lib.hid (HC3.out.trans hC4)
            clear hR4 hS4 hP4 hC4
            go_wp2
            go_roundw
            case rel => exact ⟨rfl, .inr ⟨j + 1, n, _, _, _, by go_num, rfl, rfl, rfl, by omega, by omega, by omega, HR4.out, HS4.out, HP4.out, HC4.out⟩⟩
            case measure => simp [intOf]; omega
          · go_wp2_with fail
            have e1 : ((j : Int) + 1) = ((j + 1 : Nat) : Int) := by omega
            rw [e1]
            clear e1
            (go_at_call 398; refine (pdq_small (l := 4) (a := j + 1) (e := n) HR.out HS.out (by omega) (by omega) (by omega) (by omega)).mono ?_)
            rintro z w4 ⟨rfl, hR4, hS4, hP4, hC4⟩
            have HR4 := Lib.hid hR4
            have HS4 := Lib.hid hS4
            have HP4 := Lib.hid (hP4.trans HP.out)
            have HC4 := Lib.hid (HC3.out.trans hC4)
            clear hR4 hS4 hP4 hC4
            go_wp2
            go_roundw
            case rel => exact ⟨rfl, .inr ⟨0, j, _, _, _, by go_num, rfl, rfl, rfl, by omega, by omega, by omega, HR4.out, HS4.out, HP4.out, HC4.out⟩⟩
            case measure => simp [intOf]; omega
        · go_wp2_with fail
          refine bodyPost_ret (results_none rfl _ _ _) rfl ?_
          exact ⟨d, rfl, HRW.out, HZ.out, List.Perm.refl _, HCW.out⟩
    · have hR' := Lib.hid hR
      have HS := Lib.hid hS
      have HP := Lib.hid hP
      have HC := Lib.hid hC
      have h13 : (e : Int) - a ≤ 12 := by omega
      clear hR hS hP hC
      have h0 := insertionSort_holds (lt := ltInt) swo_ltInt d2 a e hae (by have := HS.out; omega)
      have hI := (insSort_u64 b 0 cap a e d2 _ hR'.out.holds hae (by have := HS.out; omega) (by have := HS.out; omega))
      rw [HS.out] at hI
      have HI := Lib.hid hI
      have H0 := Lib.hid h0
      clear hI h0
      go_wp2_with (go_at_call 422; refine HI.out.mono ?_; rintro e w' ⟨rfl, m, rfl⟩)
      refine bodyPost_ret (results_none rfl _ _ _) rfl ?_
      refine ⟨_, rfl, hR'.out.put m H0.out.1.1, by rw [H0.out.1.1]; exact HS.out, (perm_of (permIn_mono _ _ _ _ 0 d2.size (Nat.zero_le _) (by have := HS.out; omega) (Nat.le_refl _) H0.out.1)).trans HP.out, HC.out.trans (chg_put _ _ _ _)⟩

set_option maxRecDepth 100000 in
set_option maxHeartbeats 1000000 in
/-- slices.Sort of at most thirteen numbers that lie at a block's head. -/
theorem sort_any {w : World} {b t n : Nat} {d : Array Int} {r : List Value} {cap : Nat} (h : Rw w b t d r) (hsz : d.size = n) (hn : n ≤ 13) :
    Calls Tryz.prog 351 #[.slice (some ⟨b, 0, none⟩) n cap] w fun x w' => ∃ d', x = .returned (.tuple #[]) ∧ Rw w' b t d' r ∧ d'.size = n ∧ d'.toList.Perm d.toList ∧ (n ≤ 12 → SortedIn ltInt 0 n d') ∧ Chg [b] w w' := by
  have H := Lib.hid h
  have HZ := Lib.hid hsz
  clear h hsz
  have w0 : 0 ≤ (n : Int) := by omega
  have w1 : (n : Int) ≤ 13 := by omega
  by_cases h12 : n ≤ 12
  · go_enter Tryz.func351, Tryz.ntmps351
    go_wp2_with (first | (go_at_call 399; refine (len64_small n h12 _).mono ?_; rintro e w' ⟨l, rfl, rfl⟩) | (go_at_call 398; refine (pdq_small (a := 0) (e := n) H.out HZ.out (by omega) (by omega) (by omega) (by omega)).mono ?_; rintro z w4 ⟨rfl, hR4, hS4, hP4, hC4⟩))
    go_end0
    refine ⟨_, rfl, hR4, hS4, hP4, fun _ => ?_, hC4⟩
    have := (insertionSort_holds (lt := ltInt) swo_ltInt d 0 n (by omega) (by have := HZ.out; omega)).2
    exact this
  · obtain rfl : n = 13 := by omega
    go_enter Tryz.func351, Tryz.ntmps351
    go_wp2_with (first | (go_at_call 399; refine (len64_13 _).mono ?_; rintro e w' ⟨rfl, rfl⟩) | (go_at_call 398; refine (pdq_13 H.out HZ.out rfl).mono ?_; rintro z w4 ⟨d', rfl, hR4, hS4, hP4, hC4⟩))
    go_end0
    exact ⟨_, rfl, hR4, hS4, hP4, fun h => absurd h h12, hC4⟩

set_option maxRecDepth 100000 in
set_option maxHeartbeats 1000000 in
theorem ins_nil (w : World) : Calls Tryz.prog 422 #[.slice none 0 0, .int .i64 0, .int .i64 0] w fun x w' => x = .returned (.tuple #[]) ∧ w = w' := by
  go_enter Tryz.func422, Tryz.ntmps422
  go_wp2
  go_loopw [6] (fun vi wr => vi = .int .i64 1 ∧ w = wr) (fun _ _ => 0)
  case atStart => exact ⟨rfl, rfl⟩
  case round =>
    obtain ⟨rfl, rfl⟩ := hrel
    go_wp2
    go_end0
    exact ⟨rfl, rfl⟩
set_option maxRecDepth 100000 in
set_option maxHeartbeats 1000000 in
theorem pdq_nil (w : World) (l : Int) : Calls Tryz.prog 398 #[.slice none 0 0, .int .i64 0, .int .i64 0, .int .i64 l] w fun x w' => x = .returned (.tuple #[]) ∧ w = w' := by
  go_enter Tryz.func398, Tryz.ntmps398
  go_wp2_with fail
  refine wp_loop_rounds 1 ?_
  rw [rounds_succ]
  go_wp2_with (go_at_call 422; refine (ins_nil _).mono ?_; rintro e w' ⟨rfl, rfl⟩)
  refine bodyPost_ret (results_none rfl _ _ _) rfl ?_
  exact ⟨rfl, rfl⟩
set_option maxRecDepth 100000 in
set_option maxHeartbeats 1000000 in
theorem sort_nil (w : World) : Calls Tryz.prog 351 #[.slice none 0 0] w fun x w' => x = .returned (.tuple #[]) ∧ w = w' := by
  go_enter Tryz.func351, Tryz.ntmps351
  go_wp2_with (first | (go_at_call 399; refine (len64_small 0 (by omega) _).mono ?_; rintro e w' ⟨l, rfl, rfl⟩) | (go_at_call 398; refine (pdq_nil _ _).mono ?_; rintro e w' ⟨rfl, rfl⟩))
  go_end0
  exact ⟨rfl, rfl⟩
/-- What a sorted array says of its list. -/
theorem sorted_list {d : Array Int} {n : Nat} (hs : d.size = n) (h : SortedIn ltInt 0 n d) : d.toList.Pairwise (· ≤ ·) := by
  rw [List.pairwise_iff_getElem]
  intro i j hi hj hij
  have h1 := h i j (by omega) hij (by simp at hj; omega)
  simp only [ltInt, decide_eq_false_iff_not] at h1
  have e1 : d[i]! = d.toList[i] := by simp at hi; simp [hi]
  have e2 : d[j]! = d.toList[j] := by simp at hj; simp [hj]
  rw [e1, e2] at h1
  omega
end Go.Proofs.YtalhhplphlobbaaGreat
namespace Go.Proofs.YtalhhplphlobbaaGreat
open Go.RowKit
set_option maxRecDepth 100000 in
set_option maxHeartbeats 2000000 in
theorem slice_any {w : World} {r : Option Nat} {S : List Int} (h : SetAt w (.map r) S) (hl : S.length ≤ 13) :
    Calls Tryz.prog 380 #[.map r] w fun y w' => ∃ A n c xs, y = .returned (.slice A n c) ∧ (∀ M : List Nat, (∀ x ∈ M, x < w.heap.size) → Sl M w' (.slice A n c) (U64s xs)) ∧ xs.Perm S ∧ (S.length ≤ 12 → xs.Pairwise (· ≤ ·)) ∧ (S = [] → y = .returned (.slice none 0 0)) ∧ Nxt w w' := by
  obtain ⟨i0, hi, hz0, hz1, hz2⟩ := info_parts info22
  have hb := h.blk
  have hnd := h.1
  go_enter Tryz.func380, Tryz.ntmps380
  go_wp2_with (first | (at_range; refine wp_rangeS _ rfl _ 282 rfl Tryz.underlying282 (v := .map r) rfl h ?_; intro w1 hrg1 hn1 hws1) | go_in)
  go_frame
  go_loopw [3] (fun ov wi => ∃ (dn : List Int) (ov' : Value), ov' = ov ∧ RgS wi (.map r) w.heap.size S dn ∧ wi.ownsRow (w.heap.size + 1) 22 1 ov' dn.length (U64s dn) ∧ Chg [] w wi ∧ w.heap.size + 1 ≤ wi.heap.size ∧ (dn = [] → ov' = .slice none 0 0)) (fun _ wi => rgLeft wi (.map r) w.heap.size)
  case atStart => exact ⟨[], _, rfl, hrg1, own_nil _ _ _ _, hn1.out, by omega, fun _ => rfl⟩
  case round =>
    obtain ⟨dn, ov, rfl, hrg, hown, hci, hbz, hnil⟩ := hrel
    have hsb := hrg.sub
    have hln := nodup_le hsb.1 hsb.2
    go_wp2_with (first | (at_next; refine wp_nextS _ rfl _ rfl (v := .map r) (S := S) (dn := dn) rfl hrg ?_ ?_) | go_in)
    · intro hall
      have hp : dn.Perm S := (List.perm_ext_iff_of_nodup hsb.1 hnd).2 (fun k => ⟨hsb.2 k, hall k⟩)
      have HC := Lib.hid hci
      rcases hown with ⟨hlen, ⟨rfl, hl0⟩ | ⟨g, cap, cur, rfl, hg, hh, hnc, hcm, hcs, hcur⟩⟩
      · have hdn : dn = [] := List.eq_nil_of_length_eq_zero hl0
        subst hdn
        clear hall hrg hci
        go_wp2_with (first | (go_at_call 351; refine (sort_nil _).mono ?_; rintro e w5 ⟨rfl, rfl⟩))
        go_ret
        exact ⟨none, 0, 0, [], rfl, fun _ _ => Sl.nil _ _, hp, fun _ => .nil, fun _ => rfl, ⟨HC.out⟩⟩
      · have hrw : Rw wr g 22 dn.toArray (cur.toList.drop dn.length) := by
          unfold Rw Blk
          rw [hh]
          congr 2
          rw [Nat.mul_one] at hcur
          have : dn.map (Value.int .u64) = cur.toList.take dn.length := hcur.symm
          simp only [this, List.take_append_drop]
        have HPL := Lib.hid hp.length_eq
        have HNIL := Lib.hid (show S ≠ [] from fun e => by
          have h1 : dn = [] := by rw [e] at hp; exact hp.eq_nil
          have h2 := hnil h1
          cases h2)
        have hgw : w.heap.size ≤ g := by omega
        have HRW := Lib.hid hrw
        have HP := Lib.hid hp
        clear hall hrg hci hrw hcur hcs hh hp hnil
        go_wp2_with (first | (go_at_call 351; refine (sort_any HRW.out (by simp) (by omega)).mono ?_; rintro e w5 ⟨d', rfl, hd1, hd2, hd3, hd4, hd5⟩))
        go_ret
        refine ⟨some ⟨g, 0, none⟩, dn.length, cap, d'.toList, rfl, fun M hM => ⟨_, _, _, rfl, by simp [U64s, hd2], hnc, by simp, ?_⟩, hd3.trans HP.out, fun h12 => sorted_list hd2 (hd4 (by have := HPL.out; omega)), fun e => absurd e HNIL.out, ⟨HC.out.then hd5 (fun x hx hl => by simp at hx; omega)⟩⟩
        rintro b o s' e
        cases e
        refine ⟨rfl, fun hm => by have := hM _ hm; omega, Blk.lt hd1, fun j u hj => ?_⟩
        have hd6 : Blk w5 g 22 (d'.toList.map (Value.int .u64) ++ cur.toList.drop dn.length).toArray := hd1
        rw [hd6.cell, List.getElem?_toArray, Nat.zero_add, List.getElem?_append_left (by have := (List.getElem?_eq_some_iff.1 hj).1; simpa [U64s] using this)]
        exact hj
    · intro x w2 hx0 hx1 hxs hnot hrg2 hlt2 hc2 hs2 hen
      have hown2 := own_chg hown hc2 (by simp)
      have hsz := hci.size
      go_wp2_with (first | (at_builtin; refine wpList_append_sl _ [] rfl _ _ 24 rfl (w.heap.size + 1) 22 i0 (.int .u64 0) 8 Tryz.underlying24 hi hz0 hz1 hz2 rfl _ dn.length (U64s dn) rfl ?c0 _ [.int .u64 x] rfl ?c5 ?c1 ?c2 ?c3 ?c4 ?_))
      case c0 => exact own_chg0 hown2 ((Chg.refl _ _).alloc _)
      case c5 => have z := Sl.new1 w2 (.int .u64 x) 22; rw [hs2] at z; exact z
      case c1 => simp [Value.oneCell']
      case c2 => simp only [List.length_singleton, maxLen]; omega
      case c3 => simp only [List.length_singleton]; omega
      case c4 => simp; omega
      intro v' w3 hown3 hg3 hat3
      have hc3 : Chg (rowL ov) w2 w3 := ((Chg.refl (rowL ov) w2).alloc _).trans (chg_row hg3)
      have hlo := fun g (hg : g ∈ rowL ov) => own_lt hown2 hg
      have hr3 := hrg2.chg hc3 (fun b hb' => fun hm => by have := hb b hb'; have := (hlo b hm).1; omega) (fun hm => by have := (hlo _ hm).1; omega)
      have hc4 : Chg [] w w3 := (hci.then hc2 (by simp)).then hc3 (fun g hg hl => by have := (hlo g hg).1; omega)
      have hz3 := hc3.size
      clear hown2 hown hrg hrg2 hc2 hg3 hc3 hci hen hnil
      go_wp2
      go_roundw
      case rel => exact ⟨dn ++ [x], _, rfl, hr3.1, by simpa [U64s] using hown3, hc4, by omega, by simp⟩
      case measure =>
        rw [hr3.2]
        exact hlt2
theorem slice_from (W w : World) {r : Option Nat} {S : List Int} (h : SetAt W (.map r) S) (hl : S.length ≤ 12) (hW : Chg [] W w) :
    Calls Tryz.prog 380 #[.map r] w fun y w' => ∃ A n c xs, y = .returned (.slice A n c) ∧ (∀ M : List Nat, (∀ x ∈ M, x < W.heap.size) → Sl M w' (.slice A n c) (U64s xs)) ∧ xs.Perm S ∧ xs.Pairwise (· ≤ ·) ∧ Chg [] W w' ∧ Nxt w w' := by
  refine (slice_any (h.chg hW (by simp)) (by omega)).mono ?_
  rintro y w' ⟨A, n, c, xs, rfl, h1, h2, h3, _, hn⟩
  exact ⟨A, n, c, xs, rfl, fun M hM => h1 M (fun x hx => Nat.lt_of_lt_of_le (hM x hx) hW.size), h2, h3 hl, hW.nxt hn, hn⟩
theorem sliceNil_from (W w : World) (hW : Chg [] W w) : Calls Tryz.prog 380 #[.map none] w fun y w' => y = .returned (.slice none 0 0) ∧ Chg [] W w' ∧ Nxt w w' := by
  refine (slice_any (SetAt.nil w) (by simp)).mono ?_
  rintro y w' ⟨A, n, c, xs, e, h1, h2, h3, h4, hn⟩
  exact ⟨h4 rfl, hW.nxt hn, hn⟩
end Go.Proofs.YtalhhplphlobbaaGreat
namespace Go.Proofs.YtalhhplphlobbaaGreat
open Go.RowKit
section
variable {w w' W : World} {b : Nat} {r0 r2 : Option Nat}
theorem heldT (hn : Nxt w w') (hc : Chg [] W w') (h : (w).cell? ⟨b, 7, none⟩ = some (.map r0) ∧ (w).cell? ⟨b, 8, none⟩ = some (.map none) ∧ (w).cell? ⟨b, 9, none⟩ = some (.bool false) ∧ (w).cell? ⟨b, 10, none⟩ = some (.map r2) ∧ (w).cell? ⟨b, 11, none⟩ = some (.map none) ∧ Chg [] W (w)) : (w').cell? ⟨b, 7, none⟩ = some (.map r0) ∧ (w').cell? ⟨b, 8, none⟩ = some (.map none) ∧ (w').cell? ⟨b, 9, none⟩ = some (.bool false) ∧ (w').cell? ⟨b, 10, none⟩ = some (.map r2) ∧ (w').cell? ⟨b, 11, none⟩ = some (.map none) ∧ Chg [] W (w') :=
  ⟨cell_nxt hn h.1, cell_nxt hn h.2.1, cell_nxt hn h.2.2.1, cell_nxt hn h.2.2.2.1, cell_nxt hn h.2.2.2.2.1, hc⟩
theorem heldTa (o : Obj) (h : (w).cell? ⟨b, 7, none⟩ = some (.map r0) ∧ (w).cell? ⟨b, 8, none⟩ = some (.map none) ∧ (w).cell? ⟨b, 9, none⟩ = some (.bool false) ∧ (w).cell? ⟨b, 10, none⟩ = some (.map r2) ∧ (w).cell? ⟨b, 11, none⟩ = some (.map none) ∧ Chg [] W (w)) : (w.alloc o).cell? ⟨b, 7, none⟩ = some (.map r0) ∧ (w.alloc o).cell? ⟨b, 8, none⟩ = some (.map none) ∧ (w.alloc o).cell? ⟨b, 9, none⟩ = some (.bool false) ∧ (w.alloc o).cell? ⟨b, 10, none⟩ = some (.map r2) ∧ (w.alloc o).cell? ⟨b, 11, none⟩ = some (.map none) ∧ Chg [] W (w.alloc o) :=
  heldT ⟨(Chg.refl _ _).alloc _⟩ (h.2.2.2.2.2.alloc _) h
end
set_option maxRecDepth 100000 in
set_option maxHeartbeats 2000000 in
theorem confState_any {W : World} {b : Nat} {r0 r2 : Option Nat} {V L : List Int}
    (c0 : W.cell? ⟨b, 7, none⟩ = some (.map r0)) (c1 : W.cell? ⟨b, 8, none⟩ = some (.map none)) (c2 : W.cell? ⟨b, 9, none⟩ = some (.bool false)) (c3 : W.cell? ⟨b, 10, none⟩ = some (.map r2)) (c4 : W.cell? ⟨b, 11, none⟩ = some (.map none))
    (hV : SetAt W (.map r0) V) (hL : SetAt W (.map r2) L) (lV : V.length ≤ 12) (lL : L.length ≤ 12) (hne : r0 ≠ none) :
    Calls Tryz.prog 330 #[.pointer (some ⟨b, 7, none⟩)] W fun y w' => ∃ g xs ys, y = .returned (.pointer (some ⟨g, 0, none⟩)) ∧ (∀ M : List Nat, (∀ x ∈ M, x < W.heap.size) → ConfAt M w' (.pointer (some ⟨g, 0, none⟩)) xs ys [] [] false) ∧ xs.Perm V ∧ ys.Perm L ∧ xs.Pairwise (· ≤ ·) ∧ ys.Pairwise (· ≤ ·) ∧ Nxt W w' := by
  have hS0 : (W.drew).cell? ⟨b, 7, none⟩ = some (.map r0) ∧ (W.drew).cell? ⟨b, 8, none⟩ = some (.map none) ∧ (W.drew).cell? ⟨b, 9, none⟩ = some (.bool false) ∧ (W.drew).cell? ⟨b, 10, none⟩ = some (.map r2) ∧ (W.drew).cell? ⟨b, 11, none⟩ = some (.map none) ∧ Chg [] W (W.drew) := ⟨c0, c1, c2, c3, c4, (Chg.refl _ _).drew⟩
  have HS0 := Lib.hid hS0
  have HV := Lib.hid hV
  have HL := Lib.hid hL
  clear hS0 c0 c1 c2 c3 c4 hV hL
  go_enter Tryz.func330, Tryz.ntmps330
  go_wp2_with fail
  go_region_held3 (fun wx => (wx).cell? ⟨b, 7, none⟩ = some (.map r0) ∧ (wx).cell? ⟨b, 8, none⟩ = some (.map none) ∧ (wx).cell? ⟨b, 9, none⟩ = some (.bool false) ∧ (wx).cell? ⟨b, 10, none⟩ = some (.map r2) ∧ (wx).cell? ⟨b, 11, none⟩ = some (.map none) ∧ Chg [] W (wx))
    (first | with_reducible exact HS0.out | exact heldT (by with_reducible assumption) (by with_reducible assumption) (by first | with_reducible assumption | with_reducible exact HS0.out) | exact heldTa _ (by first | with_reducible assumption | with_reducible exact HS0.out) | exact heldTa _ (heldTa _ (by first | with_reducible assumption | with_reducible exact HS0.out)))
    (first | (go_at_call 380; (with_reducible refine Calls.mono (slice_from W _ (r := r0) HV.out lV ?_) ?_); (first | with_reducible assumption | exact (Chg.refl _ _).drew | (simp [*]; done)); rintro e w1 ⟨A1, n1, k1, xs, rfl, s1, p1, q1, hc1, hn1⟩) | (go_at_call 380; (with_reducible refine Calls.mono (slice_from W _ (r := r2) HL.out lL ?_) ?_); (first | with_reducible assumption | exact (Chg.refl _ _).drew | (simp [*]; done)); rintro e w2 ⟨A2, n2, k2, ys, rfl, s2, p2, q2, hc2, hn2⟩; have k13 : Chg [] w1 w2 := hn3.out.trans hn2.out) | (go_at_call 380; (with_reducible refine Calls.mono (sliceNil_from W _ ?_) ?_); (first | with_reducible assumption | exact (Chg.refl _ _).drew | (simp [*]; done)); rintro e w3 ⟨rfl, hc3, hn3⟩))
  have hC : ∀ o o' : Obj, Chg [] w3 ((w3.alloc o).alloc o') := fun o o' => ((Chg.refl _ _).alloc _).alloc _
  have hb : Blk ((w3.alloc (.cells #[.bool false] 4)).alloc (.cells #[.slice A1 n1 k1, .slice A2 n2 k2, .slice none 0 0, .slice none 0 0, .pointer (some ⟨w3.heap.size, 0, none⟩)] 262)) (w3.heap.size + 1) 262 #[.slice A1 n1 k1, .slice A2 n2 k2, .slice none 0 0, .slice none 0 0, .pointer (some ⟨w3.heap.size, 0, none⟩)] := by
    have z := Blk.new (w3.alloc (.cells #[.bool false] 4)) 262 #[.slice A1 n1 k1, .slice A2 n2 k2, .slice none 0 0, .slice none 0 0, .pointer (some ⟨w3.heap.size, 0, none⟩)]
    simp at z
    exact z
  have hp : Blk ((w3.alloc (.cells #[.bool false] 4)).alloc (.cells #[.slice A1 n1 k1, .slice A2 n2 k2, .slice none 0 0, .slice none 0 0, .pointer (some ⟨w3.heap.size, 0, none⟩)] 262)) w3.heap.size 4 #[.bool false] := (Blk.new w3 4 #[.bool false]).alloc _
  have e1 : ∀ M : List Nat, (∀ x ∈ M, x < W.heap.size) → Sl M ((w3.alloc (.cells #[.bool false] 4)).alloc (.cells #[.slice A1 n1 k1, .slice A2 n2 k2, .slice none 0 0, .slice none 0 0, .pointer (some ⟨w3.heap.size, 0, none⟩)] 262)) (.slice A1 n1 k1) (U64s xs) := fun M hM => (s1 M hM).chg0 ((k13.trans hn3.out).trans (hC _ _))
  have e2 : ∀ M : List Nat, (∀ x ∈ M, x < W.heap.size) → Sl M ((w3.alloc (.cells #[.bool false] 4)).alloc (.cells #[.slice A1 n1 k1, .slice A2 n2 k2, .slice none 0 0, .slice none 0 0, .pointer (some ⟨w3.heap.size, 0, none⟩)] 262)) (.slice A2 n2 k2) (U64s ys) := fun M hM => (s2 M hM).chg0 (hn3.out.trans (hC _ _))
  have e3 : Chg [] W ((w3.alloc (.cells #[.bool false] 4)).alloc (.cells #[.slice A1 n1 k1, .slice A2 n2 k2, .slice none 0 0, .slice none 0 0, .pointer (some ⟨w3.heap.size, 0, none⟩)] 262)) := hc3.trans (hC _ _)
  generalize (w3.alloc (.cells #[.bool false] 4)).alloc (.cells #[.slice A1 n1 k1, .slice A2 n2 k2, .slice none 0 0, .slice none 0 0, .pointer (some ⟨w3.heap.size, 0, none⟩)] 262) = w9 at hb hp e1 e2 e3 ⊢
  have l0 := hb.cell 0
  have l1 := hb.cell 1
  have l2 := hb.cell 2
  have l3 := hb.cell 3
  have l4 := hb.cell 4
  simp at l0 l1 l2 l3 l4
  have hz3 := hc3.size
  clear hC k13 hc3 hc2 hn2 hn3 hn1 s1 s2
  go_wp2
  go_ret
  exact ⟨_, xs, ys, rfl, fun M hM => ⟨_, _, _, _, _, _, rfl, fun hm => by have := hM _ hm; omega, hb.lt, l0, l1, l2, l3, l4, e1 M hM, e2 M hM, Sl.nil _ _, Sl.nil _ _, _, _, rfl, fun hm => by have := hM _ hm; omega, hp.lt, by rw [hp.cell 0]; rfl⟩, p1, p2, q1, q2, ⟨e3⟩⟩
end Go.Proofs.YtalhhplphlobbaaGreat
