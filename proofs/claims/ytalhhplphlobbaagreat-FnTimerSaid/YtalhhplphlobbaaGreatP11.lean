/- The symmetric difference of two sets' sizes. Conditions: sizes. Changer.apply, Changer.Simple over a change that adds one member. Conditions: sizes. -/
import Derived.StillTailTactics
import Derived.Test.YtalhhplphlobbaaGreatP07
import Derived.Test.YtalhhplphlobbaaGreatP09
import Derived.Test.YtalhhplphlobbaaGreatP10
set_option linter.unusedVariables false
set_option linter.unusedSimpArgs false
namespace Go.Proofs.YtalhhplphlobbaaGreat
open Go.RowKit
/-- How many of the first are not in the second. -/
def less (A B : List Int) : Nat := (A.filter (fun k => decide (k ∉ B))).length
theorem less_perm {A A' B : List Int} (h : A.Perm A') : less A B = less A' B := by
  unfold less
  exact (h.filter _).length_eq
theorem less_snoc (A B : List Int) (k : Int) : less (A ++ [k]) B = less A B + (if k ∈ B then 0 else 1) := by
  unfold less
  rw [List.filter_append, List.length_append]
  by_cases h : k ∈ B <;> simp [h]
theorem less_le (A B : List Int) : less A B ≤ A.length := List.length_filter_le _ _
set_option maxRecDepth 100000 in
set_option maxHeartbeats 2000000 in
theorem symdiff_any {w : World} {r0 r1 : Option Nat} {S0 S1 : List Int} (h0 : SetAt w (.map r0) S0) (h1 : SetAt w (.map r1) S1) (l0 : S0.length ≤ 1000) (l1 : S1.length ≤ 1000) :
    Calls Tryz.prog 372 #[.map r0, .map r1] w fun y w' => y = .returned (.int .i64 (less S0 S1 + less S1 S0 : Nat)) ∧ Nxt w w' := by
  have H0 := Lib.hid h0
  have H1 := Lib.hid h1
  clear h0 h1
  go_enter Tryz.func372, Tryz.ntmps372
  go_wp2_with fail
  have hAl : Nxt w (w.alloc (.cells #[.map r0, .map r1, .map r1, .map r0] 283)) := ⟨(Chg.refl _ _).alloc _⟩
  have hBk := Blk.new w 283 #[.map r0, .map r1, .map r1, .map r0]
  generalize w.alloc (.cells #[.map r0, .map r1, .map r1, .map r0] 283) = W1 at hAl hBk ⊢
  generalize w.heap.size = n0 at hBk ⊢
  have HW := Lib.hid hAl
  have HBK := Lib.hid hBk
  clear hAl hBk
  go_loopw [21, 5] (fun iv nv wr => ∃ k : Nat, k ≤ 2 ∧ iv = .int .i64 k ∧ nv = .int .i64 ((if k = 0 then 0 else if k = 1 then less S0 S1 else less S0 S1 + less S1 S0 : Nat) : Int) ∧ Nxt W1 wr) (fun iv _ _ => 2 - (intOf iv).toNat)
  case atStart => exact ⟨0, by omega, rfl, rfl, ⟨Chg.refl _ _⟩⟩
  case round =>
    obtain ⟨k, hk, rfl, hnv, hnx⟩ := hrel
    have hB2 := HBK.out.nxt hnx
    have p0 := (hB2).cell 0; have p1 := (hB2).cell 1; have p2 := (hB2).cell 2; have p3 := (hB2).cell 3; simp at p0 p1 p2 p3; have pf := (hB2).frozen; have pl := (hB2).lt
    have HNX := Lib.hid hnx
    clear hB2 hnx
    have hk3 : k = 0 ∨ k = 1 ∨ k = 2 := by omega
    rcases hk3 with rfl | rfl | rfl
    · simp only [if_true] at hnv
      subst hnv
      go_wp2_with (first | (at_range; refine wp_rangeS _ rfl _ 282 rfl Tryz.underlying282 (v := .map r0) (S := S0) rfl ((H0.out.nxt HW.out).nxt (⟨(HNX.out.out).alloc _⟩ : Nxt W1 _)) ?_; intro w3 hrg1 hn3 hz3))
      go_frame
      have hcp := (Blk.new wr 283 #[.map r0, .map r1]).nxt hn3
      have hsz3 : wr.heap.size < (wr.alloc (.cells #[.map r0, .map r1] 283)).heap.size := by simp
      have hn3' : Nxt W1 w3 := ⟨((HNX.out.out).alloc _).nxt hn3⟩
      have HN3 := Lib.hid hn3'
      have HCP := Lib.hid hcp
      clear hn3 hn3' hcp hz3
      obtain ⟨it, hit⟩ : ∃ it, it = (wr.alloc (.cells #[.map r0, .map r1] 283)).heap.size := ⟨_, rfl⟩
      rw [← hit] at hrg1 hsz3 ⊢
      clear hit
      obtain ⟨g, hg⟩ : ∃ g, g = wr.heap.size := ⟨_, rfl⟩
      rw [← hg] at HCP hsz3
      simp only [← hg]
      have HG := Lib.hid hg
      clear hg
      go_loopw [9, 5] (fun _ nv wi => ∃ (dn : List Int), RgS wi (.map r0) it S0 dn ∧ nv = .int .i64 ((0 + less dn S1 : Nat) : Int) ∧ Blk wi g 283 #[.map r0, .map r1] ∧ Nxt W1 wi) (fun _ _ wi => rgLeft wi (.map r0) it)
      case atStart => exact ⟨[], hrg1, by simp [less], HCP.out, HN3.out⟩
      case round =>
        obtain ⟨dn, hrg, rfl, hcp, hci⟩ := hrel
        have hsub := hrg.sub
        have hln := nodup_le hsub.1 hsub.2
        have hl2 := less_le dn S1
        have HCI := Lib.hid hci
        have HSUB := Lib.hid hsub
        have HC := Lib.hid hcp
        clear hci hsub hrg1 hcp
        obtain ⟨m, hm⟩ : ∃ m, m = 0 + less dn S1 := ⟨_, rfl⟩
        rw [← hm]
        have hm1 : m ≤ 3000 := by have := less_le S0 S1; omega
        have HM := Lib.hid hm
        clear hm hl2 hln
        go_wp2_with (first | (at_next; refine wp_nextS _ rfl _ rfl (v := .map r0) (S := S0) (dn := dn) rfl hrg ?_ ?_) | go_in)
        · intro hall
          have hP : less dn S1 = less S0 S1 := less_perm ((List.perm_ext_iff_of_nodup HSUB.out.1 H0.out.1).2 (fun k => ⟨HSUB.out.2 k, hall k⟩))
          have HP := Lib.hid hP
          clear hP hall hrg
          go_wp2
          go_roundw
          case rel => exact ⟨1, by omega, by go_num, by rw [HM.out, HP.out]; simp, HCI.out⟩
          case measure => simp [intOf]
        · intro x w2 hx0 hx1 hxs hnot hrg2 hlt2 hc2 hs2 hen
          have hc2' : Chg [] W1 w2 := HCI.out.out.then hc2 (by have := HNX.out.out.size; have := HG.out; simp; omega)
          have HNX2 := Lib.hid (⟨hc2'⟩ : Nxt W1 w2)
          have hcp2 : Blk w2 g 283 #[.map r0, .map r1] := HC.out.chg hc2 (by simp; omega)
          have c0 := (hcp2).cell 0; have c1 := (hcp2).cell 1; simp at c0 c1; have cf := (hcp2).frozen; have cl := (hcp2).lt
          have HRG2 := Lib.hid hrg2
          have HLT2 := Lib.hid hlt2
          have HCP2 := Lib.hid hcp2
          clear hrg2 hlt2 hc2 hs2 hnot hxs hc2' hcp2
          have hrx : RgS (w2.alloc (.cells #[] 464)) (.map r0) it S0 (dn ++ [x]) ∧ rgLeft (w2.alloc (.cells #[] 464)) (.map r0) it = rgLeft w2 (.map r0) it := HRG2.out.chg (L := []) ((Chg.refl _ _).alloc _) (by simp) (by simp)
          have HRX := Lib.hid hrx
          clear hrx
          by_cases hin : x ∈ S1
          · have hd : decide (x ∈ S1) = true := by simpa using hin
            have HD := Lib.hid hd
            have hls : less (dn ++ [x]) S1 = less dn S1 := by rw [less_snoc]; simp [hin]
            have HLS := Lib.hid hls
            clear hd hin hls
            go_wp2_with (first | (at_lookup; refine wp_lookokS _ rfl _ _ 282 rfl Tryz.underlying282 (v := .map r1) (S := S1) rfl ((H1.out.nxt HW.out).nxt HNX2.out) rfl ⟨hx0, hx1⟩ ?_; rw [HD.out]))
            go_roundw
            case rel => first | exact ⟨dn ++ [x], HRX.out.1, by rw [HLS.out, HM.out], (HCP2.out).alloc _, ⟨HNX2.out.out.alloc _⟩⟩ | ((repeat apply Exists.intro); exact ⟨⟨dn ++ [x], HRX.out.1, by rw [HLS.out, HM.out], (HCP2.out).alloc _, ⟨HNX2.out.out.alloc _⟩⟩, rfl⟩)
            case measure => rw [HRX.out.2]; exact HLT2.out
          · have hd : decide (x ∈ S1) = false := by simpa using hin
            have HD := Lib.hid hd
            have hls : less (dn ++ [x]) S1 = less dn S1 + 1 := by rw [less_snoc]; simp [hin]
            have HLS := Lib.hid hls
            clear hd hin hls
            go_wp2_with (first | (at_lookup; refine wp_lookokS _ rfl _ _ 282 rfl Tryz.underlying282 (v := .map r1) (S := S1) rfl ((H1.out.nxt HW.out).nxt HNX2.out) rfl ⟨hx0, hx1⟩ ?_; rw [HD.out]))
            go_roundw
            case rel => first | exact ⟨dn ++ [x], HRX.out.1, by rw [HLS.out, HM.out]; congr 1; try omega, (HCP2.out).alloc _, ⟨HNX2.out.out.alloc _⟩⟩ | ((repeat apply Exists.intro); exact ⟨⟨dn ++ [x], HRX.out.1, by rw [HLS.out, HM.out]; congr 1; try omega, (HCP2.out).alloc _, ⟨HNX2.out.out.alloc _⟩⟩, rfl⟩)
            case measure => rw [HRX.out.2]; exact HLT2.out
    · simp only [if_true, Nat.one_ne_zero, if_false] at hnv
      subst hnv
      go_wp2_with (first | (at_range; refine wp_rangeS _ rfl _ 282 rfl Tryz.underlying282 (v := .map r1) (S := S1) rfl ((H1.out.nxt HW.out).nxt (⟨(HNX.out.out).alloc _⟩ : Nxt W1 _)) ?_; intro w3 hrg1 hn3 hz3))
      go_frame
      have hcp := (Blk.new wr 283 #[.map r1, .map r0]).nxt hn3
      have hsz3 : wr.heap.size < (wr.alloc (.cells #[.map r1, .map r0] 283)).heap.size := by simp
      have hn3' : Nxt W1 w3 := ⟨((HNX.out.out).alloc _).nxt hn3⟩
      have HN3 := Lib.hid hn3'
      have HCP := Lib.hid hcp
      clear hn3 hn3' hcp hz3
      obtain ⟨it, hit⟩ : ∃ it, it = (wr.alloc (.cells #[.map r1, .map r0] 283)).heap.size := ⟨_, rfl⟩
      rw [← hit] at hrg1 hsz3 ⊢
      clear hit
      obtain ⟨g, hg⟩ : ∃ g, g = wr.heap.size := ⟨_, rfl⟩
      rw [← hg] at HCP hsz3
      simp only [← hg]
      have HG := Lib.hid hg
      clear hg
      go_loopw [9, 5] (fun _ nv wi => ∃ (dn : List Int), RgS wi (.map r1) it S1 dn ∧ nv = .int .i64 ((less S0 S1 + less dn S0 : Nat) : Int) ∧ Blk wi g 283 #[.map r1, .map r0] ∧ Nxt W1 wi) (fun _ _ wi => rgLeft wi (.map r1) it)
      case atStart => exact ⟨[], hrg1, by simp [less], HCP.out, HN3.out⟩
      case round =>
        obtain ⟨dn, hrg, rfl, hcp, hci⟩ := hrel
        have hsub := hrg.sub
        have hln := nodup_le hsub.1 hsub.2
        have hl2 := less_le dn S0
        have HCI := Lib.hid hci
        have HSUB := Lib.hid hsub
        have HC := Lib.hid hcp
        clear hci hsub hrg1 hcp
        obtain ⟨m, hm⟩ : ∃ m, m = less S0 S1 + less dn S0 := ⟨_, rfl⟩
        rw [← hm]
        have hm1 : m ≤ 3000 := by have := less_le S0 S1; omega
        have HM := Lib.hid hm
        clear hm hl2 hln
        go_wp2_with (first | (at_next; refine wp_nextS _ rfl _ rfl (v := .map r1) (S := S1) (dn := dn) rfl hrg ?_ ?_) | go_in)
        · intro hall
          have hP : less dn S0 = less S1 S0 := less_perm ((List.perm_ext_iff_of_nodup HSUB.out.1 H1.out.1).2 (fun k => ⟨HSUB.out.2 k, hall k⟩))
          have HP := Lib.hid hP
          clear hP hall hrg
          go_wp2
          go_roundw
          case rel => exact ⟨2, by omega, by go_num, by rw [HM.out, HP.out]; simp, HCI.out⟩
          case measure => simp [intOf]
        · intro x w2 hx0 hx1 hxs hnot hrg2 hlt2 hc2 hs2 hen
          have hc2' : Chg [] W1 w2 := HCI.out.out.then hc2 (by have := HNX.out.out.size; have := HG.out; simp; omega)
          have HNX2 := Lib.hid (⟨hc2'⟩ : Nxt W1 w2)
          have hcp2 : Blk w2 g 283 #[.map r1, .map r0] := HC.out.chg hc2 (by simp; omega)
          have c0 := (hcp2).cell 0; have c1 := (hcp2).cell 1; simp at c0 c1; have cf := (hcp2).frozen; have cl := (hcp2).lt
          have HRG2 := Lib.hid hrg2
          have HLT2 := Lib.hid hlt2
          have HCP2 := Lib.hid hcp2
          clear hrg2 hlt2 hc2 hs2 hnot hxs hc2' hcp2
          have hrx : RgS (w2.alloc (.cells #[] 464)) (.map r1) it S1 (dn ++ [x]) ∧ rgLeft (w2.alloc (.cells #[] 464)) (.map r1) it = rgLeft w2 (.map r1) it := HRG2.out.chg (L := []) ((Chg.refl _ _).alloc _) (by simp) (by simp)
          have HRX := Lib.hid hrx
          clear hrx
          by_cases hin : x ∈ S0
          · have hd : decide (x ∈ S0) = true := by simpa using hin
            have HD := Lib.hid hd
            have hls : less (dn ++ [x]) S0 = less dn S0 := by rw [less_snoc]; simp [hin]
            have HLS := Lib.hid hls
            clear hd hin hls
            go_wp2_with (first | (at_lookup; refine wp_lookokS _ rfl _ _ 282 rfl Tryz.underlying282 (v := .map r0) (S := S0) rfl ((H0.out.nxt HW.out).nxt HNX2.out) rfl ⟨hx0, hx1⟩ ?_; rw [HD.out]))
            go_roundw
            case rel => first | exact ⟨dn ++ [x], HRX.out.1, by rw [HLS.out, HM.out], (HCP2.out).alloc _, ⟨HNX2.out.out.alloc _⟩⟩ | ((repeat apply Exists.intro); exact ⟨⟨dn ++ [x], HRX.out.1, by rw [HLS.out, HM.out], (HCP2.out).alloc _, ⟨HNX2.out.out.alloc _⟩⟩, rfl⟩)
            case measure => rw [HRX.out.2]; exact HLT2.out
          · have hd : decide (x ∈ S0) = false := by simpa using hin
            have HD := Lib.hid hd
            have hls : less (dn ++ [x]) S0 = less dn S0 + 1 := by rw [less_snoc]; simp [hin]
            have HLS := Lib.hid hls
            clear hd hin hls
            go_wp2_with (first | (at_lookup; refine wp_lookokS _ rfl _ _ 282 rfl Tryz.underlying282 (v := .map r0) (S := S0) rfl ((H0.out.nxt HW.out).nxt HNX2.out) rfl ⟨hx0, hx1⟩ ?_; rw [HD.out]))
            go_roundw
            case rel => first | exact ⟨dn ++ [x], HRX.out.1, by rw [HLS.out, HM.out]; congr 1; try omega, (HCP2.out).alloc _, ⟨HNX2.out.out.alloc _⟩⟩ | ((repeat apply Exists.intro); exact ⟨⟨dn ++ [x], HRX.out.1, by rw [HLS.out, HM.out]; congr 1; try omega, (HCP2.out).alloc _, ⟨HNX2.out.out.alloc _⟩⟩, rfl⟩)
            case measure => rw [HRX.out.2]; exact HLT2.out
    · simp at hnv
      subst hnv
      go_wp2_with fail
      go_ret
      exact ⟨by simp, ⟨HW.out.out.trans HNX.out.out⟩⟩
end Go.Proofs.YtalhhplphlobbaaGreat
namespace Go.Proofs.YtalhhplphlobbaaGreat
open Go.RowKit
section
variable {w w' : World} {g : Nat} {q0 q1 : Option Nat} {qa : Bool} {q2 q3 p5 p6 : Option Nat} {mi mb li : Int} {M : List Nat}
theorem CcAt.drew_ {v : Value} {t n : Int} (h : CcAt w v t n) : CcAt w.drew v t n := h.nxt ⟨(Chg.refl _ _).drew⟩
/-- A Changer's cells, kept. -/
theorem heldA (hc : Chg M w w') (hg : g ∉ M) (h : (w).cell? ⟨g, 0, none⟩ = some (.map q0) ∧ (w).cell? ⟨g, 1, none⟩ = some (.map q1) ∧ (w).cell? ⟨g, 2, none⟩ = some (.bool qa) ∧ (w).cell? ⟨g, 3, none⟩ = some (.map q2) ∧ (w).cell? ⟨g, 4, none⟩ = some (.map q3) ∧ (w).cell? ⟨g, 5, none⟩ = some (.map p5) ∧ (w).cell? ⟨g, 6, none⟩ = some (.map p6) ∧ (w).cell? ⟨g, 7, none⟩ = some (.int .i64 mi) ∧ (w).cell? ⟨g, 8, none⟩ = some (.int .u64 mb) ∧ (w).cell? ⟨g, 9, none⟩ = some (.int .u64 li)) : (w').cell? ⟨g, 0, none⟩ = some (.map q0) ∧ (w').cell? ⟨g, 1, none⟩ = some (.map q1) ∧ (w').cell? ⟨g, 2, none⟩ = some (.bool qa) ∧ (w').cell? ⟨g, 3, none⟩ = some (.map q2) ∧ (w').cell? ⟨g, 4, none⟩ = some (.map q3) ∧ (w').cell? ⟨g, 5, none⟩ = some (.map p5) ∧ (w').cell? ⟨g, 6, none⟩ = some (.map p6) ∧ (w').cell? ⟨g, 7, none⟩ = some (.int .i64 mi) ∧ (w').cell? ⟨g, 8, none⟩ = some (.int .u64 mb) ∧ (w').cell? ⟨g, 9, none⟩ = some (.int .u64 li) := by
  obtain ⟨h0, h1, h2, h3, h4, h5, h6, h7, h8, h9⟩ := h
  exact ⟨hc.at_ h0 hg, hc.at_ h1 hg, hc.at_ h2 hg, hc.at_ h3 hg, hc.at_ h4 hg, hc.at_ h5 hg, hc.at_ h6 hg, hc.at_ h7 hg, hc.at_ h8 hg, hc.at_ h9 hg⟩
end
section
variable {w : World} {b0 c bp sb : Nat} {r2 : Option Nat} {V L : List Int} {f : Int → Option PrS} {p : Int → Nat} {k : Int} {q0 q1 : Option Nat} {qa : Bool} {q2 q3 p5 p6 : Option Nat} {mi mb li : Int} {pv : Value}
set_option maxRecDepth 100000 in
set_option maxHeartbeats 1000000 in
theorem applyV_any (h : TrkAt w (some b0) r2 bp V L f p) (hB : Blk w c 286 #[.map (some b0), .map none, .bool false, .map r2, .map none]) (hv : k ∉ V) (hl : k ∉ L) (hk : 0 < k ∧ k < 2 ^ 64) (lv : V.length < 100)
    (hcc : CcAt w pv 0 k) (hs : w.cell? ⟨sb, 0, none⟩ = some pv) :
    Calls Tryz.prog 371 #[.agg #[.map q0, .map q1, .bool qa, .map q2, .map q3, .map p5, .map p6, .int .i64 mi, .int .u64 mb, .int .u64 li], .pointer (some ⟨c, 0, none⟩), .map (some bp), .slice (some ⟨sb, 0, none⟩) 1 1] w fun y w' =>
      y = .returned .nilIface ∧ ∃ f' p', (TrkAt w' (some b0) r2 bp (V ++ [k]) L f' p' ∧ FrM w.heap.size f p f' p') ∧ Chg [b0, bp] w w' := by
  obtain ⟨bc, bt, bn, rfl, hc0, hc1, hc2⟩ := id hcc
  have hA : Nxt w (w.alloc (.cells #[.map q0, .map q1, .bool qa, .map q2, .map q3, .map p5, .map p6, .int .i64 mi, .int .u64 mb, .int .u64 li] 414)) := ⟨(Chg.refl _ _).alloc _⟩
  have hG := Blk.new w 414 #[.map q0, .map q1, .bool qa, .map q2, .map q3, .map p5, .map p6, .int .i64 mi, .int .u64 mb, .int .u64 li]
  go_enter Tryz.func371, Tryz.ntmps371
  go_wp2_with fail
  generalize w.alloc (.cells #[.map q0, .map q1, .bool qa, .map q2, .map q3, .map p5, .map p6, .int .i64 mi, .int .u64 mb, .int .u64 li] 414) = W1 at hA hG ⊢
  have hgl : w.heap.size < W1.heap.size := hG.lt
  have hcl := hB.lt
  have hbpl : bp < w.heap.size := by obtain ⟨D, hD, _⟩ := h.prg.map; exact hD.lt
  have hb0l : b0 < w.heap.size := h.sv.blk b0 rfl
  have hcb : c ∉ [b0, bp] := by
    obtain ⟨D, hD, _⟩ := h.prg.map
    obtain ⟨_, ⟨e, _⟩ | ⟨b', D0, e, hm0, _⟩⟩ := h.sv
    · cases e
    · cases e
      simp
      exact ⟨fun e => hm0.ne_blk hB e.symm, fun e => hD.ne_blk hB e.symm⟩
  generalize w.heap.size = g at hG hgl hcl hbpl hb0l ⊢
  have H := Lib.hid (h.nxt hA)
  have HB := Lib.hid (hB.nxt hA)
  have HCC := Lib.hid (hcc.nxt hA)
  have hs1 := cell_nxt hA hs
  have HG := Lib.hid hG
  have HA := Lib.hid hA
  have HCB := Lib.hid hcb
  clear h hB hcc hs hG hA hcb hc0 hc1 hc2
  go_loopw [13] (fun iv wr => (iv = .int .i64 0 ∧ W1 = wr) ∨ (iv = .int .i64 1 ∧ ∃ f' p', (TrkAt wr (some b0) r2 bp (V ++ [k]) L f' p' ∧ FrM W1.heap.size f p f' p') ∧ Chg [b0, bp] W1 wr)) (fun iv _ => 1 - (intOf iv).toNat)
  case atStart => exact .inl ⟨rfl, rfl⟩
  case round =>
    rcases hrel with ⟨rfl, rfl⟩ | ⟨rfl, f', p', ⟨hT, hFR⟩, hC⟩
    · have hk0 : (k == 0) = false := by simp; omega
      have g0 := (HG.out).cell 0; have g1 := (HG.out).cell 1; have g2 := (HG.out).cell 2; have g3 := (HG.out).cell 3; have g4 := (HG.out).cell 4; have g5 := (HG.out).cell 5; have g6 := (HG.out).cell 6; have g7 := (HG.out).cell 7; have g8 := (HG.out).cell 8; have g9 := (HG.out).cell 9; simp at g0 g1 g2 g3 g4 g5 g6 g7 g8 g9; have gf := (HG.out).frozen; have gl := (HG.out).lt
      go_wp2_with (first | (go_at_call 405; (with_reducible refine Calls.mono (ccNode_any HCC.out) ?_); rintro e w' ⟨rfl, rfl⟩) | (go_at_call 406; (with_reducible refine Calls.mono (ccType_any HCC.out) ?_); rintro e w' ⟨rfl, rfl⟩))
      have hS0 : (W1.drew).cell? ⟨g, 0, none⟩ = some (.map q0) ∧ (W1.drew).cell? ⟨g, 1, none⟩ = some (.map q1) ∧ (W1.drew).cell? ⟨g, 2, none⟩ = some (.bool qa) ∧ (W1.drew).cell? ⟨g, 3, none⟩ = some (.map q2) ∧ (W1.drew).cell? ⟨g, 4, none⟩ = some (.map q3) ∧ (W1.drew).cell? ⟨g, 5, none⟩ = some (.map p5) ∧ (W1.drew).cell? ⟨g, 6, none⟩ = some (.map p6) ∧ (W1.drew).cell? ⟨g, 7, none⟩ = some (.int .i64 mi) ∧ (W1.drew).cell? ⟨g, 8, none⟩ = some (.int .u64 mb) ∧ (W1.drew).cell? ⟨g, 9, none⟩ = some (.int .u64 li) := ⟨g0, g1, g2, g3, g4, g5, g6, g7, g8, g9⟩
      have HS0 := Lib.hid hS0
      have HGN := Lib.hid (show g ∉ [b0, bp] by simp; omega)
      clear hS0 g0 g1 g2 g3 g4 g5 g6 g7 g8 g9 gf
      go_region_held3 (fun wx => (wx).cell? ⟨g, 0, none⟩ = some (.map q0) ∧ (wx).cell? ⟨g, 1, none⟩ = some (.map q1) ∧ (wx).cell? ⟨g, 2, none⟩ = some (.bool qa) ∧ (wx).cell? ⟨g, 3, none⟩ = some (.map q2) ∧ (wx).cell? ⟨g, 4, none⟩ = some (.map q3) ∧ (wx).cell? ⟨g, 5, none⟩ = some (.map p5) ∧ (wx).cell? ⟨g, 6, none⟩ = some (.map p6) ∧ (wx).cell? ⟨g, 7, none⟩ = some (.int .i64 mi) ∧ (wx).cell? ⟨g, 8, none⟩ = some (.int .u64 mb) ∧ (wx).cell? ⟨g, 9, none⟩ = some (.int .u64 li))
        (first | with_reducible exact HS0.out | exact heldA (by with_reducible assumption) HGN.out HS0.out)
        (first | (go_at_call 405; (with_reducible refine Calls.mono (ccNode_any (w := W1.drew) (HCC.out.drew_)) ?_); rintro e w' ⟨rfl, rfl⟩) | (go_at_call 407; (with_reducible refine Calls.mono (mkV_any (w := W1.drew) (H.out.nxt ⟨(Chg.refl _ _).drew⟩) (HB.out.nxt ⟨(Chg.refl _ _).drew⟩) hv hl hk lv) ?_); rintro e w2 ⟨rfl, f', p', ⟨ht, hfr⟩, hc⟩))
      go_wp2_with fail
      go_roundw
      case rel => exact .inr ⟨rfl, f', p', ⟨ht, hfr⟩, ((Chg.refl _ _).drew).trans hc⟩
      case measure => simp [intOf]
    · have hB2 := HB.out.chg hC HCB.out
      have c0 := (hB2).cell 0; have c1 := (hB2).cell 1; have c2 := (hB2).cell 2; have c3 := (hB2).cell 3; have c4 := (hB2).cell 4; simp at c0 c1 c2 c3 c4; have cf := (hB2).frozen; have cl := (hB2).lt
      have HT := Lib.hid hT
      have HC := Lib.hid hC
      clear hT hC hB2
      have hne : (((V ++ [k]).length : Int) == 0) = false := by simp; omega
      have HNE := Lib.hid hne
      clear hne
      go_wp2_with (first | (go_at_call 368; (with_reducible refine Calls.mono (incoming_any _ (some b0) none) ?_); rintro e w3 ⟨rfl, hn3⟩; have HN3 := Lib.hid hn3; clear hn3) | (at_len; refine wp_lenS _ rfl _ 282 rfl Tryz.underlying282 (v := .map (some b0)) (S := V ++ [k]) rfl (HT.out.sv.nxt HN3.out) ?_; rw [show ((V ++ [k]).length : Int) = (V ++ [k]).length from rfl]))
      go_ret
      exact ⟨rfl, f', p', ⟨HT.out.nxt HN3.out, hFR.le HA.out.out.size⟩, ((HA.out.out.mono (by simp)).trans HC.out).nxt HN3.out⟩
set_option maxRecDepth 100000 in
set_option maxHeartbeats 1000000 in
theorem applyL_any (h : TrkAt w (some b0) r2 bp V L f p) (hB : Blk w c 286 #[.map (some b0), .map none, .bool false, .map r2, .map none]) (hv : k ∉ V) (hl : k ∉ L) (hk : 0 < k ∧ k < 2 ^ 64) (hV : V ≠ []) (ll : L.length < 100)
    (hcc : CcAt w pv 3 k) (hs : w.cell? ⟨sb, 0, none⟩ = some pv) :
    Calls Tryz.prog 371 #[.agg #[.map q0, .map q1, .bool qa, .map q2, .map q3, .map p5, .map p6, .int .i64 mi, .int .u64 mb, .int .u64 li], .pointer (some ⟨c, 0, none⟩), .map (some bp), .slice (some ⟨sb, 0, none⟩) 1 1] w fun y w' =>
      y = .returned .nilIface ∧ ∃ bl f' p', (TrkAt w' (some b0) (some bl) bp V (L ++ [k]) f' p' ∧ FrM w.heap.size f p f' p') ∧ Blk w' c 286 #[.map (some b0), .map none, .bool false, .map (some bl), .map none] ∧ (r2 = some bl ∨ w.heap.size ≤ bl) ∧ Chg (c :: bp :: r2.toList) w w' := by
  obtain ⟨bc, bt, bn, rfl, hc0, hc1, hc2⟩ := id hcc
  have hA : Nxt w (w.alloc (.cells #[.map q0, .map q1, .bool qa, .map q2, .map q3, .map p5, .map p6, .int .i64 mi, .int .u64 mb, .int .u64 li] 414)) := ⟨(Chg.refl _ _).alloc _⟩
  have hG := Blk.new w 414 #[.map q0, .map q1, .bool qa, .map q2, .map q3, .map p5, .map p6, .int .i64 mi, .int .u64 mb, .int .u64 li]
  go_enter Tryz.func371, Tryz.ntmps371
  go_wp2_with fail
  generalize w.alloc (.cells #[.map q0, .map q1, .bool qa, .map q2, .map q3, .map p5, .map p6, .int .i64 mi, .int .u64 mb, .int .u64 li] 414) = W1 at hA hG ⊢
  have hgl : w.heap.size < W1.heap.size := hG.lt
  have hcl := hB.lt
  have hbpl : bp < w.heap.size := by obtain ⟨D, hD, _⟩ := h.prg.map; exact hD.lt
  have hb0l : b0 < w.heap.size := h.sv.blk b0 rfl
  have hr2l : ∀ b, r2 = some b → b < w.heap.size := fun b e => h.sl.blk b (by rw [e])
  generalize w.heap.size = g at hG hgl hcl hbpl hb0l hr2l ⊢
  have H := Lib.hid (h.nxt hA)
  have HB := Lib.hid (hB.nxt hA)
  have HCC := Lib.hid (hcc.nxt hA)
  have hs1 := cell_nxt hA hs
  have HG := Lib.hid hG
  have HA := Lib.hid hA
  clear h hB hcc hs hG hA hc0 hc1 hc2
  go_loopw [13] (fun iv wr => (iv = .int .i64 0 ∧ W1 = wr) ∨ (iv = .int .i64 1 ∧ ∃ bl f' p', (TrkAt wr (some b0) (some bl) bp V (L ++ [k]) f' p' ∧ FrM W1.heap.size f p f' p') ∧ Blk wr c 286 #[.map (some b0), .map none, .bool false, .map (some bl), .map none] ∧ (r2 = some bl ∨ W1.heap.size ≤ bl) ∧ Chg (c :: bp :: r2.toList) W1 wr)) (fun iv _ => 1 - (intOf iv).toNat)
  case atStart => exact .inl ⟨rfl, rfl⟩
  case round =>
    rcases hrel with ⟨rfl, rfl⟩ | ⟨rfl, bl, f', p', ⟨hT, hFR⟩, hB2, hbl, hC⟩
    · have hk0 : (k == 0) = false := by simp; omega
      have g0 := (HG.out).cell 0; have g1 := (HG.out).cell 1; have g2 := (HG.out).cell 2; have g3 := (HG.out).cell 3; have g4 := (HG.out).cell 4; have g5 := (HG.out).cell 5; have g6 := (HG.out).cell 6; have g7 := (HG.out).cell 7; have g8 := (HG.out).cell 8; have g9 := (HG.out).cell 9; simp at g0 g1 g2 g3 g4 g5 g6 g7 g8 g9; have gf := (HG.out).frozen; have gl := (HG.out).lt
      go_wp2_with (first | (go_at_call 405; (with_reducible refine Calls.mono (ccNode_any HCC.out) ?_); rintro e w' ⟨rfl, rfl⟩) | (go_at_call 406; (with_reducible refine Calls.mono (ccType_any HCC.out) ?_); rintro e w' ⟨rfl, rfl⟩))
      have hS0 : (W1.drew).cell? ⟨g, 0, none⟩ = some (.map q0) ∧ (W1.drew).cell? ⟨g, 1, none⟩ = some (.map q1) ∧ (W1.drew).cell? ⟨g, 2, none⟩ = some (.bool qa) ∧ (W1.drew).cell? ⟨g, 3, none⟩ = some (.map q2) ∧ (W1.drew).cell? ⟨g, 4, none⟩ = some (.map q3) ∧ (W1.drew).cell? ⟨g, 5, none⟩ = some (.map p5) ∧ (W1.drew).cell? ⟨g, 6, none⟩ = some (.map p6) ∧ (W1.drew).cell? ⟨g, 7, none⟩ = some (.int .i64 mi) ∧ (W1.drew).cell? ⟨g, 8, none⟩ = some (.int .u64 mb) ∧ (W1.drew).cell? ⟨g, 9, none⟩ = some (.int .u64 li) := ⟨g0, g1, g2, g3, g4, g5, g6, g7, g8, g9⟩
      have HS0 := Lib.hid hS0
      have HGN := Lib.hid (show g ∉ c :: bp :: r2.toList by
        simp only [List.mem_cons, Option.mem_toList, not_or]
        exact ⟨by omega, by omega, fun e => by have := hr2l _ e; omega⟩)
      clear hS0 g0 g1 g2 g3 g4 g5 g6 g7 g8 g9 gf
      go_region_held3 (fun wx => (wx).cell? ⟨g, 0, none⟩ = some (.map q0) ∧ (wx).cell? ⟨g, 1, none⟩ = some (.map q1) ∧ (wx).cell? ⟨g, 2, none⟩ = some (.bool qa) ∧ (wx).cell? ⟨g, 3, none⟩ = some (.map q2) ∧ (wx).cell? ⟨g, 4, none⟩ = some (.map q3) ∧ (wx).cell? ⟨g, 5, none⟩ = some (.map p5) ∧ (wx).cell? ⟨g, 6, none⟩ = some (.map p6) ∧ (wx).cell? ⟨g, 7, none⟩ = some (.int .i64 mi) ∧ (wx).cell? ⟨g, 8, none⟩ = some (.int .u64 mb) ∧ (wx).cell? ⟨g, 9, none⟩ = some (.int .u64 li))
        (first | with_reducible exact HS0.out | exact heldA (by with_reducible assumption) HGN.out HS0.out)
        (first | (go_at_call 405; (with_reducible refine Calls.mono (ccNode_any (w := W1.drew) (HCC.out.drew_)) ?_); rintro e w' ⟨rfl, rfl⟩) | (go_at_call 408; (with_reducible refine Calls.mono (mkL_any (w := W1.drew) (H.out.nxt ⟨(Chg.refl _ _).drew⟩) (HB.out.nxt ⟨(Chg.refl _ _).drew⟩) hv hl hk ll) ?_); rintro e w2 ⟨rfl, bl, f', p', ⟨ht, hfr⟩, hb, hbl, hc⟩))
      go_wp2_with fail
      go_roundw
      case rel => exact .inr ⟨rfl, bl, f', p', ⟨ht, hfr⟩, hb, hbl, ((Chg.refl _ _).drew).trans hc⟩
      case measure => simp [intOf]
    · have c0 := (hB2).cell 0; have c1 := (hB2).cell 1; have c2 := (hB2).cell 2; have c3 := (hB2).cell 3; have c4 := (hB2).cell 4; simp at c0 c1 c2 c3 c4; have cf := (hB2).frozen; have cl := (hB2).lt
      have HT := Lib.hid hT
      have HC := Lib.hid hC
      clear hT hC
      have HB2 := Lib.hid hB2
      clear hB2
      have hne : ((V.length : Int) == 0) = false := by simpa using hV
      have HNE := Lib.hid hne
      clear hne
      go_wp2_with (first | (go_at_call 368; (with_reducible refine Calls.mono (incoming_any _ (some b0) none) ?_); rintro e w3 ⟨rfl, hn3⟩; have HN3 := Lib.hid hn3; clear hn3) | (at_len; refine wp_lenS _ rfl _ 282 rfl Tryz.underlying282 (v := .map (some b0)) (S := V) rfl (HT.out.sv.nxt HN3.out) ?_; have hne2 := HNE.out; have hne3 : ¬ V = [] := hV; have hne4 : 0 < V.length := List.length_pos_iff.2 hV))
      go_ret
      exact ⟨rfl, bl, f', p', ⟨HT.out.nxt HN3.out, hFR.le HA.out.out.size⟩, HB2.out.nxt HN3.out, hbl.imp id (fun h => Nat.le_trans HA.out.out.size h), ((HA.out.out.mono (by simp)).trans HC.out).nxt HN3.out⟩
end
end Go.Proofs.YtalhhplphlobbaaGreat
