/- The invariants of a configuration that is not joint. Conditions: sizes. The copy of a tracker. Conditions: sizes. -/
import Derived.Test.YtalhhplphlobbaaGreatP08
set_option linter.unusedVariables false
set_option linter.unusedSimpArgs false
namespace Go.Proofs.YtalhhplphlobbaaGreat
open Go.RowKit
theorem neq281 (w : World) (r : Option Nat) : (binOp .neq 281 (.map r) (.map none)).run Tryz.prog w = .ok (.bool r.isSome) w := by rw [run_neq_map_nil w _ _ _ r Tryz.underlying281]; cases r <;> rfl
theorem neq282 (w : World) (r : Option Nat) : (binOp .neq 282 (.map r) (.map none)).run Tryz.prog w = .ok (.bool r.isSome) w := by rw [run_neq_map_nil w _ _ _ r Tryz.underlying282]; cases r <;> rfl
theorem jointIDs_from (W w : World) {r0 : Option Nat} {S0 : List Int} (h0 : SetAt W (.map r0) S0) (hl0 : S0.length ≤ 1000) (hW : Chg [] W w) :
    Calls Tryz.prog 336 #[.agg #[.map r0, .map none]] w fun y w' => ∃ b' D', y = .returned (.map (some b')) ∧ w.heap.size ≤ b' ∧ MapAt w' b' D' ∧ IsSet D' S0 ∧ Chg [] W w' ∧ Nxt w w' := by
  refine (jointIDs_any (r1 := none) (S1 := []) (h0.chg hW (by simp)) (SetAt.nil _) hl0 (by simp)).mono ?_
  rintro y w' ⟨b', D', rfl, h1, h2, h3, h4⟩
  exact ⟨b', D', rfl, h1, h2, by simpa using h3, hW.nxt h4, h4⟩
set_option maxRecDepth 100000 in
set_option maxHeartbeats 2000000 in
theorem checkInv_any {w : World} {r0 r2 : Option Nat} {bp : Nat} {V L : List Int} {f : Int → Option PrS} {p : Int → Nat} (h : TrkAt w r0 r2 bp V L f p) :
    Calls Tryz.prog 404 #[.agg #[.map r0, .map none, .bool false, .map r2, .map none], .map (some bp)] w fun y w' => y = .returned .nilIface ∧ Nxt w w' := by
  have hq1 := neq281
  have hq2 := neq282
  have lV : V.length ≤ 1000 := by have := h.lv; omega
  have lL : L.length ≤ 1000 := by have := h.ll; omega
  obtain ⟨D, hD, hg⟩ := h.prg.map
  have H := Lib.hid h
  have HG := Lib.hid hg
  have hlb := hD.lt
  clear hg
  go_enter Tryz.func404, Tryz.ntmps404
  go_wp2_with fail
  have hB0 := Blk.new w 286 #[.map r0, .map none, .bool false, .map r2, .map none]
  have hA0 : Nxt w (w.alloc (.cells #[.map r0, .map none, .bool false, .map r2, .map none] 286)) := ⟨(Chg.refl _ _).alloc _⟩
  generalize w.alloc (.cells #[.map r0, .map none, .bool false, .map r2, .map none] 286) = W1 at hB0 hA0 ⊢
  generalize w.heap.size = c0 at hB0 ⊢
  have k0 := hB0.cell 0
  have k1 := hB0.cell 1
  have k2 := hB0.cell 2
  have k3 := hB0.cell 3
  have k4 := hB0.cell 4
  simp at k0 k1 k2 k3 k4
  have H1 := Lib.hid (H.out.nxt hA0)
  have HB0 := Lib.hid hB0
  have HA0 := Lib.hid hA0
  clear hB0 hA0
  go_region_held3 (fun wx => wx.cell? ⟨c0, 0, none⟩ = some (.map r0) ∧ wx.cell? ⟨c0, 1, none⟩ = some (.map none) ∧ wx.cell? ⟨c0, 3, none⟩ = some (.map r2) ∧ wx.cell? ⟨c0, 4, none⟩ = some (.map none) ∧ Chg [] W1 wx)
    (first | ((repeat' apply And.intro) <;> (first | with_reducible assumption | (simp; done) | ((repeat (refine cell_alloc ?_ _)); (first | with_reducible assumption | (refine Chg.at0 (Nxt.out (by assumption)) ?_; first | with_reducible assumption | (simp; done) | (simp [*]; done)) | (refine Chg.at0 (by assumption) ?_; first | with_reducible assumption | (simp; done) | (simp [*]; done)) | (simp [*]; done))) | ((repeat (first | with_reducible exact Chg.refl _ _ | with_reducible assumption | refine Chg.drew ?_ | refine Chg.alloc ?_ _)); done))))
    (first | (go_at_call 336; (with_reducible refine Calls.mono (jointIDs_from W1 _ H1.out.sv lV ?_) ?_); (focus (first | with_reducible assumption | ((repeat (first | with_reducible exact Chg.refl _ _ | with_reducible assumption | refine Chg.drew ?_ | refine Chg.alloc ?_ _)); done))); rintro e w1 ⟨bi, Di, rfl, hbi, hmi, hsi, hc1, hn1⟩; obtain ⟨qc1, qf1, qz1⟩ := hn1.rules; (try simp at qz1)))
  have hbs := Blk.new w1 281 #[.map (some bi), .map r2, .map none]
  have hAl : Nxt w1 (w1.alloc (.cells #[.map (some bi), .map r2, .map none] 281)) := ⟨(Chg.refl _ _).alloc _⟩
  have hI : SetAt (w1.alloc (.cells #[.map (some bi), .map r2, .map none] 281)) (.map (some bi)) V := SetAt.nxt ⟨H.out.sv.1, .inr ⟨bi, Di, rfl, hmi, hsi⟩⟩ hAl
  have hW2 : Chg [] W1 (w1.alloc (.cells #[.map (some bi), .map r2, .map none] 281)) := hc1.alloc _
  generalize hsb : w1.heap.size = sb at hbs ⊢
  clear hsb hAl
  generalize w1.alloc (.cells #[.map (some bi), .map r2, .map none] 281) = W2 at hbs hI hW2 ⊢
  have HI := Lib.hid hI
  have HW2 := Lib.hid hW2
  have HBS := Lib.hid hbs
  clear hbs hI hW2 hmi hsi hc1 hn1 k0 k1 k2 k3 k4
  clear hbi
  go_wp2_with fail
  go_loopw [27] (fun iv wr => ∃ k : Nat, k ≤ 3 ∧ iv = .int .i64 k ∧ Nxt W2 wr) (fun iv _ => 3 - (intOf iv).toNat)
  case atStart => exact ⟨0, by omega, rfl, ⟨Chg.refl _ _⟩⟩
  case round =>
    obtain ⟨k, hk, rfl, hnx⟩ := hrel
    by_cases hlt : k < 3
    · obtain ⟨rk, S, hcell, hset, hsub⟩ : ∃ (rk : Option Nat) (S : List Int), wr.cell? ⟨sb, k, none⟩ = some (.map rk) ∧ SetAt wr (.map rk) S ∧ ∀ x ∈ S, x ∈ V ∨ x ∈ L := by
        have hb := HBS.out.nxt hnx
        have hk3 : k = 0 ∨ k = 1 ∨ k = 2 := by omega
        rcases hk3 with rfl | rfl | rfl
        · exact ⟨some bi, V, by rw [hb.cell 0]; rfl, HI.out.nxt hnx, fun x hx => .inl hx⟩
        · exact ⟨r2, L, by rw [hb.cell 1]; rfl, (H1.out.sl.nxt ⟨HW2.out⟩).nxt hnx, fun x hx => .inr hx⟩
        · exact ⟨none, [], by rw [hb.cell 2]; rfl, SetAt.nil _, by simp⟩
      have b3 : (k : Int) < 3 := by omega
      have HSET := Lib.hid hset
      have HSUB := Lib.hid hsub
      have HNX := Lib.hid hnx
      clear hset hsub hnx
      go_wp2_with (first | (at_range; refine wp_rangeS _ rfl _ 281 rfl Tryz.underlying281 (v := .map rk) rfl HSET.out ?_; intro w3 hrg1 hn3 hz3))
      go_frame
      go_loopw [7] (fun _ wi => ∃ (dn : List Int), RgS wi (.map rk) wr.heap.size S dn ∧ Nxt W2 wi) (fun _ wi => rgLeft wi (.map rk) wr.heap.size)
      case atStart => exact ⟨[], hrg1, ⟨HNX.out.out.nxt hn3⟩⟩
      case round =>
        obtain ⟨dn, hrg, hci⟩ := hrel
        have HCI := Lib.hid hci
        clear hci hrg1
        go_wp2_with (first | (at_next; refine wp_nextS _ rfl _ rfl (v := .map rk) (S := S) (dn := dn) rfl hrg ?_ ?_) | go_in)
        · intro hall
          clear hall
          go_wp2
          go_roundw
          case rel => exact ⟨k + 1, by omega, by go_num, HCI.out⟩
          case measure => simp [intOf]; omega
        · intro x w2 hx0 hx1 hxs hnot hrg2 hlt2 hc2 hs2 hen
          have HRG2 := Lib.hid hrg2
          have HLT2 := Lib.hid hlt2
          have hnx2 : Nxt W2 w2 := ⟨HCI.out.out.then hc2 (by have := HNX.out.out.size; simp; omega)⟩
          have HNX2 := Lib.hid hnx2
          have hm2 : MapAt w2 bp D := ((hD.nxt HA0.out).chg HW2.out (by simp)).nxt hnx2
          obtain ⟨sx, hsx, _⟩ := H.out.get (HSUB.out x hxs)
          have hget : mget D x = some (.pointer (some ⟨p x, 0, none⟩)) := by rw [HG.out x, hsx]; rfl
          have HGET := Lib.hid hget
          clear hrg2 hlt2 hnx2 hnot hc2 hs2 hsx hget
          go_wp2_with (first | (at_lookup; refine wp_lookok _ rfl _ _ 288 rfl 304 Tryz.underlying288 (Tryz.zeroValue304 _) (b := bp) (D := D) rfl hm2 rfl ⟨hx0, hx1⟩ HGET.out ?_))
          go_roundw
          case rel => exact ⟨dn ++ [x], HRG2.out, HNX2.out⟩
          case measure => exact HLT2.out
    · obtain rfl : k = 3 := by omega
      have hB4 : Blk wr c0 286 #[.map r0, .map none, .bool false, .map r2, .map none] := (HB0.out.chg HW2.out (by simp)).nxt hnx
      have hT4 : TrkAt wr r0 r2 bp V L f p := ((H1.out.nxt ⟨HW2.out⟩).nxt hnx)
      have HN4 := Lib.hid ((HA0.out.out.trans HW2.out).trans hnx.out)
      clear hnx
      obtain ⟨W4, rfl⟩ : ∃ W4, W4 = wr := ⟨_, rfl⟩
      have j0 := hB4.cell 0
      have j1 := hB4.cell 1
      have j2 := hB4.cell 2
      have j3 := hB4.cell 3
      have j4 := hB4.cell 4
      simp at j0 j1 j2 j3 j4
      have HT4 := Lib.hid hT4
      have HB4 := Lib.hid hB4
      clear hT4 hB4
      go_wp2_with (first | (at_range; refine wp_rangeS _ rfl _ 281 rfl Tryz.underlying281 (v := .map none) (S := []) rfl (SetAt.nil _) ?_; intro w5 hrg5 hn5 hz5))
      have HN5 := Lib.hid hn5
      clear hn5
      obtain ⟨S0, hS0⟩ : ∃ S0 : List Int, S0 = [] := ⟨_, rfl⟩
      obtain ⟨d0, hd0⟩ : ∃ S0 : List Int, S0 = [] := ⟨_, rfl⟩
      have hrg5 : RgS w5 (.map none) W4.heap.size S0 d0 := by rw [hS0, hd0]; exact hrg5
      clear hd0
      have HS0 := Lib.hid hS0
      clear hS0
      go_frame
      go_loopw [10] (fun _ wi => RgS wi (.map none) W4.heap.size S0 d0 ∧ Nxt W4 wi) (fun _ wi => 0)
      case atStart => exact ⟨hrg5, HN5.out⟩
      case round =>
        obtain ⟨hrg, hci⟩ := hrel
        have HCI := Lib.hid hci
        have hB6 := HB4.out.nxt hci
        have m0 := hB6.cell 0
        have m1 := hB6.cell 1
        have m2 := hB6.cell 2
        have m3 := hB6.cell 3
        have m4 := hB6.cell 4
        simp at m0 m1 m2 m3 m4
        have HT6 := Lib.hid (HT4.out.nxt hci)
        have HB6 := Lib.hid hB6
        clear hci hrg5 j0 j1 j2 j3 j4 hB6
        go_wp2_with (first | (at_next; refine wp_nextS _ rfl _ rfl (v := .map none) (S := S0) (dn := d0) rfl hrg ?_ ?_) | go_in)
        · intro hall
          clear hall hrg
          go_wp2_with (first | (at_range; refine wp_rangeS _ rfl _ 281 rfl Tryz.underlying281 (v := .map r2) (S := L) rfl HT6.out.sl ?_; intro w7 hrg7 hn7 hz7))
          go_frame
          have HN7 := Lib.hid hn7
          clear hn7
          obtain ⟨W6, rfl⟩ : ∃ W6, W6 = wr := ⟨_, rfl⟩
          go_loopw [13] (fun _ wi => ∃ (dn : List Int), RgS wi (.map r2) W6.heap.size L dn ∧ Nxt W6 wi) (fun _ wi => rgLeft wi (.map r2) W6.heap.size)
          case atStart => exact ⟨[], hrg7, HN7.out⟩
          case round =>
            obtain ⟨dn, hrg, hci⟩ := hrel
            have HC8 := Lib.hid hci
            clear hci hrg7 m0 m1 m2 m3 m4
            go_wp2_with (first | (at_next; refine wp_nextS _ rfl _ rfl (v := .map r2) (S := L) (dn := dn) rfl hrg ?_ ?_) | go_in)
            · intro hall
              clear hall hrg
              have hB9 := HB6.out.nxt HC8.out
              have m0 := hB9.cell 0
              have m1 := hB9.cell 1
              have m2 := hB9.cell 2
              have m3 := hB9.cell 3
              have m4 := hB9.cell 4
              simp at m0 m1 m2 m3 m4
              go_wp2_with (first | (go_at_call 365; (with_reducible refine Calls.mono (joint_no _ r0 false (.map r2) (.map none)) ?_); rintro e w9 ⟨rfl, hn9⟩; have HN9 := Lib.hid hn9; have g0 := cell_nxt hn9 m0; have g1 := cell_nxt hn9 m1; have g3 := cell_nxt hn9 m3; have g4 := cell_nxt hn9 m4; have g2 := cell_nxt hn9 m2; clear hn9) | (go_at_call 367; (with_reducible refine Calls.mono (outgoing_any _ r0 none) ?_); rintro e w10 ⟨rfl, hn10⟩; have HN10 := Lib.hid hn10; have l0 := cell_nxt hn10 g0; have l1 := cell_nxt hn10 g1; have l3 := cell_nxt hn10 g3; have l4 := cell_nxt hn10 g4; have l2 := cell_nxt hn10 g2; clear hn10))
              go_ret
              exact ⟨rfl, ⟨((((HN4.out.trans HCI.out.out).trans HC8.out.out).trans HN9.out.out).trans HN10.out.out)⟩⟩
            · intro x w2 hx0 hx1 hxs hnot hrg2 hlt2 hc2 hs2 hen
              have hnx2 : Nxt W6 w2 := ⟨HC8.out.out.then hc2 (by simp)⟩
              have HNX2 := Lib.hid hnx2
              have HXS := Lib.hid hxs
              have HRG2 := Lib.hid hrg2
              have HLT2 := Lib.hid hlt2
              have hB9 := HB6.out.nxt hnx2
              have m0 := hB9.cell 0
              have m1 := hB9.cell 1
              have m2 := hB9.cell 2
              have m3 := hB9.cell 3
              have m4 := hB9.cell 4
              simp at m0 m1 m2 m3 m4
              have HT9 := Lib.hid (HT6.out.nxt hnx2)
              have hdV : decide (x ∈ V) = false := by simpa using H.out.dis x hxs
              have hdN : decide (x ∈ ([] : List Int)) = false := by simp
              have HDV := Lib.hid hdV
              have hNW : Nxt w w2 := ⟨(HN4.out.trans HCI.out.out).trans hnx2.out⟩
              have HNW := Lib.hid hNW
              obtain ⟨sx, hsx, hil, hbx⟩ := H.out.get (.inr hxs)
              have hil2 : sx.il = true := by rw [hil]; simpa using hxs
              have hget : mget D x = some (.pointer (some ⟨p x, 0, none⟩)) := by rw [HG.out x, hsx]; rfl
              have hb8 := (hbx.nxt hNW).cell 8
              have hbl := (hbx.nxt hNW).lt
              simp [PrS.cells] at hb8
              rw [hil2] at hb8
              have HGET := Lib.hid hget
              have HB8 := Lib.hid hb8
              have HBL := Lib.hid hbl
              clear hNW hsx hil hbx hil2 hget hb8 hbl
              clear hrg2 hlt2 hnx2 hnot hc2 hs2 hxs hdV
              have hlc := hB9.lt
              clear hB9
              go_wp2_with (first | (go_at_call 367; (with_reducible refine Calls.mono (outgoing_any _ r0 none) ?_); rintro e w10 ⟨rfl, hn10⟩; have HN10 := Lib.hid hn10; have l0 := cell_nxt hn10 m0; have l1 := cell_nxt hn10 m1; obtain ⟨la, lb, lc, _⟩ := lts (size_nxt hn10 hlc); clear hn10) | (at_lookup; refine wp_lookokS _ rfl _ _ 282 rfl Tryz.underlying282 (v := .map none) (S := []) rfl (SetAt.nil _) rfl ⟨hx0, hx1⟩ ?_; rw [hdN]) | (go_at_call 368; (with_reducible refine Calls.mono (incoming_any _ r0 none) ?_); rintro e w11 ⟨rfl, hn11⟩; have hn12 : Nxt w10 w11 := ⟨((Chg.refl _ _).alloc _).trans hn11.out⟩; have HN12 := Lib.hid hn12; clear hn11 hn12) | (at_lookup; refine wp_lookokS _ rfl _ _ 282 rfl Tryz.underlying282 (v := .map r0) (S := V) rfl ((HT9.out.sv.nxt HN10.out).nxt HN12.out) rfl ⟨hx0, hx1⟩ ?_; rw [HDV.out]; have q8 := cell_nxt HN12.out (cell_nxt HN10.out HB8.out); obtain ⟨ra, rb, rc, _⟩ := lts (size_nxt HN12.out (size_nxt HN10.out HBL.out))) | (at_lookup; refine wp_look _ rfl _ _ 288 rfl 304 Tryz.underlying288 (Tryz.zeroValue304 _) (b := bp) (D := D) rfl ((((hD.nxt HNW.out).nxt HN10.out).nxt HN12.out).chg (L := []) ((Chg.refl _ _).alloc _) (by simp)) rfl ⟨hx0, hx1⟩ HGET.out ?_))
              go_roundw
              case rel => exact ⟨dn ++ [x], (HRG2.out.nxt HN10.out).1.nxt HN12.out |>.1.chg (L := []) ((Chg.refl _ _).alloc _) (by simp) (by simp) |>.1, ⟨((HNX2.out.out.trans HN10.out.out).trans HN12.out.out).alloc _⟩⟩
              case measure => rw [(RgS.chg (L := []) ((HRG2.out.nxt HN10.out).1.nxt HN12.out).1 ((Chg.refl _ _).alloc _) (by simp) (by simp)).2, ((HRG2.out.nxt HN10.out).1.nxt HN12.out).2, (HRG2.out.nxt HN10.out).2]; exact HLT2.out
        · intro x w2 hx0 hx1 hxs
          rw [HS0.out] at hxs
          cases hxs

set_option maxRecDepth 100000 in
set_option maxHeartbeats 1000000 in
theorem checkRet_any {w : World} {r0 r2 : Option Nat} {bp : Nat} {V L : List Int} {f : Int → Option PrS} {p : Int → Nat} (h : TrkAt w r0 r2 bp V L f p) :
    Calls Tryz.prog 370 #[.agg #[.map r0, .map none, .bool false, .map r2, .map none], .map (some bp)] w fun y w' => y = .returned (.tuple #[.agg #[.map r0, .map none, .bool false, .map r2, .map none], .map (some bp), .nilIface]) ∧ Nxt w w' := by
  have H := Lib.hid h
  clear h
  go_enter Tryz.func370, Tryz.ntmps370
  have hA2 : ∀ o1 o2, Nxt w ((w.alloc o1).alloc o2) := fun o1 o2 => ⟨((Chg.refl _ _).alloc _).alloc _⟩
  have hbk : ∀ o1 cs, Blk ((w.alloc o1).alloc (.cells cs 286)) (w.heap.size + 1) 286 cs := fun o1 cs => by simpa using Blk.new (w.alloc o1) 286 cs
  have hbj : ∀ o1 cs, Blk ((w.alloc (.cells cs 286)).alloc o1) w.heap.size 286 cs := fun o1 cs => (Blk.new _ _ _).alloc _
  have HBK := Lib.hid hbk
  have HBJ := Lib.hid hbj
  clear hbk hbj
  go_wp2_with (first | (go_at_call 404; (with_reducible refine Calls.mono (checkInv_any (H.out.nxt (hA2 _ _))) ?_); rintro e w1 ⟨rfl, hn1⟩; have p0 := ((HBJ.out _ _).nxt hn1).cell 0; have p1 := ((HBJ.out _ _).nxt hn1).cell 1; have p2 := ((HBJ.out _ _).nxt hn1).cell 2; have p3 := ((HBJ.out _ _).nxt hn1).cell 3; have p4 := ((HBJ.out _ _).nxt hn1).cell 4; simp at p0 p1 p2 p3 p4; have pf := ((HBJ.out _ _).nxt hn1).frozen; have pl := ((HBJ.out _ _).nxt hn1).lt; have q0 := ((HBK.out _ _).nxt hn1).cell 0; have q1 := ((HBK.out _ _).nxt hn1).cell 1; have q2 := ((HBK.out _ _).nxt hn1).cell 2; have q3 := ((HBK.out _ _).nxt hn1).cell 3; have q4 := ((HBK.out _ _).nxt hn1).cell 4; simp at q0 q1 q2 q3 q4; have qf := ((HBK.out _ _).nxt hn1).frozen; have ql := ((HBK.out _ _).nxt hn1).lt; have HN1 := Lib.hid hn1; clear hn1) | go_in)
  have hF : Chg [w.heap.size + 1] w1 (((((w1.setCell ⟨w.heap.size + 1, 0, none⟩ (.map r0)).setCell ⟨w.heap.size + 1, 1, none⟩ (.map none)).setCell ⟨w.heap.size + 1, 2, none⟩ (.bool false)).setCell ⟨w.heap.size + 1, 3, none⟩ (.map r2)).setCell ⟨w.heap.size + 1, 4, none⟩ (.map none)) := (((((Chg.refl _ _).setCell (.inr (by simp)) _).setCell (.inr (by simp)) _).setCell (.inr (by simp)) _).setCell (.inr (by simp)) _).setCell (.inr (by simp)) _
  refine bodyPost_ret (v := .tuple #[.agg #[.map r0, .map none, .bool false, .map r2, .map none], .map (some bp), .nilIface]) (by simp [results, Tryz.results370, go_sem, q0, q1, q2, q3, q4]) rfl ⟨rfl, ⟨?_⟩⟩
  exact (((hA2 _ _).out.trans HN1.out.out).then hF (by simp))
end Go.Proofs.YtalhhplphlobbaaGreat
namespace Go.Proofs.YtalhhplphlobbaaGreat
open Go.RowKit
set_option maxRecDepth 100000 in
set_option maxHeartbeats 2000000 in
/-- checkAndCopy up to the check: the copy. -/
theorem copy_pre {w : World} {r0 r2 : Option Nat} {bp : Nat} {V L : List Int} {f : Int → Option PrS} {p : Int → Nat} {v6 : Option Nat} {mi mb li : Int} (h : TrkAt w r0 r2 bp V L f p) :
    Calls Tryz.prog 363 #[.agg #[.map r0, .map none, .bool false, .map r2, .map none, .map (some bp), .map v6, .int .i64 mi, .int .u64 mb, .int .u64 li]] w fun y w' => ∃ x0 x2 bt q,
      y = .returned (.tuple #[.agg #[.map x0, .map none, .bool false, .map x2, .map none], .map (some bt), .nilIface]) ∧ TrkAt w' x0 x2 bt V L f q ∧ (∀ k, x0 = some k → w.heap.size ≤ k) ∧ (∀ k, x2 = some k → w.heap.size ≤ k) ∧ w.heap.size ≤ bt ∧ (∀ k s, f k = some s → w.heap.size ≤ q k) ∧ Nxt w w' := by
  have hmm := @run_makeMap Tryz.prog
  have lV : V.length ≤ 1000 := by have := h.lv; omega
  have lL : L.length ≤ 1000 := by have := h.ll; omega
  obtain ⟨D, hD, hg⟩ := h.prg.map
  have hlb := hD.lt
  have H := Lib.hid h
  have HG := Lib.hid hg
  have hA : ∀ o, Nxt w (w.alloc o) := fun o => ⟨(Chg.refl _ _).alloc _⟩
  clear hg
  go_enter Tryz.func363, Tryz.ntmps363
  have hA1 : Nxt w ((w.alloc (.cells #[.map r0, .map none, .bool false, .map r2, .map none, .map (some bp), .map v6, .int .i64 mi, .int .u64 mb, .int .u64 li] 414)).alloc (.cells #[.map none, .map none, .bool false, .map none, .map none] 286)) := ⟨((Chg.refl _ _).alloc _).alloc _⟩
  have hB1 : Blk ((w.alloc (.cells #[.map r0, .map none, .bool false, .map r2, .map none, .map (some bp), .map v6, .int .i64 mi, .int .u64 mb, .int .u64 li] 414)).alloc (.cells #[.map none, .map none, .bool false, .map none, .map none] 286)) w.heap.size 414 #[.map r0, .map none, .bool false, .map r2, .map none, .map (some bp), .map v6, .int .i64 mi, .int .u64 mb, .int .u64 li] := (Blk.new _ _ _).alloc _
  have hR1 : Blk ((w.alloc (.cells #[.map r0, .map none, .bool false, .map r2, .map none, .map (some bp), .map v6, .int .i64 mi, .int .u64 mb, .int .u64 li] 414)).alloc (.cells #[.map none, .map none, .bool false, .map none, .map none] 286)) (w.heap.size + 1) 286 #[.map none, .map none, .bool false, .map none, .map none] := by simpa using Blk.new (w.alloc (.cells #[.map r0, .map none, .bool false, .map r2, .map none, .map (some bp), .map v6, .int .i64 mi, .int .u64 mb, .int .u64 li] 414)) 286 #[.map none, .map none, .bool false, .map none, .map none]
  go_wp2_with fail
  generalize ((w.alloc (.cells #[.map r0, .map none, .bool false, .map r2, .map none, .map (some bp), .map v6, .int .i64 mi, .int .u64 mb, .int .u64 li] 414)).alloc (.cells #[.map none, .map none, .bool false, .map none, .map none] 286)) = W1 at hA1 hB1 hR1 ⊢
  have k0 := hB1.cell 0
  have k1 := hB1.cell 1
  have k3 := hB1.cell 3
  have k4 := hB1.cell 4
  simp at k0 k1 k3 k4
  have HA1 := Lib.hid hA1
  have HB1 := Lib.hid hB1
  have HR1 := Lib.hid hR1
  have h1 := H.out.nxt hA1
  have H1 := Lib.hid h1
  clear hA1 hB1 hR1 h1
  (go_at_call 403; refine (cfgClone_any (V := V) (L := L) k0 k1 k3 k4 H1.out.sv H1.out.sl lV lL).mono ?_)
  rintro e W2 ⟨x0, x2, rfl, s0, s2, f0, f2, a3, i0, hn2⟩
  have HS0 := Lib.hid s0
  have HS2 := Lib.hid s2
  have HF0 := Lib.hid f0
  have HF2 := Lib.hid f2
  have HA3 := Lib.hid a3
  have HI0 := Lib.hid i0
  have HN2 := Lib.hid hn2
  have hD2 := (hD.nxt HA1.out).nxt hn2
  have HD2 := Lib.hid hD2
  have hB2 := HB1.out.nxt hn2
  have k5 := hB2.cell 5
  simp at k5
  obtain ⟨l0, l1, l2, _⟩ := lts hB2.lt
  clear hD2 k0 k1 k3 k4 s0 s2 f0 f2 a3 i0 hn2 hB2
  go_wp2_with (first | (at_range; refine wp_range _ rfl _ 288 rfl 304 Tryz.underlying288 (b := bp) rfl (HD2.out.chg (L := []) (by repeat (first | with_reducible exact Chg.refl _ _ | refine Chg.alloc ?_ _)) (by simp)) ?_; intro W3 hrg3 hn3 hz3))
  go_frame
  have hz3 : W3.heap.size = W2.heap.size + 3 := by simpa using hz3
  have hcb : Blk W3 W2.heap.size 286 #[.map x0, .map none, .bool false, .map x2, .map none] := ((Blk.new W2 286 _).alloc _).nxt hn3
  have hmt : MapAt W3 (W2.heap.size + 1) (.map []) := by
    have := MapAt.new (W2.alloc (.cells #[.map x0, .map none, .bool false, .map x2, .map none] 286))
    simp at this
    exact this.nxt hn3
  have hc23 : Chg [] W2 W3 := (((Chg.refl _ _).alloc _).alloc _).nxt hn3
  have hbp := HD2.out.lt
  have e2 : ((W2.alloc (.cells #[.map x0, .map none, .bool false, .map x2, .map none] 286)).alloc (.map #[] 0)).heap.size = W2.heap.size + 2 := by simp
  rw [e2] at hrg3 ⊢
  have HZ3 := Lib.hid hz3
  clear hz3 e2 hn3
  go_loopw [7] (fun _ wr => ∃ (dn : List Int) (Dt : DataW Value) (q : Int → Nat), Rg wr bp (W2.heap.size + 2) D dn ∧ MapAt wr (W2.heap.size + 1) Dt ∧ (∀ k, mget Dt k = if k ∈ dn then some (.pointer (some ⟨q k, 0, none⟩)) else none) ∧
      (∀ k ∈ dn, ∀ s, f k = some s → Blk wr (q k) 461 s.cells) ∧ (∀ k ∈ dn, W2.heap.size + 3 ≤ q k) ∧ (∀ k ∈ dn, ∀ k' ∈ dn, q k = q k' → k = k') ∧ Blk wr W2.heap.size 286 #[.map x0, .map none, .bool false, .map x2, .map none] ∧ Chg [] W2 wr) (fun _ wr => wr.rangeLeft bp (W2.heap.size + 2))
  case atStart => exact ⟨[], .map [], p, hrg3, hmt, by simp [mget_nil], by simp, by simp, by simp, hcb, hc23⟩
  case round =>
    obtain ⟨dn, Dt, q, hrg, hout, hq1, hq2, hq3, hq4, hcfg, hcw⟩ := hrel
    have HQ1 := Lib.hid hq1
    have HQ2 := Lib.hid hq2
    have HQ3 := Lib.hid hq3
    have HQ4 := Lib.hid hq4
    have HCF := Lib.hid hcfg
    have HCW := Lib.hid hcw
    have hszW := hcw.size
    have hrgs : ∀ k ∈ dn, (mget D k).isSome = true := by
      obtain ⟨lf, _, _, _, h4⟩ := hrg
      exact fun k hk => (h4 k hk).1
    have HRGS := Lib.hid hrgs
    clear hq1 hq2 hq3 hq4 hcfg hcw hrgs
    go_wp2_with (first | (at_next; refine wp_next _ rfl _ rfl (b := bp) (r := W2.heap.size + 2) (D := D) (dn := dn) rfl hrg ?_ ?_) | go_in)
    · intro hall
      have hdn : ∀ k, k ∈ dn ↔ (f k).isSome = true := fun k => by
        constructor
        · intro hk
          have h1 := HRGS.out k hk
          rw [HG.out k] at h1
          simpa using h1
        · intro hk
          exact hall k (by rw [HG.out k]; simpa using hk)
      have hsb0 := HS0.out.blk
      have hsb2 := HS2.out.blk
      have hT : TrkAt wr x0 x2 (W2.heap.size + 1) V L f q :=
        { sv := HS0.out.chg HCW.out (by simp)
          sl := HS2.out.chg HCW.out (by simp)
          prg := ⟨⟨Dt, hout, fun k => by
              rw [HQ1.out k]
              cases hf : f k with
              | none => rw [if_neg (by rw [hdn k, hf]; simp)]; rfl
              | some s => rw [if_pos (by rw [hdn k, hf]; rfl)]; rfl⟩,
            fun k s hs => HQ2.out k ((hdn k).2 (by rw [hs]; rfl)) s hs,
            fun k k' s s' hs hs' he => HQ4.out k ((hdn k).2 (by rw [hs]; rfl)) k' ((hdn k').2 (by rw [hs']; rfl)) he⟩
          dom := H.out.dom
          lrn := H.out.lrn
          dis := H.out.dis
          lv := H.out.lv
          ll := H.out.ll
          rng := H.out.rng
          some0 := HI0.out.trans H.out.some0
          a1 := fun e => by have := hsb0 _ (by rw [e]); omega
          a2 := fun e => by have := hsb2 _ (by rw [e]); omega
          a3 := HA3.out }
      have HT := Lib.hid hT
      have HDN := Lib.hid hdn
      have c0 := (HCF.out).cell 0; have c1 := (HCF.out).cell 1; have c2 := (HCF.out).cell 2; have c3 := (HCF.out).cell 3; have c4 := (HCF.out).cell 4; simp at c0 c1 c2 c3 c4; have cf := (HCF.out).frozen; have cl := (HCF.out).lt
      have hres : Blk wr (w.heap.size + 1) 286 #[.map none, .map none, .bool false, .map none, .map none] := (HR1.out.nxt HN2.out).chg HCW.out (by simp)
      have HRES := Lib.hid hres
      have z1 := HA1.out.out.size
      have z2 := HN2.out.out.size
      have z3 := HR1.out.lt
      clear hall hdn hT hout hrg hsb0 hsb2 hres
      go_wp2_with (first | (go_at_call 370; (with_reducible refine Calls.mono (checkRet_any HT.out) ?_); rintro e w9 ⟨rfl, hn9⟩; have g0 := (HRES.out.nxt hn9).cell 0; have g1 := (HRES.out.nxt hn9).cell 1; have g2 := (HRES.out.nxt hn9).cell 2; have g3 := (HRES.out.nxt hn9).cell 3; have g4 := (HRES.out.nxt hn9).cell 4; simp at g0 g1 g2 g3 g4; have gf := (HRES.out.nxt hn9).frozen; have gl := (HRES.out.nxt hn9).lt; have HN9 := Lib.hid hn9; clear hn9))
      have hF : Chg [w.heap.size + 1] w9 (((((w9.setCell ⟨w.heap.size + 1, 0, none⟩ (.map x0)).setCell ⟨w.heap.size + 1, 1, none⟩ (.map none)).setCell ⟨w.heap.size + 1, 2, none⟩ (.bool false)).setCell ⟨w.heap.size + 1, 3, none⟩ (.map x2)).setCell ⟨w.heap.size + 1, 4, none⟩ (.map none)) := (((((Chg.refl _ _).setCell (.inr (by simp)) _).setCell (.inr (by simp)) _).setCell (.inr (by simp)) _).setCell (.inr (by simp)) _).setCell (.inr (by simp)) _
      have hT9 := HT.out.nxt HN9.out
      refine bodyPost_ret (v := .tuple #[.agg #[.map x0, .map none, .bool false, .map x2, .map none], .map (some (W2.heap.size + 1)), .nilIface]) (by simp [results, Tryz.results363, go_sem, g0, g1, g2, g3, g4]) rfl ⟨x0, x2, W2.heap.size + 1, q, rfl, ?_, ?_, ?_, ?_, ?_, ⟨?_⟩⟩
      · exact hT9.chg hF (fun k hk => by have := HF0.out k hk; simp; omega) (fun k hk => by have := HF2.out k hk; simp; omega) (by simp; omega) (fun k s hs => by have := HQ3.out k ((HDN.out k).2 (by rw [hs]; rfl)); simp; omega)
      · intro k hk; have := HF0.out k hk; omega
      · intro k hk; have := HF2.out k hk; omega
      · omega
      · intro k s hs
        have := HQ3.out k ((HDN.out k).2 (by rw [hs]; rfl)); omega
      · exact ((((HA1.out.out.trans HN2.out.out).trans HCW.out).trans HN9.out.out).then hF (by simp))
    · intro x c w2 hx0 hx1 hg hnot hrg2 hlt hc2 hs2 hen
      obtain ⟨s, hs, rfl⟩ : ∃ s, f x = some s ∧ c = .pointer (some ⟨p x, 0, none⟩) := by
        rw [HG.out x] at hg
        cases hf : f x with
        | none => rw [hf] at hg; cases hg
        | some s => rw [hf] at hg; simp at hg; exact ⟨s, rfl, hg.symm⟩
      have hpb : Blk w2 (p x) 461 s.cells := (((H.out.prg.blk x s hs).chg (HA1.out.out.trans (HN2.out.out.trans HCW.out)) (by simp))).chg hc2 (by have h1 := (H.out.prg.blk x s hs).lt; have h2 := HA1.out.out.size; have h3 := HN2.out.out.size; simp; omega)
      have p0 := hpb.cell 0
      have p1 := hpb.cell 1
      have p2 := hpb.cell 2
      have p3 := hpb.cell 3
      have p4 := hpb.cell 4
      have p5 := hpb.cell 5
      have p6 := hpb.cell 6
      have p7 := hpb.cell 7
      have p8 := hpb.cell 8
      simp [PrS.cells] at p0 p1 p2 p3 p4 p5 p6 p7 p8
      have HS := Lib.hid hs
      have HG2 := Lib.hid hg
      have HNOT := Lib.hid hnot
      have HRG2 := Lib.hid hrg2
      have HLT := Lib.hid hlt
      have HC2 := Lib.hid hc2
      have HOUT := Lib.hid hout
      have hout2 : MapAt w2 (W2.heap.size + 1) Dt := hout.chg hc2 (by simp)
      have hsz2 : Maps.size Dt ≤ dn.length := hout.size_le (fun k hk => by rw [HQ1.out k] at hk; split at hk; assumption; cases hk)
      have hdn : dn.length ≤ V.length + L.length := by
        have := nodup_le (S := V ++ L) (l := dn) (by obtain ⟨lf, _, _, hnd, _⟩ := hrg; exact hnd) (fun k hk => by
          have h1 := HRGS.out k hk
          rw [HG.out k] at h1
          have h2 : (f k).isSome = true := by simpa using h1
          simpa using (H.out.dom k).1 h2)
        simpa using this
      have hs2' : w2.heap.size = wr.heap.size := hs2
      have HS2' := Lib.hid hs2'
      have hw2z : W2.heap.size + 3 ≤ w2.heap.size := by have := hrg.lt; omega
      clear hs hg hnot hrg2 hlt hc2 hs2 hout hs2' hpb hrg
      go_wp2_with (first | (at_mapUpdate; refine wp_store _ rfl _ _ _ 288 rfl 304 Tryz.underlying288 (b := W2.heap.size + 1) (val := .pointer (some ⟨w2.heap.size, 0, none⟩)) rfl (hout2.chg (L := []) ((Chg.refl _ _).alloc _) (by simp)) (by simp only [maxLen]; have := H.out.lv; have := H.out.ll; omega) rfl rfl ⟨hx0, hx1⟩ ?_; intro w3 hti3 hsz3 hc3 hs3; go_frame))
      have hcA : Chg [W2.heap.size + 2] wr (w2.alloc (.cells s.cells 461)) := HC2.out.alloc _
      have hcB : Chg [W2.heap.size + 1, W2.heap.size + 2] wr w3 := (hcA.mono (by simp)).trans (hc3.mono (by simp))
      have hHC : ∀ k ∈ dn, ∀ s', f k = some s' → q k < wr.heap.size := fun k hk s' hs' => (HQ2.out k hk s' hs').lt
      go_roundw
      case rel =>
        refine ⟨dn ++ [x], _, fun k => if k = x then w2.heap.size else q k, ((HRG2.out.chg (L := []) ((Chg.refl _ _).alloc _) (by simp) (by simp)).1.chg hc3 (by simp; omega) (by simp)).1, hti3, ?_, ?_, ?_, ?_, ?_, ?_⟩
        · intro k
          rw [mget_put hout2.isMap, HQ1.out k]
          by_cases e : k = x
          · simp [e]
          · simp [e]
        · intro k hk s' hs'
          by_cases e : k = x
          · subst e
            rw [HS.out] at hs'
            cases hs'
            simp only [if_true]
            exact (Blk.new w2 461 s.cells).chg hc3 (by simp; omega)
          · have hk' : k ∈ dn := by simpa [e] using hk
            simp only [e, if_false]
            exact (HQ2.out k hk' s' hs').chg hcB (by have := HQ3.out k hk'; simp; omega)
        · intro k hk
          by_cases e : k = x
          · simp only [e, if_true]; omega
          · simp only [e, if_false]
            exact HQ3.out k (by simpa [e] using hk)
        · intro k hk k' hk' he
          have hlt : ∀ k ∈ dn, q k < w2.heap.size := fun k hk => by
            have h1 := HRGS.out k hk
            rw [HG.out k] at h1
            obtain ⟨s', hs'⟩ := Option.isSome_iff_exists.1 (show (f k).isSome = true by simpa using h1)
            have := hHC k hk s' hs'
            have := HS2'.out
            omega
          by_cases e : k = x <;> by_cases e' : k' = x
          · rw [e, e']
          · simp only [e, e', if_true, if_false] at he
            have := hlt k' (by simpa [e'] using hk')
            omega
          · simp only [e, e', if_true, if_false] at he
            have := hlt k (by simpa [e] using hk)
            omega
          · simp only [e, e', if_false] at he
            exact HQ4.out k (by simpa [e] using hk) k' (by simpa [e'] using hk') he
        · exact HCF.out.chg hcB (by simp)
        · exact (HCW.out.then hcB (by simp))
      case measure =>
        rw [(((HRG2.out.chg (L := []) ((Chg.refl _ _).alloc _) (by simp) (by simp)).1.chg hc3 (by simp; omega) (by simp))).2, (HRG2.out.chg (L := []) ((Chg.refl _ _).alloc _) (by simp) (by simp)).2]
        exact HLT.out
end Go.Proofs.YtalhhplphlobbaaGreat
