/- FnTimer (4): the walk. Conditions: the shapes of the argument. -/
import Derived.BigQuiet
import Derived.Test.YtalhhplphlobbaaGreatP43
import Derived.Test.YtalhhplphlobbaaGreatP45
set_option linter.unusedVariables false
set_option linter.unusedSimpArgs false
namespace Go.Proofs.YtalhhplphlobbaaGreat
open Go.RowKit
attribute [local go_sem ↓] bld44_eq bld48_eq
/-- The timeout behind the first k numbers. -/
def tmo (s : SetS) (D : List Int) (k : Nat) : Int := if k = 0 then s.et else s.et + D.getD 0 0
theorem tmo_all {s : SetS} {D : List Int} : tmo s D D.length = s.et + zdraw D 0 := by
  unfold tmo zdraw
  cases D with
  | nil => simp
  | cons d D => simp
set_option maxRecDepth 100000 in
set_option maxHeartbeats 8000000 in
theorem timer_any {W : World} {s : SetS} {V L V2 L2 D : List Int} {l : List EntK} (h : Arg W s V L V2 L2 D l) (hb3 : V2.length < 2 ^ 61) (hb4 : L2.length < 2 ^ 61) : Calls Tryz.prog 4 #[.agg s.list.toArray] W fun y w' => y = .returned (.bool true) ∧ Nxt W w' := by
  obtain ⟨A0, m0, k0, e0⟩ := h.rd.form
  obtain ⟨A1, m1, k1, e1⟩ := h.b1.form
  obtain ⟨A2, m2, k2, e2⟩ := h.b2.form
  obtain ⟨A3, m3, k3, e3⟩ := h.b3.form
  obtain ⟨A4, m4, k4, e4⟩ := h.b4.form
  obtain ⟨A5, k5, e5⟩ := h.lg.form
  have HA := Lib.hid h
  obtain ⟨SL, hSL⟩ : ∃ SL, SL = s.list := ⟨_, rfl⟩
  have HFI := Lib.hid (fun (w : World) (hn : Chg [] W w) => fits_any h hn)
  have HRE := Lib.hid (fun (w : World) (hn : Chg [] W w) => ready_any h hn hb3 hb4)
  rw [← hSL] at HFI HRE ⊢
  have HSL := Lib.hid hSL
  clear hSL h
  have HZ33 := Lib.hid (show (Tryz.prog.info? 33).map (·.size) = some SL.length by rw [HSL.out]; exact size33)
  have hb0 := Blk.new W 33 SL.toArray
  have hX : Chg [] W (W.alloc (.cells SL.toArray 33)) := (Chg.refl _ _).alloc _
  go_enter Tryz.func4, Tryz.ntmps4
  go_upto_region 1 with fail
  generalize W.alloc (.cells SL.toArray 33) = X at hb0 hX ⊢
  obtain ⟨b, hb⟩ : ∃ b, b = W.heap.size := ⟨_, rfl⟩
  rw [← hb] at hb0 ⊢
  have HX := Lib.hid hX
  have HB0 := Lib.hid hb0
  clear hb hb0 hX
  go_upto_region 3 with (first | (refine wpList_load_mid rfl 33 _ rfl b 0 rfl SL _ (ld48 HB0.out) Tryz.underlying33 rfl HZ33.out ?_) | (go_at_call 15; (with_reducible refine Calls.mono (HFI.out _ HX.out) ?_); rintro y1 w1 ⟨g1, rfl, hn1⟩; rcases g1))
  all_goals (first | (go_ret; exact ⟨rfl, ⟨HX.out.trans hn1.out⟩⟩) | skip)
  have HX1 := Lib.hid (HX.out.trans hn1.out)
  have HB1 := Lib.hid (HB0.out.chg hn1.out (by simp))
  clear hn1
  go_upto_region 5 with (first | (refine wpList_load_mid rfl 33 _ rfl b 0 rfl SL _ (ld48 HB1.out) Tryz.underlying33 rfl HZ33.out ?_) | (go_at_call 16; (with_reducible refine Calls.mono (HRE.out _ HX1.out) ?_); rintro y2 w2 ⟨g2, rfl, hr2, hn2⟩; rcases g2))
  all_goals (first | (go_ret; exact ⟨rfl, ⟨HX1.out.trans hn2.out⟩⟩) | skip)
  have hR := hr2 (by trivial)
  have hI := inp_of HA.out hR
  have hX2 := HX1.out.trans hn2.out
  have hB2 := HB1.out.chg hn2.out (by simp)
  have het := hR.et
  have hDn := hR.Dn
  have hht := hR.ht0
  have hDL := hR.Dl
  have hT9 := hR.hT
  have c1 : w2.cell? ⟨b, 1, none⟩ = some (.int .i64 s.et) := (hB2.cell 1).trans (by rw [HSL.out]; rfl)
  have c3 : w2.cell? ⟨b, 3, none⟩ = some (.slice A0 m0 k0) := (hB2.cell 3).trans (by rw [HSL.out, ← e0]; rfl)
  have hm0 : m0 = D.length := by
    have z := HA.out.rd
    rw [e0] at z
    have := (sl_len z).1
    simpa [I64s] using this.symm
  have HM0 := Lib.hid hm0
  have HB2 := Lib.hid hB2
  have HI := Lib.hid hI
  have HX2 := Lib.hid hX2
  have HRD := Lib.hid (HA.out.rd.chg0 hX2)
  have HNUM := Lib.hid (show s.ht < s.et ∧ s.et ≤ 30 ∧ 1 ≤ s.ht ∧ D.length ≤ 10 ∧ (∀ x ∈ D, 0 ≤ x ∧ x < s.et) ∧ s.hT ≤ 1099511627776 from ⟨het.1, het.2, hht, hDL, hDn, hT9⟩)
  have hm10 : m0 ≤ 10 := by omega
  clear hr2 hR hI hX2 hB2 hn2 het hDn hht hDL hT9 hm0
  go_wp2_with fail
  go_loopw [3, 5, 23] (fun tv _ iv wr => ∃ k : Nat, k ≤ m0 ∧ iv = .int .i64 k ∧ tv = .int .i64 (tmo s D k) ∧ Chg [] w2 wr) (fun _ _ iv _ => m0 - (intOf iv).toNat)
  case atStart => exact ⟨0, by omega, rfl, rfl, Chg.refl _ _⟩
  case round =>
    obtain ⟨k, hk, rfl, rfl, hcw⟩ := hrel
    by_cases hlt : k < m0
    · have HRD' := HRD.out
      rw [e0] at HRD'
      obtain ⟨b', o, p, rfl, hp, hcell, _⟩ := sl_at HRD' hlt
      obtain ⟨b2, o2, p0, he2, hp0, hcell0, _⟩ := sl_at HRD' (show 0 < m0 by omega)
      injection he2 with he2
      injection he2 with q1 q2 q3
      subst q1 q2
      obtain ⟨z, hz, rfl⟩ : ∃ z, D[k]? = some z ∧ p = .int .i64 z := by
        simp only [I64s, List.getElem?_map] at hp
        cases hj : D[k]? with
        | none => rw [hj] at hp; cases hp
        | some x => rw [hj] at hp; injection hp with hp; exact ⟨x, rfl, hp.symm⟩
      obtain ⟨z0, hz0, rfl⟩ : ∃ z, D[0]? = some z ∧ p0 = .int .i64 z := by
        simp only [I64s, List.getElem?_map] at hp0
        cases hj : D[0]? with
        | none => rw [hj] at hp0; cases hp0
        | some x => rw [hj] at hp0; injection hp0 with hp0; exact ⟨x, rfl, hp0.symm⟩
      rw [Nat.add_zero] at hcell0
      have d1 := hcw.at0 hcell
      have d0 := hcw.at0 hcell0
      have g1 := hcw.at0 c1
      have g3 := hcw.at0 c3
      have hzr := HNUM.out.2.2.2.2.1 z (List.mem_of_getElem? hz)
      have hw : IntKind.i64.wrap (s.et + z) = s.et + z := IntWalk.i64_in _ (by have := HNUM.out; omega)
      have HCW := Lib.hid hcw
      have HZ := Lib.hid hz
      have HZ0 := Lib.hid hz0
      clear hcell hcell0 hp hp0 hcw HRD' hz hz0
      by_cases hzz : z = z0
      · subst hzz
        go_wp2
        refine ⟨⟨k + 1, by omega, by simp, ?_, HCW.out⟩, by simp [intOf]; omega⟩
        unfold tmo
        rw [if_neg (by omega)]
        have : D.getD 0 0 = z := by rw [List.getD_eq_getElem?_getD, HZ0.out]; rfl
        rw [this]
      · have hzx : (z == z0) = false := by simp [hzz]
        go_wp2
        go_ret
        exact ⟨rfl, ⟨HX2.out.trans HCW.out⟩⟩
    · have hkn : k = m0 := by omega
      have hTe : tmo s D k = s.et + zdraw D 0 := by rw [hkn, HM0.out]; exact tmo_all
      have hz0 : 0 ≤ zdraw D 0 ∧ zdraw D 0 < s.et := by
        have hn := HNUM.out
        unfold zdraw
        split
        · omega
        · rename_i hD
          obtain ⟨d, D', rfl⟩ := List.exists_cons_of_ne_nil hD
          have := hn.2.2.2.2.1 d (by simp)
          simpa using this
      rw [hTe]
      obtain ⟨T, hT⟩ : ∃ T : Nat, s.et + zdraw D 0 = T := Int.eq_ofNat_of_zero_le (by have := HNUM.out; omega)
      have hT60 : T < 100 := by have := HNUM.out; omega
      have hT0 : 0 < T := by have := HNUM.out; omega
      rw [hT]
      have HT := Lib.hid hT
      clear hTe hT hz0 hkn c1 c3
      obtain ⟨RL, hRL⟩ : ∃ RL, RL = ready44 := ⟨_, rfl⟩
      have hbr : ∀ w, (bld44 #[(0, .int .i64 5)]).run Tryz.prog w = .ok (.agg RL.toArray) w := fun w => by rw [hRL]; exact ready44_build w
      have hfold := fold44 RL (by rw [hRL]; rfl)
      obtain ⟨TL, hTL⟩ : ∃ TL, TL = tick44 := ⟨_, rfl⟩
      have hbt : ∀ w, (bld44 #[(0, .int .i64 1)]).run Tryz.prog w = .ok (.agg TL.toArray) w := fun w => by rw [hTL]; exact tick44_build w
      have hfoldT := fold44 TL (by rw [hTL]; rfl)
      have hll : RL.length = 28 := by rw [hRL]; rfl
      have hltl : TL.length = 28 := by rw [hTL]; rfl
      have hone : ∀ v ∈ TL, v.oneCell' = true := by rw [hTL]; exact tick44_one
      have HRL := Lib.hid hRL
      have HTL := Lib.hid hTL
      have HLEN := Lib.hid (show RL.length = 28 ∧ TL.length = 28 from ⟨hll, hltl⟩)
      have HONE := Lib.hid hone
      have HCW := Lib.hid hcw
      clear hRL hTL hone hcw
      go_upto_region 14 with fail
      have hown0 : (wr.alloc (.cells RL.toArray 44)).ownsRow wr.heap.size 44 28 (.slice (some ⟨wr.heap.size, 0, none⟩) 1 1) 1 (Calls_ 1) := by
        have z := World.ownsRow_lit (base := wr.heap.size) (e := 44) (size := 28) wr RL.toArray 1 (Nat.le_refl _) (by decide) (by rw [List.size_toArray, HLEN.out.1])
        rw [Calls_one, ← HRL.out]
        exact z
      have hc0 : Chg [] wr (wr.alloc (.cells RL.toArray 44)) := (Chg.refl _ _).alloc _
      generalize wr.alloc (.cells RL.toArray 44) = w3 at hown0 hc0 ⊢
      obtain ⟨B, hB⟩ : ∃ B, B = wr.heap.size := ⟨_, rfl⟩
      rw [← hB] at hown0 ⊢
      have hw2z := HX2.out.size
      have hwrz := HCW.out.size
      have HOWN0 := Lib.hid hown0
      have HC3 := Lib.hid (HCW.out.trans hc0)
      have HBW := Lib.hid (show w2.heap.size ≤ B ∧ B ≤ w3.heap.size from ⟨by omega, by rw [hB]; exact hc0.size⟩)
      clear hown0 hc0 hB hw2z hwrz
      obtain ⟨i0, hi0, hz0, hz1, hz2⟩ := info_parts info44
      have hzc : (Value.agg zero44.toArray).cells.size = 28 := rfl
      obtain ⟨zv, hzv⟩ : ∃ zv, zv = Value.agg zero44.toArray := ⟨_, rfl⟩
      rw [← hzv] at hz0 hzc
      have HINF := Lib.hid (show Tryz.prog.info? 44 = some i0 ∧ i0.zero = some zv ∧ i0.size = 28 ∧ i0.bytes = 368 ∧ zv.cells.size = 28 from ⟨hi0, hz0, hz1, hz2, hzc⟩)
      clear hzv hi0 hz0 hz1 hz2 hzc
      go_wp2_with fail
      go_loopw [6, 41] (fun cv iv wi => ∃ k : Nat, k ≤ T ∧ iv = .int .i64 k ∧ wi.ownsRow B 44 28 cv (k + 1) (Calls_ (k + 1)) ∧ Chg [] w2 wi) (fun _ iv _ => T - (intOf iv).toNat)
      case atStart => exact ⟨0, by omega, rfl, HOWN0.out, HC3.out⟩
      case round =>
        obtain ⟨k, hk, rfl, hown, hcw⟩ := hrel
        have hBz := hcw.size
        have HOWN := Lib.hid hown
        have HCW2 := Lib.hid hcw
        clear hown hcw
        by_cases hlt : k < T
        · have hBr : B ≤ wr.heap.size := by
            rcases HOWN.out.2 with ⟨_, h0⟩ | ⟨g, cap, cur, he, _⟩
            · omega
            · have := own_lt (g := g) HOWN.out (by rw [mem_rowL, he]; rfl)
              omega
          go_upto_region 17 with (first | (at_builtin; refine wpList_append_own_at _ rfl _ _ 45 rfl B 44 i0 zv 28 368 Tryz.underlying45 HINF.out.1 HINF.out.2.1 HINF.out.2.2.1 HINF.out.2.2.2.1 HINF.out.2.2.2.2 (by decide) _ (k + 1) (Calls_ (k + 1)) rfl (own_chg0 HOWN.out ((Chg.refl _ _).alloc _)) ⟨wr.heap.size, 0, none⟩ 1 1 TL rfl (by rw [HLEN.out.2]) ?c1 HONE.out ?c3 ?c4 ?c5 ?_))
          case c1 =>
            intro j u hu
            have z := (Blk.new wr 44 TL.toArray).cell j
            rw [Addr.add_mid, Nat.zero_add]
            exact z.trans (by simpa using hu)
          case c3 => simp only [maxLen]; omega
          case c4 => omega
          case c5 => simp; omega
          intro v6 w6 hown6 hg6 hnl6 hat6
          have hc56 : Chg (rowL u6) wr w6 := ((Chg.refl _ wr).alloc _).trans (chg_row hg6)
          have hI6 : w6.ownsRow B 44 28 v6 (k + 1 + 1) (Calls_ (k + 1 + 1)) := by
            rw [← Calls_succ (by omega), ← HTL.out]
            exact hown6
          have hc6 : Chg [] w2 w6 := HCW2.out.then hc56 (fun x hx hl => by have := (own_lt HOWN.out hx).1; have := HBW.out.1; omega)
          have HI6 := Lib.hid hI6
          have HC6 := Lib.hid hc6
          clear hown6 hg6 hnl6 hat6 hc56 hI6 hc6
          go_wp2_with fail
          go_roundw
          case rel => exact ⟨k + 1, by omega, by simp, HI6.out, HC6.out⟩
          case measure => simp [intOf]; omega
        · have hkT : k = T := by omega
          subst hkT
          have hown := HOWN.out
          obtain ⟨q1, q2⟩ := id hown
          rcases q2 with ⟨rfl, h0⟩ | ⟨g, cap, cur, rfl, hg, hrest⟩
          · omega
          clear q1 hg hrest
          have hI9 : Inp wr s V L (l.map EntK.ent) D := HI.out.nxt (HX2.out.trans HCW2.out)
          have hgl : g < wr.heap.size := (own_lt (g := g) hown (by simp [mem_rowL, Value.ownBlock])).2
          obtain ⟨n, hn⟩ : ∃ n, n = k + 1 := ⟨_, rfl⟩
          have hk60 : k < 100 := hT60
          rw [← hn] at hown ⊢
          have hnI : (n : Int) = s.et + zdraw D 0 + 1 := by have := HT.out; omega
          have HNO := Lib.hid (show Calls Tryz.prog 17 #[.agg SL.toArray, .slice (some ⟨g, 0, none⟩) n cap] wr (ScriptPost wr n (TSt (wr.heap.size + 1) s V L (l.map EntK.ent) D n)) by
            rw [HSL.out]
            exact node_script hI9 (arg_bld HA.out) (arg_one HA.out) (fun i hi => row_rng (f := CLt) (l := List.range n) hown (fun a _ => CLt_len a) (List.getElem?_range hi)) (fun i _ => CLt_len i) (fun i _ => CLt_one i) (by omega) hgl
              (timer_script hI9 (by have := HNUM.out.2.2.2.2.2; omega) hnI rfl (fun i hi _ => by unfold CLt; rw [if_neg (by omega)]; rfl)) (fun X1 w1 _ _ hbg => timer_begin hI9 hbg))
          have HB9 := Lib.hid (HB2.out.chg HCW2.out (by simp))
          obtain ⟨N, hN⟩ : ∃ N, N = n + 1 := ⟨_, rfl⟩
          have hw1 : IntKind.i64.wrap ((n : Int) + 1) = (N : Int) := by rw [hN]; have := IntWalk.i64_in ((n : Int) + 1) (by omega); simpa using this
          have hw2 : IntKind.i64.wrap ((N : Int) - 1) = (n : Int) := by rw [hN]; have := IntWalk.i64_in (((n + 1 : Nat) : Int) - 1) (by omega); rw [this]; omega
          have HN := Lib.hid (show N = n + 1 ∧ n = k + 1 from ⟨hN, hn⟩)
          clear hown hI9 hgl hnI hN hn
          go_upto_region 19 with (first | (refine wpList_load_mid rfl 33 _ rfl b 0 rfl SL _ (ld48 HB9.out) Tryz.underlying33 rfl HZ33.out ?_) | (go_at_call 17; (with_reducible refine Calls.mono HNO.out ?_); rintro y3 w4 ⟨v, As, M, O, rfl, hAl, hst, hown4, hc4⟩; have HAL := Lib.hid hAl; have HST := Lib.hid hst; have HOWN4 := Lib.hid hown4; have HC4 := Lib.hid hc4; clear hAl hst hown4 hc4))
          have hown4 := HOWN4.out
          rw [← HN.out.1] at hown4
          obtain ⟨q1, q2⟩ := id hown4
          rcases q2 with ⟨rfl, h0⟩ | ⟨g4, cap4, cur4, rfl, hg4, hrest⟩
          · have := HN.out; omega
          clear q1 hg4 hrest
          have hAN : As.length = N := by rw [HN.out.1]; exact HAL.out
          have hFin := final_of HST.out HAL.out (by have := HN.out; omega)
          have hRng : ∀ k A, As[k]? = some A → w4.rangeAt g4 (k * 33) A.list := fun k A hk => row_rng (f := SaidS.list) hown4 (fun a _ => rfl) hk
          have hB4 : Blk w4 b 33 SL.toArray := HB9.out.chg HC4.out (by simp)
          have c0 : w4.cell? ⟨b, 0, none⟩ = some (.int .u64 s.id) := (hB4.cell 0).trans (by rw [HSL.out]; rfl)
          have c16 : w4.cell? ⟨b, 16, none⟩ = some (.slice A1 m1 k1) := (hB4.cell 16).trans (by rw [HSL.out, ← e1]; rfl)
          have hW4 : Chg [] W w4 := (HX2.out.trans HCW2.out).trans HC4.out
          have hb1 : Sl [] w4 (.slice A1 m1 k1) (U64s V) := by rw [← e1]; exact HA.out.b1.chg0 hW4
          obtain ⟨vt, hvt⟩ : ∃ vt, vt = decide (s.id ∈ V) := ⟨_, rfl⟩
          have HHAS := Lib.hid (show Calls Tryz.prog 21 #[.slice A1 m1 k1, .int .u64 s.id] w4 fun y w' => y = .returned (.bool vt) ∧ Nxt w4 w' by
            rw [hvt]
            exact has_iff s.id hb1 (by have := (u64_len hb1).1; have := HI.out.lV; omega))
          have HVT := Lib.hid hvt
          have HAN := Lib.hid hAN
          have HFIN := Lib.hid hFin
          have HRNG := Lib.hid hRng
          have HB4 := Lib.hid hB4
          have HW4 := Lib.hid hW4
          clear hvt hown4 hAN hFin hRng hB4 hW4 hb1 HOWN4 HST HNO HOWN HOWN0
          go_wp2_with (first | (go_at_call 21; (with_reducible refine Calls.mono HHAS.out ?_); rintro y5 w5 ⟨rfl, hn5⟩; have HN5 := Lib.hid hn5; clear hn5))
          have HC5 := Lib.hid (HW4.out.trans HN5.out.out)
          have HB5 := Lib.hid (HB4.out.chg HN5.out.out (by simp))
          go_loopw [66] (fun iv wi => ∃ k : Nat, k ≤ N ∧ iv = .int .i64 k ∧ Chg [] w5 wi) (fun iv _ => N - (intOf iv).toNat)
          case atStart => exact ⟨0, by omega, rfl, Chg.refl _ _⟩
          case round =>
            obtain ⟨j, hj, rfl, hcw5⟩ := hrel
            by_cases hlj : j < N
            · obtain ⟨A, hA⟩ : ∃ A, As[j]? = some A := ⟨_, List.getElem?_eq_getElem (by rw [HAN.out]; exact hlj)⟩
              have hrg : wr.rangeAt g4 (j * 33) A.list := rng_nxt (rng_nxt (HRNG.out j A hA) HN5.out.out) hcw5
              have hP := HFIN.out j A hA
              have hok : A.ok := by
                split at hP
                · exact hP.2.2.2
                · exact hP.2.2.2.2.2
              obtain ⟨AL, hAL⟩ : ∃ AL, AL = A.list := ⟨_, rfl⟩
              rw [← hAL] at hrg
              have hALl : AL.length = 33 := by rw [hAL]; rfl
              have hfold := fold48 AL hALl
              have HP := Lib.hid hP
              have HRG := Lib.hid hrg
              have HI48 := Lib.hid (show (Tryz.prog.info? 48).map (·.size) = some AL.length by rw [hAL]; exact size48)
              have HI48A := Lib.hid (show (Tryz.prog.info? 48).map (·.size) = some AL.toArray.size by rw [hAL]; exact size48)
              have HAOK := Lib.hid (show AL.toArray.all (·.oneCell') = true by rw [hAL]; exact all_oneCell_toArray hok)
              have HALE := Lib.hid hAL
              have HCW5 := Lib.hid hcw5
              clear hP hok hAL hrg hcw5 hA
              go_upto_region 25 with (first | (refine wpList_load_mid rfl 48 _ rfl g4 (j * 33) rfl AL _ HRG.out Tryz.underlying48 rfl HI48.out ?_) | (refine wpList_store_mid rfl 48 _ _ rfl wr.heap.size 0 AL.toArray rfl rfl ?st HI48A.out HAOK.out ?_))
              case st =>
                have z := st48 (FX := AL) (FY := #[Value.int .i64 0, .bool false, .int .i64 0, .int .u64 0, .int .u64 0, .int .u64 0, .int .u64 0, .int .u64 0, .int .u64 0, .slice none 0 0, .slice none 0 0, .slice none 0 0, .slice none 0 0, .bool false, .bool false, .bool false, .int .u64 0, .int .u64 0, .int .u64 0, .slice none 0 0, .string ⟨#[]⟩, .int .u64 0, .int .u64 0, .slice none 0 0, .slice none 0 0, .slice none 0 0, .slice none 0 0, .bool false, .slice none 0 0, .slice none 0 0, .slice none 0 0, .bool false, .slice none 0 0].toList) (ty := 48) (Blk.new wr 48 #[Value.int .i64 0, .bool false, .int .i64 0, .int .u64 0, .int .u64 0, .int .u64 0, .int .u64 0, .int .u64 0, .int .u64 0, .slice none 0 0, .slice none 0 0, .slice none 0 0, .slice none 0 0, .bool false, .bool false, .bool false, .int .u64 0, .int .u64 0, .int .u64 0, .slice none 0 0, .string ⟨#[]⟩, .int .u64 0, .int .u64 0, .slice none 0 0, .slice none 0 0, .slice none 0 0, .slice none 0 0, .bool false, .slice none 0 0, .slice none 0 0, .slice none 0 0, .bool false, .slice none 0 0]) (by rw [hALl]; rfl)
                intro q hq
                exact z q (by rw [List.size_toArray, hALl]; exact hq)
              have hb8 := bs48 (FX := AL) (FY := #[Value.int .i64 0, .bool false, .int .i64 0, .int .u64 0, .int .u64 0, .int .u64 0, .int .u64 0, .int .u64 0, .int .u64 0, .slice none 0 0, .slice none 0 0, .slice none 0 0, .slice none 0 0, .bool false, .bool false, .bool false, .int .u64 0, .int .u64 0, .int .u64 0, .slice none 0 0, .string ⟨#[]⟩, .int .u64 0, .int .u64 0, .slice none 0 0, .slice none 0 0, .slice none 0 0, .slice none 0 0, .bool false, .slice none 0 0, .slice none 0 0, .slice none 0 0, .bool false, .slice none 0 0].toList) (ty := 48) (Blk.new wr 48 #[Value.int .i64 0, .bool false, .int .i64 0, .int .u64 0, .int .u64 0, .int .u64 0, .int .u64 0, .int .u64 0, .int .u64 0, .slice none 0 0, .slice none 0 0, .slice none 0 0, .slice none 0 0, .bool false, .bool false, .bool false, .int .u64 0, .int .u64 0, .int .u64 0, .slice none 0 0, .string ⟨#[]⟩, .int .u64 0, .int .u64 0, .slice none 0 0, .slice none 0 0, .slice none 0 0, .slice none 0 0, .bool false, .slice none 0 0, .slice none 0 0, .slice none 0 0, .bool false, .slice none 0 0]) (by rw [hALl]; rfl)
              have hc34 : Chg [] wr ((wr.alloc (.cells #[Value.int .i64 0, .bool false, .int .i64 0, .int .u64 0, .int .u64 0, .int .u64 0, .int .u64 0, .int .u64 0, .int .u64 0, .slice none 0 0, .slice none 0 0, .slice none 0 0, .slice none 0 0, .bool false, .bool false, .bool false, .int .u64 0, .int .u64 0, .int .u64 0, .slice none 0 0, .string ⟨#[]⟩, .int .u64 0, .int .u64 0, .slice none 0 0, .slice none 0 0, .slice none 0 0, .slice none 0 0, .bool false, .slice none 0 0, .slice none 0 0, .slice none 0 0, .bool false, .slice none 0 0] 48)).setCells wr.heap.size 0 AL) := ((Chg.refl _ _).alloc _).then (chg_setCells _ _ _ _) (by simp)
              obtain ⟨z8, hz8⟩ : ∃ z8, z8 = wr.heap.size := ⟨_, rfl⟩
              rw [← hz8] at hb8 hc34 ⊢
              generalize hYe : (wr.alloc (.cells #[Value.int .i64 0, .bool false, .int .i64 0, .int .u64 0, .int .u64 0, .int .u64 0, .int .u64 0, .int .u64 0, .int .u64 0, .slice none 0 0, .slice none 0 0, .slice none 0 0, .slice none 0 0, .bool false, .bool false, .bool false, .int .u64 0, .int .u64 0, .int .u64 0, .slice none 0 0, .string ⟨#[]⟩, .int .u64 0, .int .u64 0, .slice none 0 0, .slice none 0 0, .slice none 0 0, .slice none 0 0, .bool false, .slice none 0 0, .slice none 0 0, .slice none 0 0, .bool false, .slice none 0 0] 48)).setCells z8 0 AL = Y at hb8 hc34 ⊢
              clear hYe
              have hCY : Chg [] w5 Y := HCW5.out.trans hc34
              have hBY : Blk Y b 33 SL.toArray := HB5.out.chg hCY (by simp)
              have p1 : Y.cell? ⟨z8, 1, none⟩ = some (.bool A.pan) := (hb8.cell 1).trans (by rw [HALE.out]; rfl)
              have p2 : Y.cell? ⟨z8, 2, none⟩ = some (.int .i64 A.role) := (hb8.cell 2).trans (by rw [HALE.out]; rfl)
              have p4 : Y.cell? ⟨z8, 4, none⟩ = some (.int .u64 A.h1) := (hb8.cell 4).trans (by rw [HALE.out]; rfl)
              have p5 : Y.cell? ⟨z8, 5, none⟩ = some (.int .u64 A.h2) := (hb8.cell 5).trans (by rw [HALE.out]; rfl)
              have p6 : Y.cell? ⟨z8, 6, none⟩ = some (.int .u64 A.h3) := (hb8.cell 6).trans (by rw [HALE.out]; rfl)
              have q4 : Y.cell? ⟨b, 4, none⟩ = some (.bool s.pv) := (hBY.cell 4).trans (by rw [HSL.out]; rfl)
              have q22 : Y.cell? ⟨b, 22, none⟩ = some (.int .u64 s.hT) := (hBY.cell 22).trans (by rw [HSL.out]; rfl)
              have q23 : Y.cell? ⟨b, 23, none⟩ = some (.int .u64 s.hV) := (hBY.cell 23).trans (by rw [HSL.out]; rfl)
              have q24 : Y.cell? ⟨b, 24, none⟩ = some (.int .u64 s.hC) := (hBY.cell 24).trans (by rw [HSL.out]; rfl)
              have HCY := Lib.hid hCY
              clear hb8 hc34 hz8 hCY hBY hfold
              have hcases : (vt && decide (j = n)) = false ∧ A.pan = false ∧ A.role = 0 ∧ A.h1 = s.hT ∧ A.h2 = s.hV ∧ A.h3 = s.hC ∨ (vt && decide (j = n)) = true ∧ A.pan = false ∧ A.role ≠ 0 ∧ ((s.pv = true → A.h1 = s.hT ∧ A.h2 = s.hV ∧ A.h3 = s.hC) ∧ (s.pv = false → A.h1 ≠ s.hT)) := by
                have hP := HP.out
                rw [HVT.out]
                split at hP
                · rename_i hh
                  exact .inr ⟨by simp [hh.1, hh.2], hP.1, hP.2.1, hP.2.2.1⟩
                · rename_i hh
                  exact .inl ⟨by rw [← Bool.not_eq_true, Bool.and_eq_true, decide_eq_true_eq, decide_eq_true_eq]; exact hh, hP.1, hP.2.1, hP.2.2.1, hP.2.2.2.1, hP.2.2.2.2.1⟩
              have hj200 : j < 200 := by have := HN.out; omega
              cases vt with
              | false =>
                rcases hcases with ⟨_, r1, r2, r3, r4, r5⟩ | ⟨hb, _⟩
                · rw [r1] at p1
                  rw [r2] at p2
                  rw [r3] at p4
                  rw [r4] at p5
                  rw [r5] at p6
                  go_upto_region 26 with fail
                  go_quiet (fail)
                  go_wp2_with fail
                  go_roundw
                  case rel => exact ⟨j + 1, by omega, by simp, HCY.out.drewN _⟩
                  case measure => simp [intOf]; omega
                · simp at hb
              | true =>
                by_cases hjn : j = n
                · have hjn' : ((j : Int) == (n : Int)) = true := by simp [hjn]
                  rcases hcases with ⟨hb, _⟩ | ⟨_, r1, r2, r3⟩
                  · simp [hjn] at hb
                  rw [r1] at p1
                  have r2' : (A.role == 0) = false := by simp [r2]
                  go_upto_region 26 with fail
                  by_cases hpv : s.pv = true
                  · obtain ⟨r4, r5, r6⟩ := r3.1 hpv
                    rw [r4] at p4
                    rw [r5] at p5
                    rw [r6] at p6
                    rw [hpv] at q4
                    go_quiet (fail)
                    go_wp2_with fail
                    go_roundw
                    case rel => exact ⟨j + 1, by omega, by simp; have := HN.out; omega, HCY.out.drewN _⟩
                    case measure => simp [intOf]; omega
                  · have hpf : s.pv = false := by simpa using hpv
                    rw [hpf] at q4
                    have hne : ¬ A.h1 = s.hT := r3.2 hpf
                    have hne' : (A.h1 == s.hT) = false := by simp [hne]
                    go_quiet (fail)
                    go_wp2_with fail
                    go_roundw
                    case rel => exact ⟨j + 1, by omega, by simp; have := HN.out; omega, HCY.out.drewN _⟩
                    case measure => simp [intOf]; omega
                · have hjn' : ((j : Int) == (n : Int)) = false := by simp; omega
                  rcases hcases with ⟨_, r1, r2, r3, r4, r5⟩ | ⟨hb, _⟩
                  · rw [r1] at p1
                    rw [r2] at p2
                    rw [r3] at p4
                    rw [r4] at p5
                    rw [r5] at p6
                    go_upto_region 26 with fail
                    go_quiet (fail)
                    go_wp2_with fail
                    go_roundw
                    case rel => exact ⟨j + 1, by omega, by simp, HCY.out.drewN _⟩
                    case measure => simp [intOf]; omega
                  · simp [hjn] at hb
            · have hjN : j = N := by omega
              have hlj' : ¬ (j : Int) < N := by omega
              go_wp2
              go_ret
              exact ⟨rfl, ⟨HC5.out.trans hcw5⟩⟩
end Go.Proofs.YtalhhplphlobbaaGreat
