/- FnBegins (3): the walk. Conditions: the shapes of the argument. -/
import Derived.Test.YtalhhplphlobbaaGreatP28
import Derived.Test.YtalhhplphlobbaaGreatP29
import Derived.Test.YtalhhplphlobbaaGreatP30
set_option linter.unusedVariables false
set_option linter.unusedSimpArgs false
namespace Go.Proofs.YtalhhplphlobbaaGreat
open Go.RowKit
attribute [local go_sem ↓] bld44_eq bld48_eq
theorem Inp.nxt {W X : World} {s : SetS} {V L : List Int} {l : List Ent} {D : List Int} (h : Inp W s V L l D) (hc : Chg [] W X) : Inp X s V L l D :=
  ⟨h.id0, h.id1, h.ht0, h.het, h.et1, h.mco0, h.mco1, h.inf0, h.msz1, h.lec, h.b1.chg0 hc, h.b2.chg0 hc, h.b3.chg0 hc, h.b4.chg0 hc, h.bal, h.bd1, h.lg.nxt0 hc, h.ll, h.row, h.fit, h.small, h.bi0, h.bi1, h.hT0, h.hc0, h.hc1, h.apd, h.nd, h.V0, h.rng, h.lV, h.lL, h.rd.chg0 hc, h.Dl, h.Dn⟩
theorem arg_one {W : World} {s : SetS} {V L V2 L2 D : List Int} {l : List EntK} (h : Arg W s V L V2 L2 D l) : ∀ v ∈ s.list, v.oneCell' = true := by
  obtain ⟨A0, m0, k0, e0⟩ := h.rd.form
  obtain ⟨A1, m1, k1, e1⟩ := h.b1.form
  obtain ⟨A2, m2, k2, e2⟩ := h.b2.form
  obtain ⟨A3, m3, k3, e3⟩ := h.b3.form
  obtain ⟨A4, m4, k4, e4⟩ := h.b4.form
  obtain ⟨A5, k5, e5⟩ := h.lg.form
  intro u hu
  simp only [SetS.list, e0, e1, e2, e3, e4, e5, List.mem_cons, List.not_mem_nil, or_false] at hu
  rcases hu with rfl | rfl | rfl | rfl | rfl | rfl | rfl | rfl | rfl | rfl | rfl | rfl | rfl | rfl | rfl | rfl | rfl | rfl | rfl | rfl | rfl | rfl | rfl | rfl | rfl | rfl <;> rfl
theorem arg_bld {W : World} {s : SetS} {V L V2 L2 D : List Int} {l : List EntK} (h : Arg W s V L V2 L2 D l) : ∀ w, (bld140 #[(0, .agg s.list.toArray)]).run Tryz.prog w = .ok (.agg (single0 s).cells) w := by
  obtain ⟨A0, m0, k0, e0⟩ := h.rd.form
  obtain ⟨A1, m1, k1, e1⟩ := h.b1.form
  obtain ⟨A2, m2, k2, e2⟩ := h.b2.form
  obtain ⟨A3, m3, k3, e3⟩ := h.b3.form
  obtain ⟨A4, m4, k4, e4⟩ := h.b4.form
  obtain ⟨A5, k5, e5⟩ := h.lg.form
  clear h
  obtain ⟨id, et, ht, rd, pv, cq, le, nf, sd, msz, mco, mun, inf, bd, bi, bt, b1, b2, b3, b4, bal, lg, hT, hV, hC, apd⟩ := s
  simp only at e0 e1 e2 e3 e4 e5
  subst e0 e1 e2 e3 e4 e5
  intro w
  exact singleBuild w id et ht msz mco mun inf bi bt hT hV hC apd pv cq le nf sd bal bd A0 A1 A2 A3 A4 A5 m0 k0 m1 k1 m2 k2 m3 k3 m4 k4 _ k5
set_option maxRecDepth 100000 in
set_option maxHeartbeats 8000000 in
theorem begins_any {W : World} {s : SetS} {V L V2 L2 D : List Int} {l : List EntK} (h : Arg W s V L V2 L2 D l) (hb3 : V2.length < 2 ^ 61) (hb4 : L2.length < 2 ^ 61) : Calls Tryz.prog 3 #[.agg s.list.toArray] W fun y w' => y = .returned (.bool true) ∧ Nxt W w' := by
  obtain ⟨A0, m0, k0, e0⟩ := h.rd.form
  obtain ⟨A1, m1, k1, e1⟩ := h.b1.form
  obtain ⟨A2, m2, k2, e2⟩ := h.b2.form
  obtain ⟨A3, m3, k3, e3⟩ := h.b3.form
  obtain ⟨A4, m4, k4, e4⟩ := h.b4.form
  obtain ⟨A5, k5, e5⟩ := h.lg.form
  have HA := Lib.hid h
  obtain ⟨SL, hSL⟩ : ∃ SL, SL = s.list := ⟨_, rfl⟩
  have HFI := Lib.hid (fun (w : World) (hn : Chg [] W w) => fits_any h hn)
  have HRE := Lib.hid (fun (w : World) (hn : Chg [] W w) => ready_any h hn hb3 hb4)
  rw [← hSL] at HFI HRE ⊢
  have HSL := Lib.hid hSL
  clear hSL h
  have HZ33 := Lib.hid (show (Tryz.prog.info? 33).map (·.size) = some SL.length by rw [HSL.out]; exact size33)
  have hb0 := Blk.new W 33 SL.toArray
  have hX : Chg [] W (W.alloc (.cells SL.toArray 33)) := (Chg.refl _ _).alloc _
  go_enter Tryz.func3, Tryz.ntmps3
  go_upto_region 1 with fail
  generalize W.alloc (.cells SL.toArray 33) = X at hb0 hX ⊢
  obtain ⟨b, hb⟩ : ∃ b, b = W.heap.size := ⟨_, rfl⟩
  rw [← hb] at hb0 ⊢
  have HX := Lib.hid hX
  have HB0 := Lib.hid hb0
  clear hb hb0 hX
  go_upto_region 3 with (first | (refine wpList_load_mid rfl 33 _ rfl b 0 rfl SL _ (ld48 HB0.out) Tryz.underlying33 rfl HZ33.out ?_) | (go_at_call 15; (with_reducible refine Calls.mono (HFI.out _ HX.out) ?_); rintro y1 w1 ⟨g1, rfl, hn1⟩; rcases g1))
  all_goals (first | (go_ret; exact ⟨rfl, ⟨HX.out.trans hn1.out⟩⟩) | skip)
  have HX1 := Lib.hid (HX.out.trans hn1.out)
  have HB1 := Lib.hid (HB0.out.chg hn1.out (by simp))
  clear hn1
  go_upto_region 5 with (first | (refine wpList_load_mid rfl 33 _ rfl b 0 rfl SL _ (ld48 HB1.out) Tryz.underlying33 rfl HZ33.out ?_) | (go_at_call 16; (with_reducible refine Calls.mono (HRE.out _ HX1.out) ?_); rintro y2 w2 ⟨g2, rfl, hr2, hn2⟩; rcases g2))
  all_goals (first | (go_ret; exact ⟨rfl, ⟨HX1.out.trans hn2.out⟩⟩) | skip)
  have hR := hr2 (by trivial)
  have hI := inp_of HA.out hR
  have hX2 := HX1.out.trans hn2.out
  have hB2 := HB1.out.chg hn2.out (by simp)
  have HB2 := Lib.hid hB2
  have HI := Lib.hid hI
  have HX2 := Lib.hid hX2
  clear hr2 hR hI hX2 hB2 hn2
  obtain ⟨RL, hRL⟩ : ∃ RL, RL = ready44 := ⟨_, rfl⟩
  have hbr : ∀ w, (bld44 #[(0, .int .i64 5)]).run Tryz.prog w = .ok (.agg RL.toArray) w := fun w => by rw [hRL]; exact ready44_build w
  have hfold := fold44 RL (by rw [hRL]; rfl)
  have hll : RL.length = 28 := by rw [hRL]; rfl
  have HRL := Lib.hid hRL
  clear hRL
  have hW2 : Chg [] W (w2.alloc (.cells RL.toArray 44)) := HX2.out.alloc _
  have hcl : (w2.alloc (.cells RL.toArray 44)).rangeAt w2.heap.size 0 RL := rng_blk (Blk.new w2 44 RL.toArray)
  have HNO := Lib.hid (show Calls Tryz.prog 17 #[.agg SL.toArray, .slice (some ⟨w2.heap.size, 0, none⟩) 1 1] (w2.alloc (.cells RL.toArray 44)) (NodePost (w2.alloc (.cells RL.toArray 44)) s (l.map EntK.ent)) by
    rw [HSL.out]
    exact node_any (HI.out.nxt hW2) (arg_bld HA.out) (arg_one HA.out) hcl hll (by rw [HRL.out]; rfl) (by rw [HRL.out]; exact ready44_one))
  clear hcl
  go_upto_region 6 with (first | (refine wpList_load_mid rfl 33 _ rfl b 0 rfl SL _ (ld48 HB2.out) Tryz.underlying33 rfl HZ33.out ?_) | (go_at_call 17; (with_reducible refine Calls.mono HNO.out ?_); rintro y3 w3 ⟨g, k, h, c, n1, k1', g2, n2, k2', v1, v2, v3, v4, u1, u2, u3, u4, r, lg1, lg2, rfl, hown, q1, q2, q3, q4, q5, q6, q7, q8, oc, ol, hn3⟩))
  obtain ⟨AA, hAA⟩ : ∃ AA, AA = said0.add r lg1 v1 v2 v3 v4 false := ⟨_, rfl⟩
  obtain ⟨AB, hAB⟩ : ∃ AB, AB = SaidS.add { said0 with has := h, com := .slice c n1 k1', log := .slice g2 n2 k2' } r lg2 u1 u2 u3 u4 false := ⟨_, rfl⟩
  rw [← hAA, ← hAB] at hown
  obtain ⟨hr0, hr1⟩ := two_rng hown rfl
  obtain ⟨L0, hL0⟩ : ∃ L0, L0 = AA.list := ⟨_, rfl⟩
  obtain ⟨L1, hL1⟩ : ∃ L1, L1 = AB.list := ⟨_, rfl⟩
  rw [← hL0] at hr0
  rw [← hL1] at hr1
  obtain ⟨l', hl'⟩ : ∃ l', l' = l.map EntK.ent := ⟨_, rfl⟩
  obtain ⟨lc, hlc⟩ : ∃ lc, lc = ((l.map EntK.ent).take (s.hC - s.bi).toNat).drop (apd0 s - s.bi).toNat := ⟨_, rfl⟩
  rw [← hlc] at oc
  rw [← hl'] at ol
  have hmax : max s.apd s.bi = apd0 s := by
    have := HI.out.apd
    have := HI.out.bi0
    unfold apd0
    split <;> omega
  have hIl : LogAt W s.lg l' := by rw [hl']; exact HI.out.lg
  have hI30 : l'.length ≤ 30 := by rw [hl']; exact HI.out.ll
  have hd : BegS W b g SL L0 L1 s l' lc h (.slice g2 n2 k2') (.slice c n1 k1') w3.drew := by
    have hc3 : Chg [] W w3 := hW2.trans hn3.out
    have hB3 : Blk w3 b 33 SL.toArray := (HB2.out.alloc _).chg hn3.out (by simp)
    have hm : BegS W b g SL L0 L1 s l' lc h (.slice g2 n2 k2') (.slice c n1 k1') w3 := ⟨hB3, hr0, hr1, hIl.nxt0 hc3, fun e => by have z := ol e; rw [hl'] at *; exact logAt_own z, logAt_own oc, hc3⟩
    exact hm.nxt ((Chg.refl _ _).drew)
  have hbs : (∃ A n c, s.b1 = .slice A n c) ∧ (∃ A n c, s.b2 = .slice A n c) ∧ (∃ A n c, s.b3 = .slice A n c) ∧ (∃ A n c, s.b4 = .slice A n c) := ⟨⟨_, _, _, e1⟩, ⟨_, _, _, e2⟩, ⟨_, _, _, e3⟩, ⟨_, _, _, e4⟩⟩
  have HOF := Lib.hid (show ∀ X, LogAt X s.lg l' → Calls Tryz.prog 19 #[.agg SL.toArray] X fun y w' => ∃ v, y = .returned (.agg (ofL s 0 v).toArray) ∧ LogAt w' v l' ∧ Nxt X w' by
    intro X hX
    rw [HSL.out]
    exact of_any hX (by omega) hbs)
  have HST0 := Lib.hid (show ∀ X v, LogAt X v l' → Calls Tryz.prog 18 #[.agg L0.toArray, .agg (ofL s 0 v).toArray] X fun y w' => y = .returned (.bool true) ∧ Nxt X w' by
    intro X v hv
    rw [hL0]
    refine stands_yes (a := AA) (by rw [hAA]; exact q1) (by rw [hAA]; exact q2) (by rw [hAA]; exact q3) (by rw [hAA]; exact q4) (by rw [hAA]; exact q5) hv (fun e => ?_) (by omega)
    rw [hAA] at e
    exact absurd (show false = true from e) (by decide))
  have HST1 := Lib.hid (show ∀ X v, LogAt X v l' → (h = true → LogAt X (.slice g2 n2 k2') l') → Calls Tryz.prog 18 #[.agg L1.toArray, .agg (ofL s 0 v).toArray] X fun y w' => y = .returned (.bool true) ∧ Nxt X w' by
    intro X v hv hlg
    rw [hL1]
    refine stands_yes (a := AB) (by rw [hAB]; exact q1) (by rw [hAB]; exact q2) (by rw [hAB]; exact q3) (by rw [hAB]; exact q4) (by rw [hAB]; exact q7) hv (fun e => ?_) (by omega)
    rw [hAB] at e ⊢
    exact hlg e)
  have H11 := Lib.hid (show L1[1]? = some (.bool false) by rw [hL1, hAB]; rfl)
  have H129 := Lib.hid (show L1[29]? = some (.slice none 0 0) by rw [hL1, hAB]; rfl)
  have H128 := Lib.hid (show L1[28]? = some (.slice c n1 k1') by rw [hL1, hAB]; rfl)
  have H17 := Lib.hid (show L1[7]? = some (.int .u64 s.hC) by rw [hL1, hAB]; show some (Value.int .u64 lg2.apd) = _; rw [q8])
  have H07 := Lib.hid (show L0[7]? = some (.int .u64 (max s.apd s.bi)) by rw [hL0, hAA]; show some (Value.int .u64 lg1.apd) = _; rw [q6, hmax])
  have HZ0 := Lib.hid (show (Tryz.prog.info? 48).map (·.size) = some L0.length by rw [hL0]; exact size48)
  have HZ1 := Lib.hid (show (Tryz.prog.info? 48).map (·.size) = some L1.length by rw [hL1]; exact size48)
  have HLC := Lib.hid hlc
  have HL' := Lib.hid hl'
  have HMX := Lib.hid hmax
  have H30 := Lib.hid hI30
  clear hown hr0 hr1 hL0 hL1 hAA hAB hlc hl' oc ol hmax hIl hI30 q1 q2 q3 q4 q5 q6 q7 q8 hn3 hbs hW2 hfold hbr HNO
  go_cut [62] (fun s62 wx => s62 = .bool false ∧ BegS W b g SL L0 L1 s l' lc h (.slice g2 n2 k2') (.slice c n1 k1') wx)
  case first =>
    as_aux_lemma =>
      refine wp_region_held_drew (S := BegS W b g SL L0 L1 s l' lc h (.slice g2 n2 k2') (.slice c n1 k1')) (by kernel_rfl) hd (fun hHeld => ?_)
      -- REGION6<
      refine wpAnyH_take (i := 0) (v := .slice (some ⟨g, 0, none⟩) 2 k) rfl (by kernel_rfl) (by kernel_rfl) (by kernel_rfl) (fun _ _ _ h => h) (Or.inl ⟨by kernel_rfl, fun w _ => ?_⟩) hHeld ?_
      · kernel_rfl
      (try simp only [Act.put, List.setIfInBounds_toArray, List.set_cons_zero, List.set_cons_succ, List.getElem_toArray, List.getElem_cons_zero, List.getElem_cons_succ])
      refine wpAnyH_take (i := 1) (v := .int .i64 2) rfl (by kernel_rfl) (by kernel_rfl) (by kernel_rfl) (fun _ _ _ h => h) (Or.inl ⟨by kernel_rfl, fun w _ => ?_⟩) hHeld ?_
      · kernel_rfl
      (try simp only [Act.put, List.setIfInBounds_toArray, List.set_cons_zero, List.set_cons_succ, List.getElem_toArray, List.getElem_cons_zero, List.getElem_cons_succ])
      refine wpAnyH_take (i := 2) (v := .bool false) rfl (by kernel_rfl) (by kernel_rfl) (by kernel_rfl) (fun _ _ _ h => h) (Or.inl ⟨by kernel_rfl, fun w _ => ?_⟩) hHeld ?_
      · kernel_rfl
      (try simp only [Act.put, List.setIfInBounds_toArray, List.set_cons_zero, List.set_cons_succ, List.getElem_toArray, List.getElem_cons_zero, List.getElem_cons_succ])
      refine wpAnyH_take (i := 3) (v := .bool false) rfl (by kernel_rfl) (by kernel_rfl) (by kernel_rfl) (fun _ _ _ h => h) (Or.inl ⟨by kernel_rfl, fun w _ => ?_⟩) hHeld ?_
      · kernel_rfl
      (try simp only [Act.put, List.setIfInBounds_toArray, List.set_cons_zero, List.set_cons_succ, List.getElem_toArray, List.getElem_cons_zero, List.getElem_cons_succ])
      refine wpAnyH_take (i := 4) (v := .slice (some ⟨g, 0, none⟩) 2 k) rfl (by kernel_rfl) (by kernel_rfl) (by kernel_rfl) (fun _ _ _ h => h) (Or.inl ⟨by kernel_rfl, fun w _ => ?_⟩) hHeld ?_
      · kernel_rfl
      (try simp only [Act.put, List.setIfInBounds_toArray, List.set_cons_zero, List.set_cons_succ, List.getElem_toArray, List.getElem_cons_zero, List.getElem_cons_succ])
      refine wpAnyH_take (i := 5) (v := .pointer (some ⟨g, 33, none⟩)) rfl (by kernel_rfl) (by kernel_rfl) (by kernel_rfl) (fun _ _ _ h => h) (Or.inl ⟨by kernel_rfl, fun w _ => ?_⟩) hHeld ?_
      · kernel_rfl
      (try simp only [Act.put, List.setIfInBounds_toArray, List.set_cons_zero, List.set_cons_succ, List.getElem_toArray, List.getElem_cons_zero, List.getElem_cons_succ])
      refine wpAnyH_take (i := 6) (v := .pointer (some ⟨g, 34, none⟩)) rfl (by kernel_rfl) (by kernel_rfl) (by kernel_rfl) (fun _ _ _ h => h) (Or.inl ⟨by kernel_rfl, fun w _ => ?_⟩) hHeld ?_
      · kernel_rfl
      (try simp only [Act.put, List.setIfInBounds_toArray, List.set_cons_zero, List.set_cons_succ, List.getElem_toArray, List.getElem_cons_zero, List.getElem_cons_succ])
      refine wpAnyH_take (i := 7) (v := .bool false) rfl (by kernel_rfl) (by kernel_rfl) (by kernel_rfl) (fun _ _ _ h => h) (yi_load (by kernel_rfl) 4 _ rfl g 34 rfl _ (fun w hw => load4 (hw.r1 1 _ H11.out))) hHeld ?_
      (try simp only [Act.put, List.setIfInBounds_toArray, List.set_cons_zero, List.set_cons_succ, List.getElem_toArray, List.getElem_cons_zero, List.getElem_cons_succ])
      refine wpAnyH_take (i := 8) (v := .bool false) rfl (by kernel_rfl) (by kernel_rfl) (by kernel_rfl) (fun _ _ _ h => h) (Or.inl ⟨by kernel_rfl, fun w _ => ?_⟩) hHeld ?_
      · kernel_rfl
      (try simp only [Act.put, List.setIfInBounds_toArray, List.set_cons_zero, List.set_cons_succ, List.getElem_toArray, List.getElem_cons_zero, List.getElem_cons_succ])
      refine wpAnyH_take (i := 9) (v := .bool false) rfl (by kernel_rfl) (by kernel_rfl) (by kernel_rfl) (fun _ _ _ h => h) (Or.inl ⟨by kernel_rfl, fun w _ => ?_⟩) hHeld ?_
      · kernel_rfl
      (try simp only [Act.put, List.setIfInBounds_toArray, List.set_cons_zero, List.set_cons_succ, List.getElem_toArray, List.getElem_cons_zero, List.getElem_cons_succ])
      refine wpAnyH_take (i := 10) (v := .slice (some ⟨g, 0, none⟩) 2 k) rfl (by kernel_rfl) (by kernel_rfl) (by kernel_rfl) (fun _ _ _ h => h) (Or.inl ⟨by kernel_rfl, fun w _ => ?_⟩) hHeld ?_
      · kernel_rfl
      (try simp only [Act.put, List.setIfInBounds_toArray, List.set_cons_zero, List.set_cons_succ, List.getElem_toArray, List.getElem_cons_zero, List.getElem_cons_succ])
      refine wpAnyH_take (i := 11) (v := .pointer (some ⟨g, 0, none⟩)) rfl (by kernel_rfl) (by kernel_rfl) (by kernel_rfl) (fun _ _ _ h => h) (Or.inl ⟨by kernel_rfl, fun w _ => ?_⟩) hHeld ?_
      · kernel_rfl
      (try simp only [Act.put, List.setIfInBounds_toArray, List.set_cons_zero, List.set_cons_succ, List.getElem_toArray, List.getElem_cons_zero, List.getElem_cons_succ])
      refine wpAnyH_take (i := 12) (v := .agg L0.toArray) rfl (by kernel_rfl) (by kernel_rfl) (by kernel_rfl) (fun _ _ _ h => h) (yieldsIf_load_mid (by kernel_rfl) 48 _ rfl g 0 rfl L0 _ (fun w hw => hw.r0) Tryz.underlying48 rfl HZ0.out) hHeld ?_
      (try simp only [Act.put, List.setIfInBounds_toArray, List.set_cons_zero, List.set_cons_succ, List.getElem_toArray, List.getElem_cons_zero, List.getElem_cons_succ])
      refine wpAnyH_take (i := 13) (v := .agg SL.toArray) rfl (by kernel_rfl) (by kernel_rfl) (by kernel_rfl) (fun _ _ _ h => h) (yieldsIf_load_mid (by kernel_rfl) 33 _ rfl b 0 rfl SL _ (fun w hw => ld48 hw.b1) Tryz.underlying33 rfl HZ33.out) hHeld ?_
      (try simp only [Act.put, List.setIfInBounds_toArray, List.set_cons_zero, List.set_cons_succ, List.getElem_toArray, List.getElem_cons_zero, List.getElem_cons_succ])
      refine wpAnyH_ready (rs := [14]) (by kernel_rfl) (by simp) ?_
      refine AllReadyH.cons rfl (fun K hK => ?_) AllReadyH.nil
      go_simp
      go_at_call 19
      with_reducible refine Calls.mono (HOF.out _ hd.lg) ?_
      rintro y5 x5 ⟨v5, rfl, hlv5, hn5⟩
      obtain ⟨O5, hO5⟩ : ∃ O5, O5 = ofL s 0 v5 := ⟨_, rfl⟩
      rw [← hO5]
      have HO5 := Lib.hid hO5
      clear hO5
      have h5 := hd.nxt hn5.out
      go_wp2_with fail
      refine hK.out _ _ h5 (fun hHeld => ?_)
      clear hK K
      (try simp only [Act.put, List.setIfInBounds_toArray, List.set_cons_zero, List.set_cons_succ, List.getElem_toArray, List.getElem_cons_zero, List.getElem_cons_succ])
      refine wpAnyH_ready (rs := [15]) (by kernel_rfl) (by simp) ?_
      refine AllReadyH.cons rfl (fun K hK => ?_) AllReadyH.nil
      go_simp
      go_at_call 18
      rw [HO5.out]
      with_reducible refine Calls.mono (HST0.out _ _ hlv5) ?_
      rintro y6 x6 ⟨rfl, hn6⟩
      have h6 := h5.nxt hn6.out
      go_wp2_with fail
      refine hK.out _ _ h6 (fun hHeld => ?_)
      clear hK K
      (try simp only [Act.put, List.setIfInBounds_toArray, List.set_cons_zero, List.set_cons_succ, List.getElem_toArray, List.getElem_cons_zero, List.getElem_cons_succ])
      refine wpAnyH_take (i := 16) (v := .bool false) rfl (by kernel_rfl) (by kernel_rfl) (by kernel_rfl) (fun _ _ _ h => h) (Or.inl ⟨by kernel_rfl, fun w _ => ?_⟩) hHeld ?_
      · kernel_rfl
      (try simp only [Act.put, List.setIfInBounds_toArray, List.set_cons_zero, List.set_cons_succ, List.getElem_toArray, List.getElem_cons_zero, List.getElem_cons_succ])
      refine wpAnyH_take (i := 17) (v := .bool false) rfl (by kernel_rfl) (by kernel_rfl) (by kernel_rfl) (fun _ _ _ h => h) (Or.inl ⟨by kernel_rfl, fun w _ => ?_⟩) hHeld ?_
      · kernel_rfl
      (try simp only [Act.put, List.setIfInBounds_toArray, List.set_cons_zero, List.set_cons_succ, List.getElem_toArray, List.getElem_cons_zero, List.getElem_cons_succ])
      refine wpAnyH_take (i := 18) (v := .bool false) rfl (by kernel_rfl) (by kernel_rfl) (by kernel_rfl) (fun _ _ _ h => h) (Or.inl ⟨by kernel_rfl, fun w _ => ?_⟩) hHeld ?_
      · kernel_rfl
      (try simp only [Act.put, List.setIfInBounds_toArray, List.set_cons_zero, List.set_cons_succ, List.getElem_toArray, List.getElem_cons_zero, List.getElem_cons_succ])
      refine wpAnyH_take (i := 19) (v := .slice (some ⟨g, 0, none⟩) 2 k) rfl (by kernel_rfl) (by kernel_rfl) (by kernel_rfl) (fun _ _ _ h => h) (Or.inl ⟨by kernel_rfl, fun w _ => ?_⟩) hHeld ?_
      · kernel_rfl
      (try simp only [Act.put, List.setIfInBounds_toArray, List.set_cons_zero, List.set_cons_succ, List.getElem_toArray, List.getElem_cons_zero, List.getElem_cons_succ])
      refine wpAnyH_take (i := 20) (v := .pointer (some ⟨g, 33, none⟩)) rfl (by kernel_rfl) (by kernel_rfl) (by kernel_rfl) (fun _ _ _ h => h) (Or.inl ⟨by kernel_rfl, fun w _ => ?_⟩) hHeld ?_
      · kernel_rfl
      (try simp only [Act.put, List.setIfInBounds_toArray, List.set_cons_zero, List.set_cons_succ, List.getElem_toArray, List.getElem_cons_zero, List.getElem_cons_succ])
      refine wpAnyH_take (i := 21) (v := .agg L1.toArray) rfl (by kernel_rfl) (by kernel_rfl) (by kernel_rfl) (fun _ _ _ h => h) (yieldsIf_load_mid (by kernel_rfl) 48 _ rfl g 33 rfl L1 _ (fun w hw => hw.r1) Tryz.underlying48 rfl HZ1.out) hHeld ?_
      (try simp only [Act.put, List.setIfInBounds_toArray, List.set_cons_zero, List.set_cons_succ, List.getElem_toArray, List.getElem_cons_zero, List.getElem_cons_succ])
      refine wpAnyH_take (i := 22) (v := .agg SL.toArray) rfl (by kernel_rfl) (by kernel_rfl) (by kernel_rfl) (fun _ _ _ h => h) (yieldsIf_load_mid (by kernel_rfl) 33 _ rfl b 0 rfl SL _ (fun w hw => ld48 hw.b1) Tryz.underlying33 rfl HZ33.out) hHeld ?_
      (try simp only [Act.put, List.setIfInBounds_toArray, List.set_cons_zero, List.set_cons_succ, List.getElem_toArray, List.getElem_cons_zero, List.getElem_cons_succ])
      refine wpAnyH_ready (rs := [23]) (by kernel_rfl) (by simp) ?_
      refine AllReadyH.cons rfl (fun K hK => ?_) AllReadyH.nil
      go_simp
      go_at_call 19
      with_reducible refine Calls.mono (HOF.out _ h6.lg) ?_
      rintro y7 x7 ⟨v7, rfl, hlv7, hn7⟩
      obtain ⟨O7, hO7⟩ : ∃ O7, O7 = ofL s 0 v7 := ⟨_, rfl⟩
      rw [← hO7]
      have HO7 := Lib.hid hO7
      clear hO7
      have h7 := h6.nxt hn7.out
      go_wp2_with fail
      refine hK.out _ _ h7 (fun hHeld => ?_)
      clear hK K
      (try simp only [Act.put, List.setIfInBounds_toArray, List.set_cons_zero, List.set_cons_succ, List.getElem_toArray, List.getElem_cons_zero, List.getElem_cons_succ])
      refine wpAnyH_ready (rs := [24]) (by kernel_rfl) (by simp) ?_
      refine AllReadyH.cons rfl (fun K hK => ?_) AllReadyH.nil
      go_simp
      go_at_call 18
      rw [HO7.out]
      with_reducible refine Calls.mono (HST1.out _ _ hlv7 h7.la) ?_
      rintro y8 x8 ⟨rfl, hn8⟩
      have h8 := h7.nxt hn8.out
      go_wp2_with fail
      refine hK.out _ _ h8 (fun hHeld => ?_)
      clear hK K
      (try simp only [Act.put, List.setIfInBounds_toArray, List.set_cons_zero, List.set_cons_succ, List.getElem_toArray, List.getElem_cons_zero, List.getElem_cons_succ])
      refine wpAnyH_take (i := 25) (v := .bool false) rfl (by kernel_rfl) (by kernel_rfl) (by kernel_rfl) (fun _ _ _ h => h) (Or.inl ⟨by kernel_rfl, fun w _ => ?_⟩) hHeld ?_
      · kernel_rfl
      (try simp only [Act.put, List.setIfInBounds_toArray, List.set_cons_zero, List.set_cons_succ, List.getElem_toArray, List.getElem_cons_zero, List.getElem_cons_succ])
      refine wpAnyH_take (i := 26) (v := .bool false) rfl (by kernel_rfl) (by kernel_rfl) (by kernel_rfl) (fun _ _ _ h => h) (Or.inl ⟨by kernel_rfl, fun w _ => ?_⟩) hHeld ?_
      · kernel_rfl
      (try simp only [Act.put, List.setIfInBounds_toArray, List.set_cons_zero, List.set_cons_succ, List.getElem_toArray, List.getElem_cons_zero, List.getElem_cons_succ])
      refine wpAnyH_take (i := 27) (v := .bool false) rfl (by kernel_rfl) (by kernel_rfl) (by kernel_rfl) (fun _ _ _ h => h) (Or.inl ⟨by kernel_rfl, fun w _ => ?_⟩) hHeld ?_
      · kernel_rfl
      (try simp only [Act.put, List.setIfInBounds_toArray, List.set_cons_zero, List.set_cons_succ, List.getElem_toArray, List.getElem_cons_zero, List.getElem_cons_succ])
      refine wpAnyH_take (i := 28) (v := .slice (some ⟨g, 0, none⟩) 2 k) rfl (by kernel_rfl) (by kernel_rfl) (by kernel_rfl) (fun _ _ _ h => h) (Or.inl ⟨by kernel_rfl, fun w _ => ?_⟩) hHeld ?_
      · kernel_rfl
      (try simp only [Act.put, List.setIfInBounds_toArray, List.set_cons_zero, List.set_cons_succ, List.getElem_toArray, List.getElem_cons_zero, List.getElem_cons_succ])
      refine wpAnyH_take (i := 29) (v := .pointer (some ⟨g, 0, none⟩)) rfl (by kernel_rfl) (by kernel_rfl) (by kernel_rfl) (fun _ _ _ h => h) (Or.inl ⟨by kernel_rfl, fun w _ => ?_⟩) hHeld ?_
      · kernel_rfl
      (try simp only [Act.put, List.setIfInBounds_toArray, List.set_cons_zero, List.set_cons_succ, List.getElem_toArray, List.getElem_cons_zero, List.getElem_cons_succ])
      refine wpAnyH_take (i := 30) (v := .pointer (some ⟨g, 7, none⟩)) rfl (by kernel_rfl) (by kernel_rfl) (by kernel_rfl) (fun _ _ _ h => h) (Or.inl ⟨by kernel_rfl, fun w _ => ?_⟩) hHeld ?_
      · kernel_rfl
      (try simp only [Act.put, List.setIfInBounds_toArray, List.set_cons_zero, List.set_cons_succ, List.getElem_toArray, List.getElem_cons_zero, List.getElem_cons_succ])
      refine wpAnyH_take (i := 31) (v := .int .u64 (max s.apd s.bi)) rfl (by kernel_rfl) (by kernel_rfl) (by kernel_rfl) (fun _ _ _ h => h) (yi_load (by kernel_rfl) 22 _ rfl g 7 rfl _ (fun w hw => load22 (by have z := hw.r0 7 _ H07.out; rwa [Nat.zero_add] at z))) hHeld ?_
      (try simp only [Act.put, List.setIfInBounds_toArray, List.set_cons_zero, List.set_cons_succ, List.getElem_toArray, List.getElem_cons_zero, List.getElem_cons_succ])
      refine wpAnyH_take (i := 32) (v := .pointer (some ⟨b, 25, none⟩)) rfl (by kernel_rfl) (by kernel_rfl) (by kernel_rfl) (fun _ _ _ h => h) (Or.inl ⟨by kernel_rfl, fun w _ => ?_⟩) hHeld ?_
      · kernel_rfl
      (try simp only [Act.put, List.setIfInBounds_toArray, List.set_cons_zero, List.set_cons_succ, List.getElem_toArray, List.getElem_cons_zero, List.getElem_cons_succ])
      refine wpAnyH_take (i := 33) (v := .int .u64 s.apd) rfl (by kernel_rfl) (by kernel_rfl) (by kernel_rfl) (fun _ _ _ h => h) (yi_load (by kernel_rfl) 22 _ rfl b 25 rfl _ (fun w hw => load22 ((SetC.of hw.b1 HSL.out).c25))) hHeld ?_
      (try simp only [Act.put, List.setIfInBounds_toArray, List.set_cons_zero, List.set_cons_succ, List.getElem_toArray, List.getElem_cons_zero, List.getElem_cons_succ])
      refine wpAnyH_take (i := 34) (v := .pointer (some ⟨b, 13, none⟩)) rfl (by kernel_rfl) (by kernel_rfl) (by kernel_rfl) (fun _ _ _ h => h) (Or.inl ⟨by kernel_rfl, fun w _ => ?_⟩) hHeld ?_
      · kernel_rfl
      (try simp only [Act.put, List.setIfInBounds_toArray, List.set_cons_zero, List.set_cons_succ, List.getElem_toArray, List.getElem_cons_zero, List.getElem_cons_succ])
      refine wpAnyH_take (i := 35) (v := .pointer (some ⟨b, 14, none⟩)) rfl (by kernel_rfl) (by kernel_rfl) (by kernel_rfl) (fun _ _ _ h => h) (Or.inl ⟨by kernel_rfl, fun w _ => ?_⟩) hHeld ?_
      · kernel_rfl
      (try simp only [Act.put, List.setIfInBounds_toArray, List.set_cons_zero, List.set_cons_succ, List.getElem_toArray, List.getElem_cons_zero, List.getElem_cons_succ])
      refine wpAnyH_take (i := 36) (v := .int .u64 s.bi) rfl (by kernel_rfl) (by kernel_rfl) (by kernel_rfl) (fun _ _ _ h => h) (yi_load (by kernel_rfl) 22 _ rfl b 14 rfl _ (fun w hw => load22 ((SetC.of hw.b1 HSL.out).c14))) hHeld ?_
      (try simp only [Act.put, List.setIfInBounds_toArray, List.set_cons_zero, List.set_cons_succ, List.getElem_toArray, List.getElem_cons_zero, List.getElem_cons_succ])
      refine wpAnyH_take (i := 37) (v := .int .u64 (max s.apd s.bi)) rfl (by kernel_rfl) (by kernel_rfl) (by kernel_rfl) (fun _ _ _ h => h) (Or.inl ⟨by kernel_rfl, fun w _ => ?_⟩) hHeld ?_
      · go_simp
      (try simp only [Act.put, List.setIfInBounds_toArray, List.set_cons_zero, List.set_cons_succ, List.getElem_toArray, List.getElem_cons_zero, List.getElem_cons_succ])
      refine wpAnyH_take (i := 38) (v := .bool false) rfl (by kernel_rfl) (by kernel_rfl) (by kernel_rfl) (fun _ _ _ h => h) (Or.inl ⟨by kernel_rfl, fun w _ => ?_⟩) hHeld ?_
      · go_simp
      (try simp only [Act.put, List.setIfInBounds_toArray, List.set_cons_zero, List.set_cons_succ, List.getElem_toArray, List.getElem_cons_zero, List.getElem_cons_succ])
      refine wpAnyH_take (i := 39) (v := .bool false) rfl (by kernel_rfl) (by kernel_rfl) (by kernel_rfl) (fun _ _ _ h => h) (Or.inl ⟨by kernel_rfl, fun w _ => ?_⟩) hHeld ?_
      · kernel_rfl
      (try simp only [Act.put, List.setIfInBounds_toArray, List.set_cons_zero, List.set_cons_succ, List.getElem_toArray, List.getElem_cons_zero, List.getElem_cons_succ])
      refine wpAnyH_take (i := 40) (v := .bool false) rfl (by kernel_rfl) (by kernel_rfl) (by kernel_rfl) (fun _ _ _ h => h) (Or.inl ⟨by kernel_rfl, fun w _ => ?_⟩) hHeld ?_
      · kernel_rfl
      (try simp only [Act.put, List.setIfInBounds_toArray, List.set_cons_zero, List.set_cons_succ, List.getElem_toArray, List.getElem_cons_zero, List.getElem_cons_succ])
      refine wpAnyH_take (i := 41) (v := .slice (some ⟨g, 0, none⟩) 2 k) rfl (by kernel_rfl) (by kernel_rfl) (by kernel_rfl) (fun _ _ _ h => h) (Or.inl ⟨by kernel_rfl, fun w _ => ?_⟩) hHeld ?_
      · kernel_rfl
      (try simp only [Act.put, List.setIfInBounds_toArray, List.set_cons_zero, List.set_cons_succ, List.getElem_toArray, List.getElem_cons_zero, List.getElem_cons_succ])
      refine wpAnyH_take (i := 42) (v := .pointer (some ⟨g, 33, none⟩)) rfl (by kernel_rfl) (by kernel_rfl) (by kernel_rfl) (fun _ _ _ h => h) (Or.inl ⟨by kernel_rfl, fun w _ => ?_⟩) hHeld ?_
      · kernel_rfl
      (try simp only [Act.put, List.setIfInBounds_toArray, List.set_cons_zero, List.set_cons_succ, List.getElem_toArray, List.getElem_cons_zero, List.getElem_cons_succ])
      refine wpAnyH_take (i := 43) (v := .pointer (some ⟨g, 62, none⟩)) rfl (by kernel_rfl) (by kernel_rfl) (by kernel_rfl) (fun _ _ _ h => h) (Or.inl ⟨by kernel_rfl, fun w _ => ?_⟩) hHeld ?_
      · kernel_rfl
      (try simp only [Act.put, List.setIfInBounds_toArray, List.set_cons_zero, List.set_cons_succ, List.getElem_toArray, List.getElem_cons_zero, List.getElem_cons_succ])
      refine wpAnyH_take (i := 44) (v := .slice none 0 0) rfl (by kernel_rfl) (by kernel_rfl) (by kernel_rfl) (fun _ _ _ h => h) (yi_load (by kernel_rfl) 37 _ rfl g 62 rfl _ (fun w hw => load37 (hw.r1 29 _ H129.out))) hHeld ?_
      (try simp only [Act.put, List.setIfInBounds_toArray, List.set_cons_zero, List.set_cons_succ, List.getElem_toArray, List.getElem_cons_zero, List.getElem_cons_succ])
      refine wpAnyH_take (i := 45) (v := .int .i64 0) rfl (by kernel_rfl) (by kernel_rfl) (by kernel_rfl) (fun _ _ _ h => h) (Or.inl ⟨by kernel_rfl, fun w _ => ?_⟩) hHeld ?_
      · kernel_rfl
      (try simp only [Act.put, List.setIfInBounds_toArray, List.set_cons_zero, List.set_cons_succ, List.getElem_toArray, List.getElem_cons_zero, List.getElem_cons_succ])
      refine wpAnyH_take (i := 46) (v := .bool false) rfl (by kernel_rfl) (by kernel_rfl) (by kernel_rfl) (fun _ _ _ h => h) (Or.inl ⟨by kernel_rfl, fun w _ => ?_⟩) hHeld ?_
      · kernel_rfl
      (try simp only [Act.put, List.setIfInBounds_toArray, List.set_cons_zero, List.set_cons_succ, List.getElem_toArray, List.getElem_cons_zero, List.getElem_cons_succ])
      refine wpAnyH_take (i := 47) (v := .bool false) rfl (by kernel_rfl) (by kernel_rfl) (by kernel_rfl) (fun _ _ _ h => h) (Or.inl ⟨by kernel_rfl, fun w _ => ?_⟩) hHeld ?_
      · kernel_rfl
      (try simp only [Act.put, List.setIfInBounds_toArray, List.set_cons_zero, List.set_cons_succ, List.getElem_toArray, List.getElem_cons_zero, List.getElem_cons_succ])
      -- REGION6>
      refine wpAnyH_done (by kernel_rfl) ?_ _
      go_wp2_with fail
      go_meet
      exact ⟨rfl, h8⟩

  case rest =>
    obtain ⟨rfl, hB⟩ := hcut
    have c25 := (SetC.of hB.b1 HSL.out).c25
    have c14 := (SetC.of hB.b1 HSL.out).c14
    obtain ⟨pa, hpa⟩ : ∃ pa : Nat, max s.apd s.bi = s.bi + pa := ⟨(max s.apd s.bi - s.bi).toNat, by omega⟩
    obtain ⟨pb, hpb⟩ : ∃ pb : Nat, s.hC = s.bi + pb := ⟨(s.hC - s.bi).toNat, by have := HI.out.hc0; omega⟩
    have hab : pa ≤ pb := by have q1 := HI.out.apd; have q2 := HI.out.hc0; have q3 := HI.out.bi0; omega
    have hbl : pb ≤ l.length := by have := HI.out.hc1; simp at this; omega
    have hlk : l'.length = l.length := by rw [HL'.out]; simp
    have hlg0 := hB.lg
    rw [e5] at hlg0
    have hk5 : l.length ≤ k5 := by
      obtain ⟨A', n', c', hv, _, hc', _⟩ := hlg0
      injection hv with z1 z2 z3
      subst z2 z3
      exact hc'
    obtain ⟨A6, n6, k6, hrun, hsub⟩ := log_slice (A := A5) hab hbl hk5
    have hlc2 : lc = (l'.take pb).drop pa := by
      rw [HLC.out, HL'.out, show (s.hC - s.bi).toNat = pb by omega, show (apd0 s - s.bi).toNat = pa by have := HMX.out; omega]
    have hlcl : lc.length < 2 ^ 62 := by
      rw [hlc2, List.length_drop, List.length_take]
      have := H30.out
      omega
    have HSUB := Lib.hid (show ∀ X, LogAt X s.lg l' → LogAt X (.slice A6 n6 k6) lc by
      intro X hX
      rw [e5] at hX
      rw [hlc2]
      exact hsub X l' hX)
    have HRUN := Lib.hid hrun
    have HPA := Lib.hid hpa
    have HPB := Lib.hid hpb
    have hr := HI.out.bi1
    have hr0 := HI.out.bi0
    have w1' : IntKind.u64.wrap (max s.apd s.bi - s.bi) = pa := by rw [hpa, show s.bi + (pa : Int) - s.bi = pa by omega]; exact IntWalk.u64_in _ (by have := H30.out; omega)
    have w2' : IntKind.u64.wrap (s.hC - s.bi) = pb := by rw [hpb, show s.bi + (pb : Int) - s.bi = pb by omega]; exact IntWalk.u64_in _ (by have := H30.out; omega)
    clear hpa hpb hlg0 hk5 hrun hsub hlc2 hlk
    go_upto_region 9 with fail
    have hd9 : BegS W b g SL L0 L1 s l' lc h (.slice g2 n2 k2') (.slice c n1 k1') wc.drew := hB.nxt ((Chg.refl _ _).drew)
    refine wp_region_held_drew (S := BegS W b g SL L0 L1 s l' lc h (.slice g2 n2 k2') (.slice c n1 k1')) (by kernel_rfl) hd9 (fun hHeld => ?_)
    -- REGION9<
    refine wpAnyH_take (i := 0) (v := .slice (some ⟨g, 0, none⟩) 2 k) rfl (by kernel_rfl) (by kernel_rfl) (by kernel_rfl) (fun _ _ _ h => h) (Or.inl ⟨by kernel_rfl, fun w _ => ?_⟩) hHeld ?_
    · kernel_rfl
    (try simp only [Act.put, List.setIfInBounds_toArray, List.set_cons_zero, List.set_cons_succ, List.getElem_toArray, List.getElem_cons_zero, List.getElem_cons_succ])
    refine wpAnyH_take (i := 1) (v := .pointer (some ⟨g, 33, none⟩)) rfl (by kernel_rfl) (by kernel_rfl) (by kernel_rfl) (fun _ _ _ h => h) (Or.inl ⟨by kernel_rfl, fun w _ => ?_⟩) hHeld ?_
    · kernel_rfl
    (try simp only [Act.put, List.setIfInBounds_toArray, List.set_cons_zero, List.set_cons_succ, List.getElem_toArray, List.getElem_cons_zero, List.getElem_cons_succ])
    refine wpAnyH_take (i := 2) (v := .pointer (some ⟨g, 61, none⟩)) rfl (by kernel_rfl) (by kernel_rfl) (by kernel_rfl) (fun _ _ _ h => h) (Or.inl ⟨by kernel_rfl, fun w _ => ?_⟩) hHeld ?_
    · kernel_rfl
    (try simp only [Act.put, List.setIfInBounds_toArray, List.set_cons_zero, List.set_cons_succ, List.getElem_toArray, List.getElem_cons_zero, List.getElem_cons_succ])
    refine wpAnyH_take (i := 3) (v := .slice c n1 k1') rfl (by kernel_rfl) (by kernel_rfl) (by kernel_rfl) (fun _ _ _ h => h) (yi_load (by kernel_rfl) 29 _ rfl g 61 rfl _ (fun w hw => load29 (hw.r1 28 _ H128.out))) hHeld ?_
    (try simp only [Act.put, List.setIfInBounds_toArray, List.set_cons_zero, List.set_cons_succ, List.getElem_toArray, List.getElem_cons_zero, List.getElem_cons_succ])
    refine wpAnyH_take (i := 4) (v := .pointer (some ⟨b, 21, none⟩)) rfl (by kernel_rfl) (by kernel_rfl) (by kernel_rfl) (fun _ _ _ h => h) (Or.inl ⟨by kernel_rfl, fun w _ => ?_⟩) hHeld ?_
    · kernel_rfl
    (try simp only [Act.put, List.setIfInBounds_toArray, List.set_cons_zero, List.set_cons_succ, List.getElem_toArray, List.getElem_cons_zero, List.getElem_cons_succ])
    refine wpAnyH_take (i := 5) (v := .slice A5 l.length k5) rfl (by kernel_rfl) (by kernel_rfl) (by kernel_rfl) (fun _ _ _ h => h) (yi_load (by kernel_rfl) 29 _ rfl b 21 rfl _ (fun w hw => load29 ((SetC.of hw.b1 HSL.out).c21.trans (by rw [e5])))) hHeld ?_
    (try simp only [Act.put, List.setIfInBounds_toArray, List.set_cons_zero, List.set_cons_succ, List.getElem_toArray, List.getElem_cons_zero, List.getElem_cons_succ])
    refine wpAnyH_take (i := 6) (v := .int .u64 (max s.apd s.bi)) rfl (by kernel_rfl) (by kernel_rfl) (by kernel_rfl) (fun _ _ _ h => h) (Or.inl ⟨by kernel_rfl, fun w _ => ?_⟩) hHeld ?_
    · kernel_rfl
    (try simp only [Act.put, List.setIfInBounds_toArray, List.set_cons_zero, List.set_cons_succ, List.getElem_toArray, List.getElem_cons_zero, List.getElem_cons_succ])
    refine wpAnyH_take (i := 7) (v := .pointer (some ⟨b, 13, none⟩)) rfl (by kernel_rfl) (by kernel_rfl) (by kernel_rfl) (fun _ _ _ h => h) (Or.inl ⟨by kernel_rfl, fun w _ => ?_⟩) hHeld ?_
    · kernel_rfl
    (try simp only [Act.put, List.setIfInBounds_toArray, List.set_cons_zero, List.set_cons_succ, List.getElem_toArray, List.getElem_cons_zero, List.getElem_cons_succ])
    refine wpAnyH_take (i := 8) (v := .pointer (some ⟨b, 14, none⟩)) rfl (by kernel_rfl) (by kernel_rfl) (by kernel_rfl) (fun _ _ _ h => h) (Or.inl ⟨by kernel_rfl, fun w _ => ?_⟩) hHeld ?_
    · kernel_rfl
    (try simp only [Act.put, List.setIfInBounds_toArray, List.set_cons_zero, List.set_cons_succ, List.getElem_toArray, List.getElem_cons_zero, List.getElem_cons_succ])
    refine wpAnyH_take (i := 9) (v := .int .u64 s.bi) rfl (by kernel_rfl) (by kernel_rfl) (by kernel_rfl) (fun _ _ _ h => h) (yi_load (by kernel_rfl) 22 _ rfl b 14 rfl _ (fun w hw => load22 ((SetC.of hw.b1 HSL.out).c14))) hHeld ?_
    (try simp only [Act.put, List.setIfInBounds_toArray, List.set_cons_zero, List.set_cons_succ, List.getElem_toArray, List.getElem_cons_zero, List.getElem_cons_succ])
    refine wpAnyH_take (i := 10) (v := .int .u64 pa) rfl (by kernel_rfl) (by kernel_rfl) (by kernel_rfl) (fun _ _ _ h => h) (Or.inl ⟨by kernel_rfl, fun w _ => ?_⟩) hHeld ?_
    · go_simp
    (try simp only [Act.put, List.setIfInBounds_toArray, List.set_cons_zero, List.set_cons_succ, List.getElem_toArray, List.getElem_cons_zero, List.getElem_cons_succ])
    refine wpAnyH_take (i := 11) (v := .pointer (some ⟨b, 22, none⟩)) rfl (by kernel_rfl) (by kernel_rfl) (by kernel_rfl) (fun _ _ _ h => h) (Or.inl ⟨by kernel_rfl, fun w _ => ?_⟩) hHeld ?_
    · kernel_rfl
    (try simp only [Act.put, List.setIfInBounds_toArray, List.set_cons_zero, List.set_cons_succ, List.getElem_toArray, List.getElem_cons_zero, List.getElem_cons_succ])
    refine wpAnyH_take (i := 12) (v := .pointer (some ⟨b, 24, none⟩)) rfl (by kernel_rfl) (by kernel_rfl) (by kernel_rfl) (fun _ _ _ h => h) (Or.inl ⟨by kernel_rfl, fun w _ => ?_⟩) hHeld ?_
    · kernel_rfl
    (try simp only [Act.put, List.setIfInBounds_toArray, List.set_cons_zero, List.set_cons_succ, List.getElem_toArray, List.getElem_cons_zero, List.getElem_cons_succ])
    refine wpAnyH_take (i := 13) (v := .int .u64 s.hC) rfl (by kernel_rfl) (by kernel_rfl) (by kernel_rfl) (fun _ _ _ h => h) (yi_load (by kernel_rfl) 22 _ rfl b 24 rfl _ (fun w hw => load22 ((SetC.of hw.b1 HSL.out).c24))) hHeld ?_
    (try simp only [Act.put, List.setIfInBounds_toArray, List.set_cons_zero, List.set_cons_succ, List.getElem_toArray, List.getElem_cons_zero, List.getElem_cons_succ])
    refine wpAnyH_take (i := 14) (v := .pointer (some ⟨b, 13, none⟩)) rfl (by kernel_rfl) (by kernel_rfl) (by kernel_rfl) (fun _ _ _ h => h) (Or.inl ⟨by kernel_rfl, fun w _ => ?_⟩) hHeld ?_
    · kernel_rfl
    (try simp only [Act.put, List.setIfInBounds_toArray, List.set_cons_zero, List.set_cons_succ, List.getElem_toArray, List.getElem_cons_zero, List.getElem_cons_succ])
    refine wpAnyH_take (i := 15) (v := .pointer (some ⟨b, 14, none⟩)) rfl (by kernel_rfl) (by kernel_rfl) (by kernel_rfl) (fun _ _ _ h => h) (Or.inl ⟨by kernel_rfl, fun w _ => ?_⟩) hHeld ?_
    · kernel_rfl
    (try simp only [Act.put, List.setIfInBounds_toArray, List.set_cons_zero, List.set_cons_succ, List.getElem_toArray, List.getElem_cons_zero, List.getElem_cons_succ])
    refine wpAnyH_take (i := 16) (v := .int .u64 s.bi) rfl (by kernel_rfl) (by kernel_rfl) (by kernel_rfl) (fun _ _ _ h => h) (yi_load (by kernel_rfl) 22 _ rfl b 14 rfl _ (fun w hw => load22 ((SetC.of hw.b1 HSL.out).c14))) hHeld ?_
    (try simp only [Act.put, List.setIfInBounds_toArray, List.set_cons_zero, List.set_cons_succ, List.getElem_toArray, List.getElem_cons_zero, List.getElem_cons_succ])
    refine wpAnyH_take (i := 17) (v := .int .u64 pb) rfl (by kernel_rfl) (by kernel_rfl) (by kernel_rfl) (fun _ _ _ h => h) (Or.inl ⟨by kernel_rfl, fun w _ => ?_⟩) hHeld ?_
    · go_simp
    (try simp only [Act.put, List.setIfInBounds_toArray, List.set_cons_zero, List.set_cons_succ, List.getElem_toArray, List.getElem_cons_zero, List.getElem_cons_succ])
    refine wpAnyH_take (i := 18) (v := .slice A6 n6 k6) rfl (by kernel_rfl) (by kernel_rfl) (by kernel_rfl) (fun _ _ _ h => h) (yi_slice (by kernel_rfl) (.tmp 74) (.tmp 79) (.tmp 86) rfl (.slice A5 l.length k5) (.int .u64 pa) (.int .u64 pb) (.slice A6 n6 k6) rfl rfl rfl HRUN.out) hHeld ?_
    (try simp only [Act.put, List.setIfInBounds_toArray, List.set_cons_zero, List.set_cons_succ, List.getElem_toArray, List.getElem_cons_zero, List.getElem_cons_succ])
    refine wpAnyH_ready (rs := [19]) (by kernel_rfl) (by simp) ?_
    refine AllReadyH.cons rfl (fun K hK => ?_) AllReadyH.nil
    go_simp
    go_at_call 20
    with_reducible refine Calls.mono (same_yes hd9.lc (HSUB.out _ hd9.lg) hlcl) ?_
    rintro y5 x5 ⟨rfl, hn5⟩
    have h5 := hd9.nxt hn5.out
    go_wp2_with fail
    refine hK.out _ _ h5 (fun hHeld => ?_)
    clear hK K
    (try simp only [Act.put, List.setIfInBounds_toArray, List.set_cons_zero, List.set_cons_succ, List.getElem_toArray, List.getElem_cons_zero, List.getElem_cons_succ])
    refine wpAnyH_take (i := 20) (v := .bool true) rfl (by kernel_rfl) (by kernel_rfl) (by kernel_rfl) (fun _ _ _ h => h) (Or.inl ⟨by kernel_rfl, fun w _ => ?_⟩) hHeld ?_
    · kernel_rfl
    (try simp only [Act.put, List.setIfInBounds_toArray, List.set_cons_zero, List.set_cons_succ, List.getElem_toArray, List.getElem_cons_zero, List.getElem_cons_succ])
    refine wpAnyH_take (i := 21) (v := .slice (some ⟨g, 0, none⟩) 2 k) rfl (by kernel_rfl) (by kernel_rfl) (by kernel_rfl) (fun _ _ _ h => h) (Or.inl ⟨by kernel_rfl, fun w _ => ?_⟩) hHeld ?_
    · kernel_rfl
    (try simp only [Act.put, List.setIfInBounds_toArray, List.set_cons_zero, List.set_cons_succ, List.getElem_toArray, List.getElem_cons_zero, List.getElem_cons_succ])
    refine wpAnyH_take (i := 22) (v := .pointer (some ⟨g, 33, none⟩)) rfl (by kernel_rfl) (by kernel_rfl) (by kernel_rfl) (fun _ _ _ h => h) (Or.inl ⟨by kernel_rfl, fun w _ => ?_⟩) hHeld ?_
    · kernel_rfl
    (try simp only [Act.put, List.setIfInBounds_toArray, List.set_cons_zero, List.set_cons_succ, List.getElem_toArray, List.getElem_cons_zero, List.getElem_cons_succ])
    refine wpAnyH_take (i := 23) (v := .pointer (some ⟨g, 40, none⟩)) rfl (by kernel_rfl) (by kernel_rfl) (by kernel_rfl) (fun _ _ _ h => h) (Or.inl ⟨by kernel_rfl, fun w _ => ?_⟩) hHeld ?_
    · kernel_rfl
    (try simp only [Act.put, List.setIfInBounds_toArray, List.set_cons_zero, List.set_cons_succ, List.getElem_toArray, List.getElem_cons_zero, List.getElem_cons_succ])
    refine wpAnyH_take (i := 24) (v := .int .u64 s.hC) rfl (by kernel_rfl) (by kernel_rfl) (by kernel_rfl) (fun _ _ _ h => h) (yi_load (by kernel_rfl) 22 _ rfl g 40 rfl _ (fun w hw => load22 (hw.r1 7 _ H17.out))) hHeld ?_
    (try simp only [Act.put, List.setIfInBounds_toArray, List.set_cons_zero, List.set_cons_succ, List.getElem_toArray, List.getElem_cons_zero, List.getElem_cons_succ])
    refine wpAnyH_take (i := 25) (v := .pointer (some ⟨b, 22, none⟩)) rfl (by kernel_rfl) (by kernel_rfl) (by kernel_rfl) (fun _ _ _ h => h) (Or.inl ⟨by kernel_rfl, fun w _ => ?_⟩) hHeld ?_
    · kernel_rfl
    (try simp only [Act.put, List.setIfInBounds_toArray, List.set_cons_zero, List.set_cons_succ, List.getElem_toArray, List.getElem_cons_zero, List.getElem_cons_succ])
    refine wpAnyH_take (i := 26) (v := .pointer (some ⟨b, 24, none⟩)) rfl (by kernel_rfl) (by kernel_rfl) (by kernel_rfl) (fun _ _ _ h => h) (Or.inl ⟨by kernel_rfl, fun w _ => ?_⟩) hHeld ?_
    · kernel_rfl
    (try simp only [Act.put, List.setIfInBounds_toArray, List.set_cons_zero, List.set_cons_succ, List.getElem_toArray, List.getElem_cons_zero, List.getElem_cons_succ])
    refine wpAnyH_take (i := 27) (v := .int .u64 s.hC) rfl (by kernel_rfl) (by kernel_rfl) (by kernel_rfl) (fun _ _ _ h => h) (yi_load (by kernel_rfl) 22 _ rfl b 24 rfl _ (fun w hw => load22 ((SetC.of hw.b1 HSL.out).c24))) hHeld ?_
    (try simp only [Act.put, List.setIfInBounds_toArray, List.set_cons_zero, List.set_cons_succ, List.getElem_toArray, List.getElem_cons_zero, List.getElem_cons_succ])
    refine wpAnyH_take (i := 28) (v := .bool true) rfl (by kernel_rfl) (by kernel_rfl) (by kernel_rfl) (fun _ _ _ h => h) (Or.inl ⟨by kernel_rfl, fun w _ => ?_⟩) hHeld ?_
    · go_simp
    (try simp only [Act.put, List.setIfInBounds_toArray, List.set_cons_zero, List.set_cons_succ, List.getElem_toArray, List.getElem_cons_zero, List.getElem_cons_succ])
    refine wpAnyH_take (i := 29) (v := .bool true) rfl (by kernel_rfl) (by kernel_rfl) (by kernel_rfl) (fun _ _ _ h => h) (Or.inl ⟨by kernel_rfl, fun w _ => ?_⟩) hHeld ?_
    · kernel_rfl
    (try simp only [Act.put, List.setIfInBounds_toArray, List.set_cons_zero, List.set_cons_succ, List.getElem_toArray, List.getElem_cons_zero, List.getElem_cons_succ])
    refine wpAnyH_take (i := 30) (v := .bool true) rfl (by kernel_rfl) (by kernel_rfl) (by kernel_rfl) (fun _ _ _ h => h) (Or.inl ⟨by kernel_rfl, fun w _ => ?_⟩) hHeld ?_
    · kernel_rfl
    (try simp only [Act.put, List.setIfInBounds_toArray, List.set_cons_zero, List.set_cons_succ, List.getElem_toArray, List.getElem_cons_zero, List.getElem_cons_succ])
    -- REGION9>
    refine wpAnyH_done (by kernel_rfl) ?_ _
    go_wp2_with fail
    go_ret
    exact ⟨rfl, ⟨hHeld.ch⟩⟩
end Go.Proofs.YtalhhplphlobbaaGreat
