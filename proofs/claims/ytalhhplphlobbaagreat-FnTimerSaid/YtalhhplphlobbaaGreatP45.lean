/- ready: a setup as the laws let it in. Conditions: the shapes. From what the guards say to what the walk asks. Conditions: none. -/
import Derived.Test.YtalhhplphlobbaaGreatP39
import Derived.Test.YtalhhplphlobbaaGreatP44
set_option linter.unusedVariables false
set_option linter.unusedSimpArgs false
namespace Go.Proofs.YtalhhplphlobbaaGreat
open Go.RowKit
/-- What a setup is if ready says yes. -/
structure RdyOk (s : SetS) (V L V2 L2 D : List Int) (l : List EntK) : Prop where
  id0 : 0 < s.id ∧ s.id < 1099511627776
  ht0 : 1 ≤ s.ht
  et : s.ht < s.et ∧ s.et ≤ 30
  Dl : D.length ≤ 10
  le : s.le = true → s.cq = true
  Dn : ∀ x ∈ D, 0 ≤ x ∧ x < s.et
  inf : 1 ≤ s.inf ∧ s.inf ≤ 100
  msz : 1048576 ≤ s.msz
  mco : 1048576 ≤ s.mco
  mun : s.mun = 0
  mem : MemOk V L V2 L2 s.bal
  bd : s.bd.size ≤ 100
  bi : 1 ≤ s.bi ∧ s.bi ≤ 1099511627776
  bt : 1 ≤ s.bt
  hT : s.hT ≤ 1099511627776
  hV : s.hV < 1099511627776
  row : RowOk s.bi s.hT l
  tt : s.bt ≤ s.hT
  hC : s.bi ≤ s.hC ∧ s.hC ≤ s.bi + l.length
  apd : s.apd = 0 ∨ s.bi ≤ s.apd ∧ s.apd ≤ s.hC
set_option maxRecDepth 100000 in
set_option maxHeartbeats 8000000 in
theorem ready_any {W w : World} {s : SetS} {V L V2 L2 D : List Int} {l : List EntK} (h : Arg W s V L V2 L2 D l) (hn : Chg [] W w) (b3 : V2.length < 2 ^ 61) (b4 : L2.length < 2 ^ 61) : Calls Tryz.prog 16 #[.agg s.list.toArray] w (BoolP (fun b => b = true → RdyOk s V L V2 L2 D l) w) := by
  obtain ⟨A0, m0, k0, e0⟩ := h.rd.form
  obtain ⟨A1, m1, k1, e1⟩ := h.b1.form
  obtain ⟨A2, m2, k2, e2⟩ := h.b2.form
  obtain ⟨A3, m3, k3, e3⟩ := h.b3.form
  obtain ⟨A4, m4, k4, e4⟩ := h.b4.form
  obtain ⟨A5, k5, e5⟩ := h.lg.form
  have HA := Lib.hid h
  have HN := Lib.hid hn
  have HLG := Lib.hid (h.lg.nxt hn)
  clear h hn
  obtain ⟨SL, hSL⟩ : ∃ SL, SL = s.list := ⟨_, rfl⟩
  rw [← hSL]
  have HSL := Lib.hid hSL
  clear hSL
  have hb0 := Blk.new w 33 SL.toArray
  have hX : Chg [] w (w.alloc (.cells SL.toArray 33)) := (Chg.refl _ _).alloc _
  go_enter Tryz.func16, Tryz.ntmps16
  go_upto_region 1 with fail
  generalize w.alloc (.cells SL.toArray 33) = X at hb0 hX ⊢
  obtain ⟨b, hb⟩ : ∃ b, b = w.heap.size := ⟨_, rfl⟩
  rw [← hb] at hb0 ⊢
  obtain ⟨c0, c1, c2, c3, c4, c5, c6, c7, c8, c9, c10, c11, c12, c13, c14, c15, c16, c17, c18, c19, c20, c21, c22, c23, c24, c25⟩ := SetC.of hb0 HSL.out
  rw [e0] at c3
  rw [e1] at c16
  rw [e2] at c17
  rw [e3] at c18
  rw [e4] at c19
  rw [e5] at c21
  have HX := Lib.hid hX
  have HB0 := Lib.hid hb0
  clear hb hb0 hX
  obtain ⟨le, hle⟩ : ∃ le, le = s.le := ⟨_, rfl⟩
  obtain ⟨cq, hcq⟩ : ∃ cq, cq = s.cq := ⟨_, rfl⟩
  rw [← hle] at c6
  rw [← hcq] at c5
  have HLE := Lib.hid hle
  have HCQ := Lib.hid hcq
  clear hle hcq
  go_cut [42] (fun s42 wx => ∃ g, s42 = .bool g ∧ (g = false → (0 < s.id ∧ s.id < 1099511627776) ∧ 1 ≤ s.ht ∧ s.ht < s.et ∧ s.et ≤ 30 ∧ m0 ≤ 10 ∧ (le = true → cq = true)) ∧ Nxt X wx)
  case first =>
    as_aux_lemma =>
      go_wp2_with (first | (go_at_call 27; (with_reducible refine Calls.mono (known_any _ s.id) ?_); rintro e w1 ⟨rfl, hn1⟩; have q1 := hn1.out.at0 c1; have q2 := hn1.out.at0 c2; have q3 := hn1.out.at0 c3; have q5 := hn1.out.at0 c5; have q6 := hn1.out.at0 c6; clear c1 c2 c3 c5 c6))
      all_goals (go_meet)
      all_goals (refine ⟨_, rfl, fun hg => ?_, hn1⟩)
      all_goals first | (simp at hg; done) | (simp at hg; refine ⟨by assumption, by omega, by omega, by omega, by omega, ?_⟩; first | exact fun _ => hg.2 | exact fun h => absurd h (by assumption))

  case rest =>
    obtain ⟨g, rfl, hg, hn1⟩ := hcut
    have HG := Lib.hid hg
    have HN1 := Lib.hid hn1
    have q3 := hn1.out.at0 c3
    have q1 := hn1.out.at0 c1
    have HRD := Lib.hid ((HA.out.rd.chg0 HN.out).chg0 (HX.out.trans hn1.out))
    clear c0 c1 c2 c3 c4 c5 c6 c7 c8 c9 c10 c11 c12 c13 c14 c15 c16 c17 c18 c19 c20 c21 c22 c23 c24 c25 hg hn1
    rcases g
    rotate_left
    · go_wp2
      go_ret
      exact ⟨false, rfl, by simp, ⟨HX.out.trans HN1.out.out⟩⟩
    have hm10 : m0 ≤ 10 := (HG.out rfl).2.2.2.2.1
    go_wp2_with fail
    go_loopw [4, 46] (fun _ i wr => ∃ k : Nat, k ≤ m0 ∧ i = .int .i64 k ∧ (∀ j y, j < k → D[j]? = some y → 0 ≤ y ∧ y < s.et) ∧ Chg [] wc wr) (fun _ i _ => m0 - (intOf i).toNat)
    case atStart => exact ⟨0, by omega, rfl, fun j y hj => by omega, Chg.refl _ _⟩
    case round =>
      obtain ⟨k, hk, rfl, hno, hcw⟩ := hrel
      have HNO := Lib.hid hno
      clear hno
      by_cases hlt : k < m0
      · have HRD' := HRD.out
        rw [e0] at HRD'
        obtain ⟨b', o, p, rfl, hp, hcell, _⟩ := sl_at HRD' hlt
        obtain ⟨z, hz, rfl⟩ : ∃ z, D[k]? = some z ∧ p = .int .i64 z := by
          simp only [I64s, List.getElem?_map] at hp
          cases hj : D[k]? with
          | none => rw [hj] at hp; cases hp
          | some x => rw [hj] at hp; injection hp with hp; exact ⟨x, rfl, hp.symm⟩
        have d1 := hcw.at0 hcell
        have q1' := hcw.at0 q1
        have HP := Lib.hid hz
        have HCW := Lib.hid hcw
        clear hcell hp hcw HRD' hz
        as_aux_lemma =>
          go_wp2
          all_goals first
            | (go_ret; exact ⟨false, rfl, by simp, ⟨(HX.out.trans HN1.out.out).trans HCW.out⟩⟩)
            | exact ⟨⟨k + 1, by omega, by simp, fun j y hj hy => by
                rcases Nat.lt_or_ge j k with h1 | h1
                · exact HNO.out j y h1 hy
                · have : j = k := by omega
                  subst this
                  rw [HP.out] at hy
                  injection hy with hy
                  subst hy
                  constructor <;> omega, HCW.out⟩, by simp [intOf]; omega⟩

      · have hkn : k = m0 := by omega
        subst hkn
        have hX1 : Chg [] X wr := HN1.out.out.trans hcw
        have hWr : Chg [] W wr := (HN.out.trans HX.out).trans hX1
        have HX1 := Lib.hid hX1
        have HMEM := Lib.hid (members_any (w := wr) (bal := s.bal) (by rw [← e1]; exact HA.out.b1.chg0 hWr) (by rw [← e2]; exact HA.out.b2.chg0 hWr) (by rw [← e3]; exact HA.out.b3.chg0 hWr) (by rw [← e4]; exact HA.out.b4.chg0 hWr) (by have z := HA.out.b3; rw [e3] at z; have := (u64_len z).1; omega) (by have z := HA.out.b4; rw [e4] at z; have := (u64_len z).1; omega))
        obtain ⟨c0, c1, c2, c3, c4, c5, c6, c7, c8, c9, c10, c11, c12, c13, c14, c15, c16, c17, c18, c19, c20, c21, c22, c23, c24, c25⟩ := SetC.of (HB0.out.chg hX1 (by simp)) HSL.out
        rw [e1] at c16
        rw [e2] at c17
        rw [e3] at c18
        rw [e4] at c19
        have HWR := Lib.hid hWr
        clear c0 c1 c2 c3 c4 c5 c6 c7 c8 c14 c15 c21 c22 c23 c24 c25 hcw hX1 hWr q1 q3
        go_upto_region 9 with fail
        go_cut [95] (fun s95 wx => ∃ g, s95 = .bool g ∧ (g = false → (1 ≤ s.inf ∧ s.inf ≤ 100) ∧ 1048576 ≤ s.msz ∧ 1048576 ≤ s.mco ∧ s.mun = 0 ∧ MemOk V L V2 L2 s.bal ∧ s.bd.size ≤ 100) ∧ Nxt wr wx)
        case first =>
          as_aux_lemma =>
            go_wp2_with (first | (go_at_call 29; (with_reducible refine Calls.mono HMEM.out ?_); rintro e w2 ⟨g2, rfl, hg2, hn2⟩; have q13 := hn2.out.at0 c13; have HG2 := Lib.hid hg2; have HN2 := Lib.hid hn2; clear hg2 hn2 c9 c10 c11 c12 c13 c16 c17 c18 c19 c20))
            all_goals (go_meet)
            all_goals (refine ⟨_, rfl, fun hg => ?_, by first | exact HN2.out | exact ⟨Chg.refl _ _⟩⟩)
            all_goals first | (simp at hg; done) | (simp at hg; exact ⟨⟨by omega, by omega⟩, by omega, by omega, by assumption, HG2.out (by assumption), by omega⟩)

        case rest =>
          obtain ⟨g, rfl, hg, hn9⟩ := hcut
          have HG9 := Lib.hid hg
          have hX2 : Chg [] X wc := HX1.out.trans hn9.out
          have HX2 := Lib.hid hX2
          clear c9 c10 c11 c12 c13 c16 c17 c18 c19 c20 hg hn9
          rcases g
          rotate_left
          · go_wp2
            go_ret
            exact ⟨false, rfl, by simp, ⟨HX.out.trans HX2.out⟩⟩
          have hWc : Chg [] W wc := (HN.out.trans HX.out).trans hX2
          have HLG2 := Lib.hid (show LogK wc (.slice A5 l.length k5) l by rw [← e5]; exact HA.out.lg.nxt hWc)
          have hll := HA.out.ll
          obtain ⟨c0, c1, c2, c3, c4, c5, c6, c7, c8, c9, c10, c11, c12, c13, c14, c15, c16, c17, c18, c19, c20, c21, c22, c23, c24, c25⟩ := SetC.of (HB0.out.chg hX2 (by simp)) HSL.out
          rw [e5] at c21
          have HWC := Lib.hid hWc
          clear c0 c1 c2 c3 c4 c5 c6 c7 c8 c9 c10 c11 c12 c13 c16 c17 c18 c19 c20 c24 c25 hX2 hWc
          obtain ⟨n5, hn5⟩ : ∃ n5, n5 = l.length := ⟨_, rfl⟩
          rw [← hn5] at HLG2 c21 hll
          have HN5 := Lib.hid hn5
          clear hn5
          go_upto_region 11 with fail
          go_cut [138] (fun s138 wx => ∃ g, s138 = .bool g ∧ (g = false → (1 ≤ s.bi ∧ s.bi ≤ 1099511627776) ∧ 1 ≤ s.bt ∧ s.hT ≤ 1099511627776 ∧ s.hV < 1099511627776 ∧ RowOk s.bi s.hT l ∧ s.bt ≤ s.hT) ∧ Nxt wc wx)
          case first =>
            as_aux_lemma =>
              go_wp2_with (first | (go_at_call 60; (with_reducible refine Calls.mono (row_any HLG2.out (by have := HN5.out; omega) (by omega) (by omega)) ?_); rintro e w2 ⟨g2, rfl, hg2, hn2⟩; have HG2 := Lib.hid hg2; have HN2 := Lib.hid hn2; clear hg2 hn2 c14 c15 c21 c22 c23))
              all_goals (go_meet)
              all_goals (refine ⟨_, rfl, fun hg => ?_, by first | exact HN2.out | exact ⟨Chg.refl _ _⟩⟩)
              all_goals first | (simp at hg; done) | (simp at hg; exact ⟨⟨by omega, by omega⟩, by omega, by omega, by omega, (HG2.out hg.2).1, (HG2.out hg.2).2⟩)

          case rest =>
            obtain ⟨g, rfl, hg, hn11⟩ := hcut
            have HG11 := Lib.hid hg
            have hX3 : Chg [] X wc := HX2.out.trans hn11.out
            have HX3 := Lib.hid hX3
            clear c14 c15 c21 c22 c23 hg hn11
            rcases g
            rotate_left
            · go_wp2
              go_ret
              exact ⟨false, rfl, by simp, ⟨HX.out.trans HX3.out⟩⟩
            have hWc : Chg [] W wc := (HN.out.trans HX.out).trans hX3
            have hrow : RowOk s.bi s.hT l := by have z := HG11.out; first | exact (z rfl).2.2.2.2.1 | exact (z trivial).2.2.2.2.1
            obtain ⟨l', hl'⟩ : ∃ l' : List Ent, l' = l.map fun e => ⟨e.t, e.i, e.d⟩ := ⟨_, rfl⟩
            have hlen : l'.length = l.length := by rw [hl']; simp
            have hlog : LogAt wc s.lg l' := by
              rw [hl']
              exact (HA.out.lg.nxt hWc).log (fun e he => by
                obtain ⟨j, hj⟩ := List.mem_iff_getElem?.1 he
                exact (hrow.at_ j e hj).2.1)
            have hr' : ∀ (j : Nat) x, l'[j]? = some x → x.i = s.bi + 1 + j := by
              intro j x hx
              rw [hl', List.getElem?_map] at hx
              cases hj : l[j]? with
              | none => rw [hj] at hx; cases hx
              | some e =>
                rw [hj] at hx
                injection hx with hx
                subst hx
                exact (hrow.at_ j e hj).1
            have hbs : (∃ A n c, s.b1 = .slice A n c) ∧ (∃ A n c, s.b2 = .slice A n c) ∧ (∃ A n c, s.b3 = .slice A n c) ∧ (∃ A n c, s.b4 = .slice A n c) := ⟨⟨_, _, _, e1⟩, ⟨_, _, _, e2⟩, ⟨_, _, _, e3⟩, ⟨_, _, _, e4⟩⟩
            have h30 := hrow.ll
            have HOF := Lib.hid (show Calls Tryz.prog 19 #[.agg SL.toArray] wc fun y w' => ∃ v, y = .returned (.agg (ofL s 0 v).toArray) ∧ LogAt w' v l' ∧ Nxt wc w' by rw [HSL.out]; exact of_any hlog (by omega) hbs)
            have HLA := Lib.hid (fun (w' : World) (v : Value) (h : LogAt w' v l') => last_any (w := w') (s := s) (st := 0) (v := v) h (by omega) hbs hr')
            have hb33 := HB0.out.chg hX3 (by simp)
            have HB33 := Lib.hid hb33
            have HZ33 := Lib.hid (show (Tryz.prog.info? 33).map (·.size) = some SL.length by rw [HSL.out]; exact size33)
            have HLEN := Lib.hid hlen
            have HROW := Lib.hid hrow
            have HWC3 := Lib.hid hWc
            clear hlen hrow hl' hlog hr' hbs h30 hb33 hX3 hWc
            go_upto_region 14 with (first | (refine wpList_load_mid rfl 33 _ rfl b 0 rfl SL _ (ld48 HB33.out) Tryz.underlying33 rfl HZ33.out ?_) | (go_at_call 19; (with_reducible refine Calls.mono HOF.out ?_); rintro e w2 ⟨v2, rfl, hlv2, hn2⟩; obtain ⟨OL, hOL⟩ : ∃ OL, OL = ofL s 0 v2 := ⟨_, rfl⟩; rw [← hOL]; have HOL := Lib.hid hOL; have HLV2 := Lib.hid hlv2; have HN2 := Lib.hid hn2; clear hOL hlv2 hn2) | (go_at_call 36; rw [HOL.out]; (with_reducible refine Calls.mono (HLA.out _ _ HLV2.out) ?_); rintro e w3 ⟨t3, rfl, hn3⟩; have HN3 := Lib.hid hn3; clear hn3))
            have hX4 : Chg [] X w3 := (HX3.out.trans HN2.out.out).trans HN3.out.out
            obtain ⟨c0, c1, c2, c3, c4, c5, c6, c7, c8, c9, c10, c11, c12, c13, c14, c15, c16, c17, c18, c19, c20, c21, c22, c23, c24, c25⟩ := SetC.of (HB0.out.chg hX4 (by simp)) HSL.out
            have HX4 := Lib.hid hX4
            clear c0 c1 c2 c3 c4 c5 c6 c7 c8 c9 c10 c11 c12 c13 c15 c16 c17 c18 c19 c20 c21 c22 c23 hX4
            have HBS := Lib.hid (show (s.bi ≤ s.hC ∧ s.hC ≤ s.bi + l.length) → (s.apd = 0 ∨ s.bi ≤ s.apd ∧ s.apd ≤ s.hC) → RdyOk s V L V2 L2 D l by
              intro hc ha
              obtain ⟨g1, g2, g3, g4, g5, g6⟩ := HG.out (by trivial)
              obtain ⟨i1, i2, i3, i4, i5, i6⟩ := HG9.out (by trivial)
              obtain ⟨j1, j2, j3, j4, j5, j6⟩ := HG11.out (by trivial)
              have hD := HRD.out
              rw [e0] at hD
              have hDl := (sl_len hD).2.1
              have hDk : D.length = k := by
                obtain ⟨A', n', c', he, hl, _⟩ := hD
                injection he with h1 h2 h3
                subst h2
                simpa [I64s] using hl
              exact ⟨g1, g2, ⟨g3, g4⟩, by omega, by rw [← HLE.out, ← HCQ.out]; exact g6, fun x hx => by
                obtain ⟨j, hj⟩ := List.mem_iff_getElem?.1 hx
                have hjl := (List.getElem?_eq_some_iff.1 hj).1
                exact HNO.out j x (by omega) hj, i1, i2, i3, i4, i5, i6, j1, j2, j3, j4, j5, j6, hc, ha⟩)
            go_wp2
            all_goals (go_ret; refine ⟨_, rfl, fun hb => ?_, ⟨HX.out.trans HX4.out⟩⟩)
            all_goals first
              | (simp at hb; done)
              | (exfalso; have hb3 : s.apd = 0 := (by simpa using hb); omega)
              | (refine HBS.out ⟨by omega, by have := HLEN.out; omega⟩ ?_; first | exact .inl (by assumption) | (have hb2 : s.apd = 0 ∨ s.apd ≤ s.hC := (by simpa using hb); omega))
end Go.Proofs.YtalhhplphlobbaaGreat
namespace Go.Proofs.YtalhhplphlobbaaGreat
open Go.RowKit
def EntK.ent (e : EntK) : Ent := ⟨e.t, e.i, e.d⟩
theorem inp_of {W : World} {s : SetS} {V L V2 L2 D : List Int} {l : List EntK} (h : Arg W s V L V2 L2 D l) (r : RdyOk s V L V2 L2 D l) : Inp W s V L (l.map EntK.ent) D := by
  have hx : ∀ (j : Nat) x, (l.map EntK.ent)[j]? = some x → ∃ e, l[j]? = some e ∧ x = e.ent := by
    intro j x hx
    rw [List.getElem?_map] at hx
    cases hj : l[j]? with
    | none => rw [hj] at hx; cases hx
    | some e => rw [hj] at hx; injection hx with hx; exact ⟨e, rfl, hx.symm⟩
  have hmem : ∀ x ∈ l.map EntK.ent, ∃ (j : Nat) (e : EntK), l[j]? = some e ∧ x = e.ent := by
    intro x hm
    obtain ⟨j, hj⟩ := List.mem_iff_getElem?.1 hm
    obtain ⟨e, he, hxe⟩ := hx j x hj
    exact ⟨j, e, he, hxe⟩
  have hlk : (l.map EntK.ent).length = l.length := by simp
  have hid := r.id0
  have hht := r.ht0
  have het := r.et
  have hm := r.mem
  have hbi := r.bi
  have hhT := r.hT
  have hhC := r.hC
  have hrow := r.row
  have hll := hrow.ll
  refine { id0 := hid.1, id1 := by omega, ht0 := by omega, het := het.1, et1 := by omega, mco0 := by have := r.mco; omega, mco1 := h.mco.2, inf0 := by have := r.inf; omega, msz1 := by have := h.msz.2; omega, lec := r.le, b1 := h.b1, b2 := h.b2, b3 := by have z := h.b3; rw [hm.v2] at z; exact z, b4 := by have z := h.b4; rw [hm.l2] at z; exact z, bal := hm.al, bd1 := by have z : s.bd.data.size ≤ 100 := r.bd; omega, lg := h.lg.log (fun e he => by
      obtain ⟨j, hj⟩ := List.mem_iff_getElem?.1 he
      exact (hrow.at_ j e hj).2.1), ll := by omega, row := ?_, fit := ?_, small := ?_, bi0 := by omega, bi1 := by omega, hT0 := by have := r.bt; have := r.tt; omega, hc0 := hhC.1, hc1 := by rw [hlk]; exact hhC.2, apd := r.apd, nd := hm.nd, V0 := hm.V0, rng := fun k hk => by have := hm.kn k hk; omega, lV := hm.lV, lL := hm.lL, rd := h.rd, Dl := by have := r.Dl; omega, Dn := r.Dn }
  · intro j x hj
    obtain ⟨e, he, rfl⟩ := hx j x hj
    have := (hrow.at_ j e he).1
    show e.i = _
    omega
  · intro x hxm
    obtain ⟨j, e, he, rfl⟩ := hmem x hxm
    have hjl := (List.getElem?_eq_some_iff.1 he).1
    obtain ⟨g1, g2, g3, g4⟩ := hrow.at_ j e he
    obtain ⟨k1, k2, k3⟩ := h.lr e (List.mem_of_getElem? he)
    exact ⟨k1.1, by show e.t < _; omega, k2.1, by show e.i < _; omega, by show e.d.size ≤ _; omega⟩
  · intro x hxm
    obtain ⟨j, e, he, rfl⟩ := hmem x hxm
    obtain ⟨g1, g2, g3, g4⟩ := hrow.at_ j e he
    show e.d.size ≤ _
    omega
end Go.Proofs.YtalhhplphlobbaaGreat
