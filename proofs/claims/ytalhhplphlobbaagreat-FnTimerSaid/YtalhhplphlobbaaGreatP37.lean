/- campaign: the walk. Conditions: sizes. -/
import Derived.Test.YtalhhplphlobbaaGreatP35
import Derived.Test.YtalhhplphlobbaaGreatP36
set_option linter.unusedVariables false
set_option linter.unusedSimpArgs false
namespace Go.Proofs.YtalhhplphlobbaaGreat
open Go.RowKit
section
variable {M : List Nat} {W : World} {rb rl ms x0 : Nat} {l : RLog} {hv sv ev : Value} {e : Ent} {r : List Ent} {V : List Int}
set_option maxRecDepth 100000 in
set_option maxHeartbeats 8000000 in
theorem campaign_el {B : RaftS → World → Prop}
    (hP : ∀ X, Nxt W X → Calls Tryz.prog 284 #[.pointer (some ⟨rb, 0, none⟩)] X fun y w' => y = .returned (.bool true) ∧ Nxt X w')
    (hB : ∀ X, Nxt W X → Calls Tryz.prog 350 #[.pointer (some ⟨rb, 0, none⟩)] X fun y w' => y = .returned (.tuple #[]) ∧ ∃ s, B s w' ∧ CampS M w' rb rl ms x0 s l hv sv ev e r V) (x : Ent) (hx : (e :: r)[r.length]? = some x) :
    Calls Tryz.prog 286 #[.pointer (some ⟨rb, 0, none⟩), .string tEl] W fun y w' => y = .returned (.tuple #[]) ∧ ∃ s w1 ids g CS, B s w1 ∧ ids.Perm V ∧ AskJ M w1 rb rl ms g s l hv sv ev e r x 5 CS ids w' := by
  obtain ⟨i0, hi, hz0, hz1, hz2⟩ := info_parts info22
  obtain ⟨T, hT⟩ : ∃ T, T = tEl := ⟨_, rfl⟩
  have hT1 : (T.toList == [67, 97, 109, 112, 97, 105, 103, 110, 80, 114, 101, 69, 108, 101, 99, 116, 105, 111, 110]) = false := by rw [hT]; decide +kernel
  have hT2 : (T.toList == [67, 97, 109, 112, 97, 105, 103, 110, 84, 114, 97, 110, 115, 102, 101, 114]) = false := by rw [hT]; decide +kernel
  rw [← hT]
  clear hT
  have HP := Lib.hid (hP W ⟨Chg.refl _ _⟩)
  have HB := Lib.hid hB
  clear hP hB
  go_enter Tryz.func286, Tryz.ntmps286
  go_upto_region 9 with (first | (go_at_call 284; (with_reducible refine Calls.mono HP.out ?_); rintro y0 X0 ⟨rfl, hn0⟩) | (go_at_call 350; (with_reducible refine Calls.mono (HB.out _ hn0) ?_); rintro y1 w1 ⟨rfl, s, hb, hs⟩; have HBS := Lib.hid hb; have HS := Lib.hid hs; have c1 : w1.cell? ⟨rb, 1, none⟩ = some (.int .u64 s.term) := RaftAt.cell hs.ra 1 (.int .u64 s.term) rfl; have c7 : w1.cell? ⟨rb, 7, none⟩ = some (.map (some x0)) := (RaftAt.cell hs.ra 7 s.v0 rfl).trans (by rw [hs.v0]); have c8 : w1.cell? ⟨rb, 8, none⟩ = some (.map none) := (RaftAt.cell hs.ra 8 s.v1 rfl).trans (by rw [hs.v1]); clear hb hs))
  clear hn0
  have wl : rb < w1.heap.size := HS.out.lt rb HS.out.rbm
  have hlV := HS.out.lV
  have hz1' : w1.heap.size = w1.heap.size := rfl
  have hJ := Lib.hid (fun X (hX : Nxt w1 X) => jointIDs_any (HS.out.sv.nxt hX) (SetAt.nil X) (by omega) (by simp))
  have hnd := HS.out.sv.1
  go_wp2_with (first | (go_at_call 336; (with_reducible refine Calls.mono (hJ.out _ ⟨Chg.refl _ _⟩) ?_); rintro y2 w2 ⟨b2, D2, rfl, hb2, hm2, hd2, hn2⟩; have hset : SetAt w2 (.map (some b2)) V := ⟨hnd, .inr ⟨b2, D2, rfl, hm2, by simpa using hd2⟩⟩; have lb2 := hm2.lt; clear hm2 hd2) | (at_len; refine wp_lenS _ rfl _ 281 rfl Tryz.underlying281 (v := .map (some b2)) (S := V) rfl hset ?_) |
    (at_make; refine wpList_make_own _ rfl _ _ 24 rfl w1.heap.size 22 i0 (.int .u64 0) 1 Tryz.underlying24 hi hz0 hz1 .i64 .i64 _ V.length rfl rfl rfl (by rw [hz2]; omega) (by simp only [maxLen]; omega) hn2.out.size ?_; intro w3 hown3 hg3; have hc3 : Chg [] w2 w3 := Chg.of_grown hg3 (by intro k hk; cases hk); have hset3 := hset.nxt ⟨hc3⟩) |
    (at_range; refine wp_rangeS _ rfl _ 281 rfl Tryz.underlying281 (v := .map (some b2)) rfl hset3 ?_; intro w4 hrg4 hn4 hws4))
  have hr4 : w3.heap.size < w4.heap.size := by omega
  have hl3 := own_lt hown3 (g := w2.heap.size) (by simp [rowL, Value.ownBlock])
  have hc14 : Chg [] w1 w4 := (hn2.out.trans hc3).trans hn4.out
  have hown4 := own_chg0 hown3 hn4.out
  have z14 := hc14.size
  have HC13 := Lib.hid (hn2.out.trans hc3)
  obtain ⟨rg, hrg⟩ : ∃ rg, rg = w3.heap.size := ⟨_, rfl⟩
  obtain ⟨v3, hv3⟩ : ∃ v3, v3 = Value.slice (some ⟨w2.heap.size, 0, none⟩) 0 V.length := ⟨_, rfl⟩
  have hne0 : ∀ g ∈ rowL v3, g ≠ rg ∧ g ≠ b2 := by
    intro g hg
    rw [hv3] at hg
    simp [rowL, Value.ownBlock] at hg
    omega
  rw [← hrg] at hrg4 hr4 ⊢
  rw [← hv3] at hown4 ⊢
  have z13 := HC13.out.size
  have lb2' : b2 < rg := by omega
  have hrl : w1.heap.size ≤ rg := by omega
  clear hrg hv3 hown3 hg3 hc3 hset hset3 hn4 hws4 hl3 hn2 z13 z14 hb2 HC13
  have HR4 := Lib.hid hr4
  have HN0 := Lib.hid hne0
  clear hr4 hne0
  have HRL := Lib.hid hrl
  have HB2 := Lib.hid lb2'
  clear hrl lb2 lb2'
  go_frame
  go_loopw [6] (fun ov wi => ∃ (dn : List Int) (ov' : Value), ov' = ov ∧ RgS wi (.map (some b2)) rg V dn ∧ wi.ownsRow w1.heap.size 22 1 ov' dn.length (U64s dn) ∧ Chg [] w1 wi ∧ rg < wi.heap.size ∧ (∀ g ∈ rowL ov', g ≠ rg ∧ g ≠ b2)) (fun _ wi => rgLeft wi (.map (some b2)) rg)
  case atStart => exact ⟨[], _, rfl, hrg4, hown4, hc14, HR4.out, HN0.out⟩
  case round =>
    clear hrg4 hown4 hc14
    obtain ⟨dn, ov, rfl, hrg, hown, hci, hrz, hne⟩ := hrel
    have hsb := hrg.sub
    have hln := nodup_le hsb.1 hsb.2
    go_wp2_with (first | (at_next; refine wp_nextS _ rfl _ rfl (v := .map (some b2)) (S := V) (dn := dn) rfl hrg ?_ ?_))
    · intro hall
      have hp : dn.Perm V := (List.perm_ext_iff_of_nodup hsb.1 hnd).2 (fun k => ⟨hsb.2 k, hall k⟩)
      rcases hown with ⟨hlen, ⟨rfl, hl0⟩ | ⟨g, cap, cur, rfl, hg, hh, hnc, hcm, hcs, hcur⟩⟩
      · have hdn : dn = [] := List.eq_nil_of_length_eq_zero hl0
        subst hdn
        exact absurd hp.symm.eq_nil HS.out.V0
      have hrw : Rw wr g 22 dn.toArray (cur.toList.drop dn.length) := by
        unfold Rw Blk
        rw [hh]
        congr 2
        rw [Nat.mul_one] at hcur
        have : dn.map (Value.int .u64) = cur.toList.take dn.length := hcur.symm
        simp only [this, List.take_append_drop]
      have HPL := Lib.hid hp.length_eq
      have HC := Lib.hid hci
      have HRW := Lib.hid hrw
      have HP' := Lib.hid hp
      clear hall hrg hci hrw hcur hcs hh hp hne hsb HR4 HN0 HRL HB2 hrz
      go_upto_region 18 with (first | (go_at_call 351; refine (sort_any HRW.out (by simp) (by omega)).mono ?_; rintro y5 w5 ⟨d', rfl, hd1, hd2, hd3, hd4, hd5⟩))
      obtain ⟨CS, hCS⟩ : ∃ CS, CS = (d'.toList.map (Value.int .u64) ++ cur.toList.drop dn.length).toArray := ⟨_, rfl⟩
      have hgi : Blk w5 g 22 CS := by rw [hCS]; exact hd1
      have hc5 : Chg [] w1 w5 := HC.out.then hd5 (fun y hy hl => by simp at hy; omega)
      obtain ⟨ids, hids⟩ : ∃ ids, ids = d'.toList := ⟨_, rfl⟩
      have hil : ids.length = dn.length := by rw [hids]; simpa using hd2
      have hcs : ∀ (k : Nat) (z : Int), ids[k]? = some z → CS[k]? = some (Value.int .u64 z) := by
        intro k z hz
        rw [hCS, List.getElem?_toArray, List.getElem?_append_left (by have := (List.getElem?_eq_some_iff.1 hz).1; rw [List.length_map]; rw [hids] at this; exact this), List.getElem?_map, ← hids, hz]
        rfl
      have hpV : ids.Perm V := by rw [hids]; exact hd3.trans HP'.out
      have hJ0 : AskJ M w1 rb rl ms g s l hv sv ev e r x 5 CS [] w5 := by
        refine ⟨⟨.slice none 0 0, .slice none 0 0, M, [], [], ?_, OutL.nil _ _ _, OutL.nil _ _ _, by simp [rowL, Value.ownBlock], fun _ h => h, fun _ h => .inl h, rfl, rfl, HS.out.sa.nxt ⟨hc5⟩⟩, HS.out.la.nxt ⟨hc5⟩, hgi, hc5.mono (by simp)⟩
        have z := HS.out.ra.nxt ⟨hc5⟩
        rw [RaftS.lists HS.out.m1 HS.out.m2]
        exact z
      have HCS := Lib.hid hcs
      have HPV := Lib.hid hpV
      have HIL := Lib.hid hil
      have HJ0 := Lib.hid hJ0
      have HG := Lib.hid hg
      clear hCS hids hcs hpV hJ0 hgi hc5 hd1 hd2 hd3 hd4 hd5 HC HRW HP' hg hil
      obtain ⟨n, hn⟩ : ∃ n, n = dn.length := ⟨_, rfl⟩
      rw [← hn] at HIL HPL ⊢
      clear hn
      have hn13 : n ≤ 12 := by have := HPL.out; omega
      go_wp2_with fail
      go_loopw [55] (fun i wi => ∃ k : Nat, k ≤ n ∧ i = .int .i64 k ∧ AskJ M w1 rb rl ms g s l hv sv ev e r x 5 CS (ids.take k) wi) (fun i _ => n - (intOf i).toNat)
      case atStart => exact ⟨0, by omega, rfl, by simpa using HJ0.out⟩
      case round =>
        clear HJ0
        obtain ⟨k, hk, rfl, hJ⟩ := hrel
        have HJ := Lib.hid hJ
        clear hJ
        by_cases hlt : k < n
        · obtain ⟨z, hz⟩ : ∃ z, ids[k]? = some z := ⟨_, List.getElem?_eq_getElem (by rw [HIL.out]; exact hlt)⟩
          have c10 : wr.cell? ⟨g, k, none⟩ = some (.int .u64 z) := (HJ.out.gi.cell k).trans (HCS.out k z hz)
          obtain ⟨v1, v2, M', Lm, La, hra, hLm, hLa, hdj, hM1, hM2, hsm, hsa, hst⟩ := HJ.out.ex
          have c0 : wr.cell? ⟨rb, 0, none⟩ = some (.int .u64 s.id) := RaftAt.cell hra 0 (.int .u64 s.id) rfl
          by_cases hself : z = s.id
          · have hVR := Lib.hid (fun W => voteResp_any (w := W) 5 (.inl rfl))
            have hlA : La.length ≤ 12 := by
              have h1 := congrArg List.length hsa
              simp only [List.length_map] at h1
              have h2 := List.length_filter_le (fun q => decide (q = s.id)) (ids.take k)
              rw [List.length_take] at h2
              omega
            have hbz : (z == s.id) = true := by simpa using hself
            have hMl : ∀ y ∈ M', y < wr.heap.size := fun y hy => by
              rcases hM2 y hy with h | h
              · exact Nat.lt_of_lt_of_le (HS.out.lt y h) HJ.out.ch.size
              · exact h.2
            have hME := Lib.hid (fun X (hX : Nxt wr X) => enumMsg_any (M := M') X 6 (fun y hy => Nat.lt_of_lt_of_le (hMl y hy) hX.out.size))
            have HST := Lib.hid hst
            have HRA := Lib.hid hra
            have HLM := Lib.hid hLm
            have HLA := Lib.hid hLa
            have HML := Lib.hid hMl
            clear hra hLm hLa hMl hst
            go_wp2_with (first | (go_at_call 230; (with_reducible refine Calls.mono (hVR.out _) ?_); rintro y3 w3 ⟨rfl, rfl⟩) | (go_at_call 168; (with_reducible refine Calls.mono (hME.out _ ⟨?cc⟩) ?_)) | fail)
            · exact ((Chg.refl _ _).alloc _).alloc _
            rintro y4 w4 ⟨pe, rfl, hpe, hn4⟩
            have p1 : Ptr1 M' w4 (.pointer (some ⟨wr.heap.size, 0, none⟩)) (.int .u64 s.id) := ((ptr_new HML.out _ _).chg0 ((Chg.refl _ _).alloc _)).chg0 hn4.out
            have p3 : Ptr1 M' w4 (.pointer (some ⟨wr.heap.size + 1, 0, none⟩)) (.int .u64 s.term) := Ptr1.chg0 (by
              have z := ptr_new (w := wr.alloc (.cells #[.int .u64 s.id] 22)) (M := M') (fun y hy => by have := HML.out y hy; simp; omega) (.int .u64 s.term) 22
              simpa using z) hn4.out
            have hc4 : Chg [] wr w4 := (((Chg.refl _ _).alloc _).alloc _).trans hn4.out
            have hz4 := hc4.size
            have hmN := msg_new (m := ⟨6, s.id, 0, s.term, 0, 0, .slice none 0 0, 0, 0, .pointer none, false, 0, .slice none 0 0, .slice none 0 0⟩) (.inr hpe) (.inr p1) PtrU.nil (.inr p3) PtrU.nil PtrU.nil PtrU.nil PtrU.nil PtrB.nil PtrU.nil
            have hca : Chg [] w4 (w4.alloc (.cells #[.pointer (some ⟨pe, 0, none⟩), .pointer (some ⟨wr.heap.size, 0, none⟩), .pointer none, .pointer (some ⟨wr.heap.size + 1, 0, none⟩), .pointer none, .pointer none, .slice none 0 0, .pointer none, .pointer none, .pointer none, .pointer none, .pointer none, .slice none 0 0, .slice none 0 0] 301)) := (Chg.refl _ _).alloc _
            have hMM : ∀ y ∈ w4.heap.size :: M', y ∈ M' ∨ w4.heap.size ≤ y := fun y hy => by
              rcases List.mem_cons.1 hy with rfl | hy
              · exact .inr (Nat.le_refl _)
              · exact .inl hy
            have hra5 := (HRA.out.nxt ⟨hc4⟩).nxt ⟨hca⟩
            have hlm5 := ((HLM.out.nxt hc4).more hMM (fun y hy => List.mem_cons_of_mem _ hy)).nxt hca
            have hla5 := ((HLA.out.nxt hc4).more hMM (fun y hy => List.mem_cons_of_mem _ hy)).nxt hca
            have hgm : ∀ y, y ∈ Lm ∨ y ∈ La → y.1 ≠ w4.heap.size := fun y hy => by
              have h1 : y.1 ∈ M' := hy.elim (fun h => (HLM.out.at_ y h).1) (fun h => (HLA.out.at_ y h).1)
              have := HML.out _ h1
              omega
            have hM5 : ∀ y ∈ w4.heap.size :: M', y < (w4.alloc (.cells #[.pointer (some ⟨pe, 0, none⟩), .pointer (some ⟨wr.heap.size, 0, none⟩), .pointer none, .pointer (some ⟨wr.heap.size + 1, 0, none⟩), .pointer none, .pointer none, .slice none 0 0, .pointer none, .pointer none, .pointer none, .pointer none, .pointer none, .slice none 0 0, .slice none 0 0] 301)).heap.size := fun y hy => by
              simp
              rcases List.mem_cons.1 hy with rfl | hy
              · omega
              · have := HML.out y hy
                omega
            have HPU := Lib.hid (push_resp (base := w1.heap.size) hra5 hla5 hlm5 hdj hmN (by simp) (Nat.le_trans HJ.out.ch.size hz4) (List.mem_cons_of_mem _ (hM1 _ HS.out.rbm)) hM5 rfl (by have := HS.out.tm.1; simp; omega) (.inl rfl) (by omega) (by have := HJ.out.ch.size; simp; omega) (fun y hy => hgm y (.inr hy)) (fun y hy => hgm y (.inl hy)))
            have HCA := Lib.hid hca
            have HC4 := Lib.hid hc4
            clear hmN hca hra5 hlm5 hla5 hM5 p1 p3 hc4 hpe
            go_wp2_with (first | (go_at_call 217; (with_reducible refine Calls.mono HPU.out ?_); rintro y5 w5' ⟨rfl, v', M2, hra6, hla6, hlm6, hdj6, hc6, hM6, hM7⟩))
            obtain ⟨q1, q2, q3, q4⟩ := send_keeps (HJ.out.la.nxt ⟨HC4.out⟩) (HST.out.nxt ⟨HC4.out⟩) (HJ.out.gi.nxt ⟨HC4.out⟩) (HJ.out.ch.trans (HC4.out.mono (by simp))) (HRA.out.nxt ⟨HC4.out⟩) HCA.out (own_chg0 (own_chg0 HLA.out.row HC4.out) HCA.out) hc6 hM6 hM7 (hM1 _ HS.out.rbm) HLA.out.rm (fun y hy => Nat.lt_of_lt_of_le (HML.out y hy) HC4.out.size)
            have htk : ids.take (k + 1) = ids.take k ++ [s.id] := by simp [List.take_add_one, hz, hself]
            refine ⟨⟨k + 1, by omega, by simp, ?_⟩, by simp [intOf]; omega⟩
            rw [htk]
            refine ⟨⟨v1, v', M2, Lm, La ++ [(w4.heap.size, _)], hra6, hlm6, hla6, fun y h1 h2 => hdj6 y h2 h1, fun y hy => hM6 y (List.mem_cons_of_mem _ (hM1 y hy)), fun y hy => ?_, ?_, ?_, q2⟩, q1, q3, q4⟩
            · rcases hM7 y hy with h | h
              · rcases List.mem_cons.1 h with rfl | h
                · refine .inr ⟨Nat.le_trans HJ.out.ch.size HC4.out.size, ?_⟩
                  have z1 := hc6.size
                  have z2 := (hla6.at_ (w4.heap.size, _) (List.mem_append_right _ (List.mem_singleton.2 rfl))).2.2.lt
                  exact z2
                · rcases hM2 y h with h | h
                  · exact .inl h
                  · exact .inr ⟨h.1, Nat.lt_of_lt_of_le h.2 (Nat.le_trans (Nat.le_trans HC4.out.size HCA.out.size) hc6.size)⟩
              · exact .inr ⟨Nat.le_trans (Nat.le_trans HJ.out.ch.size HC4.out.size) (Nat.le_trans HCA.out.size h.1), h.2⟩
            · simp [hsm, List.filter_append]
            · simp [hsa, List.filter_append, ownMsg]
          · have hbz : (z == s.id) = false := by simpa using hself
            have hMl : ∀ y ∈ M', y < wr.heap.size := fun y hy => by
              rcases hM2 y hy with h | h
              · exact Nat.lt_of_lt_of_le (HS.out.lt y h) HJ.out.ch.size
              · exact h.2
            have c4 : wr.cell? ⟨rb, 4, none⟩ = some (.pointer (some ⟨rl, 0, none⟩)) := (RaftAt.cell hra 4 (.pointer (some ⟨s.rl, 0, none⟩)) rfl).trans (by rw [HS.out.hrl])
            have hne : rl ≠ ms := by
              obtain ⟨_, _, _, _, _, _, hmb⟩ := id hst.at_
              exact Blk.ne HJ.out.la hmb (by decide)
            have HL := Lib.hid (rlLastID_any x hst HJ.out.la HS.out.cal hne HS.out.off hx)
            have HRA := Lib.hid hra
            have HLM := Lib.hid hLm
            have HLA := Lib.hid hLa
            have HML := Lib.hid hMl
            have HSTr := Lib.hid hst
            have hbz' : z ≠ s.id := hself
            clear hra hLm hLa hMl hst hself
            go_wp2_with (first | (go_at_call 273; (with_reducible refine Calls.mono HL.out ?_); rintro y3 w3 ⟨rfl, hla3, hst3, hc3⟩; have HLA3 := Lib.hid hla3; have HST3 := Lib.hid hst3; have HC3 := Lib.hid hc3; clear hla3 hst3 hc3) | fail)
            have hcA : Chg [] w3 (w3.alloc (.cells #[.int .u64 x.t, .int .u64 (e.i + r.length)] 365)) := (Chg.refl _ _).alloc _
            have hbA := Blk.new w3 365 #[.int .u64 x.t, .int .u64 (e.i + r.length)]
            obtain ⟨ta, hta⟩ : ∃ ta, ta = w3.heap.size := ⟨_, rfl⟩
            rw [← hta] at hbA ⊢
            generalize w3.alloc (.cells #[.int .u64 x.t, .int .u64 (e.i + r.length)] 365) = wA at hcA hbA ⊢
            clear hta
            have HCA := Lib.hid hcA
            have HBA := Lib.hid hbA
            have hcr : Chg [ms] wr wA := HC3.out.trans (hcA.mono (by simp))
            have HCR := Lib.hid hcr
            have hMA : ∀ y ∈ M', y < wA.heap.size := fun y hy => Nat.lt_of_lt_of_le (HML.out y hy) hcr.size
            have HMA := Lib.hid hMA
            clear hcA hbA hcr hMA
            refine wp_region_held_drew (S := fun w => Blk w ta 365 #[.int .u64 x.t, .int .u64 (e.i + r.length)]) (by kernel_rfl) (Blk.drew HBA.out) (fun hHeld => ?_)
            refine wpAnyH_take (i := 0) (v := .pointer (some ⟨rb, 0, none⟩)) rfl (by kernel_rfl) (by kernel_rfl) (by kernel_rfl) (fun _ _ _ h => h) (Or.inl ⟨by kernel_rfl, fun w hw => ?_⟩) hHeld ?_
            · kernel_rfl
            (try simp only [Act.put, List.setIfInBounds_toArray, List.set_cons_zero, List.set_cons_succ, List.getElem_toArray, List.getElem_cons_zero, List.getElem_cons_succ])
            refine wpAnyH_take (i := 1) (v := .int .u64 z) rfl (by kernel_rfl) (by kernel_rfl) (by kernel_rfl) (fun _ _ _ h => h) (Or.inl ⟨by kernel_rfl, fun w hw => ?_⟩) hHeld ?_
            · kernel_rfl
            (try simp only [Act.put, List.setIfInBounds_toArray, List.set_cons_zero, List.set_cons_succ, List.getElem_toArray, List.getElem_cons_zero, List.getElem_cons_succ])
            refine wpAnyH_take (i := 3) (v := .int .u64 s.term) rfl (by kernel_rfl) (by kernel_rfl) (by kernel_rfl) (fun _ _ _ h => h) (Or.inl ⟨by kernel_rfl, fun w hw => ?_⟩) hHeld ?_
            · kernel_rfl
            (try simp only [Act.put, List.setIfInBounds_toArray, List.set_cons_zero, List.set_cons_succ, List.getElem_toArray, List.getElem_cons_zero, List.getElem_cons_succ])
            refine wpAnyH_take (i := 5) (v := .int .i32 5) rfl (by kernel_rfl) (by kernel_rfl) (by kernel_rfl) (fun _ _ _ h => h) (Or.inl ⟨by kernel_rfl, fun w hw => ?_⟩) hHeld ?_
            · kernel_rfl
            (try simp only [Act.put, List.setIfInBounds_toArray, List.set_cons_zero, List.set_cons_succ, List.getElem_toArray, List.getElem_cons_zero, List.getElem_cons_succ])
            refine wpAnyH_take (i := 7) (v := .pointer (some ⟨ta, 1, none⟩)) rfl (by kernel_rfl) (by kernel_rfl) (by kernel_rfl) (fun _ _ _ h => h) (Or.inl ⟨by kernel_rfl, fun w hw => ?_⟩) hHeld ?_
            · go_simp
            (try simp only [Act.put, List.setIfInBounds_toArray, List.set_cons_zero, List.set_cons_succ, List.getElem_toArray, List.getElem_cons_zero, List.getElem_cons_succ])
            refine wpAnyH_take (i := 8) (v := .int .u64 (e.i + r.length)) rfl (by kernel_rfl) (by kernel_rfl) (by kernel_rfl) (fun _ _ _ h => h) (Or.inl ⟨by kernel_rfl, fun w hw => ?_⟩) hHeld ?_
            · have q := Blk.cell hw 1; simp at q; go_simp
            (try simp only [Act.put, List.setIfInBounds_toArray, List.set_cons_zero, List.set_cons_succ, List.getElem_toArray, List.getElem_cons_zero, List.getElem_cons_succ])
            refine wpAnyH_take (i := 10) (v := .pointer (some ⟨ta, 0, none⟩)) rfl (by kernel_rfl) (by kernel_rfl) (by kernel_rfl) (fun _ _ _ h => h) (Or.inl ⟨by kernel_rfl, fun w hw => ?_⟩) hHeld ?_
            · go_simp
            (try simp only [Act.put, List.setIfInBounds_toArray, List.set_cons_zero, List.set_cons_succ, List.getElem_toArray, List.getElem_cons_zero, List.getElem_cons_succ])
            refine wpAnyH_take (i := 11) (v := .int .u64 x.t) rfl (by kernel_rfl) (by kernel_rfl) (by kernel_rfl) (fun _ _ _ h => h) (Or.inl ⟨by kernel_rfl, fun w hw => ?_⟩) hHeld ?_
            · have q := Blk.cell hw 0; simp at q; go_simp
            (try simp only [Act.put, List.setIfInBounds_toArray, List.set_cons_zero, List.set_cons_succ, List.getElem_toArray, List.getElem_cons_zero, List.getElem_cons_succ])
            refine wpAnyH_take (i := 13) (v := .slice none 0 0) rfl (by kernel_rfl) (by kernel_rfl) (by kernel_rfl) (fun _ _ _ h => h) (Or.inl ⟨by kernel_rfl, fun w hw => ?_⟩) hHeld ?_
            · kernel_rfl
            (try simp only [Act.put, List.setIfInBounds_toArray, List.set_cons_zero, List.set_cons_succ, List.getElem_toArray, List.getElem_cons_zero, List.getElem_cons_succ])
            have HwAM := HMA
            have HBwA := HBA
            refine wpAnyH_ready (rs := [2]) (by kernel_rfl) (by simp) ?_
            refine AllReadyH.cons rfl (fun K hK => ?_) AllReadyH.nil
            go_simp
            have hcwB : Chg [] wA (wA.alloc (.cells #[.int .u64 z] 22)).drew := ((Chg.refl _ _).alloc _).drew
            have pwB : Ptr1 M' (wA.alloc (.cells #[.int .u64 z] 22)).drew (.pointer (some ⟨wA.heap.size, 0, none⟩)) (.int .u64 z) := (ptr_new HwAM.out _ _).chg0 (Chg.refl _ _).drew
            obtain ⟨gwB, hgwB⟩ : ∃ gwB, gwB = wA.heap.size := ⟨_, rfl⟩
            rw [← hgwB] at pwB ⊢
            generalize (wA.alloc (.cells #[.int .u64 z] 22)).drew = wB at hcwB pwB ⊢
            clear hgwB
            have HCwB := Lib.hid hcwB
            have HPwB := Lib.hid pwB
            have hmwB : ∀ y ∈ M', y < wB.heap.size := fun y hy => Nat.lt_of_lt_of_le (HwAM.out y hy) hcwB.size
            have HwBM := Lib.hid hmwB
            have hbwB := HBwA.out.nxt ⟨hcwB⟩
            have HBwB := Lib.hid hbwB
            clear hcwB pwB hmwB hbwB
            refine hK.out _ _ HBwB.out (fun hHeld => ?_)
            clear hK K
            (try simp only [Act.put, List.setIfInBounds_toArray, List.set_cons_zero, List.set_cons_succ, List.getElem_toArray, List.getElem_cons_zero, List.getElem_cons_succ])
            refine wpAnyH_ready (rs := [4]) (by kernel_rfl) (by simp) ?_
            refine AllReadyH.cons rfl (fun K hK => ?_) AllReadyH.nil
            go_simp
            have hcwC : Chg [] wB (wB.alloc (.cells #[.int .u64 s.term] 22)) := (Chg.refl _ _).alloc _
            have pwC : Ptr1 M' (wB.alloc (.cells #[.int .u64 s.term] 22)) (.pointer (some ⟨wB.heap.size, 0, none⟩)) (.int .u64 s.term) := ptr_new HwBM.out _ _
            obtain ⟨gwC, hgwC⟩ : ∃ gwC, gwC = wB.heap.size := ⟨_, rfl⟩
            rw [← hgwC] at pwC ⊢
            generalize (wB.alloc (.cells #[.int .u64 s.term] 22)) = wC at hcwC pwC ⊢
            clear hgwC
            have HCwC := Lib.hid hcwC
            have HPwC := Lib.hid pwC
            have hmwC : ∀ y ∈ M', y < wC.heap.size := fun y hy => Nat.lt_of_lt_of_le (HwBM.out y hy) hcwC.size
            have HwCM := Lib.hid hmwC
            have hbwC := HBwB.out.nxt ⟨hcwC⟩
            have HBwC := Lib.hid hbwC
            clear hcwC pwC hmwC hbwC
            refine hK.out _ _ HBwC.out (fun hHeld => ?_)
            clear hK K
            (try simp only [Act.put, List.setIfInBounds_toArray, List.set_cons_zero, List.set_cons_succ, List.getElem_toArray, List.getElem_cons_zero, List.getElem_cons_succ])
            refine wpAnyH_ready (rs := [6]) (by kernel_rfl) (by simp) ?_
            refine AllReadyH.cons rfl (fun K hK => ?_) AllReadyH.nil
            go_simp
            go_at_call 168
            with_reducible refine Calls.mono (enumMsg_any (M := M') wC 5 HwCM.out) ?_
            rintro y6 wD ⟨gD, rfl, pwD, hnD⟩
            go_wp2_with fail
            have HCwD := Lib.hid hnD.out
            have HPwD := Lib.hid pwD
            have hmwD : ∀ y ∈ M', y < wD.heap.size := fun y hy => Nat.lt_of_lt_of_le (HwCM.out y hy) hnD.out.size
            have HwDM := Lib.hid hmwD
            have hbwD := HBwC.out.nxt hnD
            have HBwD := Lib.hid hbwD
            clear hnD pwD hmwD hbwD
            refine hK.out _ _ HBwD.out (fun hHeld => ?_)
            clear hK K
            (try simp only [Act.put, List.setIfInBounds_toArray, List.set_cons_zero, List.set_cons_succ, List.getElem_toArray, List.getElem_cons_zero, List.getElem_cons_succ])
            refine wpAnyH_ready (rs := [9]) (by kernel_rfl) (by simp) ?_
            refine AllReadyH.cons rfl (fun K hK => ?_) AllReadyH.nil
            go_simp
            have hcwE : Chg [] wD (wD.alloc (.cells #[.int .u64 (e.i + r.length)] 22)) := (Chg.refl _ _).alloc _
            have pwE : Ptr1 M' (wD.alloc (.cells #[.int .u64 (e.i + r.length)] 22)) (.pointer (some ⟨wD.heap.size, 0, none⟩)) (.int .u64 (e.i + r.length)) := ptr_new HwDM.out _ _
            obtain ⟨gwE, hgwE⟩ : ∃ gwE, gwE = wD.heap.size := ⟨_, rfl⟩
            rw [← hgwE] at pwE ⊢
            generalize (wD.alloc (.cells #[.int .u64 (e.i + r.length)] 22)) = wE at hcwE pwE ⊢
            clear hgwE
            have HCwE := Lib.hid hcwE
            have HPwE := Lib.hid pwE
            have hmwE : ∀ y ∈ M', y < wE.heap.size := fun y hy => Nat.lt_of_lt_of_le (HwDM.out y hy) hcwE.size
            have HwEM := Lib.hid hmwE
            have hbwE := HBwD.out.nxt ⟨hcwE⟩
            have HBwE := Lib.hid hbwE
            clear hcwE pwE hmwE hbwE
            refine hK.out _ _ HBwE.out (fun hHeld => ?_)
            clear hK K
            (try simp only [Act.put, List.setIfInBounds_toArray, List.set_cons_zero, List.set_cons_succ, List.getElem_toArray, List.getElem_cons_zero, List.getElem_cons_succ])
            refine wpAnyH_ready (rs := [12]) (by kernel_rfl) (by simp) ?_
            refine AllReadyH.cons rfl (fun K hK => ?_) AllReadyH.nil
            go_simp
            have hcwF : Chg [] wE (wE.alloc (.cells #[.int .u64 x.t] 22)) := (Chg.refl _ _).alloc _
            have pwF : Ptr1 M' (wE.alloc (.cells #[.int .u64 x.t] 22)) (.pointer (some ⟨wE.heap.size, 0, none⟩)) (.int .u64 x.t) := ptr_new HwEM.out _ _
            obtain ⟨gwF, hgwF⟩ : ∃ gwF, gwF = wE.heap.size := ⟨_, rfl⟩
            rw [← hgwF] at pwF ⊢
            generalize (wE.alloc (.cells #[.int .u64 x.t] 22)) = wF at hcwF pwF ⊢
            clear hgwF
            have HCwF := Lib.hid hcwF
            have HPwF := Lib.hid pwF
            have hmwF : ∀ y ∈ M', y < wF.heap.size := fun y hy => Nat.lt_of_lt_of_le (HwEM.out y hy) hcwF.size
            have HwFM := Lib.hid hmwF
            have hbwF := HBwE.out.nxt ⟨hcwF⟩
            have HBwF := Lib.hid hbwF
            clear hcwF pwF hmwF hbwF
            refine hK.out _ _ HBwF.out (fun hHeld => ?_)
            clear hK K
            (try simp only [Act.put, List.setIfInBounds_toArray, List.set_cons_zero, List.set_cons_succ, List.getElem_toArray, List.getElem_cons_zero, List.getElem_cons_succ])
            refine wpAnyH_take (i := 14) (v := .agg #[.pointer (some ⟨gD, 0, none⟩), .pointer (some ⟨gwB, 0, none⟩), .pointer none, .pointer (some ⟨gwC, 0, none⟩), .pointer (some ⟨gwF, 0, none⟩), .pointer (some ⟨gwE, 0, none⟩), .slice none 0 0, .pointer none, .pointer none, .pointer none, .pointer none, .pointer none, .slice none 0 0, .slice none 0 0]) rfl (by kernel_rfl) (by kernel_rfl) (by kernel_rfl) (fun _ _ _ h => h) (Or.inl ⟨by kernel_rfl, fun w hw => ?_⟩) hHeld ?_
            · go_simp
            (try simp only [Act.put, List.setIfInBounds_toArray, List.set_cons_zero, List.set_cons_succ, List.getElem_toArray, List.getElem_cons_zero, List.getElem_cons_succ])
            refine wpAnyH_ready (rs := [15]) (by kernel_rfl) (by simp) ?_
            refine AllReadyH.cons rfl (fun K hK => ?_) AllReadyH.nil
            go_simp
            refine hK.out _ _ (HBwF.out.nxt ⟨(Chg.refl _ _).alloc _⟩) (fun hHeld => ?_)
            clear hK K
            (try simp only [Act.put, List.setIfInBounds_toArray, List.set_cons_zero, List.set_cons_succ, List.getElem_toArray, List.getElem_cons_zero, List.getElem_cons_succ])
            have hAF : Chg [] wA wF := (((HCwB.out.trans HCwC.out).trans HCwD.out).trans HCwE.out).trans HCwF.out
            have hpu := ask_push (x := x) (ids := ids.take k) HS.out (.inl rfl) (term := s.term) (by simp) (by rw [List.length_take, HIL.out]; omega) hbz' HRA.out HLM.out HLA.out hdj hM1 hM2 hsm hsa HJ.out.gi HJ.out.ch HSTr.out (HST3.out.nxt ⟨HCA.out.trans hAF⟩) (HLA3.out.nxt ⟨HCA.out.trans hAF⟩) (HCR.out.trans (hAF.mono (by simp)))
              (.inr (((HPwD.out.chg0 HCwE.out).chg0 HCwF.out))) (.inr ((((HPwB.out.chg0 HCwC.out).chg0 HCwD.out).chg0 HCwE.out).chg0 HCwF.out)) (.inr (((HPwC.out.chg0 HCwD.out).chg0 HCwE.out).chg0 HCwF.out)) (.inr HPwF.out) (.inr (HPwE.out.chg0 HCwF.out))
            have HPU := Lib.hid hpu
            clear hpu hAF
            refine wpAnyH_ready (rs := [16]) (by kernel_rfl) (by simp) ?_
            refine AllReadyH.cons rfl (fun K hK => ?_) AllReadyH.nil
            go_simp
            go_at_call 217
            with_reducible refine Calls.mono HPU.out ?_
            rintro y7 wG ⟨rfl, hJG, hkG⟩
            have hSG := hkG (HBwF.out) (by decide) (by decide)
            have HJG := Lib.hid hJG
            clear hJG
            go_wp2_with fail
            refine hK.out _ _ hSG (fun hHeld => ?_)
            clear hK K hkG
            refine wpAnyH_done (by kernel_rfl) ?_ _
            go_wp2
            have htk : ids.take (k + 1) = ids.take k ++ [z] := by simp [List.take_add_one, hz]
            refine ⟨⟨k + 1, by omega, by simp, ?_⟩, by simp [intOf]; omega⟩
            rw [htk]
            exact HJG.out
        · go_wp2
          go_end0
          have hkn : ids.take k = ids := List.take_of_length_le (by rw [HIL.out]; omega)
          have z := HJ.out
          rw [hkn] at z
          exact ⟨rfl, s, w1, ids, g, CS, HBS.out, HPV.out, z⟩
    · intro k w2' hx0 hx1 hxs hnot hrg2 hlt2 hc2 hs2 hen
      have hown2 := own_keep hown hc2 (fun g hg => by simpa using (hne g hg).1)
      have hsz := hci.size
      go_wp2_with (first | (at_builtin; refine wpList_append_sl _ [] rfl _ _ 24 rfl w1.heap.size 22 i0 (.int .u64 0) 8 Tryz.underlying24 hi hz0 hz1 hz2 rfl _ dn.length (U64s dn) rfl ?c0 _ [.int .u64 k] rfl ?c5 ?c1 ?c2 ?c3 ?c4 ?_))
      case c0 => exact own_chg0 hown2 ((Chg.refl _ _).alloc _)
      case c5 => have z := Sl.new1 w2' (.int .u64 k) 22; rw [hs2] at z; exact z
      case c1 => simp [Value.oneCell']
      case c2 => simp only [List.length_singleton, maxLen]; omega
      case c3 => simp only [List.length_singleton]; omega
      case c4 => simp; omega
      intro v' w3 hown3 hg3 hat3
      have hc3 : Chg (rowL ov) w2' w3 := ((Chg.refl (rowL ov) w2').alloc _).trans (chg_row hg3)
      have hlo := fun g (hg : g ∈ rowL ov) => own_lt hown2 hg
      have hr3 := hrg2.chg hc3 (fun b hb' => fun hm => by cases hb'; exact (hne _ hm).2 rfl) (fun hm => (hne _ hm).1 rfl)
      have hc4 : Chg [] w1 w3 := (hci.then hc2 (fun x hx hl => by simp at hx; have := HRL.out; omega)).then hc3 (fun g hg hl => by have := (hlo g hg).1; omega)
      have hz3 := hc3.size
      have hne3 : ∀ g ∈ rowL v', g ≠ rg ∧ g ≠ b2 := fun g hg => by
        rcases rowL_after hat3 hg with h | h
        · exact hne g h
        · have := HB2.out
          omega
      clear hown2 hown hrg hrg2 hc2 hg3 hc3 hci hen hne hat3
      go_wp2
      go_roundw
      case rel => exact ⟨dn ++ [k], _, rfl, hr3.1, by simpa [U64s] using hown3, hc4, by omega, hne3⟩
      case measure =>
        rw [hr3.2]
        exact hlt2
end
end Go.Proofs.YtalhhplphlobbaaGreat
