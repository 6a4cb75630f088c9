/- acceptReady on a calm node that has something to apply. Conditions: sizes within the bounds. Ready on a calm node that has something to apply. Conditions: sizes within the bounds. -/
import Derived.Test.YtalhhplphlobbaaGreatP28
set_option linter.unusedVariables false
set_option linter.unusedSimpArgs false
namespace Go.Proofs.YtalhhplphlobbaaGreat
open Go.RowKit
theorem info199 : (Tryz.prog.info? 199).map (fun i => (i.zero, i.size, i.bytes)) = some (some (.pointer none), 1, 8) := by kernel_rfl
theorem EntSz.chgM {M L : List Nat} {w w' : World} {v : Value} {z : Nat} {t i : Int} {d : ByteArray} (h : EntSz w v z) (he : EntAt M w v t i d) (hc : Chg L w w') (hL : ∀ x ∈ L, x ∈ M) : EntSz w' v z := by
  obtain ⟨b, b1, o1, b2, o2, t', i', n, c, A, rfl, c1, c2, c3, c4, hc1, hc2, hr⟩ := h
  obtain ⟨b', p1, p2, sd, e, hb, hl, k1, k2, k3, k4, ⟨x1, y1, rfl, hb1, hl1, j1⟩, ⟨x2, y2, rfl, hb2, hl2, j2⟩, h3⟩ := he
  simp only [Value.pointer.injEq, Option.some.injEq, Addr.mk.injEq] at e
  obtain ⟨rfl, _⟩ := e
  rw [c1] at k1
  rw [c2] at k2
  simp only [Option.some.injEq, Value.pointer.injEq, Addr.mk.injEq] at k1 k2
  obtain ⟨rfl, rfl, _⟩ := k1
  obtain ⟨rfl, rfl, _⟩ := k2
  have hn : ∀ {x}, x ∉ M → x ∉ L := fun hx hm => hx (hL _ hm)
  exact ⟨b, b1, o1, b2, o2, t', i', n, c, A, rfl, hc.at_ c1 (hn hb), hc.at_ c2 (hn hb), hc.at_ c3 (hn hb), hc.at_ c4 (hn hb), hc.at_ hc1 (hn hb1), hc.at_ hc2 (hn hb2), hr⟩
/-- A row of entries with their sizes. -/
structure EntsZ (M : List Nat) (w : World) (v : Value) (l : List Ent) (ps : List Value) (ss : List Nat) : Prop where
  sl : Sl M w v ps
  en : Ents M w ps l
  sz : Szs w ps ss
theorem EntsZ.chg {M L : List Nat} {w w' : World} {v : Value} {l : List Ent} {ps : List Value} {ss : List Nat} (h : EntsZ M w v l ps ss) (hc : Chg L w w') (hL : ∀ x ∈ L, x ∈ M) : EntsZ M w' v l ps ss := by
  refine ⟨h.sl.chg hc hL, h.en.chg hc hL, h.sz.1, fun j p s hj hs => ?_⟩
  have hjl : j < l.length := by
    have := (List.getElem?_eq_some_iff.1 hj).1
    rw [h.en.1] at this; exact this
  obtain ⟨q, hq, he⟩ := h.en.2 j l[j] (List.getElem?_eq_getElem hjl)
  rw [hj] at hq
  injection hq with hq
  subst hq
  exact (h.sz.2 j p s hj hs).chgM he hc hL
theorem EntsZ.nxt {M : List Nat} {w w' : World} {v : Value} {l : List Ent} {ps : List Value} {ss : List Nat} (h : EntsZ M w v l ps ss) (hc : Nxt w w') : EntsZ M w' v l ps ss := h.chg hc.out (by simp)
theorem EntsAt.z {M : List Nat} {w : World} {v : Value} {l : List Ent} (h : EntsAt M w v l) (hf : ∀ x ∈ l, x.fits) (hd : ∀ x ∈ l, x.d.size ≤ 1000) : ∃ ps ss, EntsZ M w v l ps ss ∧ ss.sum ≤ l.length * 1040 := by
  obtain ⟨ps, h1, h2⟩ := h
  obtain ⟨ss, h3, h4, _⟩ := h2.szs hf hd
  exact ⟨ps, ss, ⟨h1, h2, h3⟩, h4⟩
theorem EntsZ.at_ {M : List Nat} {w : World} {v : Value} {l : List Ent} {ps : List Value} {ss : List Nat} (h : EntsZ M w v l ps ss) : EntsAt M w v l := ⟨ps, h.sl, h.en⟩
/-- The message that says what was applied. -/
structure ApMsg (M : List Nat) (w : World) (mb : Nat) (id : Int) (v : Value) : Prop where
  ex : ∃ p0 p1 p2 p3, Blk w mb 301 #[p0, p1, p2, p3, .pointer none, .pointer none, v, .pointer none, .pointer none, .pointer none, .pointer none, .pointer none, .slice none 0 0, .slice none 0 0] ∧
    Ptr1 M w p0 (.int .i32 22) ∧ Ptr1 M w p1 (.int .u64 id) ∧ Ptr1 M w p2 (.int .u64 18446744073709551614) ∧ Ptr1 M w p3 (.int .u64 0)
theorem ApMsg.chg {M L : List Nat} {w w' : World} {mb : Nat} {id : Int} {v : Value} (h : ApMsg M w mb id v) (hc : Chg L w w') (hL : ∀ x ∈ L, x ∈ M) (hm : mb ∉ L) : ApMsg M w' mb id v := by
  obtain ⟨p0, p1, p2, p3, hb, h0, h1, h2, h3⟩ := h.ex
  exact ⟨p0, p1, p2, p3, hb.chg hc hm, h0.chg hc hL, h1.chg hc hL, h2.chg hc hL, h3.chg hc hL⟩
/-- A node whose Ready was accepted: one step waits. -/
structure Acc (M : List Nat) (W w : World) (rn rb rl ms ss hs : Nat) (s : RaftS) (l : RLog) (hv sv ev : Value) (e : Ent) (r : List Ent) (v : Value) (z : Int) (sb k mb : Nat) : Prop where
  rw_ : Blk w rn 276 #[.pointer (some ⟨rb, 0, none⟩), .bool false, .pointer (some ⟨ss, 0, none⟩), .pointer (some ⟨hs, 0, none⟩), .slice (some ⟨sb, 0, none⟩) 1 k]
  ra : RaftAt w rb s
  la : RlAt w rl ms { l with apg := l.com, asz := z, ps := false }
  ow : w.ownsRow W.heap.size 199 1 (.slice (some ⟨sb, 0, none⟩) 1 k) 1 [.pointer (some ⟨mb, 0, none⟩)]
  mg : ApMsg M w mb s.id v
  mn : W.heap.size ≤ mb
  cg : Chg [rn, rb, rl] W w
section
variable {M : List Nat} {W : World} {rn rb rl ms ss hs : Nat} {s : RaftS} {l : RLog} {hv sv ev : Value} {e : Ent} {r : List Ent}
theorem RaftAt.same {w : World} {r : Nat} {s : RaftS} (h : RaftAt w r s) (k : Nat) (u : Value) (he : s.cells[k]? = some u) : RaftAt (w.setCell ⟨r, k, none⟩ u) r s := by
  have hz := h.set_ k u s (by
    apply Array.ext_getElem?
    intro i
    rw [Array.getElem?_setIfInBounds]
    split
    · rename_i hik
      subst hik
      split
      · rw [he]
      · rename_i hlt
        rw [Array.getElem?_eq_none (by omega)]
    · rfl)
  exact hz
theorem needResp_from {w : World} {A : Option Addr} {n c : Nat} (h : Calm M W rn rb rl ms ss hs s l hv sv ev e r) (hc : Chg [] W w) :
    Calls Tryz.prog 301 #[.pointer (some ⟨rb, 0, none⟩), .agg #[.pointer none, .pointer none, .slice none 0 0, .slice none 0 0, .pointer none, .slice A n c, .slice none 0 0, .bool false]] w fun y w' => y = .returned (.bool false) ∧ Chg [] W w' ∧ Nxt w w' := by
  refine (needResp_calm (h.ra.nxt ⟨hc⟩) h.hrl (h.la.nxt ⟨hc⟩) h.calm).mono ?_
  rintro y w' ⟨rfl, hn⟩
  exact ⟨rfl, hc.nxt hn, hn⟩
theorem needApplyResp_from {w : World} {A : Option Addr} {n c : Nat} (hn : 0 < n) (hc : Chg [] W w) :
    Calls Tryz.prog 303 #[.agg #[.pointer none, .pointer none, .slice none 0 0, .slice none 0 0, .pointer none, .slice A n c, .slice none 0 0, .bool false]] w fun y w' => y = .returned (.bool true) ∧ Chg [] W w' ∧ Nxt w w' := by
  refine (needApplyResp_yes w hn).mono ?_
  rintro y w' ⟨rfl, hn⟩
  exact ⟨rfl, hc.nxt hn, hn⟩
theorem applyResp_from {w : World} {A : Option Addr} {n c : Nat} (h : Calm M W rn rb rl ms ss hs s l hv sv ev e r) (hc : Chg [] W w) :
    Calls Tryz.prog 304 #[.pointer (some ⟨rb, 0, none⟩), .slice A n c] w fun y w' => ∃ mb, y = .returned (.pointer (some ⟨mb, 0, none⟩)) ∧ ApMsg M w' mb s.id (.slice A n c) ∧ w.heap.size ≤ mb ∧ Chg [] W w' ∧ Nxt w w' := by
  refine (applyResp_any (h.ra.nxt ⟨hc⟩) (fun x hx => Nat.lt_of_lt_of_le (h.lt x hx) hc.size)).mono ?_
  rintro y w' ⟨b, p0, p1, p2, p3, rfl, hb, h0, h1, h2, h3, hb0, hn⟩
  exact ⟨b, rfl, ⟨p0, p1, p2, p3, hb, h0, h1, h2, h3⟩, hb0, hc.nxt hn, hn⟩
set_option maxRecDepth 100000 in
set_option maxHeartbeats 4000000 in
theorem acceptReady_calm {b o n : Nat} {q : List Ent} {ps : List Value} {zs : List Nat} (h : Calm M W rn rb rl ms ss hs s l hv sv ev e r) (hE : EntsZ M W (.slice (some ⟨b, o, none⟩) n n) q ps zs) (hn : 0 < n) (hl : n ≤ 100000) (hz : zs.sum ≤ 2000 * n) (hlast : ∃ x, q[n - 1]? = some x ∧ x.i = l.com) (ha0 : l.asz = 0) (hmx : 2000 * (n : Int) < l.mx) (hm : l.mx < 2 ^ 64)
    (mrn : rn ∈ M) (mrb : rb ∈ M) (mrl : rl ∈ M) :
    Calls Tryz.prog 241 #[.pointer (some ⟨rn, 0, none⟩), .agg #[.pointer none, .pointer none, .slice none 0 0, .slice none 0 0, .pointer none, .slice (some ⟨b, o, none⟩) n n, .slice none 0 0, .bool false]] W fun y w' => y = .returned (.tuple #[]) ∧ ∃ sb k mb, Acc M W w' rn rb rl ms ss hs s l hv sv ev e r (.slice (some ⟨b, o, none⟩) n n) zs.sum sb k mb := by
  obtain ⟨rd, hrd⟩ : ∃ rd, rd = #[Value.pointer none, .pointer none, .slice none 0 0, .slice none 0 0, .pointer none, .slice (some ⟨b, o, none⟩) n n, .slice none 0 0, .bool false] := ⟨_, rfl⟩
  have hK : KS ms hv sv ev W (W.alloc (.cells rd 307)) := (KS.refl h.st.at_).alloc _
  have hX := h.ks hK
  have hEX := hE.nxt (⟨(Chg.refl _ _).alloc (.cells rd 307)⟩ : Nxt W (W.alloc (.cells rd 307)))
  have hB := Blk.new W 307 rd
  have hCX : Chg [] W (W.alloc (.cells rd 307)) := (Chg.refl _ _).alloc _
  have hrn := h.rw_
  have a0 := (hrn).cell 0; have a1 := (hrn).cell 1; have a2 := (hrn).cell 2; have a3 := (hrn).cell 3; have a4 := (hrn).cell 4; simp at a0 a1 a2 a3 a4; have af := (hrn).frozen; have al := (hrn).lt
  have a19 : W.cell? ⟨rb, 19, none⟩ = some (.slice none 0 0) := (RaftAt.cell h.ra 19 s.msga rfl).trans (by rw [h.m2])
  have al2 := Blk.lt h.ra
  have hmr : rn < W.heap.size ∧ rb < W.heap.size ∧ rl < W.heap.size := ⟨h.lt _ mrn, h.lt _ mrb, h.lt _ mrl⟩
  have HMM := Lib.hid (show W.heap.size ∉ [rn, rb, rl] by
    have := h.lt _ mrn
    have := h.lt _ mrb
    have := h.lt _ mrl
    simp; omega)
  have i0 : (0 : Int) < n := by omega
  have HLA := Lib.hid hlast
  have HA0 := Lib.hid ha0
  have HZ := Lib.hid hz
  clear h hE hrn hlast ha0 hz hK
  go_enter Tryz.func241, Tryz.ntmps241
  rw [hrd] at hB hX hEX hCX
  go_wp2_with (first | (go_at_call 180; (with_reducible refine Calls.mono (hardEmpty_nil) ?_); rintro e w1 ⟨rfl, rfl⟩))
  generalize hXe : W.alloc (.cells #[Value.pointer none, .pointer none, .slice none 0 0, .slice none 0 0, .pointer none, .slice (some ⟨b, o, none⟩) n n, .slice none 0 0, .bool false] 307) = X at hX hEX hB hCX ⊢
  clear hXe
  refine wp_loop_rounds 1 ?_
  rw [rounds_succ]
  have hrx := hX.rw_
  clear a0 a1 a2 a3 a4 af al a19 al2
  have a0 := (hrx).cell 0; have a1 := (hrx).cell 1; have a2 := (hrx).cell 2; have a3 := (hrx).cell 3; have a4 := (hrx).cell 4; simp at a0 a1 a2 a3 a4; have af := (hrx).frozen; have al := (hrx).lt
  have b0 : X.cell? ⟨rb, 0, none⟩ = some (.int .u64 s.id) := RaftAt.cell hX.ra 0 _ rfl
  have b4 := hX.c4 (KS.refl hX.st.at_)
  have b19 : X.cell? ⟨rb, 19, none⟩ = some (.slice none 0 0) := (RaftAt.cell hX.ra 19 s.msga rfl).trans (by rw [hX.m2])
  have bl := Blk.lt hX.ra
  have t0 := (hB).cell 0; have t1 := (hB).cell 1; have t2 := (hB).cell 2; have t3 := (hB).cell 3; have t4 := (hB).cell 4; have t5 := (hB).cell 5; have t6 := (hB).cell 6; have t7 := (hB).cell 7; simp at t0 t1 t2 t3 t4 t5 t6 t7; have tf := (hB).frozen; have tl := (hB).lt
  have H := Lib.hid hX
  have HE := Lib.hid hEX
  have HB := Lib.hid hB
  have HCX := Lib.hid hCX
  clear hX hEX hB hrx hCX
  go_upto_region 16 with fail
  go_region_held3 (fun wx => wx.cell? ⟨rn, 0, none⟩ = some (.pointer (some ⟨rb, 0, none⟩)) ∧ wx.cell? ⟨W.heap.size, 0, none⟩ = some (.pointer none) ∧ wx.cell? ⟨W.heap.size, 1, none⟩ = some (.pointer none) ∧ wx.cell? ⟨W.heap.size, 2, none⟩ = some (.slice none 0 0) ∧ wx.cell? ⟨W.heap.size, 3, none⟩ = some (.slice none 0 0) ∧ wx.cell? ⟨W.heap.size, 4, none⟩ = some (.pointer none) ∧ wx.cell? ⟨W.heap.size, 5, none⟩ = some (.slice (some ⟨b, o, none⟩) n n) ∧ wx.cell? ⟨W.heap.size, 6, none⟩ = some (.slice none 0 0) ∧ wx.cell? ⟨W.heap.size, 7, none⟩ = some (.bool false) ∧ Chg [] X wx)
    (first | ((repeat' apply And.intro) <;> (first | with_reducible assumption | (simp; done) | ((repeat (refine cell_alloc ?_ _)); (first | with_reducible assumption | (refine Chg.at0 (Nxt.out (by assumption)) ?_; first | with_reducible assumption | (simp; done) | (simp [*]; done)) | (refine Chg.at0 (by assumption) ?_; first | with_reducible assumption | (simp; done) | (simp [*]; done)) | (simp [*]; done))) | ((repeat (first | with_reducible exact Chg.refl _ _ | with_reducible assumption | refine Chg.drew ?_ | refine Chg.alloc ?_ _)); done)))) (first | (go_at_call 301; (with_reducible refine Calls.mono (needResp_from H.out ?_) ?_); (focus (first | with_reducible assumption | ((repeat (first | with_reducible exact Chg.refl _ _ | with_reducible assumption | refine Chg.drew ?_ | refine Chg.alloc ?_ _)); done))); rintro e w1 ⟨rfl, hc1, hn1⟩; obtain ⟨qc1, qf1, qz1⟩ := hn1.rules; (try simp at qz1)))
  have p0 := hc1.at0 t0
  have p1 := hc1.at0 t1
  have p2 := hc1.at0 t2
  have p3 := hc1.at0 t3
  have p4 := hc1.at0 t4
  have p5 := hc1.at0 t5
  have p6 := hc1.at0 t6
  have p7 := hc1.at0 t7
  clear hn1 qc1 qf1 qz1
  go_upto_region 20 with (first | (go_at_call 303; (with_reducible refine Calls.mono (needApplyResp_from (W := X) hn hc1) ?_); rintro e w2 ⟨rfl, hc2, hn2⟩))
  have r0 := hc2.at0 a0
  have r5 := hc2.at0 t5
  clear p0 p1 p2 p3 p4 p5 p6 p7 hc1 hn2
  go_region_held3 (fun wx => wx.cell? ⟨rn, 0, none⟩ = some (.pointer (some ⟨rb, 0, none⟩)) ∧ wx.cell? ⟨W.heap.size, 5, none⟩ = some (.slice (some ⟨b, o, none⟩) n n) ∧ Chg [] X wx)
    (first | ((repeat' apply And.intro) <;> (first | with_reducible assumption | (simp; done) | ((repeat (refine cell_alloc ?_ _)); (first | with_reducible assumption | (refine Chg.at0 (Nxt.out (by assumption)) ?_; first | with_reducible assumption | (simp; done) | (simp [*]; done)) | (refine Chg.at0 (by assumption) ?_; first | with_reducible assumption | (simp; done) | (simp [*]; done)) | (simp [*]; done))) | ((repeat (first | with_reducible exact Chg.refl _ _ | with_reducible assumption | refine Chg.drew ?_ | refine Chg.alloc ?_ _)); done)))) (first | (go_at_call 304; (with_reducible refine Calls.mono (applyResp_from H.out ?_) ?_); (focus (first | with_reducible assumption | ((repeat (first | with_reducible exact Chg.refl _ _ | with_reducible assumption | refine Chg.drew ?_ | refine Chg.alloc ?_ _)); done))); rintro e w3 ⟨mb, rfl, hmg, hmb, hc3, hn3⟩; obtain ⟨qc3, qf3, qz3⟩ := hn3.rules; (try simp at qz3)))
  have m0 := hc3.at0 a0
  have m4 := hc3.at0 a4
  have mt5 := hc3.at0 t5
  have mfr : ∀ k, w3.frozen? ⟨rn, k, none⟩ = false := (H.out.rw_.nxt ⟨hc3⟩).frozen
  have mfb : ∀ k, w3.frozen? ⟨rb, k, none⟩ = false := Blk.frozen (Blk.nxt H.out.ra ⟨hc3⟩)
  have ml : rn < w3.heap.size := Nat.lt_of_lt_of_le al hc3.size
  have mlb : rb < w3.heap.size := Nat.lt_of_lt_of_le bl hc3.size
  have hmb2 : X.heap.size ≤ mb := by have := hc2.size; simp at hmb; omega
  have HC3 := Lib.hid hc3
  have HMG := Lib.hid hmg
  have HMB := Lib.hid hmb2
  obtain ⟨i1, hi1, hz0, hz1, hz2⟩ := info_parts info199
  clear r0 r5 hc2 hc3 hn3 hmb hmb2 qc3 qf3 qz3 hmg a0 a1 a2 a3 a4 af t0 t1 t2 t3 t4 t5 t6 t7 tf b0 b4 b19
  go_upto_region 22 with (first | (at_builtin; refine wpList_append_sl _ [] rfl _ _ 274 rfl X.heap.size 199 i1 (.pointer none) 8 Tryz.underlying274 hi1 hz0 hz1 hz2 rfl _ 0 [] rfl ?c0 _ [.pointer (some ⟨mb, 0, none⟩)] rfl (Sl.new1 _ _ _) ?c1 ?c2 ?c3 ?c4 ?_))
  case c0 => exact own_nil _ _ _ _
  case c1 => simp [Value.oneCell']
  case c2 => simp only [List.length_singleton, maxLen]; omega
  case c3 => simp only [List.length_singleton]; omega
  case c4 => have := HC3.out.size; simp; omega
  intro v' w4 hown hg4 hat4
  have hc34 : Chg [] w3 w4 := ((Chg.refl [] w3).alloc _).trans (Chg.of_grown hg4 (by intro k hk; cases hk))
  have hc4 : Chg [] X w4 := HC3.out.trans hc34
  obtain ⟨hown1, hown2⟩ := id hown
  rcases hown2 with ⟨rfl, h0⟩ | ⟨sb, k, cur, rfl, hsb, hrest⟩
  · cases h0
  have HOW := Lib.hid hown
  have n4 := hc34.at0 m0
  have n44 := hc34.at0 m4
  have nt5 := hc34.at0 mt5
  have nfr : ∀ k, w4.frozen? ⟨rn, k, none⟩ = false := (H.out.rw_.nxt ⟨hc4⟩).frozen
  have nfb : ∀ k, w4.frozen? ⟨rb, k, none⟩ = false := Blk.frozen (Blk.nxt H.out.ra ⟨hc4⟩)
  have nl : rn < w4.heap.size := Nat.lt_of_lt_of_le al hc4.size
  have nlb : rb < w4.heap.size := Nat.lt_of_lt_of_le bl hc4.size
  have hra4 : RaftAt w4 rb s := Blk.nxt H.out.ra ⟨hc4⟩
  have n18 : w4.cell? ⟨rb, 18, none⟩ = some (.slice none 0 0) := (RaftAt.cell hra4 18 s.msgs rfl).trans (by rw [H.out.m1])
  have n19 : w4.cell? ⟨rb, 19, none⟩ = some (.slice none 0 0) := (RaftAt.cell hra4 19 s.msga rfl).trans (by rw [H.out.m2])
  have n40 : w4.cell? ⟨rb, 4, none⟩ = some (.pointer (some ⟨rl, 0, none⟩)) := (RaftAt.cell hra4 4 (.pointer (some ⟨s.rl, 0, none⟩)) rfl).trans (by rw [H.out.hrl])
  have nrb : rn ≠ rb := Blk.ne H.out.rw_ H.out.ra (by decide)
  have hsr : sb ≠ rn := by have := HC3.out.size; omega
  have hsb2 : sb ≠ rb := by have := HC3.out.size; omega
  have HC34 := Lib.hid hc34
  have HC4 := Lib.hid hc4
  have HR4 := Lib.hid hra4
  have HSB := Lib.hid hsb
  have wr : W.heap.size ≠ rn ∧ W.heap.size ≠ rb ∧ W.heap.size ≠ rl := by have := HMM.out; simp at this; omega
  obtain ⟨wr1, wr2, wr3⟩ := wr
  clear hown hown1 hrest hg4 hat4 hc34 hc4 hra4 m0 m4 mt5 mfr mfb ml mlb hz0 hz1 hz2 hi1 hsb
  go_upto_region 24 with fail
  have hcY : Chg [rn, rb] w4 (((w4.setCell { block := rn, off := 4 } (Value.slice (some { block := sb, off := 0 }) 1 k)).setCell { block := rb, off := 18 } (Value.slice none 0 0)).setCell { block := rb, off := 19 } (Value.slice none 0 0)) := (by (focus (first | with_reducible assumption | ((repeat (first | with_reducible exact Chg.refl _ _ | with_reducible assumption | with_reducible refine Chg.drew ?_ | with_reducible refine Chg.alloc ?_ _ | with_reducible refine Chg.setCell ?_ (by simp) _ | with_reducible refine Chg.nxt ?_ (by assumption))); done))))
  have hraY : RaftAt (((w4.setCell { block := rn, off := 4 } (Value.slice (some { block := sb, off := 0 }) 1 k)).setCell { block := rb, off := 18 } (Value.slice none 0 0)).setCell { block := rb, off := 19 } (Value.slice none 0 0)) rb s :=
    RaftAt.same (RaftAt.same (show RaftAt _ rb s from Blk.far HR4.out (p := ⟨rn, 4, none⟩) (Ne.symm nrb) (Value.slice (some { block := sb, off := 0 }) 1 k)) 18 (.slice none 0 0) (by show some s.msgs = _; rw [H.out.m1])) 19 (.slice none 0 0) (by show some s.msga = _; rw [H.out.m2])
  have hrwY : Blk (((w4.setCell { block := rn, off := 4 } (Value.slice (some { block := sb, off := 0 }) 1 k)).setCell { block := rb, off := 18 } (Value.slice none 0 0)).setCell { block := rb, off := 19 } (Value.slice none 0 0)) rn 276 #[.pointer (some ⟨rb, 0, none⟩), .bool false, .pointer (some ⟨ss, 0, none⟩), .pointer (some ⟨hs, 0, none⟩), .slice (some ⟨sb, 0, none⟩) 1 k] :=
    (((H.out.rw_.nxt ⟨HC4.out⟩).set_ 4 (.slice (some ⟨sb, 0, none⟩) 1 k)).far (p := ⟨rb, 18, none⟩) nrb _).far (p := ⟨rb, 19, none⟩) nrb _
  have nrn : rl ≠ rn := Ne.symm (Blk.ne H.out.rw_ H.out.la (by decide))
  have nrl : rl ≠ rb := Ne.symm (Blk.ne H.out.ra H.out.la (by decide))
  have hlaY := RlAt.chg (RlAt.nxt H.out.la ⟨HC4.out⟩) hcY (by simp [nrn, nrl])
  have hEY := (HE.out.nxt ⟨HC4.out⟩).chg hcY (by simp [mrn, mrb])
  have hmgY := (HMG.out.chg (L := []) HC34.out (by simp) (by simp)).chg hcY (by simp [mrn, mrb]) (by have := HMB.out; simp; omega)
  have howY := own_chg HOW.out hcY (by simp; omega)
  have y5 := hcY.at_ nt5 (by simp; omega)
  have hcXY : Chg [rn, rb] X _ := (HC4.out.mono (by simp)).trans hcY
  generalize hY : (((w4.setCell { block := rn, off := 4 } (Value.slice (some { block := sb, off := 0 }) 1 k)).setCell { block := rb, off := 18 } (Value.slice none 0 0)).setCell { block := rb, off := 19 } (Value.slice none 0 0)) = Y at hcY hraY hrwY hlaY hEY hmgY howY y5 hcXY ⊢
  clear hY n4 n44 nt5 nfr nfb n18 n19 n40
  have c0 := (hrwY).cell 0; have c1 := (hrwY).cell 1; have c2 := (hrwY).cell 2; have c3 := (hrwY).cell 3; have c4 := (hrwY).cell 4; simp at c0 c1 c2 c3 c4; have cf := (hrwY).frozen; have cl := (hrwY).lt
  have d4 : Y.cell? ⟨rb, 4, none⟩ = some (.pointer (some ⟨rl, 0, none⟩)) := (RaftAt.cell hraY 4 (.pointer (some ⟨s.rl, 0, none⟩)) rfl).trans (by rw [H.out.hrl])
  have dl := Blk.lt hraY
  have HRAY := Lib.hid hraY
  have HRWY := Lib.hid hrwY
  have HLAY := Lib.hid hlaY
  have HEY := Lib.hid hEY
  have HMGY := Lib.hid hmgY
  have HOWY := Lib.hid howY
  have HCXY := Lib.hid hcXY
  have hcm := H.out.calm
  obtain ⟨b', o', p, hAe, hp, hcell, _⟩ := sl_at hEY.sl (show n - 1 < n by omega)
  simp only [Option.some.injEq, Addr.mk.injEq] at hAe
  obtain ⟨rfl, rfl, _⟩ := hAe
  obtain ⟨xl, hxl, hxi⟩ := HLA.out
  obtain ⟨p', hp', hpe⟩ := hEY.en.2 (n - 1) xl hxl
  rw [hp] at hp'
  injection hp' with hp'
  subst hp'
  rw [hxi] at hpe
  have HPE := Lib.hid hpe
  have j1 : (0 : Int) ≤ (n : Int) - 1 ∧ (n : Int) - 1 < n := by omega
  obtain ⟨j1, j2⟩ := j1
  have j3 : ((n : Int) - 1).toNat = n - 1 := by omega
  clear hraY hrwY hlaY hEY hmgY howY hcXY hcY hxl hxi hpe hp
  go_upto_region 28 with (first | (go_at_call 305; (with_reducible refine Calls.mono (acceptUns_calm HLAY.out hcm) ?_); rintro e w' ⟨rfl, rfl⟩) | (go_at_call 154; (with_reducible refine Calls.mono (entIndex_any HPE.out) ?_); rintro e w' ⟨rfl, rfl⟩))
  have HA := Lib.hid (show ∀ w, RlAt w rl ms l → Calls Tryz.prog 306 #[.pointer (some ⟨rl, 0, none⟩), .int .u64 l.com, .int .u64 zs.sum, .bool true] w fun y w' => y = .returned (.tuple #[]) ∧ RlAt w' rl ms { l with apg := l.com, asz := zs.sum, ps := false } ∧ Chg [rl] w w' from fun w hw => by
    have z1 := HZ.out
    have z2 := HA0.out
    have := acceptAppl_any l.com (zs.sum : Int) hw rfl (by omega) (by omega) (by omega) hm
    rw [z2, Int.zero_add] at this
    exact this)
  have HSZ := Lib.hid (show zs.sum < 2 ^ 62 by have := HZ.out; omega)
  have HPL := Lib.hid (show ps.length < 2 ^ 62 by have := sl_len HEY.out.sl; omega)
  clear hcell j1 j2 j3 HPE
  go_region_held3 (fun wx => wx.cell? ⟨rn, 0, none⟩ = some (.pointer (some ⟨rb, 0, none⟩)) ∧ wx.cell? ⟨rb, 4, none⟩ = some (.pointer (some ⟨rl, 0, none⟩)) ∧ Chg [rl] Y wx)
    ((refine ⟨?_, ?_, ?_⟩ <;> first | with_reducible assumption | (simp [go_sem, *]; done) | with_reducible exact (Chg.refl _ _).drew))
    (first | (go_at_call 226; (with_reducible refine Calls.mono (entsSize_any (HEY.out.nxt ⟨(Chg.refl _ _).drew⟩).sl (HEY.out.nxt ⟨(Chg.refl _ _).drew⟩).sz HSZ.out HPL.out) ?_); rintro e5 w5 ⟨rfl, hn5⟩; have hc5 : Chg [] Y w5 := ((Chg.refl _ _).drew).trans hn5.out; have k5 := hc5.at0 c0; have k54 := hc5.at0 d4; have hc5m := hc5.mono (L' := [rl]) (by simp)) | (go_at_call 239; (with_reducible refine Calls.mono (applyUns_any (HRWY.out.nxt ⟨hc5⟩)) ?_); rintro e6 w6 ⟨rfl, rfl⟩) | (go_at_call 306; (with_reducible refine Calls.mono (HA.out _ (RlAt.nxt HLAY.out ⟨hc5⟩)) ?_); rintro e7 w7 ⟨rfl, hl7, hc7⟩; have k7 := hc7.at_ k5 (by simpa using Ne.symm nrn); have k74 := hc7.at_ k54 (by simpa using Ne.symm nrl); have hc57 := hc5m.trans hc7))
  go_end0
  have hcT : Chg [rn, rb, rl] X w7 := (HCXY.out.mono (by simp)).trans (hc57.mono (by simp))
  have hmrl : rl ≠ mb := by have := HMB.out; omega
  have hsl : rl ≠ sb := by have := HSB.out; omega
  refine ⟨rfl, sb, k, mb, HRWY.out.chg hc57 (by simpa using Ne.symm nrn), RaftAt.chg HRAY.out hc57 (by simpa using Ne.symm nrl), hl7, ?_, HMGY.out.chg hc57 (by simpa using mrl) (by simpa using Ne.symm hmrl), by have := HMB.out; omega, (HCX.out.mono (by simp)).trans hcT⟩
  have z := own_chg HOWY.out hc57 (by simp; omega)
  obtain ⟨z1, z2⟩ := z
  refine ⟨z1, ?_⟩
  rcases z2 with ⟨z3, z4⟩ | ⟨g, cap, cur, z3, z4, z5⟩
  · cases z4
  · exact .inr ⟨g, cap, cur, z3, by omega, z5⟩
end
end Go.Proofs.YtalhhplphlobbaaGreat
namespace Go.Proofs.YtalhhplphlobbaaGreat
open Go.RowKit
theorem Ents.more' {M M' : List Nat} {w : World} {ps : List Value} {l : List Ent} (h : Ents M w ps l) (hM : ∀ x ∈ M', x ∈ M ∨ w.heap.size ≤ x) : Ents M' w ps l := h.more hM
theorem EntsZ.more {M M' : List Nat} {w : World} {v : Value} {l : List Ent} {ps : List Value} {ss : List Nat} (h : EntsZ M w v l ps ss) (hM : ∀ x ∈ M', x ∈ M ∨ w.heap.size ≤ x) : EntsZ M' w v l ps ss := ⟨h.sl.more hM, h.en.more hM, h.sz⟩
theorem ApMsg.more {M M' : List Nat} {w : World} {mb : Nat} {id : Int} {v : Value} (h : ApMsg M w mb id v) (hM : ∀ x ∈ M', x ∈ M ∨ w.heap.size ≤ x) : ApMsg M' w mb id v := by
  obtain ⟨p0, p1, p2, p3, hb, h0, h1, h2, h3⟩ := h.ex
  exact ⟨p0, p1, p2, p3, hb, h0.more hM, h1.more hM, h2.more hM, h3.more hM⟩
theorem Calm.more {M M' : List Nat} {w : World} {rn rb rl ms ss hs : Nat} {s : RaftS} {l : RLog} {hv sv ev : Value} {e : Ent} {r : List Ent} (h : Calm M w rn rb rl ms ss hs s l hv sv ev e r) (hM : ∀ x ∈ M', x ∈ M ∨ w.heap.size ≤ x) (hm : ms ∈ M') {w' : World} (hn : Nxt w w') (hl : ∀ x ∈ M', x < w'.heap.size) : Calm M' w' rn rb rl ms ss hs s l hv sv ev e r :=
  { h with rw_ := h.rw_.nxt hn, ra := h.ra.nxt hn, la := h.la.nxt hn, sa := h.sa.nxt hn, ha := (h.ha.more hM).chg (L := []) hn.out (by simp), st := StAt.nxt { h.st with mem := hm, ents := h.st.ents.more hM } hn, lt := hl }
theorem own_base {w : World} {b0 b1 : Nat} {e : TypeId} {size n : Nat} {v : Value} {xs : List Value} (h : w.ownsRow b1 e size v n xs) (hb : b0 ≤ b1) : w.ownsRow b0 e size v n xs := by
  obtain ⟨z1, z2⟩ := h
  refine ⟨z1, ?_⟩
  rcases z2 with z3 | ⟨g, cap, cur, z3, z4, z5⟩
  · exact .inl z3
  · exact .inr ⟨g, cap, cur, z3, by omega, z5⟩
theorem own_some {w : World} {b0 : Nat} {e : TypeId} {size n k sb : Nat} {xs : List Value} (h : w.ownsRow b0 e size (.slice (some ⟨sb, 0, none⟩) n k) n xs) : b0 ≤ sb ∧ sb < w.heap.size := own_lt h (g := sb) (by simp [rowL, Value.ownBlock])
/-- A node whose Ready was handed out: what was committed is to be applied, one step waits. -/
structure Rdz (M : List Nat) (W w : World) (rn rb rl ms ss hs : Nat) (s : RaftS) (l : RLog) (hv sv ev : Value) (e : Ent) (r : List Ent) (b o n : Nat) (q : List Ent) (ps : List Value) (zs : List Nat) (sb k mb : Nat) : Prop where
  rw_ : Blk w rn 276 #[.pointer (some ⟨rb, 0, none⟩), .bool false, .pointer (some ⟨ss, 0, none⟩), .pointer (some ⟨hs, 0, none⟩), .slice (some ⟨sb, 0, none⟩) 1 k]
  ra : RaftAt w rb s
  la : RlAt w rl ms { l with apg := l.com, asz := zs.sum, ps := false }
  ow : w.ownsRow W.heap.size 199 1 (.slice (some ⟨sb, 0, none⟩) 1 k) 1 [.pointer (some ⟨mb, 0, none⟩)]
  mg : ApMsg M w mb s.id (.slice (some ⟨b, o, none⟩) n n)
  mn : W.heap.size ≤ mb
  sa : Blk w ss 189 #[.int .u64 s.lead, .int .u64 s.state]
  ha : HardAt M w (.pointer (some ⟨hs, 0, none⟩)) s.term s.vote l.com
  st : StAt M w ms hv sv ev e r
  en : EntsZ M w (.slice (some ⟨b, o, none⟩) n n) q ps zs
  zz : zs.sum ≤ 1040 * n
structure Rdy (M : List Nat) (W w : World) (rn rb rl ms ss hs : Nat) (s : RaftS) (l : RLog) (hv sv ev : Value) (e : Ent) (r : List Ent) (b o n : Nat) (q : List Ent) (ps : List Value) (zs : List Nat) (sb k mb : Nat) : Prop where
  z : Rdz M W w rn rb rl ms ss hs s l hv sv ev e r b o n q ps zs sb k mb
  cg : Chg [rn, rb, rl, ms] W w
section
variable {M : List Nat} {W : World} {rn rb rl ms ss hs : Nat} {s : RaftS} {l : RLog} {hv sv ev : Value} {e : Ent} {r : List Ent}
set_option maxRecDepth 100000 in
set_option maxHeartbeats 4000000 in
theorem ready_calm (h : Calm M W rn rb rl ms ss hs s l hv sv ev e r) (a c : Nat) (ha : l.apg = e.i + a) (hc : l.com = e.i + c) (hac : a < c) (hcl : c ≤ r.length) (hrl : r.length ≤ 100000)
    (hf : ∀ x ∈ r, x.fits) (hd : ∀ x ∈ r, x.d.size ≤ 1000) (ha0 : l.asz = 0) (hmx : 2000 * (r.length : Int) < l.mx) (hm : l.mx < 2 ^ 64) (hcon : ∀ x, r[c - 1]? = some x → x.i = l.com)
    (mrn : rn ∈ M) (mrb : rb ∈ M) (mrl : rl ∈ M) :
    Calls Tryz.prog 176 #[.pointer (some ⟨rn, 0, none⟩)] W fun y w' => ∃ b o ps zs sb k mb, y = .returned (.agg #[.pointer none, .pointer none, .slice none 0 0, .slice none 0 0, .pointer none, .slice (some ⟨b, o, none⟩) (c - a) (c - a), .slice none 0 0, .bool false]) ∧ Rdy M W w' rn rb rl ms ss hs s l hv sv ev e r b o (c - a) ((r.take c).drop a) ps zs sb k mb := by
  have hX := Calm.more (M' := W.heap.size :: M) h (fun x hx => by rcases List.mem_cons.1 hx with rfl | hx; exact .inr (Nat.le_refl _); exact .inl hx) (.tail _ h.st.mem) (w' := W.alloc (.cells #[.pointer none, .pointer none, .slice none 0 0, .slice none 0 0, .pointer none, .slice none 0 0, .slice none 0 0, .bool false] 307)) ⟨(Chg.refl _ _).alloc _⟩ (fun x hx => by rcases List.mem_cons.1 hx with rfl | hx; simp; have := h.lt x hx; simp; omega)
  have hB := Blk.new W 307 #[.pointer none, .pointer none, .slice none 0 0, .slice none 0 0, .pointer none, .slice none 0 0, .slice none 0 0, .bool false]
  have HR := Lib.hid (readyWo_calm hX a c ha hc hac hcl hf hd (by omega) (by omega) hm)
  have hcX : Chg [] W (W.alloc (.cells #[.pointer none, .pointer none, .slice none 0 0, .slice none 0 0, .pointer none, .slice none 0 0, .slice none 0 0, .bool false] 307)) := (Chg.refl _ _).alloc _
  have HX := Lib.hid hX
  have HB := Lib.hid hB
  have H := Lib.hid h
  have HCX := Lib.hid hcX
  have hmem : ∀ x ∈ (r.take c).drop a, x ∈ r := fun x hx => List.mem_of_mem_take (List.mem_of_mem_drop hx)
  have HF := Lib.hid (fun x hx => hf x (hmem x hx))
  have HD := Lib.hid (fun x hx => hd x (hmem x hx))
  have HLEN := Lib.hid (show ((r.take c).drop a).length = c - a by simp; omega)
  have HLAST := Lib.hid (show ∃ x, ((r.take c).drop a)[c - a - 1]? = some x ∧ x.i = l.com from by
    refine ⟨r[c - 1], ?_, hcon _ (List.getElem?_eq_getElem (by omega))⟩
    rw [List.getElem?_drop, List.getElem?_take, if_pos (by omega), show a + (c - a - 1) = c - 1 by omega]
    exact List.getElem?_eq_getElem (by omega))
  have HA0 := Lib.hid ha0
  clear h hX hB ha hc hf hd hmem hcon ha0 hcX
  go_enter Tryz.func176, Tryz.ntmps176
  go_wp2_with (first | (go_at_call 240; (with_reducible refine Calls.mono (HR.out) ?_); rintro e w1 ⟨b, o, rfl, he1, hk1⟩))
  have hk2 := hk1.alloc (.cells #[.pointer none, .pointer none, .slice none 0 0, .slice none 0 0, .pointer none, .slice (some ⟨b, o, none⟩) (c - a) (c - a), .slice none 0 0, .bool false] 307)
  have hZ := HX.out.ks hk2
  obtain ⟨ps, zs, hEZ, hzs⟩ := he1.z HF.out HD.out
  rw [HLEN.out] at hzs
  have hEZ2 := hEZ.nxt (⟨(Chg.refl _ _).alloc (.cells #[.pointer none, .pointer none, .slice none 0 0, .slice none 0 0, .pointer none, .slice (some ⟨b, o, none⟩) (c - a) (c - a), .slice none 0 0, .bool false] 307)⟩ : Nxt w1 (w1.alloc (.cells #[.pointer none, .pointer none, .slice none 0 0, .slice none 0 0, .pointer none, .slice (some ⟨b, o, none⟩) (c - a) (c - a), .slice none 0 0, .bool false] 307)))
  have hB3 := Blk.new w1 307 #[.pointer none, .pointer none, .slice none 0 0, .slice none 0 0, .pointer none, .slice (some ⟨b, o, none⟩) (c - a) (c - a), .slice none 0 0, .bool false]
  have hms : W.heap.size ≠ ms := by have := H.out.st.lt; omega
  have hrn' := H.out.lt _ mrn
  have hrb' := H.out.lt _ mrb
  have hrl' := H.out.lt _ mrl
  have hB2 := HB.out.chg hk2.chg (by simpa using hms)
  have hz1 := hk1.chg.size
  have hcZ : Chg [ms] W _ := (HCX.out.mono (by simp)).trans hk2.chg
  generalize hZe : w1.alloc (.cells #[.pointer none, .pointer none, .slice none 0 0, .slice none 0 0, .pointer none, .slice (some ⟨b, o, none⟩) (c - a) (c - a), .slice none 0 0, .bool false] 307) = Z at hZ hEZ2 hB3 hB2 hcZ ⊢
  have zZ := hB3.lt
  simp at hz1
  have n31 : w1.heap.size ≠ W.heap.size := by omega
  have HAR := Lib.hid (acceptReady_calm hZ hEZ2 (by omega) (by omega) (by omega) HLAST.out HA0.out (by omega) hm (.tail _ mrn) (.tail _ mrb) (.tail _ mrl))
  have hmrb : rb ≠ W.heap.size ∧ rn ≠ W.heap.size ∧ rl ≠ W.heap.size ∧ rb ≠ w1.heap.size ∧ rn ≠ w1.heap.size ∧ rl ≠ w1.heap.size := by omega
  have hWZ : W.heap.size < Z.heap.size := by omega
  have HZ := Lib.hid hZ
  have HEZ := Lib.hid hEZ2
  have HB3 := Lib.hid hB3
  have HB2 := Lib.hid hB2
  have HCZ := Lib.hid hcZ
  have HZS := Lib.hid hzs
  clear hZe he1 hk1 hk2 hZ hEZ hEZ2 hB3 hB2 hcZ hzs
  go_wp2_with (first | (go_at_call 241; (with_reducible refine Calls.mono (HAR.out) ?_); rintro e w2 ⟨rfl, sb, k, mb, hacc⟩; have g3 := HB3.out.chg hacc.cg (by simp; omega); have g2 := HB2.out.chg hacc.cg (by simp; omega); have g30 := g3.cell 0; have g31 := g3.cell 1; have g32 := g3.cell 2; have g33 := g3.cell 3; have g34 := g3.cell 4; have g35 := g3.cell 5; have g36 := g3.cell 6; have g37 := g3.cell 7; have g20 := g2.cell 0; have g21 := g2.cell 1; have g22 := g2.cell 2; have g23 := g2.cell 3; have g24 := g2.cell 4; have g25 := g2.cell 5; have g26 := g2.cell 6; have g27 := g2.cell 7; simp at g30 g31 g32 g33 g34 g35 g36 g37 g20 g21 g22 g23 g24 g25 g26 g27; have g2f := g2.frozen; have HACC := Lib.hid hacc; clear hacc g2 g3))
  have hcF : Chg [W.heap.size] w2 ((((((((w2.setCell { block := W.heap.size, off := 0 } (Value.pointer none)).setCell { block := W.heap.size, off := 1 } (Value.pointer none)).setCell { block := W.heap.size, off := 2 } (Value.slice none 0 0)).setCell { block := W.heap.size, off := 3 } (Value.slice none 0 0)).setCell { block := W.heap.size, off := 4 } (Value.pointer none)).setCell { block := W.heap.size, off := 5 } (Value.slice (some { block := b, off := o }) (c - a) (c - a))).setCell { block := W.heap.size, off := 6 } (Value.slice none 0 0)).setCell { block := W.heap.size, off := 7 } (Value.bool false)) := by (focus (first | with_reducible assumption | ((repeat (first | with_reducible exact Chg.refl _ _ | with_reducible assumption | with_reducible refine Chg.drew ?_ | with_reducible refine Chg.alloc ?_ _ | with_reducible refine Chg.setCell ?_ (by simp) _ | with_reducible refine Chg.nxt ?_ (by assumption))); done)))
  have hac2 := HACC.out
  obtain ⟨os1, os2⟩ := own_some hac2.ow
  have hmn := hac2.mn
  have hcW : Chg [rn, rb, rl, ms] W w2 := (HCZ.out.mono (by simp)).trans (hac2.cg.mono (by simp))
  have hMM : ∀ x ∈ M, x ∈ W.heap.size :: M ∨ w2.heap.size ≤ x := fun x hx => .inl (.tail _ hx)
  have hLM : ∀ x ∈ [rn, rb, rl], x ∈ W.heap.size :: M := by simp [mrn, mrb, mrl]
  have nss := Blk.ne HZ.out.rw_ HZ.out.sa (by decide)
  have nss2 := Blk.ne HZ.out.ra HZ.out.sa (by decide)
  have nss3 := Blk.ne HZ.out.la HZ.out.sa (by decide)
  have nms1 := HZ.out.rw_.nms HZ.out.st.at_ (by decide)
  have nms2 := Blk.nms HZ.out.ra HZ.out.st.at_ (by decide)
  have nms3 := Blk.nms HZ.out.la HZ.out.st.at_ (by decide)
  have hssW : ss < W.heap.size := H.out.sa.lt
  have hmsW := H.out.st.lt
  have hmm2 : ∀ x ∈ M, x ∈ W.heap.size :: M ∨ (((((((((w2.setCell { block := W.heap.size, off := 0 } (Value.pointer none)).setCell { block := W.heap.size, off := 1 } (Value.pointer none)).setCell { block := W.heap.size, off := 2 } (Value.slice none 0 0)).setCell { block := W.heap.size, off := 3 } (Value.slice none 0 0)).setCell { block := W.heap.size, off := 4 } (Value.pointer none)).setCell { block := W.heap.size, off := 5 } (Value.slice (some { block := b, off := o }) (c - a) (c - a))).setCell { block := W.heap.size, off := 6 } (Value.slice none 0 0)).setCell { block := W.heap.size, off := 7 } (Value.bool false)).heap.size ≤ x) := fun x hx => .inl (.tail _ hx)
  refine bodyPost_ret (v := .agg #[.pointer none, .pointer none, .slice none 0 0, .slice none 0 0, .pointer none, .slice (some ⟨b, o, none⟩) (c - a) (c - a), .slice none 0 0, .bool false]) (by simp [results, Tryz.results176, go_sem, g20, g21, g22, g23, g24, g25, g26, g27]) rfl ⟨b, o, ps, zs, sb, k, mb, rfl, ?_⟩
  have st2 : StAt (W.heap.size :: M) w2 ms hv sv ev e r := HZ.out.st.chg hac2.cg hLM (by simp; omega)
  have st3 : StAt (W.heap.size :: M) _ ms hv sv ev e r := st2.chg hcF (by simp) (by simp; omega)
  exact ⟨⟨hac2.rw_.chg hcF (by simp; omega), RaftAt.chg hac2.ra hcF (by simp; omega), RlAt.chg hac2.la hcF (by simp; omega), own_base (own_chg hac2.ow hcF (by simp; omega)) (by omega), (hac2.mg.chg hcF (by simp) (by simp; omega)).more hmm2, by omega,
    (HZ.out.sa.chg hac2.cg (by simp; omega)).chg hcF (by simp; omega), ((HZ.out.ha.chg hac2.cg hLM).chg hcF (by simp)).more hmm2, { st3 with mem := H.out.st.mem, ents := st3.ents.more hmm2 }, (((HEZ.out.chg hac2.cg hLM).chg hcF (by simp)).more hmm2), by have := HZS.out; omega⟩, hcW.then hcF (by simp)⟩
end
end Go.Proofs.YtalhhplphlobbaaGreat
