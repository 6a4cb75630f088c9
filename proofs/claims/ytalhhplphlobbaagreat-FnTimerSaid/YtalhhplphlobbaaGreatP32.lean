/- The driver's ready, where there is something to apply. Conditions: a node at rest. -/
import Derived.Test.YtalhhplphlobbaaGreatP31
set_option linter.unusedVariables false
set_option linter.unusedSimpArgs false
namespace Go.Proofs.YtalhhplphlobbaaGreat
open Go.RowKit
/-- What is said of a Ready that only has entries to apply. -/
def saidR (v u : Value) : SaidS := { said0 with has := true, com := v, log := u }
theorem saidR_ok (A1 A2 : Option Addr) (n1 n2 c1 c2 : Nat) : (saidR (.slice A1 n1 c1) (.slice A2 n2 c2)).ok := by
  intro v hv
  simp only [saidR, said0, SaidS.list, List.mem_cons, List.not_mem_nil, or_false] at hv
  rcases hv with rfl | rfl | rfl | rfl | rfl | rfl | rfl | rfl | rfl | rfl | rfl | rfl | rfl | rfl | rfl | rfl | rfl | rfl | rfl | rfl | rfl | rfl | rfl | rfl | rfl | rfl | rfl | rfl | rfl | rfl | rfl | rfl | rfl <;> rfl
set_option maxRecDepth 100000 in
set_option maxHeartbeats 8000000 in
theorem ready1_any {M : List Nat} {W : World} {nb rn rb rl ms ss hs : Nat} {S : SinS} {s : RaftS} {l : RLog} {hv sv ev : Value} {e : Ent} {r : List Ent} (hS : SinAt W nb S) (hsr : S.rn = .pointer (some ⟨rn, 0, none⟩)) (hst : S.st = .pointer (some ⟨ms, 0, none⟩)) (h : Calm M W rn rb rl ms ss hs s l hv sv ev e r) (a c : Nat) (ha : l.apg = e.i + a) (hc : l.com = e.i + c) (hap : S.ap = l.apg) (had : l.apd ≤ l.com) (hac : a < c) (hcl : c ≤ r.length) (hrl : r.length ≤ 100000)
    (hf : ∀ x ∈ r, x.fits) (hd : ∀ x ∈ r, x.d.size ≤ 1000) (ha0 : l.asz = 0) (hmx : 2000 * (r.length : Int) < l.mx) (hm : l.mx < 2 ^ 64) (hrow : ∀ (j : Nat) x, r[j]? = some x → x.i = e.i + j + 1) (hau : s.auto = false) (hu : s.unc = 0)
    (mnb : nb ∈ M) (mrn : rn ∈ M) (mrb : rb ∈ M) (mrl : rl ∈ M) :
    Calls Tryz.prog 114 #[.pointer (some ⟨nb, 0, none⟩)] W fun y w' => ∃ A1 n1 c1 A2 n2 c2 sb k, y = .returned (.agg (saidR (.slice A1 n1 c1) (.slice A2 n2 c2)).list.toArray) ∧ w'.ownsRow W.heap.size 65 4 (.slice A1 n1 c1) (c - a) (ECells ((r.take c).drop a)) ∧ w'.ownsRow W.heap.size 65 4 (.slice A2 n2 c2) r.length (ECells r) ∧
      SinAt w' nb { S with ap := l.com } ∧ Blk w' rn 276 #[.pointer (some ⟨rb, 0, none⟩), .bool false, .pointer (some ⟨ss, 0, none⟩), .pointer (some ⟨hs, 0, none⟩), .slice (some ⟨sb, 0, none⟩) 0 k] ∧ RaftAt w' rb s ∧ RlAt w' rl ms { l with apd := l.com, apg := l.com, asz := 0, ps := false } ∧ MsAt w' ms hv sv ev ∧ Chg [nb, rn, rb, rl, ms] W w' := by
  obtain ⟨FX, hFX⟩ : ∃ FX, FX = said0.list := ⟨_, rfl⟩
  have m27 : W.cell? ⟨nb, 27, none⟩ = some (.pointer (some ⟨rn, 0, none⟩)) := (SinAt.cell hS 27 S.rn rfl).trans (by rw [hsr])
  have nl := Blk.lt hS
  have i0 := h.st.i0
  have i2 := h.st.i1
  have i1 := h.ce
  have hlt := h.lt
  have HRDY := Lib.hid (fun (w : World) (hk : Calm (W.heap.size :: (W.heap.size + 1) :: M) w rn rb rl ms ss hs s l hv sv ev e r) => hasReady_any (M := W.heap.size :: (W.heap.size + 1) :: M) hk.rw_ hk.ra hk.hrl hk.la hk.calm hk.oip hk.ps ⟨by omega, by omega⟩ ⟨by omega, by omega⟩ hk.tm hk.sa hk.ha hk.lt hk.m1 hk.m2 hk.m3)
  have hdt : decide (l.apg < l.com) = true := by simp; omega
  rw [hdt] at HRDY
  have HGO := Lib.hid (fun (w : World) (hk : Calm (W.heap.size :: (W.heap.size + 1) :: M) w rn rb rl ms ss hs s l hv sv ev e r) => ready_calm hk a c ha hc hac hcl hrl hf hd ha0 hmx hm (fun x hx => by rw [hrow _ x hx, hc]; omega) (.tail _ (.tail _ mrn)) (.tail _ (.tail _ mrb)) (.tail _ (.tail _ mrl)))
  obtain ⟨n, hn⟩ : ∃ n, n = c - a := ⟨_, rfl⟩
  obtain ⟨q, hq⟩ : ∃ q, q = (r.take c).drop a := ⟨_, rfl⟩
  rw [← hn, ← hq] at HGO ⊢
  have hn0 : 0 < n := by omega
  have hn1 : n ≤ 100000 := by omega
  have HQL := Lib.hid (show q.length = n by rw [hq]; simp; omega)
  have HQR := Lib.hid (show ∀ (j : Nat) x, q[j]? = some x → x.i = S.ap + j + 1 from fun j x hx => by
    rw [hq, List.getElem?_drop, List.getElem?_take] at hx
    split at hx
    · rw [hrow _ x hx, hap, ha]; omega
    · cases hx)
  have HQC := Lib.hid (show S.ap + n = l.com by rw [hap, ha, hc]; omega)
  have HQD := Lib.hid (show ∀ x ∈ q, x.d.size ≤ 1000000 from fun x hx => by have := hd x (by rw [hq] at hx; exact List.mem_of_mem_take (List.mem_of_mem_drop hx)); omega)
  have hmx0 : 0 < l.mx := by omega
  have HF := Lib.hid hf
  have HD := Lib.hid hd
  have H := Lib.hid h
  have HS := Lib.hid hS
  have HST := Lib.hid hst
  have HSR := Lib.hid hsr
  have HN := Lib.hid hn
  have HFX := Lib.hid hFX
  clear hS hsr hst h hac hcl hf hd ha0 hmx hm hrow hdt hn hq ha hc hap hFX i0 i1 i2
  go_enter Tryz.func114, Tryz.ntmps114
  go_upto_region 2 with fail
  have hb2 : Blk ((W.alloc (.cells #[.int .i64 0, .bool false, .int .i64 0, .int .u64 0, .int .u64 0, .int .u64 0, .int .u64 0, .int .u64 0, .int .u64 0, .slice none 0 0, .slice none 0 0, .slice none 0 0, .slice none 0 0, .bool false, .bool false, .bool false, .int .u64 0, .int .u64 0, .int .u64 0, .slice none 0 0, .string ⟨#[]⟩, .int .u64 0, .int .u64 0, .slice none 0 0, .slice none 0 0, .slice none 0 0, .slice none 0 0, .bool false, .slice none 0 0, .slice none 0 0, .slice none 0 0, .bool false, .slice none 0 0] 48)).alloc (.cells #[.int .i64 0, .bool false, .int .i64 0, .int .u64 0, .int .u64 0, .int .u64 0, .int .u64 0, .int .u64 0, .int .u64 0, .slice none 0 0, .slice none 0 0, .slice none 0 0, .slice none 0 0, .bool false, .bool false, .bool false, .int .u64 0, .int .u64 0, .int .u64 0, .slice none 0 0, .string ⟨#[]⟩, .int .u64 0, .int .u64 0, .slice none 0 0, .slice none 0 0, .slice none 0 0, .slice none 0 0, .bool false, .slice none 0 0, .slice none 0 0, .slice none 0 0, .bool false, .slice none 0 0] 48)) W.heap.size 48 FX.toArray := by
    rw [HFX.out]
    exact (Blk.new W 48 #[.int .i64 0, .bool false, .int .i64 0, .int .u64 0, .int .u64 0, .int .u64 0, .int .u64 0, .int .u64 0, .int .u64 0, .slice none 0 0, .slice none 0 0, .slice none 0 0, .slice none 0 0, .bool false, .bool false, .bool false, .int .u64 0, .int .u64 0, .int .u64 0, .slice none 0 0, .string ⟨#[]⟩, .int .u64 0, .int .u64 0, .slice none 0 0, .slice none 0 0, .slice none 0 0, .slice none 0 0, .bool false, .slice none 0 0, .slice none 0 0, .slice none 0 0, .bool false, .slice none 0 0]).alloc _
  have hb3 : Blk ((W.alloc (.cells #[.int .i64 0, .bool false, .int .i64 0, .int .u64 0, .int .u64 0, .int .u64 0, .int .u64 0, .int .u64 0, .int .u64 0, .slice none 0 0, .slice none 0 0, .slice none 0 0, .slice none 0 0, .bool false, .bool false, .bool false, .int .u64 0, .int .u64 0, .int .u64 0, .slice none 0 0, .string ⟨#[]⟩, .int .u64 0, .int .u64 0, .slice none 0 0, .slice none 0 0, .slice none 0 0, .slice none 0 0, .bool false, .slice none 0 0, .slice none 0 0, .slice none 0 0, .bool false, .slice none 0 0] 48)).alloc (.cells #[.int .i64 0, .bool false, .int .i64 0, .int .u64 0, .int .u64 0, .int .u64 0, .int .u64 0, .int .u64 0, .int .u64 0, .slice none 0 0, .slice none 0 0, .slice none 0 0, .slice none 0 0, .bool false, .bool false, .bool false, .int .u64 0, .int .u64 0, .int .u64 0, .slice none 0 0, .string ⟨#[]⟩, .int .u64 0, .int .u64 0, .slice none 0 0, .slice none 0 0, .slice none 0 0, .slice none 0 0, .bool false, .slice none 0 0, .slice none 0 0, .slice none 0 0, .bool false, .slice none 0 0] 48)) (W.heap.size + 1) 48 FX.toArray := by
    rw [HFX.out]
    exact Blk.newAt (by simp)
  have hz : ((W.alloc (.cells #[.int .i64 0, .bool false, .int .i64 0, .int .u64 0, .int .u64 0, .int .u64 0, .int .u64 0, .int .u64 0, .int .u64 0, .slice none 0 0, .slice none 0 0, .slice none 0 0, .slice none 0 0, .bool false, .bool false, .bool false, .int .u64 0, .int .u64 0, .int .u64 0, .slice none 0 0, .string ⟨#[]⟩, .int .u64 0, .int .u64 0, .slice none 0 0, .slice none 0 0, .slice none 0 0, .slice none 0 0, .bool false, .slice none 0 0, .slice none 0 0, .slice none 0 0, .bool false, .slice none 0 0] 48)).alloc (.cells #[.int .i64 0, .bool false, .int .i64 0, .int .u64 0, .int .u64 0, .int .u64 0, .int .u64 0, .int .u64 0, .int .u64 0, .slice none 0 0, .slice none 0 0, .slice none 0 0, .slice none 0 0, .bool false, .bool false, .bool false, .int .u64 0, .int .u64 0, .int .u64 0, .slice none 0 0, .string ⟨#[]⟩, .int .u64 0, .int .u64 0, .slice none 0 0, .slice none 0 0, .slice none 0 0, .slice none 0 0, .bool false, .slice none 0 0, .slice none 0 0, .slice none 0 0, .bool false, .slice none 0 0] 48)).heap.size = W.heap.size + 2 := by simp
  have hX1 : Nxt W ((W.alloc (.cells #[.int .i64 0, .bool false, .int .i64 0, .int .u64 0, .int .u64 0, .int .u64 0, .int .u64 0, .int .u64 0, .int .u64 0, .slice none 0 0, .slice none 0 0, .slice none 0 0, .slice none 0 0, .bool false, .bool false, .bool false, .int .u64 0, .int .u64 0, .int .u64 0, .slice none 0 0, .string ⟨#[]⟩, .int .u64 0, .int .u64 0, .slice none 0 0, .slice none 0 0, .slice none 0 0, .slice none 0 0, .bool false, .slice none 0 0, .slice none 0 0, .slice none 0 0, .bool false, .slice none 0 0] 48)).alloc (.cells #[.int .i64 0, .bool false, .int .i64 0, .int .u64 0, .int .u64 0, .int .u64 0, .int .u64 0, .int .u64 0, .int .u64 0, .slice none 0 0, .slice none 0 0, .slice none 0 0, .slice none 0 0, .bool false, .bool false, .bool false, .int .u64 0, .int .u64 0, .int .u64 0, .slice none 0 0, .string ⟨#[]⟩, .int .u64 0, .int .u64 0, .slice none 0 0, .slice none 0 0, .slice none 0 0, .slice none 0 0, .bool false, .slice none 0 0, .slice none 0 0, .slice none 0 0, .bool false, .slice none 0 0] 48)) := ⟨((Chg.refl _ _).alloc _).alloc _⟩
  generalize hXe : (W.alloc (.cells #[.int .i64 0, .bool false, .int .i64 0, .int .u64 0, .int .u64 0, .int .u64 0, .int .u64 0, .int .u64 0, .int .u64 0, .slice none 0 0, .slice none 0 0, .slice none 0 0, .slice none 0 0, .bool false, .bool false, .bool false, .int .u64 0, .int .u64 0, .int .u64 0, .slice none 0 0, .string ⟨#[]⟩, .int .u64 0, .int .u64 0, .slice none 0 0, .slice none 0 0, .slice none 0 0, .slice none 0 0, .bool false, .slice none 0 0, .slice none 0 0, .slice none 0 0, .bool false, .slice none 0 0] 48)).alloc (.cells #[.int .i64 0, .bool false, .int .i64 0, .int .u64 0, .int .u64 0, .int .u64 0, .int .u64 0, .int .u64 0, .int .u64 0, .slice none 0 0, .slice none 0 0, .slice none 0 0, .slice none 0 0, .bool false, .bool false, .bool false, .int .u64 0, .int .u64 0, .int .u64 0, .slice none 0 0, .string ⟨#[]⟩, .int .u64 0, .int .u64 0, .slice none 0 0, .slice none 0 0, .slice none 0 0, .slice none 0 0, .bool false, .slice none 0 0, .slice none 0 0, .slice none 0 0, .bool false, .slice none 0 0] 48) = X at hb2 hb3 hX1 hz ⊢
  clear hXe
  have HCX := Lib.hid (Calm.more (M' := W.heap.size :: (W.heap.size + 1) :: M) H.out (fun x hx => by
    simp only [List.mem_cons] at hx
    rcases hx with rfl | rfl | hx
    · exact .inr (Nat.le_refl _)
    · exact .inr (by omega)
    · exact .inl hx) (.tail _ (.tail _ H.out.st.mem)) hX1 (fun x hx => by
    simp only [List.mem_cons] at hx
    rcases hx with rfl | rfl | hx
    · omega
    · omega
    · have := hlt x hx; omega))
  have HSX := Lib.hid (HS.out.nxt hX1)
  obtain ⟨t2, ht2⟩ : ∃ t2, t2 = W.heap.size := ⟨_, rfl⟩
  obtain ⟨t3, ht3⟩ : ∃ t3, t3 = W.heap.size + 1 := ⟨_, rfl⟩
  rw [← ht3] at hb3 HCX HGO HRDY ⊢
  rw [← ht2] at hb2 HCX HGO HRDY ⊢
  have k27 := hX1.out.at0 m27
  have k28 : X.cell? ⟨nb, 28, none⟩ = some (.pointer (some ⟨ms, 0, none⟩)) := (SinAt.cell HSX.out 28 S.st rfl).trans (by rw [HST.out])
  have HT2 := Lib.hid ht2
  have HT3 := Lib.hid ht3
  have HX := Lib.hid hX1
  have HB2 := Lib.hid hb2
  have HB3 := Lib.hid hb3
  have HZX := Lib.hid hz
  obtain ⟨M1, hM1⟩ : ∃ M1, M1 = t2 :: t3 :: M := ⟨_, rfl⟩
  rw [← hM1] at HCX HGO HRDY
  have HM1 := Lib.hid hM1
  clear hX1 hb2 hb3 m27 ht2 ht3 hz hM1
  go_upto_region 5 with (first | (go_at_call 175; (with_reducible refine Calls.mono (HRDY.out _ HCX.out) ?_); rintro e1 w1 ⟨rfl, hn1⟩; have HC1 := Lib.hid (HCX.out.chg (hn1.out.mono (by simp)) (HCX.out.st.at_.chg hn1.out (by simp))); have d27 := hn1.out.at0 k27; have HN1 := Lib.hid hn1; clear hn1) | (go_at_call 176; (with_reducible refine Calls.mono (HGO.out _ HC1.out) ?_); rintro e2 w2 ⟨b, o, ps, zs, sb, k, mb, rfl, hr2⟩; have HR2 := Lib.hid hr2; clear hr2))
  have hr2 := HR2.out
  have hnC := HC1.out.rw_
  have hz2 := hr2.cg.size
  have hzX := HZX.out
  have hz1 := HN1.out.out.size
  have nmn : t3 ∉ [rn, rb, rl, ms] ∧ t2 ∉ [rn, rb, rl, ms] := by
    have a1 := H.out.rw_.lt
    have a2 := Blk.lt H.out.ra
    have a3 := Blk.lt H.out.la
    have a4 := H.out.st.lt
    have b2 := HT2.out
    have b3 := HT3.out
    simp only [List.mem_cons, List.not_mem_nil, or_false]
    omega
  have hbA := ((HB3.out.nxt HN1.out).chg hr2.cg nmn.1).nxt (⟨(Chg.refl _ _).alloc (.cells #[.pointer none, .pointer none, .slice none 0 0, .slice none 0 0, .pointer none, .slice (some ⟨b, o, none⟩) n n, .slice none 0 0, .bool false] 307)⟩ : Nxt w2 (w2.alloc (.cells #[.pointer none, .pointer none, .slice none 0 0, .slice none 0 0, .pointer none, .slice (some ⟨b, o, none⟩) n n, .slice none 0 0, .bool false] 307)))
  have hbR := ((HB2.out.nxt HN1.out).chg hr2.cg nmn.2).nxt (⟨(Chg.refl _ _).alloc (.cells #[.pointer none, .pointer none, .slice none 0 0, .slice none 0 0, .pointer none, .slice (some ⟨b, o, none⟩) n n, .slice none 0 0, .bool false] 307)⟩ : Nxt w2 (w2.alloc (.cells #[.pointer none, .pointer none, .slice none 0 0, .slice none 0 0, .pointer none, .slice (some ⟨b, o, none⟩) n n, .slice none 0 0, .bool false] 307)))
  have hb4 := Blk.new w2 307 #[.pointer none, .pointer none, .slice none 0 0, .slice none 0 0, .pointer none, .slice (some ⟨b, o, none⟩) n n, .slice none 0 0, .bool false]
  have hnY : Nxt w2 (w2.alloc (.cells #[.pointer none, .pointer none, .slice none 0 0, .slice none 0 0, .pointer none, .slice (some ⟨b, o, none⟩) n n, .slice none 0 0, .bool false] 307)) := ⟨(Chg.refl _ _).alloc _⟩
  obtain ⟨t4, ht4⟩ : ∃ t4, t4 = w2.heap.size := ⟨_, rfl⟩
  rw [← ht4] at hb4 ⊢
  generalize hYe : w2.alloc (.cells #[.pointer none, .pointer none, .slice none 0 0, .slice none 0 0, .pointer none, .slice (some ⟨b, o, none⟩) n n, .slice none 0 0, .bool false] 307) = Y at hbA hbR hb4 hnY ⊢
  clear hYe
  have HT4 := Lib.hid ht4
  have n34 : t3 ≠ t4 := by have := HT3.out; omega
  have n24 : t2 ≠ t4 := by have := HT2.out; omega
  have n43 := Ne.symm n34
  have g0 := (hb4).cell 0; have g1 := (hb4).cell 1; have g2 := (hb4).cell 2; have g3 := (hb4).cell 3; have g4 := (hb4).cell 4; have g5 := (hb4).cell 5; have g6 := (hb4).cell 6; have g7 := (hb4).cell 7; simp at g0 g1 g2 g3 g4 g5 g6 g7; have gf := (hb4).frozen; have gl := (hb4).lt
  have c14 := hbA.cell 14
  have c31 := hbA.cell 31
  have cf := hbA.frozen
  have cl := hbA.lt
  rw [HFX.out] at c14 c31
  simp [said0, SaidS.list] at c14 c31
  have HBA := Lib.hid hbA
  have HBR := Lib.hid hbR
  have HB4 := Lib.hid hb4
  have HNY := Lib.hid hnY
  have HNM := Lib.hid nmn
  clear hbA hbR hb4 hnY ht4 hr2 hnC hz2 hzX hz1 nmn k27 k28 d27
  go_region_held3 (fun wx => wx.cell? ⟨t4, 7, none⟩ = some (.bool false) ∧ (wx.cell? ⟨t3, 14, none⟩).isSome = true ∧ (wx.cell? ⟨t3, 31, none⟩).isSome = true) ((repeat' apply And.intro) <;> (first | with_reducible assumption | (simp [go_sem, *]; done))) (fail)
  have hcV : Chg [t3] Y (((Y.setCell { block := t3, off := 14 } (Value.bool true)).setCell { block := t3, off := 31 } (Value.bool false)).drew) := (((Chg.refl _ _).setCell (.inr (by simp)) _).setCell (.inr (by simp)) _).drew
  have hbV : Blk (((Y.setCell { block := t3, off := 14 } (Value.bool true)).setCell { block := t3, off := 31 } (Value.bool false)).drew) t3 48 (SaidS.list { said0 with has := true }).toArray := by
    have z := ((HBA.out.set_ 14 (.bool true)).set_ 31 (.bool false)).drew
    rw [HFX.out] at z
    simpa [said0, SaidS.list] using z
  generalize hVe : (((Y.setCell { block := t3, off := 14 } (Value.bool true)).setCell { block := t3, off := 31 } (Value.bool false)).drew) = V at hcV hbV ⊢
  clear hVe g0 g1 g2 g3 g4 g5 g6 g7 gf gl c14 c31 cf cl
  have HVZ := Lib.hid (show w2.heap.size ≤ V.heap.size from Nat.le_trans HNY.out.out.size hcV.size)
  have hb4V := HB4.out.chg hcV (by simpa using n43)
  have hbRV := HBR.out.chg hcV (by have := HT2.out; have := HT3.out; simp; omega)
  have hmV : t3 ∈ M1 := by rw [HM1.out]; simp
  have ht3w : t3 < w1.heap.size := (HB3.out.nxt HN1.out).lt
  have hss : ss < w1.heap.size := HC1.out.sa.lt
  have hzV : Rdz M1 w1 V rn rb rl ms ss hs s l hv sv ev e r b o n q ps zs sb k mb := by
    have nm := HNM.out.1
    simp only [List.mem_cons, List.not_mem_nil, or_false] at nm
    have hs3 : ss ≠ t3 := by have := H.out.sa.lt; have := HT3.out; omega
    exact HR2.out.z.chg (L := [t3]) ((HNY.out.out.mono (by simp)).trans hcV) (by simpa using hmV) (by simpa using ht3w) (by simp; omega) (by simp; omega) (by simp; omega) (by simp; omega) (by simpa using hs3)
  have hcgV : Chg [rn, rb, rl, ms] W V := by
    have x1 := (HX.out.out.trans HN1.out.out).mono (L' := [rn, rb, rl, ms]) (by simp)
    exact ((x1.trans HR2.out.cg).nxt HNY.out).then hcV (by have := HT3.out; simp; omega)
  have g0 := (hb4V).cell 0; have g1 := (hb4V).cell 1; have g2 := (hb4V).cell 2; have g3 := (hb4V).cell 3; have g4 := (hb4V).cell 4; have g5 := (hb4V).cell 5; have g6 := (hb4V).cell 6; have g7 := (hb4V).cell 7; simp at g0 g1 g2 g3 g4 g5 g6 g7; have gf := (hb4V).frozen; have gl := (hb4V).lt
  have c19 := hbV.cell 19
  have c20 := hbV.cell 20
  have c21 := hbV.cell 21
  have c22 := hbV.cell 22
  have c23 := hbV.cell 23
  have c24 := hbV.cell 24
  have c25 := hbV.cell 25
  have c26 := hbV.cell 26
  have c27 := hbV.cell 27
  have c28 := hbV.cell 28
  have c29 := hbV.cell 29
  simp [said0, SaidS.list] at c19 c20 c21 c22 c23 c24 c25 c26 c27 c28 c29
  have HBV := Lib.hid hbV
  have HB4V := Lib.hid hb4V
  have HBRV := Lib.hid hbRV
  have HZV := Lib.hid hzV
  have HCGV := Lib.hid hcgV
  have HQN := Lib.hid (show q.length ≤ 100000 by have := HQL.out; omega)
  clear hcV hbV hb4V hbRV hzV hcgV HBA HBR HB4 HNY
  go_upto_region 6 with fail
  go_region_held3 (fun wx => wx.cell? ⟨t4, 3, none⟩ = some (.slice none 0 0) ∧ wx.cell? ⟨t4, 4, none⟩ = some (.pointer none) ∧ wx.cell? ⟨t4, 5, none⟩ = some (.slice (some ⟨b, o, none⟩) n n) ∧ wx.cell? ⟨t4, 6, none⟩ = some (.slice none 0 0) ∧ Chg [t3] V wx)
    ((refine ⟨?_, ?_, ?_, ?_, ?_⟩ <;> first | with_reducible assumption | (simp [go_sem, *]; done) | ((repeat (first | with_reducible assumption | with_reducible exact Chg.refl _ _ | with_reducible refine Chg.drew ?_ | with_reducible refine Chg.setCell ?_ (by simp) _)); done)))
    (first | (go_at_call 177; (with_reducible refine Calls.mono (entriesFrom_nil _) ?_); rintro e1 w' ⟨rfl, rfl⟩) | (go_at_call 178; (with_reducible refine Calls.mono (snapFrom_nil _) ?_); rintro e1 w5 ⟨rfl, hn5⟩; have hc5 : Chg [] V w5 := (Chg.refl [] V).drew.trans hn5.out; have hc5m := hc5.mono (L' := [t3]) (by simp); have p3 := hc5.at0 g3; have p4 := hc5.at0 g4; have p5 := hc5.at0 g5; have p6 := hc5.at0 g6) | (go_at_call 177; (with_reducible refine Calls.mono (entriesFrom_any (HZV.out.en.nxt ⟨hc5⟩).at_ HQN.out) ?_); rintro e1 w6 ⟨A1, n1, c1, rfl, hown, hn6⟩; have HOWN := Lib.hid hown; clear hown; have hc6 : Chg [] V w6 := hc5.trans hn6.out; have hc6m := hc6.mono (L' := [t3]) (by simp); have r3 := hc6.at0 g3; have r4 := hc6.at0 g4; have r5 := hc6.at0 g5; have r6 := hc6.at0 g6; have d19 := hc6.at0 c19; have d20 := hc6.at0 c20; have d21 := hc6.at0 c21; have d22 := hc6.at0 c22; have d23 := hc6.at0 c23; have d24 := hc6.at0 c24; have d25 := hc6.at0 c25; have d26 := hc6.at0 c26; have d27 := hc6.at0 c27; have d28 := hc6.at0 c28; have d29 := hc6.at0 c29; have df : ∀ i, w6.frozen? ⟨t3, i, none⟩ = false := (HBV.out.nxt ⟨hc6⟩).frozen; have dl : t3 < w6.heap.size := (HBV.out.nxt ⟨hc6⟩).lt) | (go_at_call 179; (with_reducible refine Calls.mono (messagesFrom_nil _) ?_); rintro e1 w' ⟨rfl, rfl⟩))
  obtain ⟨w7, hw7⟩ : ∃ w7, w7 = (((((((((((w6.setCell { block := t3, off := 19 } (Value.slice none 0 0)).setCell { block := t3, off := 20 } (Value.string ByteArray.empty)).setCell { block := t3, off := 21 } (Value.int IntKind.u64 0)).setCell { block := t3, off := 22 } (Value.int IntKind.u64 0)).setCell { block := t3, off := 23 } (Value.slice none 0 0)).setCell { block := t3, off := 24 } (Value.slice none 0 0)).setCell { block := t3, off := 25 } (Value.slice none 0 0)).setCell { block := t3, off := 26 } (Value.slice none 0 0)).setCell { block := t3, off := 27 } (Value.bool false)).setCell { block := t3, off := 28 } (Value.slice A1 n1 c1)).setCell { block := t3, off := 29 } (Value.slice none 0 0)) := ⟨_, rfl⟩
  have hc67 : Chg [t3] w6 w7 := by rw [hw7]; exact (by (focus (first | with_reducible assumption | ((repeat (first | with_reducible exact Chg.refl _ _ | with_reducible assumption | with_reducible refine Chg.drew ?_ | with_reducible refine Chg.alloc ?_ _ | with_reducible refine Chg.setCell ?_ (by simp) _ | with_reducible refine Chg.nxt ?_ (by assumption))); done))))
  have hb7 : Blk w7 t3 48 (SaidS.list { said0 with has := true, com := .slice A1 n1 c1 }).toArray := by
    rw [hw7]
    have z := (((((((((((HBV.out.nxt ⟨hc6⟩).set_ 19 (.slice none 0 0)).set_ 20 (.string ByteArray.empty)).set_ 21 (.int .u64 0)).set_ 22 (.int .u64 0)).set_ 23 (.slice none 0 0)).set_ 24 (.slice none 0 0)).set_ 25 (.slice none 0 0)).set_ 26 (.slice none 0 0)).set_ 27 (.bool false)).set_ 28 (.slice A1 n1 c1)).set_ 29 (.slice none 0 0)
    simpa [said0, SaidS.list] using z
  rw [← hw7]
  have hcV7 : Chg [t3] V w7 := hc6m.trans hc67
  have hV5 : V.heap.size ≤ w5.heap.size := hc5.size
  have ht3V : t3 < V.heap.size := HBV.out.lt
  have how7 := own_base (own_chg HOWN.out hc67 (by simp; omega)) hV5
  have hb47 := HB4V.out.chg hcV7 (by simpa using n43)
  have hbR7 := HBRV.out.chg hcV7 (by have := HT2.out; have := HT3.out; simp; omega)
  have hz7 : Rdz M1 w1 w7 rn rb rl ms ss hs s l hv sv ev e r b o n q ps zs sb k mb := by
    have nm := HNM.out.1
    simp only [List.mem_cons, List.not_mem_nil, or_false] at nm
    have hs3 : ss ≠ t3 := by have := H.out.sa.lt; have := HT3.out; omega
    exact HZV.out.chg hcV7 (by simpa using hmV) (by simpa using ht3w) (by simp; omega) (by simp; omega) (by simp; omega) (by simp; omega) (by simpa using hs3)
  have hcg7 : Chg [rn, rb, rl, ms] W w7 := HCGV.out.then hcV7 (by have := HT3.out; simp; omega)
  have nnb : nb ∉ [rn, rb, rl, ms] := by
    have x1 := Blk.ne HS.out H.out.rw_ (by decide)
    have x2 := Blk.ne HS.out H.out.ra (by decide)
    have x3 := Blk.ne HS.out H.out.la (by decide)
    have x4 := Blk.nms HS.out H.out.st.at_ (by decide)
    simp only [List.mem_cons, List.not_mem_nil, or_false]
    omega
  have hs7 := SinAt.chg HS.out hcg7 nnb
  have h727 : w7.cell? ⟨nb, 27, none⟩ = some (.pointer (some ⟨rn, 0, none⟩)) := (SinAt.cell hs7 27 S.rn rfl).trans (by rw [HSR.out])
  have h728 : w7.cell? ⟨nb, 28, none⟩ = some (.pointer (some ⟨ms, 0, none⟩)) := (SinAt.cell hs7 28 S.st rfl).trans (by rw [HST.out])
  have nbl := Blk.lt hs7
  clear p3 p4 p5 p6 r3 r4 r5 r6 c19 c20 c21 c22 c23 c24 c25 c26 c27 c28 c29 d19 d20 d21 d22 d23 d24 d25 d26 d27 d28 d29 df dl g0 g1 g2 g3 g4 g5 g6 g7 gf gl hc67 hcV7 hc6 hc6m hc5 hc5m hn5 hn6 HOWN HB4V HBRV HZV HCGV HBV hw7 hV5 ht3V
  have g0 := (hb47).cell 0; have g1 := (hb47).cell 1; have g2 := (hb47).cell 2; have g3 := (hb47).cell 3; have g4 := (hb47).cell 4; have g5 := (hb47).cell 5; have g6 := (hb47).cell 6; have g7 := (hb47).cell 7; simp at g0 g1 g2 g3 g4 g5 g6 g7; have gf := (hb47).frozen; have gl := (hb47).lt
  have HB7 := Lib.hid hb7
  have HB47 := Lib.hid hb47
  have HBR7 := Lib.hid hbR7
  have HZ7 := Lib.hid hz7
  have HCG7 := Lib.hid hcg7
  have HS7 := Lib.hid hs7
  have HOW7 := Lib.hid how7
  have HNNB := Lib.hid nnb
  clear hb7 hb47 hbR7 hz7 hcg7 hs7 how7 nnb
  go_wp2_with fail
  refine wp_loop_rounds 1 ?_
  rw [rounds_succ]
  go_upto_region 14 with (first | (go_at_call 180; (with_reducible refine Calls.mono hardEmpty_nil ?_); rintro e1 w' ⟨rfl, rfl⟩))
  go_region_held3 (fun wx => wx.cell? ⟨nb, 28, none⟩ = some (.pointer (some ⟨ms, 0, none⟩)) ∧ wx.cell? ⟨t4, 0, none⟩ = some (.pointer none) ∧ wx.cell? ⟨t4, 1, none⟩ = some (.pointer none) ∧ wx.cell? ⟨t4, 2, none⟩ = some (.slice none 0 0) ∧ wx.cell? ⟨t4, 3, none⟩ = some (.slice none 0 0) ∧ wx.cell? ⟨t4, 4, none⟩ = some (.pointer none) ∧ wx.cell? ⟨t4, 5, none⟩ = some (.slice (some ⟨b, o, none⟩) n n) ∧ wx.cell? ⟨t4, 6, none⟩ = some (.slice none 0 0) ∧ wx.cell? ⟨t4, 7, none⟩ = some (.bool false) ∧ Chg [] w7 wx)
    ((refine ⟨?_, ?_, ?_, ?_, ?_, ?_, ?_, ?_, ?_, ?_⟩ <;> first | with_reducible assumption | (simp [go_sem, *]; done) | with_reducible exact (Chg.refl _ _).drew))
    (first | (go_at_call 181; (with_reducible refine Calls.mono (save_nil _) ?_); rintro e1 w8 ⟨rfl, hn8⟩; have hc8 : Chg [] w7 w8 := (Chg.refl [] w7).drew.trans hn8.out; have p0 := hc8.at0 g0; have p1 := hc8.at0 g1; have p2 := hc8.at0 g2; have p3 := hc8.at0 g3; have p4 := hc8.at0 g4; have p5 := hc8.at0 g5; have p6 := hc8.at0 g6; have p7 := hc8.at0 g7; have p28 := hc8.at0 h728))
  have mnb1 : nb ∈ M1 := by rw [HM1.out]; simp [mnb]
  have hz8 := HZ7.out.chg (L := []) hc8 (by simp) (by simp) (by simp) (by simp) (by simp) (by simp) (by simp)
  have hs8 := SinAt.nxt HS7.out ⟨hc8⟩
  have hi0 : (0 : Int) < n := by omega
  have HC8 := Lib.hid hc8
  have HZ8 := Lib.hid hz8
  have HS8 := Lib.hid hs8
  clear hc8 hz8 hs8 hn8 g0 g1 g2 g3 g4 g5 g6 g7 gf gl h727 h728
  go_wp2_with (first | (go_at_call 182; (with_reducible refine Calls.mono (emptySnap_nil _) ?_); rintro e1 w' ⟨rfl, rfl⟩))
  go_loopw [97] (fun i wr => ∃ k : Nat, k ≤ n ∧ i = .int .i64 k ∧ SinAt wr nb { S with ap := S.ap + k } ∧ Chg [nb] w8 wr) (fun i _ => n - (intOf i).toNat)
  case atStart => exact ⟨0, by omega, rfl, by simpa using HS8.out, Chg.refl _ _⟩
  case round =>
    obtain ⟨k', hk', rfl, hsw, hcw⟩ := hrel
    by_cases hlt' : k' < n
    · have hEw := HZ8.out.en.chg hcw (by simpa using mnb1)
      obtain ⟨b', o', p, hAe, hp, hcell, _⟩ := sl_at hEw.sl hlt'
      simp only [Option.some.injEq, Addr.mk.injEq] at hAe
      obtain ⟨rfl, rfl, _⟩ := hAe
      have hks : k' < q.length := by have := HQL.out; omega
      obtain ⟨p', hp', hE⟩ := hEw.en.2 k' q[k'] (List.getElem?_eq_getElem hks)
      rw [hp] at hp'
      injection hp' with hp'
      subst hp'
      have hidx := HQR.out k' q[k'] (List.getElem?_eq_getElem hks)
      rw [hidx] at hE
      have i1 : (0 : Int) ≤ k' ∧ (k' : Int) < n := by omega
      have snf := Blk.frozen hsw
      have snl := Blk.lt hsw
      have s29 : wr.cell? ⟨nb, 29, none⟩ = some (.int .u64 (S.ap + k')) := SinAt.cell hsw 29 (.int .u64 (S.ap + k')) rfl
      have HSW := Lib.hid (hsw.set_ 29 (.int .u64 (S.ap + k' + 1)) { S with ap := S.ap + k' + 1 } rfl)
      have HCW := Lib.hid hcw
      have HEE := Lib.hid hE
      have HEE2 := Lib.hid (EntAt.chg (L := [nb]) hE ((Chg.refl _ _).setCell (p := ⟨nb, 29, none⟩) (.inr (by simp)) (.int .u64 (S.ap + k' + 1))) (by simpa using mnb1))
      clear hEw hp hE hidx hsw hcw
      go_wp2_with (first | (go_at_call 154; (with_reducible refine Calls.mono (entIndex_any HEE.out) ?_); rintro e1 w' ⟨rfl, rfl⟩) | (go_at_call 184; (with_reducible refine Calls.mono (changeOf_none HEE2.out) ?_); rintro e1 w' ⟨rfl, rfl⟩))
      exact ⟨⟨k' + 1, by omega, by simp, by rw [show S.ap + ((k' + 1 : Nat) : Int) = S.ap + k' + 1 by omega]; exact HSW.out, HCW.out.setCell (.inr (by simp)) _⟩, by simp [intOf]; omega⟩
    · have hkn : n = k' := by omega
      subst hkn
      rw [HQC.out] at hsw
      have nnb := HNNB.out
      have nnb2 : nb ≠ ss := Blk.ne HS.out H.out.sa (by decide)
      have t3n : t3 ≠ nb := by have := HT3.out; omega
      have t2n : t2 ≠ nb := by have := HT2.out; omega
      have t4n : t4 ≠ nb := by have := HT4.out; have := HN1.out.out.size; have := HR2.out.cg.size; have := HX.out.out.size; omega
      have hw1 : nb < w1.heap.size := Nat.lt_of_lt_of_le nl (Nat.le_trans HX.out.out.size HN1.out.out.size)
      have hcd : Chg [nb] w8 wr.drew := hcw.drew
      have hzr : Rdz M1 w1 wr.drew rn rb rl ms ss hs s l hv sv ev e r b o n q ps zs sb k mb := by
        simp only [List.mem_cons, List.not_mem_nil, or_false] at nnb
        exact HZ8.out.chg hcd (by simpa using mnb1) (by simpa using hw1) (by simp; omega) (by simp; omega) (by simp; omega) (by simp; omega) (by simp; omega)
      have hla2 : ∃ x, q[n - 1]? = some x ∧ x.i = l.com := by
        have hks : n - 1 < q.length := by have := HQL.out; omega
        refine ⟨q[n - 1], List.getElem?_eq_getElem hks, ?_⟩
        rw [HQR.out (n - 1) q[n - 1] (List.getElem?_eq_getElem hks)]
        have := HQC.out
        omega
      have mm : rn ∈ M1 ∧ rb ∈ M1 ∧ rl ∈ M1 := by rw [HM1.out]; simp [mrn, mrb, mrl]
      have HADV := Lib.hid (advance_any (rd := #[.pointer none, .pointer none, .slice none 0 0, .slice none 0 0, .pointer none, .slice (some ⟨b, o, none⟩) n n, .slice none 0 0, .bool false]) hzr H.out.hrl hau hu hn0 hn1 HQD.out hla2 had hmx0 mm.1 mm.2.1 mm.2.2 HC1.out.lt rfl)
      have hcd4 := (HB47.out.chg HC8.out (by simp)).chg hcw (by simpa using t4n)
      have f27 : wr.cell? ⟨nb, 27, none⟩ = some (.pointer (some ⟨rn, 0, none⟩)) := (SinAt.cell hsw 27 S.rn rfl).trans (by rw [HSR.out])
      have f28 : wr.cell? ⟨nb, 28, none⟩ = some (.pointer (some ⟨ms, 0, none⟩)) := (SinAt.cell hsw 28 S.st rfl).trans (by rw [HST.out])
      have fl := Blk.lt hsw
      obtain ⟨sb1, sb2⟩ := own_some HR2.out.z.ow
      have hall : nb ∉ [rn, rb, rl, sb] ∧ t4 ∉ [rn, rb, rl, sb] ∧ t3 ∉ [rn, rb, rl, sb] ∧ t2 ∉ [rn, rb, rl, sb] ∧ ms ∉ [rn, rb, rl, sb] ∧ t3 ≠ ms ∧ t2 ≠ ms ∧ w1.heap.size ≤ sb := by
        have x1 := HNM.out
        have x2 := HT4.out
        have x3 := HT3.out
        have x4 := HT2.out
        have x5 := H.out.rw_.lt
        have x6 := Blk.lt H.out.ra
        have x7 := Blk.lt H.out.la
        have x8 := H.out.st.lt
        have x9 := Nat.le_trans HX.out.out.size HN1.out.out.size
        have y1 := HR2.out.cg.size
        have y2 := H.out.rw_.nms H.out.st.at_ (by decide)
        have y3 := Blk.nms H.out.ra H.out.st.at_ (by decide)
        have y4 := Blk.nms H.out.la H.out.st.at_ (by decide)
        simp only [List.mem_cons, List.not_mem_nil, or_false] at nnb x1 ⊢
        omega
      obtain ⟨a1, a2, a3, a4, a5, a6, a7, a8⟩ := hall
      clear p0 p1 p2 p3 p4 p5 p6 p7 p28
      have g0 := (hcd4).cell 0; have g1 := (hcd4).cell 1; have g2 := (hcd4).cell 2; have g3 := (hcd4).cell 3; have g4 := (hcd4).cell 4; have g5 := (hcd4).cell 5; have g6 := (hcd4).cell 6; have g7 := (hcd4).cell 7; simp at g0 g1 g2 g3 g4 g5 g6 g7; have gf := (hcd4).frozen; have gl := (hcd4).lt
      have HSW := Lib.hid hsw
      have HCW := Lib.hid hcw
      have HZR := Lib.hid hzr
      clear hsw hcw hzr hcd hcd4 hla2 hi0
      go_upto_region 25 with fail
      go_region_held3 (fun wx => wx.cell? ⟨nb, 27, none⟩ = some (.pointer (some ⟨rn, 0, none⟩)) ∧ wx.cell? ⟨t4, 0, none⟩ = some (.pointer none) ∧ wx.cell? ⟨t4, 1, none⟩ = some (.pointer none) ∧ wx.cell? ⟨t4, 2, none⟩ = some (.slice none 0 0) ∧ wx.cell? ⟨t4, 3, none⟩ = some (.slice none 0 0) ∧ wx.cell? ⟨t4, 4, none⟩ = some (.pointer none) ∧ wx.cell? ⟨t4, 5, none⟩ = some (.slice (some ⟨b, o, none⟩) n n) ∧ wx.cell? ⟨t4, 6, none⟩ = some (.slice none 0 0) ∧ wx.cell? ⟨t4, 7, none⟩ = some (.bool false))
        ((refine ⟨?_, ?_, ?_, ?_, ?_, ?_, ?_, ?_, ?_⟩ <;> first | with_reducible assumption | (simp [go_sem, *]; done)))
        (first | (go_at_call 186; (with_reducible refine Calls.mono HADV.out ?_); rintro e1 w9 ⟨rfl, hadv⟩; have hc9 := hadv.cg; have q27 := hc9.at_ f27 a1; have r0 := hc9.at_ g0 a2; have r1 := hc9.at_ g1 a2; have r2 := hc9.at_ g2 a2; have r3 := hc9.at_ g3 a2; have r4 := hc9.at_ g4 a2; have r5 := hc9.at_ g5 a2; have r6 := hc9.at_ g6 a2; have r7 := hc9.at_ g7 a2))
      have f28' := hc9.at_ f28 a1
      have hcWr : Chg [nb, rn, rb, rl, ms] W wr := ((HCG7.out.mono (by simp)).trans (HC8.out.mono (by simp))).trans (HCW.out.mono (by simp))
      have hcW9 : Chg [nb, rn, rb, rl, ms] W w9 := (hcWr.drew).then hc9 (by
        have := Nat.le_trans HX.out.out.size HN1.out.out.size
        intro x hx hxl
        simp only [List.mem_cons, List.not_mem_nil, or_false] at hx ⊢
        omega)
      have hms9 := HZR.out.st.at_.chg hc9 a5
      have hst9 := H.out.st.grow (M' := M) (fun x hx => .inl hx) H.out.st.mem hms9 hcW9 (by
        intro x hx
        simp only [List.mem_cons, List.not_mem_nil, or_false] at hx
        rcases hx with rfl | rfl | rfl | rfl | rfl
        · exact mnb
        · exact mrn
        · exact mrb
        · exact mrl
        · exact H.out.st.mem)
      have hsn9 := SinAt.chg (Blk.drew HSW.out : SinAt wr.drew nb _) hc9 a1
      have hown9 := own_chg (L := [rn, rb, rl, sb]) (own_chg (own_chg0 HOW7.out HC8.out) HCW.out.drew (by intro g hg; simp at hg; have := HVZ.out; have := HR2.out.cg.size; omega)) hc9 (by
        have z1 := HVZ.out
        have z2 := HR2.out.cg.size
        have z3 := HC1.out.rw_.lt
        have z4 := Blk.lt HC1.out.ra
        have z5 := Blk.lt HC1.out.la
        intro g hg
        simp only [List.mem_cons, List.not_mem_nil, or_false] at hg
        omega)
      have hb9 := ((((HB7.out.chg HC8.out (by simp)).chg HCW.out (by simpa using t3n)).drew).chg hc9 a3)
      have hr9 := ((((HBR7.out.chg HC8.out (by simp)).chg HCW.out (by simpa using t2n)).drew).chg hc9 a4)
      have HAD := Lib.hid hadv
      have HST9 := Lib.hid hst9
      have HCW9 := Lib.hid hcW9
      have HSN9 := Lib.hid hsn9
      have HOW9 := Lib.hid hown9
      have HB9 := Lib.hid hb9
      have HR9 := Lib.hid hr9
      have z9 : t3 < w9.heap.size := hb9.lt
      clear q27 r0 r1 r2 r3 r4 r5 r6 r7 hadv hst9 hcW9 hsn9 hown9 hb9 hr9 hms9 hcWr f27 f28 g0 g1 g2 g3 g4 g5 g6 g7 gf gl hc9
      go_wp2_with (first | (go_at_call 187; (with_reducible refine Calls.mono (logOf_any HST9.out hrl HF.out HD.out) ?_); rintro e1 wA ⟨A2, n2, c2, rfl, howA, hmsA, hcA⟩; have HBA := Lib.hid (HB9.out.chg hcA (by simpa using a6)); have k32 := HBA.out.cell 32; simp [said0, SaidS.list] at k32; have kf := HBA.out.frozen; have kl := HBA.out.lt; have HOWA := Lib.hid howA; have HMSA := Lib.hid hmsA; have HCA := Lib.hid hcA; obtain ⟨FY, hFY⟩ : ∃ FY, FY = (saidR (.slice A1 n1 c1) (.slice A2 n2 c2)).list := ⟨_, rfl⟩; have HFY := Lib.hid hFY; have HZL := Lib.hid (show (Tryz.prog.info? 48).map (·.size) = some FY.length by rw [hFY]; exact size48.trans rfl); have HZA := Lib.hid (show (Tryz.prog.info? 48).map (·.size) = some FY.toArray.size by rw [hFY]; exact size48.trans rfl); have HONE := Lib.hid (show FY.toArray.all (·.oneCell') = true by rw [hFY]; exact all_oneCell_toArray (saidR_ok A1 A2 n1 n2 c1 c2)); clear hFY howA hmsA hcA) | (refine wpList_load_mid rfl 48 _ rfl t3 0 rfl FY _ ?_ Tryz.underlying48 rfl HZL.out ?_) | (refine wpList_store_mid rfl 48 _ _ rfl t2 0 FY.toArray rfl rfl ?_ HZA.out HONE.out ?_))
      · refine ld48 (FX := FY) (ty := 48) ?_
        rw [HFY.out]
        have z := HBA.out.set_ 32 (.slice A2 n2 c2)
        simpa [saidR, said0, SaidS.list] using z
      · refine st48 (FX := FY) (FY := FX) (ty := 48) ((HR9.out.chg HCA.out (by simpa using a7)).far (p := ⟨t3, 32, none⟩) (by have := HT2.out; have := HT3.out; simp; omega) _) (by rw [HFX.out, HFY.out]; rfl)
      · have hrA := (HR9.out.chg HCA.out (by simpa using a7)).far (p := ⟨t3, 32, none⟩) (show t2 ≠ t3 by have := HT2.out; have := HT3.out; omega) (.slice A2 n2 c2)
        have hbF := bs48 hrA (FX := FY) (FY := FX) (by rw [HFX.out, HFY.out]; rfl)
        have hcF : Chg [t3, t2] wA ((wA.setCell ⟨t3, 32, none⟩ (.slice A2 n2 c2)).setCells t2 0 FY) := ((Chg.refl _ _).setCell (.inr (by simp)) _).trans ((chg_setCells t2 FY 0 _).mono (by simp))
        have hcA9 : Chg [ms] w9 _ := HCA.out
        have x2 := HT2.out
        have x3 := HT3.out
        have x9 := Nat.le_trans HX.out.out.size HN1.out.out.size
        have y1 := HR2.out.cg.size
        have y2 := HVZ.out
        have y3 := H.out.rw_.lt
        have y4 := Blk.lt H.out.ra
        have y5 := Blk.lt H.out.la
        have y6 := H.out.st.lt
        have y7 := H.out.rw_.nms H.out.st.at_ (by decide)
        have y8 := Blk.nms H.out.ra H.out.st.at_ (by decide)
        have y9 := Blk.nms H.out.la H.out.st.at_ (by decide)
        have y0 := HNNB.out
        simp only [List.mem_cons, List.not_mem_nil, or_false] at y0
        have zX := HZX.out
        have z3w : t3 < w1.heap.size := (HB3.out.nxt HN1.out).lt
        refine bodyPost_ret (results_cell_row rfl _ _ t2 48 FY.toArray (0, 0) _ (by rfl) hbF Tryz.underlying48 rfl HZA.out) rfl ⟨A1, n1, c1, A2, n2, c2, sb, k, by rw [HFY.out], ?_, ?_, ?_, ?_, ?_, ?_, ?_, ?_⟩
        · have z := own_base (own_chg (own_chg HOW9.out HCA.out (by simp; omega)) hcF (by simp; omega)) (show W.heap.size ≤ V.heap.size by omega)
          rw [HQL.out] at z
          exact z
        · exact own_base (own_chg HOWA.out hcF (by simp; omega)) (by have := HCW9.out.size; omega)
        · exact SinAt.chg (SinAt.chg HSN9.out HCA.out (by simp; omega)) hcF (by simp; omega)
        · exact (HAD.out.rw_.chg HCA.out (by simp; omega)).chg hcF (by simp; omega)
        · exact RaftAt.chg (RaftAt.chg HAD.out.ra HCA.out (by simp; omega)) hcF (by simp; omega)
        · exact RlAt.chg (RlAt.chg HAD.out.la HCA.out (by simp; omega)) hcF (by simp; omega)
        · exact HMSA.out.chg hcF (by simp; omega)
        · exact (HCW9.out.trans (HCA.out.mono (by simp))).then hcF (by simp; omega)
end Go.Proofs.YtalhhplphlobbaaGreat
