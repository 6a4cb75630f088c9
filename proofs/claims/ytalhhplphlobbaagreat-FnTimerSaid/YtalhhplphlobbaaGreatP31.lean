/- The driver's ready. Conditions: a node at rest. -/
import Derived.Test.YtalhhplphlobbaaGreatP30
set_option linter.unusedVariables false
set_option linter.unusedSimpArgs false
namespace Go.Proofs.YtalhhplphlobbaaGreat
open Go.RowKit
section
variable {M L : List Nat} {W w w' : World} {rn rb rl ms ss hs mb b o n sb k : Nat} {s : RaftS} {l : RLog} {hv sv ev : Value} {e : Ent} {r q : List Ent} {ps : List Value} {zs : List Nat}
theorem Rdz.chg (h : Rdz M W w rn rb rl ms ss hs s l hv sv ev e r b o n q ps zs sb k mb) (hc : Chg L w w') (hL : ∀ x ∈ L, x ∈ M) (hW : ∀ x ∈ L, x < W.heap.size) (h1 : rn ∉ L) (h2 : rb ∉ L) (h3 : rl ∉ L) (h4 : ms ∉ L) (h5 : ss ∉ L) : Rdz M W w' rn rb rl ms ss hs s l hv sv ev e r b o n q ps zs sb k mb :=
  { h with rw_ := h.rw_.chg hc h1, ra := h.ra.chg hc h2, la := h.la.chg hc h3, ow := own_chg h.ow hc hW, mg := h.mg.chg hc hL (fun hm => by have := hW _ hm; have := h.mn; omega), sa := h.sa.chg hc h5, ha := h.ha.chg hc hL, st := h.st.chg hc hL h4, en := h.en.chg hc hL }
end
def said0 : SaidS := ⟨0, false, 0, 0, 0, 0, 0, 0, 0, .slice none 0 0, .slice none 0 0, .slice none 0 0, .slice none 0 0, false, false, false, 0, 0, 0, .slice none 0 0, ByteArray.empty, 0, 0, .slice none 0 0, .slice none 0 0, .slice none 0 0, .slice none 0 0, false, .slice none 0 0, .slice none 0 0, .slice none 0 0, false, .slice none 0 0⟩
theorem said0_ok : said0.ok := by
  intro v hv
  simp only [said0, SaidS.list, List.mem_cons, List.not_mem_nil, or_false] at hv
  rcases hv with rfl | rfl | rfl | rfl | rfl | rfl | rfl | rfl | rfl | rfl | rfl | rfl | rfl | rfl | rfl | rfl | rfl | rfl | rfl | rfl | rfl | rfl | rfl | rfl | rfl | rfl | rfl | rfl | rfl | rfl | rfl | rfl | rfl <;> rfl
theorem SaidS.len (a : SaidS) : a.list.length = 33 := rfl
theorem ld48 {w : World} {t ty : Nat} {FX : List Value} (h : Blk w t ty FX.toArray) : ∀ (j : Nat) v, FX[j]? = some v → w.cell? ⟨t, 0 + j, none⟩ = some v := by
  intro j v hj
  rw [Nat.zero_add, Blk.cell h j]
  simpa using hj
theorem st48 {w : World} {t ty : Nat} {FX FY : List Value} (h : Blk w t ty FY.toArray) (hl : FY.length = FX.length) : ∀ j, j < FX.toArray.size → (w.cell? ⟨t, 0 + j, none⟩).isSome = true ∧ w.frozen? ⟨t, 0 + j, none⟩ = false := by
  intro j hj
  rw [List.size_toArray] at hj
  rw [Nat.zero_add]
  exact ⟨by rw [h.cell j, Array.getElem?_eq_getElem (by simpa [hl] using hj)]; rfl, h.frozen j⟩
theorem bs48 {w : World} {t ty : Nat} {FX FY : List Value} (h : Blk w t ty FY.toArray) (hl : FY.length = FX.length) : Blk (w.setCells t 0 FX) t ty FX.toArray := by
  have z := blk_setCells (w := w) (t := ty) (b := t) FX 0 w [] FY rfl hl (by simpa using h)
  simpa using z
set_option maxRecDepth 100000 in
set_option maxHeartbeats 4000000 in
/-- Nothing to apply: no Ready. -/
theorem ready0_any {M : List Nat} {W : World} {nb rn rb rl ms ss hs : Nat} {S : SinS} {s : RaftS} {l : RLog} {hv sv ev : Value} {e : Ent} {r : List Ent} (hS : SinAt W nb S) (hsr : S.rn = .pointer (some ⟨rn, 0, none⟩)) (h : Calm M W rn rb rl ms ss hs s l hv sv ev e r) (hac : ¬ l.apg < l.com) (hb1 : l.apg + 1 < 18446744073709551615) (hb2 : l.com + 1 < 18446744073709551615) :
    Calls Tryz.prog 114 #[.pointer (some ⟨nb, 0, none⟩)] W fun y w' => y = .returned (.agg said0.list.toArray) ∧ Nxt W w' := by
  obtain ⟨FX, hFX⟩ : ∃ FX, FX = said0.list := ⟨_, rfl⟩
  have m27 : W.cell? ⟨nb, 27, none⟩ = some (.pointer (some ⟨rn, 0, none⟩)) := (SinAt.cell hS 27 S.rn rfl).trans (by rw [hsr])
  have nl := Blk.lt hS
  have i0 := h.st.i0
  have i1 := h.ce
  have HC := Lib.hid (fun (w : World) (hn : Nxt W w) => hasReady_any (M := M) (h.rw_.nxt hn) (h.ra.nxt hn) h.hrl (h.la.nxt hn) h.calm h.oip h.ps ⟨by omega, hb1⟩ ⟨by omega, hb2⟩ h.tm (h.sa.nxt hn) (h.ha.chg (L := []) hn.out (by simp)) (fun x hx => Nat.lt_of_lt_of_le (h.lt x hx) hn.out.size) h.m1 h.m2 h.m3)
  have hd : decide (l.apg < l.com) = false := by simpa using hac
  have HZL := Lib.hid (show (Tryz.prog.info? 48).map (·.size) = some FX.length by rw [hFX]; exact size48.trans rfl)
  have HZA := Lib.hid (show (Tryz.prog.info? 48).map (·.size) = some FX.toArray.size by rw [hFX]; exact size48.trans rfl)
  have HONE := Lib.hid (show FX.toArray.all (·.oneCell') = true by rw [hFX]; exact all_oneCell_toArray said0_ok)
  rw [hd] at HC
  rw [← hFX]
  have HFX := Lib.hid hFX
  clear hS hsr h hac hb1 hb2 i0 i1 hd hFX
  go_enter Tryz.func114, Tryz.ntmps114
  go_upto_region 2 with fail
  have hb2 : Blk ((W.alloc (.cells #[.int .i64 0, .bool false, .int .i64 0, .int .u64 0, .int .u64 0, .int .u64 0, .int .u64 0, .int .u64 0, .int .u64 0, .slice none 0 0, .slice none 0 0, .slice none 0 0, .slice none 0 0, .bool false, .bool false, .bool false, .int .u64 0, .int .u64 0, .int .u64 0, .slice none 0 0, .string ⟨#[]⟩, .int .u64 0, .int .u64 0, .slice none 0 0, .slice none 0 0, .slice none 0 0, .slice none 0 0, .bool false, .slice none 0 0, .slice none 0 0, .slice none 0 0, .bool false, .slice none 0 0] 48)).alloc (.cells #[.int .i64 0, .bool false, .int .i64 0, .int .u64 0, .int .u64 0, .int .u64 0, .int .u64 0, .int .u64 0, .int .u64 0, .slice none 0 0, .slice none 0 0, .slice none 0 0, .slice none 0 0, .bool false, .bool false, .bool false, .int .u64 0, .int .u64 0, .int .u64 0, .slice none 0 0, .string ⟨#[]⟩, .int .u64 0, .int .u64 0, .slice none 0 0, .slice none 0 0, .slice none 0 0, .slice none 0 0, .bool false, .slice none 0 0, .slice none 0 0, .slice none 0 0, .bool false, .slice none 0 0] 48)) W.heap.size 48 FX.toArray := by
    rw [HFX.out]
    exact (Blk.new W 48 #[.int .i64 0, .bool false, .int .i64 0, .int .u64 0, .int .u64 0, .int .u64 0, .int .u64 0, .int .u64 0, .int .u64 0, .slice none 0 0, .slice none 0 0, .slice none 0 0, .slice none 0 0, .bool false, .bool false, .bool false, .int .u64 0, .int .u64 0, .int .u64 0, .slice none 0 0, .string ⟨#[]⟩, .int .u64 0, .int .u64 0, .slice none 0 0, .slice none 0 0, .slice none 0 0, .slice none 0 0, .bool false, .slice none 0 0, .slice none 0 0, .slice none 0 0, .bool false, .slice none 0 0]).alloc _
  have hb3 : Blk ((W.alloc (.cells #[.int .i64 0, .bool false, .int .i64 0, .int .u64 0, .int .u64 0, .int .u64 0, .int .u64 0, .int .u64 0, .int .u64 0, .slice none 0 0, .slice none 0 0, .slice none 0 0, .slice none 0 0, .bool false, .bool false, .bool false, .int .u64 0, .int .u64 0, .int .u64 0, .slice none 0 0, .string ⟨#[]⟩, .int .u64 0, .int .u64 0, .slice none 0 0, .slice none 0 0, .slice none 0 0, .slice none 0 0, .bool false, .slice none 0 0, .slice none 0 0, .slice none 0 0, .bool false, .slice none 0 0] 48)).alloc (.cells #[.int .i64 0, .bool false, .int .i64 0, .int .u64 0, .int .u64 0, .int .u64 0, .int .u64 0, .int .u64 0, .int .u64 0, .slice none 0 0, .slice none 0 0, .slice none 0 0, .slice none 0 0, .bool false, .bool false, .bool false, .int .u64 0, .int .u64 0, .int .u64 0, .slice none 0 0, .string ⟨#[]⟩, .int .u64 0, .int .u64 0, .slice none 0 0, .slice none 0 0, .slice none 0 0, .slice none 0 0, .bool false, .slice none 0 0, .slice none 0 0, .slice none 0 0, .bool false, .slice none 0 0] 48)) (W.heap.size + 1) 48 FX.toArray := by
    rw [HFX.out]
    exact Blk.newAt (by simp)
  have hX : Nxt W ((W.alloc (.cells #[.int .i64 0, .bool false, .int .i64 0, .int .u64 0, .int .u64 0, .int .u64 0, .int .u64 0, .int .u64 0, .int .u64 0, .slice none 0 0, .slice none 0 0, .slice none 0 0, .slice none 0 0, .bool false, .bool false, .bool false, .int .u64 0, .int .u64 0, .int .u64 0, .slice none 0 0, .string ⟨#[]⟩, .int .u64 0, .int .u64 0, .slice none 0 0, .slice none 0 0, .slice none 0 0, .slice none 0 0, .bool false, .slice none 0 0, .slice none 0 0, .slice none 0 0, .bool false, .slice none 0 0] 48)).alloc (.cells #[.int .i64 0, .bool false, .int .i64 0, .int .u64 0, .int .u64 0, .int .u64 0, .int .u64 0, .int .u64 0, .int .u64 0, .slice none 0 0, .slice none 0 0, .slice none 0 0, .slice none 0 0, .bool false, .bool false, .bool false, .int .u64 0, .int .u64 0, .int .u64 0, .slice none 0 0, .string ⟨#[]⟩, .int .u64 0, .int .u64 0, .slice none 0 0, .slice none 0 0, .slice none 0 0, .slice none 0 0, .bool false, .slice none 0 0, .slice none 0 0, .slice none 0 0, .bool false, .slice none 0 0] 48)) := ⟨((Chg.refl _ _).alloc _).alloc _⟩
  generalize hXe : (W.alloc (.cells #[.int .i64 0, .bool false, .int .i64 0, .int .u64 0, .int .u64 0, .int .u64 0, .int .u64 0, .int .u64 0, .int .u64 0, .slice none 0 0, .slice none 0 0, .slice none 0 0, .slice none 0 0, .bool false, .bool false, .bool false, .int .u64 0, .int .u64 0, .int .u64 0, .slice none 0 0, .string ⟨#[]⟩, .int .u64 0, .int .u64 0, .slice none 0 0, .slice none 0 0, .slice none 0 0, .slice none 0 0, .bool false, .slice none 0 0, .slice none 0 0, .slice none 0 0, .bool false, .slice none 0 0] 48)).alloc (.cells #[.int .i64 0, .bool false, .int .i64 0, .int .u64 0, .int .u64 0, .int .u64 0, .int .u64 0, .int .u64 0, .int .u64 0, .slice none 0 0, .slice none 0 0, .slice none 0 0, .slice none 0 0, .bool false, .bool false, .bool false, .int .u64 0, .int .u64 0, .int .u64 0, .slice none 0 0, .string ⟨#[]⟩, .int .u64 0, .int .u64 0, .slice none 0 0, .slice none 0 0, .slice none 0 0, .slice none 0 0, .bool false, .slice none 0 0, .slice none 0 0, .slice none 0 0, .bool false, .slice none 0 0] 48) = X at hb2 hb3 hX ⊢
  clear hXe
  have k27 := hX.out.at0 m27
  have HX := Lib.hid hX
  have HB2 := Lib.hid hb2
  have HB3 := Lib.hid hb3
  clear hX hb2 hb3 m27
  go_wp2_with (first | (go_at_call 175; (with_reducible refine Calls.mono (HC.out _ HX.out) ?_); rintro e1 w1 ⟨rfl, hn1⟩; have HN1 := Lib.hid hn1; clear hn1) | (refine wpList_load_mid rfl 48 _ rfl (W.heap.size + 1) 0 rfl FX _ ?_ Tryz.underlying48 rfl HZL.out ?_) | (refine wpList_store_mid rfl 48 _ _ rfl W.heap.size 0 FX.toArray rfl rfl ?_ HZA.out HONE.out ?_))
  · exact ld48 (HB3.out.nxt HN1.out)
  · exact st48 (HB2.out.nxt HN1.out) rfl
  · have hbF := bs48 (HB2.out.nxt HN1.out) (FX := FX) rfl
    exact bodyPost_ret (results_cell_row rfl _ _ W.heap.size 48 FX.toArray (0, 0) _ (by rfl) hbF Tryz.underlying48 rfl HZA.out) rfl ⟨rfl, ⟨(HX.out.out.trans HN1.out.out).then (chg_setCells W.heap.size FX 0 w1) (by simp)⟩⟩
end Go.Proofs.YtalhhplphlobbaaGreat
