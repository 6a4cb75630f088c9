/- A raft's hard state: assertConfStatesEquivalent, loadState, softState, hardState. Conditions: sizes. -/
import Derived.Test.YtalhhplphlobbaaGreatP11
import Derived.Test.YtalhhplphlobbaaGreatP14
set_option linter.unusedVariables false
set_option linter.unusedSimpArgs false
namespace Go.Proofs.YtalhhplphlobbaaGreat
open Go.RowKit
set_option maxRecDepth 100000 in
set_option maxHeartbeats 1000000 in
theorem assertEq_any {w : World} {v1 v2 : Value} {vs ls xs ys : List Int} {al : Bool} (h1 : ConfAt [] w v1 vs ls [] [] al) (h2 : ConfAt [] w v2 xs ys [] [] al) (hv : xs.Perm vs) (hl : ys.Perm ls) (lv : vs.length ≤ 12) (ll : ls.length ≤ 12) :
    Calls Tryz.prog 275 #[v1, v2] w fun y w' => y = .returned (.tuple #[]) ∧ Nxt w w' := by
  have hE := Lib.hid (equiv_any h1 h2 hv hl lv ll)
  clear h1 h2 hv hl
  go_enter Tryz.func275, Tryz.ntmps275
  go_wp2_with (first | (go_at_call 329; (with_reducible refine Calls.mono hE.out ?_); rintro e w1 ⟨rfl, hn1⟩))
  refine bodyPost_ret (results_none rfl _ _ _) rfl ?_
  exact ⟨rfl, hn1⟩
section
variable {M : List Nat} {W w w' : World} {rb rl ms : Nat} {s : RaftS} {l : RLog} {hv sv ev v : Value} {e : Ent} {r : List Ent} {t vo c : Int}
theorem heldLd (hl : RlAt w' rl ms l) (hs : StAt M w' ms hv sv ev e r) (hc : Chg [ms] w w') (hrb : rb ≠ ms)
    (h : w.cell? ⟨rb, 4, none⟩ = some (.pointer (some ⟨rl, 0, none⟩)) ∧ w.cell? ⟨rl, 6, none⟩ = some (.int .u64 l.com) ∧ RlAt w rl ms l ∧ StAt M w ms hv sv ev e r ∧ HardAt M w v t vo c ∧ Chg [ms] W w) :
    w'.cell? ⟨rb, 4, none⟩ = some (.pointer (some ⟨rl, 0, none⟩)) ∧ w'.cell? ⟨rl, 6, none⟩ = some (.int .u64 l.com) ∧ RlAt w' rl ms l ∧ StAt M w' ms hv sv ev e r ∧ HardAt M w' v t vo c ∧ Chg [ms] W w' := by
  obtain ⟨h1, h2, h3, h4, h5, h6⟩ := h
  obtain ⟨_, _, _, _, _, _, k6, _⟩ := hl.cells
  exact ⟨hc.at_ h1 (by simpa using hrb), k6, hl, hs, h5.chg hc (by simpa using h4.mem), h6.trans hc⟩
set_option maxRecDepth 100000 in
set_option maxHeartbeats 4000000 in
theorem loadState_any (h : RaftAt w rb s) (hrl : s.rl = rl) (hl : RlAt w rl ms l) (hcalm : l.calm) (hs : StAt M w ms hv sv ev e r) (hh : HardAt M w v t vo c) (hrb : rb ≠ ms) (hne : rl ≠ ms) (hrr : rb ≠ rl) (mb : rb ∈ M) (ml : rl ∈ M) (c0 : l.com ≤ c) (c1 : c ≤ e.i + r.length) :
    Calls Tryz.prog 277 #[.pointer (some ⟨rb, 0, none⟩), v] w fun y w' => y = .returned (.tuple #[]) ∧ RaftAt w' rb { s with term := t, vote := vo } ∧ RlAt w' rl ms { l with com := c } ∧ MsAt w' ms hv sv ev ∧ Chg [ms, rb, rl] w w' := by
  have c4 : w.cell? ⟨rb, 4, none⟩ = some (.pointer (some ⟨rl, 0, none⟩)) := by rw [← hrl]; exact RaftAt.cell h 4 _ rfl
  obtain ⟨_, _, _, _, _, _, k6, _⟩ := hl.cells
  have hS0 : (w.drew).cell? ⟨rb, 4, none⟩ = some (.pointer (some ⟨rl, 0, none⟩)) ∧ (w.drew).cell? ⟨rl, 6, none⟩ = some (.int .u64 l.com) ∧ RlAt (w.drew) rl ms l ∧ StAt M (w.drew) ms hv sv ev e r ∧ HardAt M (w.drew) v t vo c ∧ Chg [ms] w (w.drew) :=
    ⟨c4, k6, Blk.drew hl, hs.nxt ⟨(Chg.refl _ _).drew⟩, hh.chg ((Chg.refl _ _).drew (L := [])) (by simp), (Chg.refl _ _).drew⟩
  have HS0 := Lib.hid hS0
  have HR := Lib.hid h
  have HCALM := Lib.hid hcalm
  have d1 : ¬ c < l.com := by omega
  have d3 : decide (c < l.com) = false := by simpa using d1
  have d2 : ¬ e.i + (r.length : Int) < c := by omega
  clear h hrl hl hs hh c4 k6 hS0 hcalm c0 c1
  go_enter Tryz.func277, Tryz.ntmps277
  go_wp2_with fail
  go_region_held3 (fun wx => wx.cell? ⟨rb, 4, none⟩ = some (.pointer (some ⟨rl, 0, none⟩)) ∧ wx.cell? ⟨rl, 6, none⟩ = some (.int .u64 l.com) ∧ RlAt wx rl ms l ∧ StAt M wx ms hv sv ev e r ∧ HardAt M wx v t vo c ∧ Chg [ms] w wx)
    (first | with_reducible exact HS0.out | with_reducible assumption | exact heldLd hl1 hs1 hc1 hrb (by first | with_reducible assumption | with_reducible exact HS0.out))
    (first | (go_at_call 161; (with_reducible refine Calls.mono (hardCommit_any (M := M) (t := t) (vo := vo) (c := c) ?_) ?_); (focus (first | exact (HS0.out).2.2.2.2.1 | exact HardAt.chg HS0.out.2.2.2.2.1 hc1 (by simpa using hs1.mem))); rintro e w' ⟨rfl, rfl⟩) | (go_at_call 314; (with_reducible refine Calls.mono (rlLast_any HS0.out.2.2.2.1 HS0.out.2.2.1 HCALM.out hne) ?_); rintro e w1 ⟨rfl, hl1, hs1, hc1⟩))
  have hC1 : Chg [ms] w w1 := ((Chg.refl _ _).drew).trans hc1
  have hR1 : RaftAt w1 rb s := HR.out.chg hC1 (by simpa using hrb)
  have hh1 : HardAt M w1 v t vo c := HardAt.chg HS0.out.2.2.2.2.1 hc1 (by simpa using hs1.mem)
  have c4 : w1.cell? ⟨rb, 4, none⟩ = some (.pointer (some ⟨rl, 0, none⟩)) := hc1.at_ HS0.out.1 (by simpa using hrb)
  have k6 : w1.cell? ⟨rl, 6, none⟩ = some (.int .u64 l.com) := hC1.at_ (by have z := HS0.out.2.1; exact z) (by simpa using hne)
  have HL1 := Lib.hid hl1
  have HM1 := Lib.hid hs1.at_
  have HMM := Lib.hid hs1.mem
  have HC1 := Lib.hid hC1
  have HR1 := Lib.hid hR1
  have HH1 := Lib.hid hh1
  have kf := Blk.frozen hl1
  have kl := Blk.lt hl1
  clear HS0 HR HCALM hl1 hs1 hc1 hC1 hR1 hh1
  go_wp2_with fail
  go_region_held3 (fun wx => wx.cell? ⟨rb, 4, none⟩ = some (.pointer (some ⟨rl, 0, none⟩)))
    (first | with_reducible assumption | (simp [go_sem, *]; done))
    (first | (go_at_call 161; (with_reducible refine Calls.mono (hardCommit_any (M := M) (t := t) (vo := vo) (c := c) ?_) ?_); (focus exact HardAt.chg (L := []) HH1.out (Chg.refl _ _).drew (by simp)); rintro e w' ⟨rfl, rfl⟩))
  have hq : Chg [rl] w1 ((w1.setCell ⟨rl, 6, none⟩ (.int .u64 c)).drew) := ((Chg.refl _ _).setCell (.inr (by simp)) _).drew
  have hR2 : RaftAt ((w1.setCell ⟨rl, 6, none⟩ (.int .u64 c)).drew) rb s := HR1.out.chg hq (by simpa using hrr)
  have hh2 : HardAt M ((w1.setCell ⟨rl, 6, none⟩ (.int .u64 c)).drew) v t vo c := HH1.out.chg hq (by simpa using ml)
  have hl2 : RlAt ((w1.setCell ⟨rl, 6, none⟩ (.int .u64 c)).drew) rl ms { l with com := c } := Blk.drew (RlAt.set_ HL1.out 6 _ { l with com := c } rfl)
  have hm2 : MsAt ((w1.setCell ⟨rl, 6, none⟩ (.int .u64 c)).drew) ms hv sv ev := HM1.out.chg hq (by simpa using Ne.symm hne)
  have hC2 : Chg [ms, rb, rl] w ((w1.setCell ⟨rl, 6, none⟩ (.int .u64 c)).drew) := (HC1.out.mono (by simp)).trans (hq.mono (by simp))
  generalize (w1.setCell ⟨rl, 6, none⟩ (.int .u64 c)).drew = W2 at hR2 hh2 hl2 hm2 hC2 ⊢
  clear HL1 HM1 HC1 HR1 HH1 kf kl k6 c4 hq
  have c1 := RaftAt.cell hR2 1 (.int .u64 s.term) rfl
  have c2 := RaftAt.cell hR2 2 (.int .u64 s.vote) rfl
  have cf := Blk.frozen hR2
  have HR2 := Lib.hid hR2
  have HH2 := Lib.hid hh2
  have HL2 := Lib.hid hl2
  have HM2 := Lib.hid hm2
  have HC2 := Lib.hid hC2
  clear hR2 hh2 hl2 hm2 hC2
  go_wp2_with (first | (go_at_call 159; (with_reducible refine Calls.mono (hardTerm_any HH2.out) ?_); rintro e w' ⟨rfl, rfl⟩) | (go_at_call 160; (with_reducible refine Calls.mono (hardVote_any (HardAt.chg (L := [rb]) HH2.out ?_ (by simpa using mb))) ?_); (focus (first | with_reducible assumption | ((repeat (first | with_reducible exact Chg.refl _ _ | with_reducible assumption | with_reducible refine Chg.drew ?_ | with_reducible refine Chg.alloc ?_ _ | with_reducible refine Chg.setCell ?_ (by simp) _ | with_reducible refine Chg.nxt ?_ (by assumption))); done))); rintro e w' ⟨rfl, rfl⟩))
  go_end0
  have hq : Chg [rb] W2 ((W2.setCell ⟨rb, 1, none⟩ (.int .u64 t)).setCell ⟨rb, 2, none⟩ (.int .u64 vo)) := ((Chg.refl _ _).setCell (.inr (by simp)) _).setCell (.inr (by simp)) _
  exact ⟨rfl, RaftAt.set_ (RaftAt.set_ HR2.out 1 _ { s with term := t } rfl) 2 _ { s with term := t, vote := vo } rfl, HL2.out.chg hq (by simpa using Ne.symm hrr), HM2.out.chg hq (by simpa using Ne.symm hrb), HC2.out.trans (hq.mono (by simp))⟩
end
end Go.Proofs.YtalhhplphlobbaaGreat
