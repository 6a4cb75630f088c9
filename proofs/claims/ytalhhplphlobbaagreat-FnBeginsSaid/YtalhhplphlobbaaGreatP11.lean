/- ConfState of the tracker that lies in a raft. Conditions: sizes. A raft takes its configuration. Conditions: sizes. A raft's small parts: what is drawn for its timeout, the transfer, the votes. Conditions: sizes. A node's configuration: validate. Conditions: sizes. -/
import Derived.BigRegion
import Derived.IntWalk
import Derived.Test.YtalhhplphlobbaaGreatP04
import Derived.Test.YtalhhplphlobbaaGreatP10
set_option linter.unusedVariables false
set_option linter.unusedSimpArgs false
namespace Go.Proofs.YtalhhplphlobbaaGreat
open Go.RowKit
section
variable {w w' W : World} {b : Nat} {r0 r2 : Option Nat}
theorem heldT (hn : Nxt w w') (hc : Chg [] W w') (h : (w).cell? ⟨b, 7, none⟩ = some (.map r0) ∧ (w).cell? ⟨b, 8, none⟩ = some (.map none) ∧ (w).cell? ⟨b, 9, none⟩ = some (.bool false) ∧ (w).cell? ⟨b, 10, none⟩ = some (.map r2) ∧ (w).cell? ⟨b, 11, none⟩ = some (.map none) ∧ Chg [] W (w)) : (w').cell? ⟨b, 7, none⟩ = some (.map r0) ∧ (w').cell? ⟨b, 8, none⟩ = some (.map none) ∧ (w').cell? ⟨b, 9, none⟩ = some (.bool false) ∧ (w').cell? ⟨b, 10, none⟩ = some (.map r2) ∧ (w').cell? ⟨b, 11, none⟩ = some (.map none) ∧ Chg [] W (w') :=
  ⟨cell_nxt hn h.1, cell_nxt hn h.2.1, cell_nxt hn h.2.2.1, cell_nxt hn h.2.2.2.1, cell_nxt hn h.2.2.2.2.1, hc⟩
theorem heldTa (o : Obj) (h : (w).cell? ⟨b, 7, none⟩ = some (.map r0) ∧ (w).cell? ⟨b, 8, none⟩ = some (.map none) ∧ (w).cell? ⟨b, 9, none⟩ = some (.bool false) ∧ (w).cell? ⟨b, 10, none⟩ = some (.map r2) ∧ (w).cell? ⟨b, 11, none⟩ = some (.map none) ∧ Chg [] W (w)) : (w.alloc o).cell? ⟨b, 7, none⟩ = some (.map r0) ∧ (w.alloc o).cell? ⟨b, 8, none⟩ = some (.map none) ∧ (w.alloc o).cell? ⟨b, 9, none⟩ = some (.bool false) ∧ (w.alloc o).cell? ⟨b, 10, none⟩ = some (.map r2) ∧ (w.alloc o).cell? ⟨b, 11, none⟩ = some (.map none) ∧ Chg [] W (w.alloc o) :=
  heldT ⟨(Chg.refl _ _).alloc _⟩ (h.2.2.2.2.2.alloc _) h
end
set_option maxRecDepth 100000 in
set_option maxHeartbeats 2000000 in
theorem confState_any {W : World} {b : Nat} {r0 r2 : Option Nat} {V L : List Int}
    (c0 : W.cell? ⟨b, 7, none⟩ = some (.map r0)) (c1 : W.cell? ⟨b, 8, none⟩ = some (.map none)) (c2 : W.cell? ⟨b, 9, none⟩ = some (.bool false)) (c3 : W.cell? ⟨b, 10, none⟩ = some (.map r2)) (c4 : W.cell? ⟨b, 11, none⟩ = some (.map none))
    (hV : SetAt W (.map r0) V) (hL : SetAt W (.map r2) L) (lV : V.length ≤ 12) (lL : L.length ≤ 12) (hne : r0 ≠ none) :
    Calls Tryz.prog 330 #[.pointer (some ⟨b, 7, none⟩)] W fun y w' => ∃ g xs ys, y = .returned (.pointer (some ⟨g, 0, none⟩)) ∧ (∀ M : List Nat, (∀ x ∈ M, x < W.heap.size) → ConfAt M w' (.pointer (some ⟨g, 0, none⟩)) xs ys [] [] false) ∧ xs.Perm V ∧ ys.Perm L ∧ xs.Pairwise (· ≤ ·) ∧ ys.Pairwise (· ≤ ·) ∧ Nxt W w' := by
  have hS0 : (W.drew).cell? ⟨b, 7, none⟩ = some (.map r0) ∧ (W.drew).cell? ⟨b, 8, none⟩ = some (.map none) ∧ (W.drew).cell? ⟨b, 9, none⟩ = some (.bool false) ∧ (W.drew).cell? ⟨b, 10, none⟩ = some (.map r2) ∧ (W.drew).cell? ⟨b, 11, none⟩ = some (.map none) ∧ Chg [] W (W.drew) := ⟨c0, c1, c2, c3, c4, (Chg.refl _ _).drew⟩
  have HS0 := Lib.hid hS0
  have HV := Lib.hid hV
  have HL := Lib.hid hL
  clear hS0 c0 c1 c2 c3 c4 hV hL
  go_enter Tryz.func330, Tryz.ntmps330
  go_wp2_with fail
  go_region_held3 (fun wx => (wx).cell? ⟨b, 7, none⟩ = some (.map r0) ∧ (wx).cell? ⟨b, 8, none⟩ = some (.map none) ∧ (wx).cell? ⟨b, 9, none⟩ = some (.bool false) ∧ (wx).cell? ⟨b, 10, none⟩ = some (.map r2) ∧ (wx).cell? ⟨b, 11, none⟩ = some (.map none) ∧ Chg [] W (wx))
    (first | with_reducible exact HS0.out | exact heldT (by with_reducible assumption) (by with_reducible assumption) (by first | with_reducible assumption | with_reducible exact HS0.out) | exact heldTa _ (by first | with_reducible assumption | with_reducible exact HS0.out) | exact heldTa _ (heldTa _ (by first | with_reducible assumption | with_reducible exact HS0.out)))
    (first | (go_at_call 380; (with_reducible refine Calls.mono (slice_from W _ (r := r0) HV.out lV ?_) ?_); (first | with_reducible assumption | exact (Chg.refl _ _).drew | (simp [*]; done)); rintro e w1 ⟨A1, n1, k1, xs, rfl, s1, p1, q1, hc1, hn1⟩) | (go_at_call 380; (with_reducible refine Calls.mono (slice_from W _ (r := r2) HL.out lL ?_) ?_); (first | with_reducible assumption | exact (Chg.refl _ _).drew | (simp [*]; done)); rintro e w2 ⟨A2, n2, k2, ys, rfl, s2, p2, q2, hc2, hn2⟩; have k13 : Chg [] w1 w2 := hn3.out.trans hn2.out) | (go_at_call 380; (with_reducible refine Calls.mono (sliceNil_from W _ ?_) ?_); (first | with_reducible assumption | exact (Chg.refl _ _).drew | (simp [*]; done)); rintro e w3 ⟨rfl, hc3, hn3⟩))
  have hC : ∀ o o' : Obj, Chg [] w3 ((w3.alloc o).alloc o') := fun o o' => ((Chg.refl _ _).alloc _).alloc _
  have hb : Blk ((w3.alloc (.cells #[.bool false] 4)).alloc (.cells #[.slice A1 n1 k1, .slice A2 n2 k2, .slice none 0 0, .slice none 0 0, .pointer (some ⟨w3.heap.size, 0, none⟩)] 262)) (w3.heap.size + 1) 262 #[.slice A1 n1 k1, .slice A2 n2 k2, .slice none 0 0, .slice none 0 0, .pointer (some ⟨w3.heap.size, 0, none⟩)] := by
    have z := Blk.new (w3.alloc (.cells #[.bool false] 4)) 262 #[.slice A1 n1 k1, .slice A2 n2 k2, .slice none 0 0, .slice none 0 0, .pointer (some ⟨w3.heap.size, 0, none⟩)]
    simp at z
    exact z
  have hp : Blk ((w3.alloc (.cells #[.bool false] 4)).alloc (.cells #[.slice A1 n1 k1, .slice A2 n2 k2, .slice none 0 0, .slice none 0 0, .pointer (some ⟨w3.heap.size, 0, none⟩)] 262)) w3.heap.size 4 #[.bool false] := (Blk.new w3 4 #[.bool false]).alloc _
  have e1 : ∀ M : List Nat, (∀ x ∈ M, x < W.heap.size) → Sl M ((w3.alloc (.cells #[.bool false] 4)).alloc (.cells #[.slice A1 n1 k1, .slice A2 n2 k2, .slice none 0 0, .slice none 0 0, .pointer (some ⟨w3.heap.size, 0, none⟩)] 262)) (.slice A1 n1 k1) (U64s xs) := fun M hM => (s1 M hM).chg0 ((k13.trans hn3.out).trans (hC _ _))
  have e2 : ∀ M : List Nat, (∀ x ∈ M, x < W.heap.size) → Sl M ((w3.alloc (.cells #[.bool false] 4)).alloc (.cells #[.slice A1 n1 k1, .slice A2 n2 k2, .slice none 0 0, .slice none 0 0, .pointer (some ⟨w3.heap.size, 0, none⟩)] 262)) (.slice A2 n2 k2) (U64s ys) := fun M hM => (s2 M hM).chg0 (hn3.out.trans (hC _ _))
  have e3 : Chg [] W ((w3.alloc (.cells #[.bool false] 4)).alloc (.cells #[.slice A1 n1 k1, .slice A2 n2 k2, .slice none 0 0, .slice none 0 0, .pointer (some ⟨w3.heap.size, 0, none⟩)] 262)) := hc3.trans (hC _ _)
  generalize (w3.alloc (.cells #[.bool false] 4)).alloc (.cells #[.slice A1 n1 k1, .slice A2 n2 k2, .slice none 0 0, .slice none 0 0, .pointer (some ⟨w3.heap.size, 0, none⟩)] 262) = w9 at hb hp e1 e2 e3 ⊢
  have l0 := hb.cell 0
  have l1 := hb.cell 1
  have l2 := hb.cell 2
  have l3 := hb.cell 3
  have l4 := hb.cell 4
  simp at l0 l1 l2 l3 l4
  have hz3 := hc3.size
  clear hC k13 hc3 hc2 hn2 hn3 hn1 s1 s2
  go_wp2
  go_ret
  exact ⟨_, xs, ys, rfl, fun M hM => ⟨_, _, _, _, _, _, rfl, fun hm => by have := hM _ hm; omega, hb.lt, l0, l1, l2, l3, l4, e1 M hM, e2 M hM, Sl.nil _ _, Sl.nil _ _, _, _, rfl, fun hm => by have := hM _ hm; omega, hp.lt, by rw [hp.cell 0]; rfl⟩, p1, p2, q1, q2, ⟨e3⟩⟩
end Go.Proofs.YtalhhplphlobbaaGreat
namespace Go.Proofs.YtalhhplphlobbaaGreat
open Go.RowKit
theorem run_lookok {w : World} {b : Nat} {D : DataW Value} (hown : MapAt w b D) {k : Int} (hk : 0 ≤ k ∧ k < 2 ^ 64) {r : Option Value} (hr : mget D k = r) :
    (Instr.lookup 288 (.map (some b)) (.int .u64 k) true).run Tryz.prog w = .ok (.tuple #[r.getD (.pointer none), .bool r.isSome]) w := by
  obtain ⟨v, ps, hrun, hv⟩ := World.ownsMap.look_ok hown u64K Tryz.underlying288 (Tryz.zeroValue304 w) (zd := .held (.pointer none)) (zp := []) rfl (key_u64 hk)
  have h1 := (heldV_inv hv).1
  rw [(hown.look k).2 _, hr] at h1
  cases h1
  rw [hrun, (hown.look k).1, hr]
def RaftS.conf (s : RaftS) (x0 x2 : Option Nat) (bt : Nat) (il : Bool) : RaftS := { s with v0 := .map x0, v1 := .map none, auto := false, lrn := .map x2, lnx := .map none, prog := .map (some bt), isL := il }
set_option maxRecDepth 100000 in
set_option maxHeartbeats 4000000 in
theorem switch_any {w : World} {rb : Nat} {s : RaftS} {x0 bt : Nat} {x2 : Option Nat} {V L : List Int} {f : Int → Option PrS} {p : Int → Nat} (h : RaftAt w rb s) (hs : s.state ≠ 2) (ht : TrkAt w (some x0) x2 bt V L f p) (lV : V.length ≤ 12) (lL : L.length ≤ 12) (hk : 0 ≤ s.id ∧ s.id < 2 ^ 64) :
    Calls Tryz.prog 276 #[.pointer (some ⟨rb, 0, none⟩), .agg #[.map (some x0), .map none, .bool false, .map x2, .map none], .map (some bt)] w fun y w' => ∃ g xs ys, y = .returned (.pointer (some ⟨g, 0, none⟩)) ∧ ConfAt [rb] w' (.pointer (some ⟨g, 0, none⟩)) xs ys [] [] false ∧ xs.Perm V ∧ ys.Perm L ∧ xs.Pairwise (· ≤ ·) ∧ ys.Pairwise (· ≤ ·) ∧
      RaftAt w' rb (s.conf (some x0) x2 bt (decide (s.id ∈ L))) ∧ TrkAt w' (some x0) x2 bt V L f p ∧ Chg [rb] w w' := by
  have hC6 : Chg [rb] w ((((((((w.setCell ⟨rb, 7, none⟩ (.map (some x0))).setCell ⟨rb, 8, none⟩ (.map none)).setCell ⟨rb, 9, none⟩ (.bool false)).setCell ⟨rb, 10, none⟩ (.map x2)).setCell ⟨rb, 11, none⟩ (.map none)).setCell ⟨rb, 12, none⟩ (.map (some bt))).alloc (.cells #[.pointer (some ⟨rb, 0, none⟩)] 272)).alloc (.cells #[.map (some x0), .map none, .bool false, .map x2, .map none] 286)) := ((((((((Chg.refl _ _).setCell (.inr (by simp)) _).setCell (.inr (by simp)) _).setCell (.inr (by simp)) _).setCell (.inr (by simp)) _).setCell (.inr (by simp)) _).setCell (.inr (by simp)) _).alloc _).alloc _
  have hR6 : RaftAt ((((((((w.setCell ⟨rb, 7, none⟩ (.map (some x0))).setCell ⟨rb, 8, none⟩ (.map none)).setCell ⟨rb, 9, none⟩ (.bool false)).setCell ⟨rb, 10, none⟩ (.map x2)).setCell ⟨rb, 11, none⟩ (.map none)).setCell ⟨rb, 12, none⟩ (.map (some bt))).alloc (.cells #[.pointer (some ⟨rb, 0, none⟩)] 272)).alloc (.cells #[.map (some x0), .map none, .bool false, .map x2, .map none] 286)) rb (s.conf (some x0) x2 bt s.isL) := Blk.alloc (Blk.alloc ((((((h.set_ 7 (.map (some x0)) { s with v0 := .map (some x0) } rfl).set_ 8 (.map none) { s with v0 := .map (some x0), v1 := .map none } rfl).set_ 9 (.bool false) { s with v0 := .map (some x0), v1 := .map none, auto := false } rfl).set_ 10 (.map x2) { s with v0 := .map (some x0), v1 := .map none, auto := false, lrn := .map x2 } rfl).set_ 11 (.map none) { s with v0 := .map (some x0), v1 := .map none, auto := false, lrn := .map x2, lnx := .map none } rfl).set_ 12 (.map (some bt)) (s.conf (some x0) x2 bt s.isL) rfl) _) _
  have hG6 : Blk ((((((((w.setCell ⟨rb, 7, none⟩ (.map (some x0))).setCell ⟨rb, 8, none⟩ (.map none)).setCell ⟨rb, 9, none⟩ (.bool false)).setCell ⟨rb, 10, none⟩ (.map x2)).setCell ⟨rb, 11, none⟩ (.map none)).setCell ⟨rb, 12, none⟩ (.map (some bt))).alloc (.cells #[.pointer (some ⟨rb, 0, none⟩)] 272)).alloc (.cells #[.map (some x0), .map none, .bool false, .map x2, .map none] 286)) w.heap.size 272 #[.pointer (some ⟨rb, 0, none⟩)] := by
    have z := (Blk.new ((((((w.setCell ⟨rb, 7, none⟩ (.map (some x0))).setCell ⟨rb, 8, none⟩ (.map none)).setCell ⟨rb, 9, none⟩ (.bool false)).setCell ⟨rb, 10, none⟩ (.map x2)).setCell ⟨rb, 11, none⟩ (.map none)).setCell ⟨rb, 12, none⟩ (.map (some bt))) 272 #[.pointer (some ⟨rb, 0, none⟩)]).alloc (.cells #[.map (some x0), .map none, .bool false, .map x2, .map none] 286)
    simp at z
    exact z
  have hT6 : TrkAt ((((((((w.setCell ⟨rb, 7, none⟩ (.map (some x0))).setCell ⟨rb, 8, none⟩ (.map none)).setCell ⟨rb, 9, none⟩ (.bool false)).setCell ⟨rb, 10, none⟩ (.map x2)).setCell ⟨rb, 11, none⟩ (.map none)).setCell ⟨rb, 12, none⟩ (.map (some bt))).alloc (.cells #[.pointer (some ⟨rb, 0, none⟩)] 272)).alloc (.cells #[.map (some x0), .map none, .bool false, .map x2, .map none] 286)) (some x0) x2 bt V L f p := ht.chgB h (by decide) hC6
  have HC6 := Lib.hid hC6
  have HR6 := Lib.hid hR6
  have HG6 := Lib.hid hG6
  have HT6 := Lib.hid hT6
  clear hC6 hR6 hG6 hT6
  have a7 := RaftAt.cell h 7 s.v0 rfl
  have a8 := RaftAt.cell h 8 s.v1 rfl
  have a9 := RaftAt.cell h 9 (.bool s.auto) rfl
  have a10 := RaftAt.cell h 10 s.lrn rfl
  have a11 := RaftAt.cell h 11 s.lnx rfl
  have a12 := RaftAt.cell h 12 s.prog rfl
  have a0 := RaftAt.cell h 0 (.int .u64 s.id) rfl
  have a16 := RaftAt.cell h 16 (.int .u64 s.state) rfl
  have a17 := RaftAt.cell h 17 (.bool s.isL) rfl
  have af := Blk.frozen h
  have al := Blk.lt h
  have HH := Lib.hid h
  have HTT := Lib.hid ht
  clear h ht
  go_enter Tryz.func276, Tryz.ntmps276
  go_wp2_with (first | (go_at_call 330; have hC6 := HC6.out; have hR6 := HR6.out; have hG6 := HG6.out; have hT6 := HT6.out; generalize ((((((((w.setCell ⟨rb, 7, none⟩ (.map (some x0))).setCell ⟨rb, 8, none⟩ (.map none)).setCell ⟨rb, 9, none⟩ (.bool false)).setCell ⟨rb, 10, none⟩ (.map x2)).setCell ⟨rb, 11, none⟩ (.map none)).setCell ⟨rb, 12, none⟩ (.map (some bt))).alloc (.cells #[.pointer (some ⟨rb, 0, none⟩)] 272)).alloc (.cells #[.map (some x0), .map none, .bool false, .map x2, .map none] 286)) = W2 at hC6 hR6 hG6 hT6 ⊢; (with_reducible refine Calls.mono (confState_any (r0 := some x0) (r2 := x2) (RaftAt.cell hR6 7 _ rfl) (RaftAt.cell hR6 8 _ rfl) (RaftAt.cell hR6 9 _ rfl) (RaftAt.cell hR6 10 _ rfl) (RaftAt.cell hR6 11 _ rfl) hT6.sv hT6.sl lV lL (by simp)) ?_); rintro e W3 ⟨g, xs, ys, rfl, hcf, px, py, qx, qy, hn3⟩; have HCF := Lib.hid (hcf [rb] (by intro x hx; simp at hx; subst hx; exact Blk.lt hR6)); have HR3 := Lib.hid (Blk.nxt hR6 hn3); have HG3 := Lib.hid (hG6.nxt hn3); have HT3 := Lib.hid (hT6.nxt hn3); have HC3 := Lib.hid (hC6.nxt hn3); clear hcf hC6 hR6 hG6 hT6 a7 a8 a9 a10 a11 a12 a0 a16 a17 af al; have b0 : W3.cell? ⟨rb, 0, none⟩ = some (.int .u64 s.id) := RaftAt.cell HR3.out 0 _ rfl; have b12 : W3.cell? ⟨rb, 12, none⟩ = some (.map (some bt)) := RaftAt.cell HR3.out 12 _ rfl; have b16 : W3.cell? ⟨rb, 16, none⟩ = some (.int .u64 s.state) := RaftAt.cell HR3.out 16 _ rfl; have b17 : W3.cell? ⟨rb, 17, none⟩ = some (.bool s.isL) := RaftAt.cell HR3.out 17 _ rfl; have bf := Blk.frozen HR3.out; have bl := Blk.lt HR3.out; have g0 := HG3.out.cell 0; simp at g0; clear hn3))
  obtain ⟨D, hD, hget⟩ := HT3.out.prg.map
  have hlk := run_lookok (hD.chg (L := []) (Chg.refl _ _).drew (by simp)) hk (hget s.id)
  have HHS := Lib.hid hs
  clear hD hget hs
  by_cases hm : s.id ∈ V ∨ s.id ∈ L
  · obtain ⟨st, hst, hil, hbl⟩ := HT3.out.get hm
    rw [hst] at hlk
    simp only [Option.map, Option.getD, Option.isSome] at hlk
    have d8 := hbl.cell 8
    simp [PrS.cells] at d8
    clear hst hbl
    go_region
    clear hlk
    generalize st.il = bi at d8 hil
    have hs2 : (s.state == 2) = false := by simpa using HHS.out
    have hs3 := HHS.out
    have HIL := Lib.hid hil
    clear hil
    go_wp2_with fail
    go_region
    have hF : Chg [rb] W3 ((W3.setCell ⟨rb, 17, none⟩ (.bool bi)).drew.drew) := (((Chg.refl _ _).setCell (.inr (by simp)) _).drew).drew
    have hRF : RaftAt ((W3.setCell ⟨rb, 17, none⟩ (.bool bi)).drew.drew) rb (s.conf (some x0) x2 bt (decide (s.id ∈ L))) := by
      have z := RaftAt.set_ HR3.out 17 (.bool bi) (s.conf (some x0) x2 bt bi) rfl
      rw [← HIL.out]
      exact z
    have HRF := Lib.hid hRF
    have HF := Lib.hid hF
    clear hRF hF
    cases bi
    · go_wp2_with fail
      go_ret
      exact ⟨g, xs, ys, rfl, HCF.out.chg HF.out (by simp), px, py, qx, qy, HRF.out, HT3.out.chgB HR3.out (by decide) HF.out, HC3.out.trans HF.out⟩
    · go_wp2_with fail
      go_ret
      exact ⟨g, xs, ys, rfl, HCF.out.chg HF.out (by simp), px, py, qx, qy, HRF.out, HT3.out.chgB HR3.out (by decide) HF.out, HC3.out.trans HF.out⟩
  · have hfn : f s.id = none := by
      have := mt (HT3.out.dom s.id).1 hm
      simpa using this
    rw [hfn] at hlk
    simp only [Option.map, Option.getD, Option.isSome] at hlk
    clear hfn
    go_region
    clear hlk
    have hs2 : (s.state == 2) = false := by simpa using HHS.out
    have hs3 := HHS.out
    go_wp2_with fail
    go_region
    have hF : Chg [rb] W3 ((W3.setCell ⟨rb, 17, none⟩ (.bool false)).drew.drew) := (((Chg.refl _ _).setCell (.inr (by simp)) _).drew).drew
    have hRF : RaftAt ((W3.setCell ⟨rb, 17, none⟩ (.bool false)).drew.drew) rb (s.conf (some x0) x2 bt (decide (s.id ∈ L))) := by
      have z := RaftAt.set_ HR3.out 17 (.bool false) (s.conf (some x0) x2 bt false) rfl
      rw [show decide (s.id ∈ L) = false from decide_eq_false (fun h => hm (.inr h))]
      exact z
    have HRF := Lib.hid hRF
    have HF := Lib.hid hF
    clear hRF hF
    go_wp2_with fail
    go_ret
    exact ⟨g, xs, ys, rfl, HCF.out.chg HF.out (by simp), px, py, qx, qy, HRF.out, HT3.out.chgB HR3.out (by decide) HF.out, HC3.out.trans HF.out⟩
end Go.Proofs.YtalhhplphlobbaaGreat
namespace Go.Proofs.YtalhhplphlobbaaGreat
open Go.RowKit
def I64s (l : List Int) : List Value := l.map (Value.int .i64)
/-- What is drawn at the k-th draw. -/
def zdraw (D : List Int) (k : Nat) : Int := if D = [] then 0 else D.getD (k % D.length) 0
set_option maxRecDepth 100000 in
set_option maxHeartbeats 1000000 in
theorem intn_nil {w : World} {rb : Nat} {s : RaftS} {n : Int} {A : Option Addr} {c : Nat} (h : RaftAt w rb s) (hz : s.zd = .slice A 0 c) :
    Calls Tryz.prog 396 #[.pointer (some ⟨rb, 0, none⟩), .int .i64 n] w fun y w' => y = .returned (.int .i64 0) ∧ w = w' := by
  have c38 := RaftAt.cell h 38 s.zd rfl
  rw [hz] at c38
  clear hz h
  go_enter Tryz.func396, Tryz.ntmps396
  go_wp2
  go_ret
  exact ⟨rfl, rfl⟩
set_option maxRecDepth 100000 in
set_option maxHeartbeats 2000000 in
theorem intn_some {w : World} {rb : Nat} {s : RaftS} {n : Int} {M : List Nat} {D : List Int} {k : Nat} (h : RaftAt w rb s) (hz : Sl M w s.zd (I64s D)) (hD : D ≠ []) (hk : s.zn = k) (hk1 : k < 1000000000) (hl : D.length ≤ 1000) (hn : ∀ x ∈ D, 0 ≤ x ∧ x < n) (hn1 : n < 1000000000) :
    Calls Tryz.prog 396 #[.pointer (some ⟨rb, 0, none⟩), .int .i64 n] w fun y w' => y = .returned (.int .i64 (zdraw D k)) ∧ RaftAt w' rb { s with zn := k + 1 } ∧ Chg [rb] w w' := by
  obtain ⟨A, m, c, e, hlen, hmc, hA0, hA⟩ := hz
  have hlen : D.length = m := by simpa [I64s] using hlen
  have hm : 0 < m := by rw [← hlen]; exact List.length_pos_iff.2 hD
  rcases A with _ | ⟨b, o, t⟩
  · have := hA0 rfl
    omega
  obtain ⟨rfl, _, hb, hcell⟩ := hA b o t rfl
  have hj : k % m < D.length := by rw [hlen]; exact Nat.mod_lt _ hm
  obtain ⟨x, hx⟩ : ∃ x, D[k % m]? = some x := ⟨D[k % m], List.getElem?_eq_getElem hj⟩
  have hx2 := hn x (List.mem_of_getElem? hx)
  have hzd : zdraw D k = x := by
    unfold zdraw
    rw [if_neg hD, List.getD_eq_getElem?_getD, hlen, hx]
    rfl
  have cx := hcell (k % m) (.int .i64 x) (by simp [I64s, hx])
  have c38 := RaftAt.cell h 38 s.zd rfl
  have c39 := RaftAt.cell h 39 (.int .i64 s.zn) rfl
  have cf := Blk.frozen h
  rw [e] at c38
  rw [hk] at c39
  have e1 : ((k : Int)).tmod (m : Int) = ((k % m : Nat) : Int) := by rw [Int.tmod_eq_emod_of_nonneg (by omega)]; exact (Int.natCast_emod k m).symm
  have e2 : x.tmod n = x := by rw [Int.tmod_eq_emod_of_nonneg (by omega)]; exact Int.emod_eq_of_lt hx2.1 hx2.2
  rw [hzd]
  have H := Lib.hid h
  have HK := Lib.hid hk
  have hjm : k % m < m := Nat.mod_lt _ hm
  have h1 : (0 : Int) ≤ ((k % m : Nat) : Int) := by omega
  have h2 : ((k % m : Nat) : Int) < (m : Int) := by omega
  obtain ⟨j, hjE⟩ : ∃ j, j = k % m := ⟨_, rfl⟩
  rw [← hjE] at e1 cx h1 h2 hjm
  have x0 := hx2.1
  have x1 := hx2.2
  have n1 : 0 < n := by omega
  clear h hk hzd hx hj hn hcell hA hA0 hlen hjE hx2 e hD
  go_enter Tryz.func396, Tryz.ntmps396
  go_wp2
  go_region
  go_wp2
  go_ret
  exact ⟨rfl, RaftAt.set_ H.out 39 _ { s with zn := k + 1 } rfl, (by (focus (first | with_reducible assumption | ((repeat (first | with_reducible exact Chg.refl _ _ | with_reducible assumption | with_reducible refine Chg.drew ?_ | with_reducible refine Chg.alloc ?_ _ | with_reducible refine Chg.setCell ?_ (by simp) _ | with_reducible refine Chg.nxt ?_ (by assumption))); done))))⟩
set_option maxRecDepth 100000 in
set_option maxHeartbeats 1000000 in
theorem abortTr_any {w : World} {rb : Nat} {s : RaftS} (h : RaftAt w rb s) : Calls Tryz.prog 337 #[.pointer (some ⟨rb, 0, none⟩)] w fun y w' => y = .returned (.tuple #[]) ∧ RaftAt w' rb { s with ltr := 0 } ∧ Chg [rb] w w' := by
  have c21 := RaftAt.cell h 21 (.int .u64 s.ltr) rfl
  have cf := Blk.frozen h
  go_enter Tryz.func337, Tryz.ntmps337
  go_wp2
  go_end0
  exact ⟨rfl, RaftAt.set_ h 21 _ { s with ltr := 0 } rfl, (by (focus (first | with_reducible assumption | ((repeat (first | with_reducible exact Chg.refl _ _ | with_reducible assumption | with_reducible refine Chg.drew ?_ | with_reducible refine Chg.alloc ?_ _ | with_reducible refine Chg.setCell ?_ (by simp) _ | with_reducible refine Chg.nxt ?_ (by assumption))); done))))⟩
/-- A map of votes: what is told of it is that it is there, and new. -/
theorem resetVotes_any {w : World} {rb : Nat} {s : RaftS} (h : RaftAt w rb s) : Calls Tryz.prog 342 #[.pointer (some ⟨rb, 7, none⟩)] w fun y w' => ∃ bv, y = .returned (.tuple #[]) ∧ w.heap.size ≤ bv ∧ MapAt w' bv (.map []) ∧ RaftAt w' rb { s with votes := .map (some bv) } ∧ Chg [rb] w w' := by
  have hmm := @run_makeMap Tryz.prog
  have c13 := RaftAt.cell h 13 s.votes rfl
  have cf := Blk.frozen h
  have cl := Blk.lt h
  go_enter Tryz.func342, Tryz.ntmps342
  go_wp2
  go_end0
  refine ⟨w.heap.size, rfl, Nat.le_refl _, ?_, Blk.alloc (RaftAt.set_ h 13 _ { s with votes := .map (some w.heap.size) } rfl) _, (by (focus (first | with_reducible assumption | ((repeat (first | with_reducible exact Chg.refl _ _ | with_reducible assumption | with_reducible refine Chg.drew ?_ | with_reducible refine Chg.alloc ?_ _ | with_reducible refine Chg.setCell ?_ (by simp) _ | with_reducible refine Chg.nxt ?_ (by assumption))); done))))⟩
  have := MapAt.new (w.setCell ⟨rb, 13, none⟩ (.map (some w.heap.size)))
  simpa using this
def zstep (D : List Int) (k : Nat) : Nat := if D = [] then k else k + 1
theorem intn_any {w : World} {rb : Nat} {s : RaftS} {n : Int} {M : List Nat} {D : List Int} {k : Nat} (h : RaftAt w rb s) (hz : Sl M w s.zd (I64s D)) (hk : s.zn = k) (hk1 : k < 1000000000) (hl : D.length ≤ 1000) (hn : ∀ x ∈ D, 0 ≤ x ∧ x < n) (hn1 : n < 1000000000) :
    Calls Tryz.prog 396 #[.pointer (some ⟨rb, 0, none⟩), .int .i64 n] w fun y w' => y = .returned (.int .i64 (zdraw D k)) ∧ RaftAt w' rb { s with zn := zstep D k } ∧ Chg [rb] w w' := by
  by_cases hD : D = []
  · subst hD
    obtain ⟨A, m, c, e, hlen, hmc, hA0, hA⟩ := hz
    have : m = 0 := by simpa [I64s] using hlen.symm
    subst this
    refine (intn_nil h e).mono ?_
    rintro y w' ⟨rfl, rfl⟩
    refine ⟨by simp [zdraw], ?_, Chg.refl _ _⟩
    rw [show zstep [] k = k from by simp [zstep], ← hk]
    exact h
  · refine (intn_some h hz hD hk hk1 hl hn hn1).mono ?_
    rintro y w' ⟨rfl, h1, h2⟩
    refine ⟨rfl, ?_, h2⟩
    rw [show ((zstep D k : Nat) : Int) = k + 1 from by simp [zstep, hD]]
    exact h1
theorem zdraw_bd {D : List Int} {n : Int} (k : Nat) (hn : ∀ x ∈ D, 0 ≤ x ∧ x < n) (h0 : 0 < n) : 0 ≤ zdraw D k ∧ zdraw D k < n := by
  unfold zdraw
  split
  · omega
  · rename_i hD
    have hm : 0 < D.length := List.length_pos_iff.2 hD
    have hj : k % D.length < D.length := Nat.mod_lt _ hm
    rw [List.getD_eq_getElem?_getD, List.getElem?_eq_getElem hj]
    exact hn _ (List.getElem_mem hj)
set_option maxRecDepth 100000 in
set_option maxHeartbeats 1000000 in
theorem resetRand_any {w : World} {rb : Nat} {s : RaftS} {M : List Nat} {D : List Int} {k : Nat} (h : RaftAt w rb s) (hz : Sl M w s.zd (I64s D)) (hk : s.zn = k) (hk1 : k < 1000000000) (hl : D.length ≤ 1000) (hn : ∀ x ∈ D, 0 ≤ x ∧ x < s.et) (hn0 : 0 < s.et) (hn1 : s.et < 1000000000) :
    Calls Tryz.prog 341 #[.pointer (some ⟨rb, 0, none⟩)] w fun y w' => y = .returned (.tuple #[]) ∧ RaftAt w' rb { s with zn := zstep D k, ret := s.et + zdraw D k } ∧ Chg [rb] w w' := by
  have c31 := RaftAt.cell h 31 (.int .i64 s.et) rfl
  have c32 := RaftAt.cell h 32 (.int .i64 s.ret) rfl
  have cf := Blk.frozen h
  have hI := intn_any (rb := rb) (s := s) (n := s.et) (M := M) (D := D) (k := k) (Blk.drew h) (hz.chg0 (Chg.refl _ _).drew) hk hk1 hl hn hn1
  have HI := Lib.hid hI
  obtain ⟨z0, z1⟩ := zdraw_bd k hn hn0
  have HK := Lib.hid hk
  clear hI hz hk hn
  generalize zdraw D k = z at z0 z1 HI ⊢
  have ew : IntKind.i64.wrap (s.et + z) = s.et + z := IntWalk.i64_in _ (by omega)
  go_enter Tryz.func341, Tryz.ntmps341
  go_wp2_with fail
  go_region_held3 (fun wx => wx.cell? ⟨rb, 31, none⟩ = some (.int .i64 s.et))
    (first | with_reducible assumption | exact RaftAt.cell HR1.out 31 _ rfl | (simp [go_sem, *]; done))
    (first | (go_at_call 396; (with_reducible refine Calls.mono HI.out ?_); rintro e w1 ⟨rfl, hr1, hc1⟩; have HR1 := Lib.hid hr1; have HC1 := Lib.hid hc1; have d31 : w1.cell? ⟨rb, 31, none⟩ = some (.int .i64 s.et) := RaftAt.cell hr1 31 _ rfl; have d32 : w1.cell? ⟨rb, 32, none⟩ = some (.int .i64 s.ret) := RaftAt.cell hr1 32 _ rfl; have df := Blk.frozen hr1; clear hr1 hc1))
  go_end0
  exact ⟨rfl, RaftAt.set_ HR1.out 32 _ { s with zn := zstep D k, ret := s.et + z } rfl, (((Chg.refl _ _).drew).trans HC1.out).setCell (.inr (by simp)) _⟩
end Go.Proofs.YtalhhplphlobbaaGreat
namespace Go.Proofs.YtalhhplphlobbaaGreat
open Go.RowKit
/-- The fields of a raft.Config. -/
structure CfgS where
  id : Int
  et : Int
  ht : Int
  ms : Nat
  apd : Int
  asy : Bool
  msz : Int
  mco : Int
  mun : Int
  inf : Int
  mib : Int
  cq : Bool
  pv : Bool
  opt : Int
  dpf : Bool
  dcv : Bool
  sdr : Bool
  zd : Value
def CfgS.cells (c : CfgS) : Array Value := #[.int .u64 c.id, .int .i64 c.et, .int .i64 c.ht, .iface 137 (.pointer (some ⟨c.ms, 0, none⟩)), .int .u64 c.apd, .bool c.asy, .int .u64 c.msz, .int .u64 c.mco, .int .u64 c.mun, .int .i64 c.inf, .int .u64 c.mib, .bool c.cq, .bool c.pv, .int .i64 c.opt, .bool c.dpf, .bool c.dcv, .bool c.sdr, c.zd]
def CfgAt (w : World) (b : Nat) (c : CfgS) : Prop := Blk w b 268 c.cells
theorem CfgAt.cell {w : World} {b : Nat} {c : CfgS} (h : CfgAt w b c) (k : Nat) (u : Value) (he : c.cells[k]? = some u) : w.cell? ⟨b, k, none⟩ = some u := (Blk.cell h k).trans he
theorem CfgAt.set_ {w : World} {b : Nat} {c : CfgS} (h : CfgAt w b c) (k : Nat) (u : Value) (c' : CfgS) (he : c.cells.setIfInBounds k u = c'.cells) : CfgAt (w.setCell ⟨b, k, none⟩ u) b c' := by
  have := Blk.set_ h k u
  rw [he] at this
  exact this
theorem CfgAt.chg {L : List Nat} {w w' : World} {b : Nat} {c : CfgS} (h : CfgAt w b c) (hc : Chg L w w') (hg : b ∉ L) : CfgAt w' b c := Blk.chg h hc hg
set_option maxRecDepth 100000 in
set_option maxHeartbeats 400000 in
theorem local_no (w : World) (id : Int) (h0 : 0 ≤ id) (h1 : id < 4611686018427387904) : Calls Tryz.prog 171 #[.int .u64 id] w fun y w' => y = .returned (.bool false) ∧ w = w' := by
  have e1 : (id == 18446744073709551615) = false := by simp; omega
  have e2 : (id == 18446744073709551614) = false := by simp; omega
  go_enter Tryz.func171, Tryz.ntmps171
  go_wp2
  go_ret
  exact ⟨rfl, rfl⟩
/-- What validate makes of it. -/
def CfgS.valid (c : CfgS) : CfgS := { c with mun := if c.mun = 0 then 18446744073709551615 else c.mun, mib := 18446744073709551615 }
set_option maxRecDepth 100000 in
set_option maxHeartbeats 4000000 in
theorem validate_any {w : World} {b : Nat} {c : CfgS} (h : CfgAt w b c) (h0 : 0 < c.id) (h1 : c.id < 4611686018427387904) (h2 : 0 < c.ht) (h3 : c.ht < c.et) (h4 : 0 < c.mco) (h5 : 0 < c.inf) (h6 : c.mib = 0) (h7 : c.msz ≤ 18446744073709551615) (h8 : c.opt = 1 → c.cq = true) :
    Calls Tryz.prog 269 #[.pointer (some ⟨b, 0, none⟩)] w fun y w' => y = .returned .nilIface ∧ CfgAt w' b c.valid ∧ Chg [b] w w' := by
  obtain ⟨id, et, ht, ms, apd, asy, msz, mco, mun, inf, mib, cq, pv, opt, dpf, dcv, sdr, zd⟩ := c
  simp only at h0 h1 h2 h3 h4 h5 h6 h7 h8
  subst h6
  have c0 : w.cell? ⟨b, 0, none⟩ = some (.int .u64 id) := CfgAt.cell h 0 _ rfl
  have c1 : w.cell? ⟨b, 1, none⟩ = some (.int .i64 et) := CfgAt.cell h 1 _ rfl
  have c2 : w.cell? ⟨b, 2, none⟩ = some (.int .i64 ht) := CfgAt.cell h 2 _ rfl
  have c3 : w.cell? ⟨b, 3, none⟩ = some (.iface 137 (.pointer (some ⟨ms, 0, none⟩))) := CfgAt.cell h 3 _ rfl
  have c6 : w.cell? ⟨b, 6, none⟩ = some (.int .u64 msz) := CfgAt.cell h 6 _ rfl
  have c7 : w.cell? ⟨b, 7, none⟩ = some (.int .u64 mco) := CfgAt.cell h 7 _ rfl
  have c8 : w.cell? ⟨b, 8, none⟩ = some (.int .u64 mun) := CfgAt.cell h 8 _ rfl
  have c9 : w.cell? ⟨b, 9, none⟩ = some (.int .i64 inf) := CfgAt.cell h 9 _ rfl
  have c10 : w.cell? ⟨b, 10, none⟩ = some (.int .u64 0) := CfgAt.cell h 10 _ rfl
  have c11 : w.cell? ⟨b, 11, none⟩ = some (.bool cq) := CfgAt.cell h 11 _ rfl
  have c13 : w.cell? ⟨b, 13, none⟩ = some (.int .i64 opt) := CfgAt.cell h 13 _ rfl
  have cf := Blk.frozen h
  have e0 : (id == 0) = false := by simp; omega
  have e2 : ¬ ht ≤ 0 := by omega
  have e3 : ¬ et ≤ ht := by omega
  have e4 : (mco == 0) = false := by simp; omega
  have e5 : ¬ inf ≤ 0 := by omega
  have e7 : ¬ (18446744073709551615 : Int) < msz := by omega
  have H := Lib.hid h
  clear h
  by_cases hm : mun = 0
  · subst hm
    by_cases ho : opt = 1
    · subst ho
      have hcq := h8 rfl
      subst hcq
      clear h8
      go_enter Tryz.func269, Tryz.ntmps269
      go_wp2_with (first | (go_at_call 171; (with_reducible refine Calls.mono (local_no _ id (by omega) h1) ?_); rintro e w' ⟨rfl, rfl⟩))
      go_region
      go_wp2_with fail
      go_ret
      refine ⟨rfl, ?_, (by (focus (first | with_reducible assumption | ((repeat (first | with_reducible exact Chg.refl _ _ | with_reducible assumption | with_reducible refine Chg.drew ?_ | with_reducible refine Chg.alloc ?_ _ | with_reducible refine Chg.setCell ?_ (by simp) _ | with_reducible refine Chg.nxt ?_ (by assumption))); done))))⟩
      exact CfgAt.set_ (CfgAt.set_ H.out 8 _ ⟨id, et, ht, ms, apd, asy, msz, mco, 18446744073709551615, inf, 0, _, pv, _, dpf, dcv, sdr, zd⟩ rfl) 10 _ (CfgS.valid ⟨id, et, ht, ms, apd, asy, msz, mco, 0, inf, 0, _, pv, _, dpf, dcv, sdr, zd⟩) rfl
    · have ho2 : (opt == 1) = false := by simpa using ho
      clear h8
      go_enter Tryz.func269, Tryz.ntmps269
      go_wp2_with (first | (go_at_call 171; (with_reducible refine Calls.mono (local_no _ id (by omega) h1) ?_); rintro e w' ⟨rfl, rfl⟩))
      go_region
      go_wp2_with fail
      go_ret
      refine ⟨rfl, ?_, (by (focus (first | with_reducible assumption | ((repeat (first | with_reducible exact Chg.refl _ _ | with_reducible assumption | with_reducible refine Chg.drew ?_ | with_reducible refine Chg.alloc ?_ _ | with_reducible refine Chg.setCell ?_ (by simp) _ | with_reducible refine Chg.nxt ?_ (by assumption))); done))))⟩
      exact CfgAt.set_ (CfgAt.set_ H.out 8 _ ⟨id, et, ht, ms, apd, asy, msz, mco, 18446744073709551615, inf, 0, _, pv, _, dpf, dcv, sdr, zd⟩ rfl) 10 _ (CfgS.valid ⟨id, et, ht, ms, apd, asy, msz, mco, 0, inf, 0, _, pv, _, dpf, dcv, sdr, zd⟩) rfl
  · have hm2 : (mun == 0) = false := by simpa using hm
    by_cases ho : opt = 1
    · subst ho
      have hcq := h8 rfl
      subst hcq
      clear h8
      go_enter Tryz.func269, Tryz.ntmps269
      go_wp2_with (first | (go_at_call 171; (with_reducible refine Calls.mono (local_no _ id (by omega) h1) ?_); rintro e w' ⟨rfl, rfl⟩))
      go_region
      go_wp2_with fail
      go_ret
      refine ⟨rfl, ?_, (by (focus (first | with_reducible assumption | ((repeat (first | with_reducible exact Chg.refl _ _ | with_reducible assumption | with_reducible refine Chg.drew ?_ | with_reducible refine Chg.alloc ?_ _ | with_reducible refine Chg.setCell ?_ (by simp) _ | with_reducible refine Chg.nxt ?_ (by assumption))); done))))⟩
      have e9 : (CfgS.valid ⟨id, et, ht, ms, apd, asy, msz, mco, mun, inf, 0, true, pv, 1, dpf, dcv, sdr, zd⟩) = ⟨id, et, ht, ms, apd, asy, msz, mco, mun, inf, 18446744073709551615, true, pv, 1, dpf, dcv, sdr, zd⟩ := by simp [CfgS.valid, hm]
      rw [e9]
      exact CfgAt.set_ H.out 10 _ _ rfl
    · have ho2 : (opt == 1) = false := by simpa using ho
      clear h8
      go_enter Tryz.func269, Tryz.ntmps269
      go_wp2_with (first | (go_at_call 171; (with_reducible refine Calls.mono (local_no _ id (by omega) h1) ?_); rintro e w' ⟨rfl, rfl⟩))
      go_region
      go_wp2_with fail
      go_ret
      refine ⟨rfl, ?_, (by (focus (first | with_reducible assumption | ((repeat (first | with_reducible exact Chg.refl _ _ | with_reducible assumption | with_reducible refine Chg.drew ?_ | with_reducible refine Chg.alloc ?_ _ | with_reducible refine Chg.setCell ?_ (by simp) _ | with_reducible refine Chg.nxt ?_ (by assumption))); done))))⟩
      have e9 : (CfgS.valid ⟨id, et, ht, ms, apd, asy, msz, mco, mun, inf, 0, cq, pv, opt, dpf, dcv, sdr, zd⟩) = ⟨id, et, ht, ms, apd, asy, msz, mco, mun, inf, 18446744073709551615, cq, pv, opt, dpf, dcv, sdr, zd⟩ := by simp [CfgS.valid, hm]
      rw [e9]
      exact CfgAt.set_ H.out 10 _ _ rfl
end Go.Proofs.YtalhhplphlobbaaGreat
