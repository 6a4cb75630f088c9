/- A raft takes its configuration. Conditions: sizes. A raft's small parts: what is drawn for its timeout, the transfer, the votes. Conditions: sizes. reset$1: a member's progress made anew. Conditions: sizes. -/
import Derived.BigRegion
import Derived.IntWalk
import Derived.Test.YtalhhplphlobbaaGreatP06
import Derived.Test.YtalhhplphlobbaaGreatP15
set_option linter.unusedVariables false
set_option linter.unusedSimpArgs false
namespace Go.Proofs.YtalhhplphlobbaaGreat
open Go.RowKit
theorem run_lookok {w : World} {b : Nat} {D : DataW Value} (hown : MapAt w b D) {k : Int} (hk : 0 ≤ k ∧ k < 2 ^ 64) {r : Option Value} (hr : mget D k = r) :
    (Instr.lookup 288 (.map (some b)) (.int .u64 k) true).run Tryz.prog w = .ok (.tuple #[r.getD (.pointer none), .bool r.isSome]) w := by
  obtain ⟨v, ps, hrun, hv⟩ := World.ownsMap.look_ok hown u64K Tryz.underlying288 (Tryz.zeroValue304 w) (zd := .held (.pointer none)) (zp := []) rfl (key_u64 hk)
  have h1 := (heldV_inv hv).1
  rw [(hown.look k).2 _, hr] at h1
  cases h1
  rw [hrun, (hown.look k).1, hr]
def RaftS.conf (s : RaftS) (x0 x2 : Option Nat) (bt : Nat) (il : Bool) : RaftS := { s with v0 := .map x0, v1 := .map none, auto := false, lrn := .map x2, lnx := .map none, prog := .map (some bt), isL := il }
set_option maxRecDepth 100000 in
set_option maxHeartbeats 4000000 in
theorem switch_any {w : World} {rb : Nat} {s : RaftS} {x0 bt : Nat} {x2 : Option Nat} {V L : List Int} {f : Int → Option PrS} {p : Int → Nat} (h : RaftAt w rb s) (hs : s.state ≠ 2) (ht : TrkAt w (some x0) x2 bt V L f p) (lV : V.length ≤ 12) (lL : L.length ≤ 12) (hk : 0 ≤ s.id ∧ s.id < 2 ^ 64) :
    Calls Tryz.prog 276 #[.pointer (some ⟨rb, 0, none⟩), .agg #[.map (some x0), .map none, .bool false, .map x2, .map none], .map (some bt)] w fun y w' => ∃ g xs ys, y = .returned (.pointer (some ⟨g, 0, none⟩)) ∧ ConfAt [rb] w' (.pointer (some ⟨g, 0, none⟩)) xs ys [] [] false ∧ xs.Perm V ∧ ys.Perm L ∧ xs.Pairwise (· ≤ ·) ∧ ys.Pairwise (· ≤ ·) ∧
      RaftAt w' rb (s.conf (some x0) x2 bt (decide (s.id ∈ L))) ∧ TrkAt w' (some x0) x2 bt V L f p ∧ Chg [rb] w w' := by
  have hC6 : Chg [rb] w ((((((((w.setCell ⟨rb, 7, none⟩ (.map (some x0))).setCell ⟨rb, 8, none⟩ (.map none)).setCell ⟨rb, 9, none⟩ (.bool false)).setCell ⟨rb, 10, none⟩ (.map x2)).setCell ⟨rb, 11, none⟩ (.map none)).setCell ⟨rb, 12, none⟩ (.map (some bt))).alloc (.cells #[.pointer (some ⟨rb, 0, none⟩)] 272)).alloc (.cells #[.map (some x0), .map none, .bool false, .map x2, .map none] 286)) := ((((((((Chg.refl _ _).setCell (.inr (by simp)) _).setCell (.inr (by simp)) _).setCell (.inr (by simp)) _).setCell (.inr (by simp)) _).setCell (.inr (by simp)) _).setCell (.inr (by simp)) _).alloc _).alloc _
  have hR6 : RaftAt ((((((((w.setCell ⟨rb, 7, none⟩ (.map (some x0))).setCell ⟨rb, 8, none⟩ (.map none)).setCell ⟨rb, 9, none⟩ (.bool false)).setCell ⟨rb, 10, none⟩ (.map x2)).setCell ⟨rb, 11, none⟩ (.map none)).setCell ⟨rb, 12, none⟩ (.map (some bt))).alloc (.cells #[.pointer (some ⟨rb, 0, none⟩)] 272)).alloc (.cells #[.map (some x0), .map none, .bool false, .map x2, .map none] 286)) rb (s.conf (some x0) x2 bt s.isL) := Blk.alloc (Blk.alloc ((((((h.set_ 7 (.map (some x0)) { s with v0 := .map (some x0) } rfl).set_ 8 (.map none) { s with v0 := .map (some x0), v1 := .map none } rfl).set_ 9 (.bool false) { s with v0 := .map (some x0), v1 := .map none, auto := false } rfl).set_ 10 (.map x2) { s with v0 := .map (some x0), v1 := .map none, auto := false, lrn := .map x2 } rfl).set_ 11 (.map none) { s with v0 := .map (some x0), v1 := .map none, auto := false, lrn := .map x2, lnx := .map none } rfl).set_ 12 (.map (some bt)) (s.conf (some x0) x2 bt s.isL) rfl) _) _
  have hG6 : Blk ((((((((w.setCell ⟨rb, 7, none⟩ (.map (some x0))).setCell ⟨rb, 8, none⟩ (.map none)).setCell ⟨rb, 9, none⟩ (.bool false)).setCell ⟨rb, 10, none⟩ (.map x2)).setCell ⟨rb, 11, none⟩ (.map none)).setCell ⟨rb, 12, none⟩ (.map (some bt))).alloc (.cells #[.pointer (some ⟨rb, 0, none⟩)] 272)).alloc (.cells #[.map (some x0), .map none, .bool false, .map x2, .map none] 286)) w.heap.size 272 #[.pointer (some ⟨rb, 0, none⟩)] := by
    have z := (Blk.new ((((((w.setCell ⟨rb, 7, none⟩ (.map (some x0))).setCell ⟨rb, 8, none⟩ (.map none)).setCell ⟨rb, 9, none⟩ (.bool false)).setCell ⟨rb, 10, none⟩ (.map x2)).setCell ⟨rb, 11, none⟩ (.map none)).setCell ⟨rb, 12, none⟩ (.map (some bt))) 272 #[.pointer (some ⟨rb, 0, none⟩)]).alloc (.cells #[.map (some x0), .map none, .bool false, .map x2, .map none] 286)
    simp at z
    exact z
  have hT6 : TrkAt ((((((((w.setCell ⟨rb, 7, none⟩ (.map (some x0))).setCell ⟨rb, 8, none⟩ (.map none)).setCell ⟨rb, 9, none⟩ (.bool false)).setCell ⟨rb, 10, none⟩ (.map x2)).setCell ⟨rb, 11, none⟩ (.map none)).setCell ⟨rb, 12, none⟩ (.map (some bt))).alloc (.cells #[.pointer (some ⟨rb, 0, none⟩)] 272)).alloc (.cells #[.map (some x0), .map none, .bool false, .map x2, .map none] 286)) (some x0) x2 bt V L f p := ht.chgB h (by decide) hC6
  have HC6 := Lib.hid hC6
  have HR6 := Lib.hid hR6
  have HG6 := Lib.hid hG6
  have HT6 := Lib.hid hT6
  clear hC6 hR6 hG6 hT6
  have a7 := RaftAt.cell h 7 s.v0 rfl
  have a8 := RaftAt.cell h 8 s.v1 rfl
  have a9 := RaftAt.cell h 9 (.bool s.auto) rfl
  have a10 := RaftAt.cell h 10 s.lrn rfl
  have a11 := RaftAt.cell h 11 s.lnx rfl
  have a12 := RaftAt.cell h 12 s.prog rfl
  have a0 := RaftAt.cell h 0 (.int .u64 s.id) rfl
  have a16 := RaftAt.cell h 16 (.int .u64 s.state) rfl
  have a17 := RaftAt.cell h 17 (.bool s.isL) rfl
  have af := Blk.frozen h
  have al := Blk.lt h
  have HH := Lib.hid h
  have HTT := Lib.hid ht
  clear h ht
  go_enter Tryz.func276, Tryz.ntmps276
  go_wp2_with (first | (go_at_call 330; have hC6 := HC6.out; have hR6 := HR6.out; have hG6 := HG6.out; have hT6 := HT6.out; generalize ((((((((w.setCell ⟨rb, 7, none⟩ (.map (some x0))).setCell ⟨rb, 8, none⟩ (.map none)).setCell ⟨rb, 9, none⟩ (.bool false)).setCell ⟨rb, 10, none⟩ (.map x2)).setCell ⟨rb, 11, none⟩ (.map none)).setCell ⟨rb, 12, none⟩ (.map (some bt))).alloc (.cells #[.pointer (some ⟨rb, 0, none⟩)] 272)).alloc (.cells #[.map (some x0), .map none, .bool false, .map x2, .map none] 286)) = W2 at hC6 hR6 hG6 hT6 ⊢; (with_reducible refine Calls.mono (confState_any (r0 := some x0) (r2 := x2) (RaftAt.cell hR6 7 _ rfl) (RaftAt.cell hR6 8 _ rfl) (RaftAt.cell hR6 9 _ rfl) (RaftAt.cell hR6 10 _ rfl) (RaftAt.cell hR6 11 _ rfl) hT6.sv hT6.sl lV lL (by simp)) ?_); rintro e W3 ⟨g, xs, ys, rfl, hcf, px, py, qx, qy, hn3⟩; have HCF := Lib.hid (hcf [rb] (by intro x hx; simp at hx; subst hx; exact Blk.lt hR6)); have HR3 := Lib.hid (Blk.nxt hR6 hn3); have HG3 := Lib.hid (hG6.nxt hn3); have HT3 := Lib.hid (hT6.nxt hn3); have HC3 := Lib.hid (hC6.nxt hn3); clear hcf hC6 hR6 hG6 hT6 a7 a8 a9 a10 a11 a12 a0 a16 a17 af al; have b0 : W3.cell? ⟨rb, 0, none⟩ = some (.int .u64 s.id) := RaftAt.cell HR3.out 0 _ rfl; have b12 : W3.cell? ⟨rb, 12, none⟩ = some (.map (some bt)) := RaftAt.cell HR3.out 12 _ rfl; have b16 : W3.cell? ⟨rb, 16, none⟩ = some (.int .u64 s.state) := RaftAt.cell HR3.out 16 _ rfl; have b17 : W3.cell? ⟨rb, 17, none⟩ = some (.bool s.isL) := RaftAt.cell HR3.out 17 _ rfl; have bf := Blk.frozen HR3.out; have bl := Blk.lt HR3.out; have g0 := HG3.out.cell 0; simp at g0; clear hn3))
  obtain ⟨D, hD, hget⟩ := HT3.out.prg.map
  have hlk := run_lookok (hD.chg (L := []) (Chg.refl _ _).drew (by simp)) hk (hget s.id)
  have HHS := Lib.hid hs
  clear hD hget hs
  by_cases hm : s.id ∈ V ∨ s.id ∈ L
  · obtain ⟨st, hst, hil, hbl⟩ := HT3.out.get hm
    rw [hst] at hlk
    simp only [Option.map, Option.getD, Option.isSome] at hlk
    have d8 := hbl.cell 8
    simp [PrS.cells] at d8
    clear hst hbl
    go_region
    clear hlk
    generalize st.il = bi at d8 hil
    have hs2 : (s.state == 2) = false := by simpa using HHS.out
    have hs3 := HHS.out
    have HIL := Lib.hid hil
    clear hil
    go_wp2_with fail
    go_region
    have hF : Chg [rb] W3 ((W3.setCell ⟨rb, 17, none⟩ (.bool bi)).drew.drew) := (((Chg.refl _ _).setCell (.inr (by simp)) _).drew).drew
    have hRF : RaftAt ((W3.setCell ⟨rb, 17, none⟩ (.bool bi)).drew.drew) rb (s.conf (some x0) x2 bt (decide (s.id ∈ L))) := by
      have z := RaftAt.set_ HR3.out 17 (.bool bi) (s.conf (some x0) x2 bt bi) rfl
      rw [← HIL.out]
      exact z
    have HRF := Lib.hid hRF
    have HF := Lib.hid hF
    clear hRF hF
    cases bi
    · go_wp2_with fail
      go_ret
      exact ⟨g, xs, ys, rfl, HCF.out.chg HF.out (by simp), px, py, qx, qy, HRF.out, HT3.out.chgB HR3.out (by decide) HF.out, HC3.out.trans HF.out⟩
    · go_wp2_with fail
      go_ret
      exact ⟨g, xs, ys, rfl, HCF.out.chg HF.out (by simp), px, py, qx, qy, HRF.out, HT3.out.chgB HR3.out (by decide) HF.out, HC3.out.trans HF.out⟩
  · have hfn : f s.id = none := by
      have := mt (HT3.out.dom s.id).1 hm
      simpa using this
    rw [hfn] at hlk
    simp only [Option.map, Option.getD, Option.isSome] at hlk
    clear hfn
    go_region
    clear hlk
    have hs2 : (s.state == 2) = false := by simpa using HHS.out
    have hs3 := HHS.out
    go_wp2_with fail
    go_region
    have hF : Chg [rb] W3 ((W3.setCell ⟨rb, 17, none⟩ (.bool false)).drew.drew) := (((Chg.refl _ _).setCell (.inr (by simp)) _).drew).drew
    have hRF : RaftAt ((W3.setCell ⟨rb, 17, none⟩ (.bool false)).drew.drew) rb (s.conf (some x0) x2 bt (decide (s.id ∈ L))) := by
      have z := RaftAt.set_ HR3.out 17 (.bool false) (s.conf (some x0) x2 bt false) rfl
      rw [show decide (s.id ∈ L) = false from decide_eq_false (fun h => hm (.inr h))]
      exact z
    have HRF := Lib.hid hRF
    have HF := Lib.hid hF
    clear hRF hF
    go_wp2_with fail
    go_ret
    exact ⟨g, xs, ys, rfl, HCF.out.chg HF.out (by simp), px, py, qx, qy, HRF.out, HT3.out.chgB HR3.out (by decide) HF.out, HC3.out.trans HF.out⟩
end Go.Proofs.YtalhhplphlobbaaGreat
namespace Go.Proofs.YtalhhplphlobbaaGreat
open Go.RowKit
def I64s (l : List Int) : List Value := l.map (Value.int .i64)
/-- What is drawn at the k-th draw. -/
def zdraw (D : List Int) (k : Nat) : Int := if D = [] then 0 else D.getD (k % D.length) 0
set_option maxRecDepth 100000 in
set_option maxHeartbeats 1000000 in
theorem intn_nil {w : World} {rb : Nat} {s : RaftS} {n : Int} {A : Option Addr} {c : Nat} (h : RaftAt w rb s) (hz : s.zd = .slice A 0 c) :
    Calls Tryz.prog 396 #[.pointer (some ⟨rb, 0, none⟩), .int .i64 n] w fun y w' => y = .returned (.int .i64 0) ∧ w = w' := by
  have c38 := RaftAt.cell h 38 s.zd rfl
  rw [hz] at c38
  clear hz h
  go_enter Tryz.func396, Tryz.ntmps396
  go_wp2
  go_ret
  exact ⟨rfl, rfl⟩
set_option maxRecDepth 100000 in
set_option maxHeartbeats 2000000 in
theorem intn_some {w : World} {rb : Nat} {s : RaftS} {n : Int} {M : List Nat} {D : List Int} {k : Nat} (h : RaftAt w rb s) (hz : Sl M w s.zd (I64s D)) (hD : D ≠ []) (hk : s.zn = k) (hk1 : k < 1000000000) (hl : D.length ≤ 1000) (hn : ∀ x ∈ D, 0 ≤ x ∧ x < n) (hn1 : n < 1000000000) :
    Calls Tryz.prog 396 #[.pointer (some ⟨rb, 0, none⟩), .int .i64 n] w fun y w' => y = .returned (.int .i64 (zdraw D k)) ∧ RaftAt w' rb { s with zn := k + 1 } ∧ Chg [rb] w w' := by
  obtain ⟨A, m, c, e, hlen, hmc, hA0, hA⟩ := hz
  have hlen : D.length = m := by simpa [I64s] using hlen
  have hm : 0 < m := by rw [← hlen]; exact List.length_pos_iff.2 hD
  rcases A with _ | ⟨b, o, t⟩
  · have := hA0 rfl
    omega
  obtain ⟨rfl, _, hb, hcell⟩ := hA b o t rfl
  have hj : k % m < D.length := by rw [hlen]; exact Nat.mod_lt _ hm
  obtain ⟨x, hx⟩ : ∃ x, D[k % m]? = some x := ⟨D[k % m], List.getElem?_eq_getElem hj⟩
  have hx2 := hn x (List.mem_of_getElem? hx)
  have hzd : zdraw D k = x := by
    unfold zdraw
    rw [if_neg hD, List.getD_eq_getElem?_getD, hlen, hx]
    rfl
  have cx := hcell (k % m) (.int .i64 x) (by simp [I64s, hx])
  have c38 := RaftAt.cell h 38 s.zd rfl
  have c39 := RaftAt.cell h 39 (.int .i64 s.zn) rfl
  have cf := Blk.frozen h
  rw [e] at c38
  rw [hk] at c39
  have e1 : ((k : Int)).tmod (m : Int) = ((k % m : Nat) : Int) := by rw [Int.tmod_eq_emod_of_nonneg (by omega)]; exact (Int.natCast_emod k m).symm
  have e2 : x.tmod n = x := by rw [Int.tmod_eq_emod_of_nonneg (by omega)]; exact Int.emod_eq_of_lt hx2.1 hx2.2
  rw [hzd]
  have H := Lib.hid h
  have HK := Lib.hid hk
  have hjm : k % m < m := Nat.mod_lt _ hm
  have h1 : (0 : Int) ≤ ((k % m : Nat) : Int) := by omega
  have h2 : ((k % m : Nat) : Int) < (m : Int) := by omega
  obtain ⟨j, hjE⟩ : ∃ j, j = k % m := ⟨_, rfl⟩
  rw [← hjE] at e1 cx h1 h2 hjm
  have x0 := hx2.1
  have x1 := hx2.2
  have n1 : 0 < n := by omega
  clear h hk hzd hx hj hn hcell hA hA0 hlen hjE hx2 e hD
  go_enter Tryz.func396, Tryz.ntmps396
  go_wp2
  go_region
  go_wp2
  go_ret
  exact ⟨rfl, RaftAt.set_ H.out 39 _ { s with zn := k + 1 } rfl, (by (focus (first | with_reducible assumption | ((repeat (first | with_reducible exact Chg.refl _ _ | with_reducible assumption | with_reducible refine Chg.drew ?_ | with_reducible refine Chg.alloc ?_ _ | with_reducible refine Chg.setCell ?_ (by simp) _ | with_reducible refine Chg.nxt ?_ (by assumption))); done))))⟩
set_option maxRecDepth 100000 in
set_option maxHeartbeats 1000000 in
theorem abortTr_any {w : World} {rb : Nat} {s : RaftS} (h : RaftAt w rb s) : Calls Tryz.prog 337 #[.pointer (some ⟨rb, 0, none⟩)] w fun y w' => y = .returned (.tuple #[]) ∧ RaftAt w' rb { s with ltr := 0 } ∧ Chg [rb] w w' := by
  have c21 := RaftAt.cell h 21 (.int .u64 s.ltr) rfl
  have cf := Blk.frozen h
  go_enter Tryz.func337, Tryz.ntmps337
  go_wp2
  go_end0
  exact ⟨rfl, RaftAt.set_ h 21 _ { s with ltr := 0 } rfl, (by (focus (first | with_reducible assumption | ((repeat (first | with_reducible exact Chg.refl _ _ | with_reducible assumption | with_reducible refine Chg.drew ?_ | with_reducible refine Chg.alloc ?_ _ | with_reducible refine Chg.setCell ?_ (by simp) _ | with_reducible refine Chg.nxt ?_ (by assumption))); done))))⟩
/-- A map of votes: what is told of it is that it is there, and new. -/
theorem resetVotes_any {w : World} {rb : Nat} {s : RaftS} (h : RaftAt w rb s) : Calls Tryz.prog 342 #[.pointer (some ⟨rb, 7, none⟩)] w fun y w' => ∃ bv, y = .returned (.tuple #[]) ∧ w.heap.size ≤ bv ∧ MapAt w' bv (.map []) ∧ RaftAt w' rb { s with votes := .map (some bv) } ∧ Chg [rb] w w' := by
  have hmm := @run_makeMap Tryz.prog
  have c13 := RaftAt.cell h 13 s.votes rfl
  have cf := Blk.frozen h
  have cl := Blk.lt h
  go_enter Tryz.func342, Tryz.ntmps342
  go_wp2
  go_end0
  refine ⟨w.heap.size, rfl, Nat.le_refl _, ?_, Blk.alloc (RaftAt.set_ h 13 _ { s with votes := .map (some w.heap.size) } rfl) _, (by (focus (first | with_reducible assumption | ((repeat (first | with_reducible exact Chg.refl _ _ | with_reducible assumption | with_reducible refine Chg.drew ?_ | with_reducible refine Chg.alloc ?_ _ | with_reducible refine Chg.setCell ?_ (by simp) _ | with_reducible refine Chg.nxt ?_ (by assumption))); done))))⟩
  have := MapAt.new (w.setCell ⟨rb, 13, none⟩ (.map (some w.heap.size)))
  simpa using this
def zstep (D : List Int) (k : Nat) : Nat := if D = [] then k else k + 1
theorem intn_any {w : World} {rb : Nat} {s : RaftS} {n : Int} {M : List Nat} {D : List Int} {k : Nat} (h : RaftAt w rb s) (hz : Sl M w s.zd (I64s D)) (hk : s.zn = k) (hk1 : k < 1000000000) (hl : D.length ≤ 1000) (hn : ∀ x ∈ D, 0 ≤ x ∧ x < n) (hn1 : n < 1000000000) :
    Calls Tryz.prog 396 #[.pointer (some ⟨rb, 0, none⟩), .int .i64 n] w fun y w' => y = .returned (.int .i64 (zdraw D k)) ∧ RaftAt w' rb { s with zn := zstep D k } ∧ Chg [rb] w w' := by
  by_cases hD : D = []
  · subst hD
    obtain ⟨A, m, c, e, hlen, hmc, hA0, hA⟩ := hz
    have : m = 0 := by simpa [I64s] using hlen.symm
    subst this
    refine (intn_nil h e).mono ?_
    rintro y w' ⟨rfl, rfl⟩
    refine ⟨by simp [zdraw], ?_, Chg.refl _ _⟩
    rw [show zstep [] k = k from by simp [zstep], ← hk]
    exact h
  · refine (intn_some h hz hD hk hk1 hl hn hn1).mono ?_
    rintro y w' ⟨rfl, h1, h2⟩
    refine ⟨rfl, ?_, h2⟩
    rw [show ((zstep D k : Nat) : Int) = k + 1 from by simp [zstep, hD]]
    exact h1
theorem zdraw_bd {D : List Int} {n : Int} (k : Nat) (hn : ∀ x ∈ D, 0 ≤ x ∧ x < n) (h0 : 0 < n) : 0 ≤ zdraw D k ∧ zdraw D k < n := by
  unfold zdraw
  split
  · omega
  · rename_i hD
    have hm : 0 < D.length := List.length_pos_iff.2 hD
    have hj : k % D.length < D.length := Nat.mod_lt _ hm
    rw [List.getD_eq_getElem?_getD, List.getElem?_eq_getElem hj]
    exact hn _ (List.getElem_mem hj)
set_option maxRecDepth 100000 in
set_option maxHeartbeats 1000000 in
theorem resetRand_any {w : World} {rb : Nat} {s : RaftS} {M : List Nat} {D : List Int} {k : Nat} (h : RaftAt w rb s) (hz : Sl M w s.zd (I64s D)) (hk : s.zn = k) (hk1 : k < 1000000000) (hl : D.length ≤ 1000) (hn : ∀ x ∈ D, 0 ≤ x ∧ x < s.et) (hn0 : 0 < s.et) (hn1 : s.et < 1000000000) :
    Calls Tryz.prog 341 #[.pointer (some ⟨rb, 0, none⟩)] w fun y w' => y = .returned (.tuple #[]) ∧ RaftAt w' rb { s with zn := zstep D k, ret := s.et + zdraw D k } ∧ Chg [rb] w w' := by
  have c31 := RaftAt.cell h 31 (.int .i64 s.et) rfl
  have c32 := RaftAt.cell h 32 (.int .i64 s.ret) rfl
  have cf := Blk.frozen h
  have hI := intn_any (rb := rb) (s := s) (n := s.et) (M := M) (D := D) (k := k) (Blk.drew h) (hz.chg0 (Chg.refl _ _).drew) hk hk1 hl hn hn1
  have HI := Lib.hid hI
  obtain ⟨z0, z1⟩ := zdraw_bd k hn hn0
  have HK := Lib.hid hk
  clear hI hz hk hn
  generalize zdraw D k = z at z0 z1 HI ⊢
  have ew : IntKind.i64.wrap (s.et + z) = s.et + z := IntWalk.i64_in _ (by omega)
  go_enter Tryz.func341, Tryz.ntmps341
  go_wp2_with fail
  go_region_held3 (fun wx => wx.cell? ⟨rb, 31, none⟩ = some (.int .i64 s.et))
    (first | with_reducible assumption | exact RaftAt.cell HR1.out 31 _ rfl | (simp [go_sem, *]; done))
    (first | (go_at_call 396; (with_reducible refine Calls.mono HI.out ?_); rintro e w1 ⟨rfl, hr1, hc1⟩; have HR1 := Lib.hid hr1; have HC1 := Lib.hid hc1; have d31 : w1.cell? ⟨rb, 31, none⟩ = some (.int .i64 s.et) := RaftAt.cell hr1 31 _ rfl; have d32 : w1.cell? ⟨rb, 32, none⟩ = some (.int .i64 s.ret) := RaftAt.cell hr1 32 _ rfl; have df := Blk.frozen hr1; clear hr1 hc1))
  go_end0
  exact ⟨rfl, RaftAt.set_ HR1.out 32 _ { s with zn := zstep D k, ret := s.et + z } rfl, (((Chg.refl _ _).drew).trans HC1.out).setCell (.inr (by simp)) _⟩
end Go.Proofs.YtalhhplphlobbaaGreat
namespace Go.Proofs.YtalhhplphlobbaaGreat
open Go.RowKit
theorem Blk.ne {w : World} {g g' : Nat} {t t' : TypeId} {cs cs' : Array Value} (h : Blk w g t cs) (h' : Blk w g' t' cs') (ht : t ≠ t') : g ≠ g' := by
  rintro rfl
  unfold Blk at h h'
  rw [h] at h'
  injection h' with h'
  injection h' with h1 h2 h3
  exact ht h2
theorem MsAt.ne {w : World} {ms g : Nat} {t : TypeId} {cs : Array Value} {hv sv ev : Value} (h : MsAt w ms hv sv ev) (hb : Blk w g t cs) (ht : t ≠ 246) : g ≠ ms := by
  obtain ⟨_, _, _, _, _, _, hm⟩ := h
  exact hb.ne hm ht
theorem blk9 {w : World} {g : Nat} {t : TypeId} {a0 a1 a2 a3 a4 a5 a6 a7 a8 : Value} (h : Blk w g t #[a0, a1, a2, a3, a4, a5, a6, a7, a8]) (u0 u1 u2 u3 u4 u5 u6 u7 u8 : Value) :
    Blk (((((((((w.setCell ⟨g, 0, none⟩ u0).setCell ⟨g, 1, none⟩ u1).setCell ⟨g, 2, none⟩ u2).setCell ⟨g, 3, none⟩ u3).setCell ⟨g, 4, none⟩ u4).setCell ⟨g, 5, none⟩ u5).setCell ⟨g, 6, none⟩ u6).setCell ⟨g, 7, none⟩ u7).setCell ⟨g, 8, none⟩ u8) g t #[u0, u1, u2, u3, u4, u5, u6, u7, u8] ∧
    Chg [g] w (((((((((w.setCell ⟨g, 0, none⟩ u0).setCell ⟨g, 1, none⟩ u1).setCell ⟨g, 2, none⟩ u2).setCell ⟨g, 3, none⟩ u3).setCell ⟨g, 4, none⟩ u4).setCell ⟨g, 5, none⟩ u5).setCell ⟨g, 6, none⟩ u6).setCell ⟨g, 7, none⟩ u7).setCell ⟨g, 8, none⟩ u8) := by
  refine ⟨?_, (by (focus (first | with_reducible assumption | ((repeat (first | with_reducible exact Chg.refl _ _ | with_reducible assumption | with_reducible refine Chg.drew ?_ | with_reducible refine Chg.alloc ?_ _ | with_reducible refine Chg.setCell ?_ (by simp) _ | with_reducible refine Chg.nxt ?_ (by assumption))); done))))⟩
  have := ((((((((h.set_ 0 u0).set_ 1 u1).set_ 2 u2).set_ 3 u3).set_ 4 u4).set_ 5 u5).set_ 6 u6).set_ 7 u7).set_ 8 u8
  simpa using this
theorem RlAt.nxt {w w' : World} {rl ms : Nat} {l : RLog} (h : RlAt w rl ms l) (hn : Nxt w w') : RlAt w' rl ms l := h.chg hn.out (by simp)
theorem RaftAt.nxt {w w' : World} {r : Nat} {s : RaftS} (h : RaftAt w r s) (hn : Nxt w w') : RaftAt w' r s := h.chg hn.out (by simp)
theorem newInfl_blk (w : World) (n m : Int) : Calls Tryz.prog 344 #[.int .i64 n, .int .u64 m] w fun y w' => ∃ b, y = .returned (.pointer (some ⟨b, 0, none⟩)) ∧ w.heap.size ≤ b ∧ Blk w' b 509 #[.int .i64 0, .int .i64 0, .int .u64 0, .int .i64 n, .int .u64 m, .slice none 0 0] ∧ Nxt w w' := by
  refine Calls.mono (newInfl_any w n m) ?_
  rintro e w' ⟨b, rfl, rfl, rfl⟩
  exact ⟨_, rfl, Nat.le_refl _, Blk.new _ _ _, ⟨(Chg.refl _ _).alloc _⟩⟩
section
variable {M : List Nat} {w w' : World} {g rb rl ms pk : Nat} {s : RaftS} {l : RLog} {hv sv ev : Value} {e : Ent} {r : List Ent} {st : PrS}
theorem heldP {L : List Nat} (hc : Chg L w w') (h1 : g ∉ L) (h2 : rb ∉ L) (h3 : pk ∉ L)
    (h : w.cell? ⟨g, 0, none⟩ = some (.pointer (some ⟨rb, 0, none⟩)) ∧ w.cell? ⟨rb, 4, none⟩ = some (.pointer (some ⟨rl, 0, none⟩)) ∧ w.cell? ⟨rb, 14, none⟩ = some (.int .i64 s.mif) ∧ w.cell? ⟨rb, 15, none⟩ = some (.int .u64 s.mib) ∧ w.cell? ⟨pk, 8, none⟩ = some (.bool st.il)) :
    w'.cell? ⟨g, 0, none⟩ = some (.pointer (some ⟨rb, 0, none⟩)) ∧ w'.cell? ⟨rb, 4, none⟩ = some (.pointer (some ⟨rl, 0, none⟩)) ∧ w'.cell? ⟨rb, 14, none⟩ = some (.int .i64 s.mif) ∧ w'.cell? ⟨rb, 15, none⟩ = some (.int .u64 s.mib) ∧ w'.cell? ⟨pk, 8, none⟩ = some (.bool st.il) :=
  ⟨hc.at_ h.1 h1, hc.at_ h.2.1 h2, hc.at_ h.2.2.1 h2, hc.at_ h.2.2.2.1 h2, hc.at_ h.2.2.2.2 h3⟩
theorem heldPs {t : TypeId} {a0 a1 a2 a3 a4 a5 a6 a7 a8 u0 u1 u2 u3 u4 u5 u6 u7 : Value} (hb : Blk w pk t #[a0, a1, a2, a3, a4, a5, a6, a7, a8]) (h1 : g ≠ pk) (h2 : rb ≠ pk)
    (h : w.cell? ⟨g, 0, none⟩ = some (.pointer (some ⟨rb, 0, none⟩)) ∧ w.cell? ⟨rb, 4, none⟩ = some (.pointer (some ⟨rl, 0, none⟩)) ∧ w.cell? ⟨rb, 14, none⟩ = some (.int .i64 s.mif) ∧ w.cell? ⟨rb, 15, none⟩ = some (.int .u64 s.mib) ∧ w.cell? ⟨pk, 8, none⟩ = some (.bool st.il)) :
    (((((((((w.setCell ⟨pk, 0, none⟩ u0).setCell ⟨pk, 1, none⟩ u1).setCell ⟨pk, 2, none⟩ u2).setCell ⟨pk, 3, none⟩ u3).setCell ⟨pk, 4, none⟩ u4).setCell ⟨pk, 5, none⟩ u5).setCell ⟨pk, 6, none⟩ u6).setCell ⟨pk, 7, none⟩ u7).setCell ⟨pk, 8, none⟩ (.bool st.il)).cell? ⟨g, 0, none⟩ = some (.pointer (some ⟨rb, 0, none⟩)) ∧
    (((((((((w.setCell ⟨pk, 0, none⟩ u0).setCell ⟨pk, 1, none⟩ u1).setCell ⟨pk, 2, none⟩ u2).setCell ⟨pk, 3, none⟩ u3).setCell ⟨pk, 4, none⟩ u4).setCell ⟨pk, 5, none⟩ u5).setCell ⟨pk, 6, none⟩ u6).setCell ⟨pk, 7, none⟩ u7).setCell ⟨pk, 8, none⟩ (.bool st.il)).cell? ⟨rb, 4, none⟩ = some (.pointer (some ⟨rl, 0, none⟩)) ∧
    (((((((((w.setCell ⟨pk, 0, none⟩ u0).setCell ⟨pk, 1, none⟩ u1).setCell ⟨pk, 2, none⟩ u2).setCell ⟨pk, 3, none⟩ u3).setCell ⟨pk, 4, none⟩ u4).setCell ⟨pk, 5, none⟩ u5).setCell ⟨pk, 6, none⟩ u6).setCell ⟨pk, 7, none⟩ u7).setCell ⟨pk, 8, none⟩ (.bool st.il)).cell? ⟨rb, 14, none⟩ = some (.int .i64 s.mif) ∧
    (((((((((w.setCell ⟨pk, 0, none⟩ u0).setCell ⟨pk, 1, none⟩ u1).setCell ⟨pk, 2, none⟩ u2).setCell ⟨pk, 3, none⟩ u3).setCell ⟨pk, 4, none⟩ u4).setCell ⟨pk, 5, none⟩ u5).setCell ⟨pk, 6, none⟩ u6).setCell ⟨pk, 7, none⟩ u7).setCell ⟨pk, 8, none⟩ (.bool st.il)).cell? ⟨rb, 15, none⟩ = some (.int .u64 s.mib) ∧
    (((((((((w.setCell ⟨pk, 0, none⟩ u0).setCell ⟨pk, 1, none⟩ u1).setCell ⟨pk, 2, none⟩ u2).setCell ⟨pk, 3, none⟩ u3).setCell ⟨pk, 4, none⟩ u4).setCell ⟨pk, 5, none⟩ u5).setCell ⟨pk, 6, none⟩ u6).setCell ⟨pk, 7, none⟩ u7).setCell ⟨pk, 8, none⟩ (.bool st.il)).cell? ⟨pk, 8, none⟩ = some (.bool st.il) := by
  obtain ⟨h9, hc⟩ := blk9 hb u0 u1 u2 u3 u4 u5 u6 u7 (.bool st.il)
  exact ⟨hc.at_ h.1 (by simpa using h1), hc.at_ h.2.1 (by simpa using h2), hc.at_ h.2.2.1 (by simpa using h2), hc.at_ h.2.2.2.1 (by simpa using h2), by rw [h9.cell 8]; rfl⟩
/-- The progress behind the reset. -/
def PrS.fresh (st : PrS) (li : Int) (own : Bool) (bi : Nat) : PrS := ⟨if own then li else 0, li + 1, 0, 0, 0, false, false, bi, st.il⟩
set_option maxRecDepth 100000 in
set_option maxHeartbeats 8000000 in
theorem resetOne_any {id : Int} (h : RaftAt w rb s) (hrl : s.rl = rl) (hl : RlAt w rl ms l) (hcalm : l.calm) (hs : StAt M w ms hv sv ev e r) (hg : Blk w g 272 #[.pointer (some ⟨rb, 0, none⟩)]) (hp : Blk w pk 461 st.cells) (mp : pk ∈ M) :
    Calls Tryz.prog 343 #[.int .u64 id, .pointer (some ⟨pk, 0, none⟩), .pointer (some ⟨g, 0, none⟩)] w fun y w' => ∃ bi, y = .returned (.tuple #[]) ∧ w.heap.size ≤ bi ∧ Blk w' pk 461 (st.fresh (e.i + r.length) (decide (id = s.id)) bi).cells ∧
      Blk w' bi 509 #[.int .i64 0, .int .i64 0, .int .u64 0, .int .i64 s.mif, .int .u64 s.mib, .slice none 0 0] ∧ MsAt w' ms hv sv ev ∧ Chg [ms, pk] w w' := by
  have hp : Blk w pk 461 #[.int .u64 st.m, .int .u64 st.n, .int .u64 st.sc, .int .u64 st.st, .int .u64 st.ps, .bool st.ra, .bool st.mp, .pointer (some ⟨st.inf, 0, none⟩), .bool st.il] := hp
  have nrm := hs.at_.ne h (by decide)
  have nlm := hs.at_.ne hl (by decide)
  have ngm := hs.at_.ne hg (by decide)
  have npm := hs.at_.ne hp (by decide)
  have ngp := hg.ne hp (by decide)
  have n1 : g ∉ [ms] := by simpa using ngm
  have n2 : rb ∉ [ms] := by simpa using nrm
  have n3 : pk ∉ [ms] := by simpa using npm
  have o1 : ∀ {x : Nat}, x ∉ ([] : List Nat) := by simp
  have nrp := Blk.ne h hp (by decide)
  have nlp := Blk.ne hl hp (by decide)
  have c0 := hg.cell 0
  simp at c0
  have c4 : w.cell? ⟨rb, 4, none⟩ = some (.pointer (some ⟨rl, 0, none⟩)) := by rw [← hrl]; exact RaftAt.cell h 4 _ rfl
  have c14 : w.cell? ⟨rb, 14, none⟩ = some (.int .i64 s.mif) := RaftAt.cell h 14 _ rfl
  have c15 : w.cell? ⟨rb, 15, none⟩ = some (.int .u64 s.mib) := RaftAt.cell h 15 _ rfl
  have c8 : w.cell? ⟨pk, 8, none⟩ = some (.bool st.il) := by rw [hp.cell 8]; rfl
  have hS0 : (w.drew).cell? ⟨g, 0, none⟩ = some (.pointer (some ⟨rb, 0, none⟩)) ∧ (w.drew).cell? ⟨rb, 4, none⟩ = some (.pointer (some ⟨rl, 0, none⟩)) ∧ (w.drew).cell? ⟨rb, 14, none⟩ = some (.int .i64 s.mif) ∧ (w.drew).cell? ⟨rb, 15, none⟩ = some (.int .u64 s.mib) ∧ (w.drew).cell? ⟨pk, 8, none⟩ = some (.bool st.il) := ⟨c0, c4, c14, c15, c8⟩
  have HS0 := Lib.hid hS0
  have HR := Lib.hid h
  have HRL := Lib.hid hrl
  have HL := Lib.hid hl
  have HCALM := Lib.hid hcalm
  have HST := Lib.hid hs
  have HLd : Hid (RlAt w.drew rl ms l) := Lib.hid (Blk.drew hl)
  have HSTd : Hid (StAt M w.drew ms hv sv ev e r) := Lib.hid (hs.nxt ⟨(Chg.refl _ _).drew⟩)
  have HPd := Lib.hid (Blk.drew hp)
  have HG := Lib.hid hg
  have HP := Lib.hid hp
  have h0 := hs.i0
  have h1 := hs.i1
  have h2 := hs.len
  have lp := hp.lt
  have lms := hs.lt
  clear h hl hcalm hs hg hp c0 c4 c14 c15 c8 hS0 hrl
  have ew : IntKind.u64.wrap (e.i + r.length + 1) = e.i + r.length + 1 := IntWalk.u64_in _ (by omega)
  go_enter Tryz.func343, Tryz.ntmps343
  go_wp2_with fail
  go_region_held3 (fun wx => wx.cell? ⟨g, 0, none⟩ = some (.pointer (some ⟨rb, 0, none⟩)) ∧ wx.cell? ⟨rb, 4, none⟩ = some (.pointer (some ⟨rl, 0, none⟩)) ∧ wx.cell? ⟨rb, 14, none⟩ = some (.int .i64 s.mif) ∧ wx.cell? ⟨rb, 15, none⟩ = some (.int .u64 s.mib) ∧ wx.cell? ⟨pk, 8, none⟩ = some (.bool st.il))
    (first | with_reducible exact HS0.out | with_reducible assumption | with_reducible exact heldPs HPF.out ngp nrp (by with_reducible assumption))
    (first | (go_at_call 314; (with_reducible refine Calls.mono (rlLast_any HSTd.out HLd.out HCALM.out nlm) ?_); rintro e w1 ⟨rfl, hl1, hs1, hc1⟩; have HP1 := Lib.hid (Blk.chg HPd.out hc1 n3); have hS1 := heldP hc1 n1 n2 n3 HS0.out; have HL1 := Lib.hid hl1; have HS1 := Lib.hid hs1; have HC1 := Lib.hid hc1; clear hl1 hs1 hc1) | (go_at_call 344; (with_reducible refine Calls.mono (newInfl_blk w1 _ _) ?_); rintro e w5 ⟨b5, rfl, hb5, hB5, hn5⟩; have HPF := Lib.hid (Blk.nxt HP1.out hn5); have d0 := (HPF.out).cell 0; have d1 := (HPF.out).cell 1; have d2 := (HPF.out).cell 2; have d3 := (HPF.out).cell 3; have d4 := (HPF.out).cell 4; have d5 := (HPF.out).cell 5; have d6 := (HPF.out).cell 6; have d7 := (HPF.out).cell 7; have d8 := (HPF.out).cell 8; simp at d0 d1 d2 d3 d4 d5 d6 d7 d8; have df := (HPF.out).frozen; have dl := (HPF.out).lt; have hS5 := heldP hn5.out o1 o1 o1 hS1; have HN5 := Lib.hid hn5; have HB5 := Lib.hid hB5; clear hn5 hB5))
  obtain ⟨hBF, hCF⟩ := blk9 HPF.out (.int .u64 0) (.int .u64 (e.i + r.length + 1)) (.int .u64 0) (.int .u64 0) (.int .u64 0) (.bool false) (.bool false) (.pointer (some ⟨b5, 0, none⟩)) (.bool st.il)
  have hR5 : RaftAt w5 rb s := (HR.out.chg ((Chg.refl _ _).drew.trans HC1.out) n2).nxt HN5.out
  have hG5 := (HG.out.chg ((Chg.refl _ _).drew.trans HC1.out) n1).nxt HN5.out
  have hRF : RaftAt (((((((((w5.setCell ⟨pk, 0, none⟩ (.int .u64 0)).setCell ⟨pk, 1, none⟩ (.int .u64 (e.i + r.length + 1))).setCell ⟨pk, 2, none⟩ (.int .u64 0)).setCell ⟨pk, 3, none⟩ (.int .u64 0)).setCell ⟨pk, 4, none⟩ (.int .u64 0)).setCell ⟨pk, 5, none⟩ (.bool false)).setCell ⟨pk, 6, none⟩ (.bool false)).setCell ⟨pk, 7, none⟩ (.pointer (some ⟨b5, 0, none⟩))).setCell ⟨pk, 8, none⟩ (.bool st.il)) rb s := hR5.chg hCF (by simpa using nrp)
  have hGF := hG5.chg hCF (by simpa using ngp)
  have hLF : RlAt (((((((((w5.setCell ⟨pk, 0, none⟩ (.int .u64 0)).setCell ⟨pk, 1, none⟩ (.int .u64 (e.i + r.length + 1))).setCell ⟨pk, 2, none⟩ (.int .u64 0)).setCell ⟨pk, 3, none⟩ (.int .u64 0)).setCell ⟨pk, 4, none⟩ (.int .u64 0)).setCell ⟨pk, 5, none⟩ (.bool false)).setCell ⟨pk, 6, none⟩ (.bool false)).setCell ⟨pk, 7, none⟩ (.pointer (some ⟨b5, 0, none⟩))).setCell ⟨pk, 8, none⟩ (.bool st.il)) rl ms l := (HL1.out.nxt HN5.out).chg hCF (by simpa using nlp)
  have hSF : StAt M (((((((((w5.setCell ⟨pk, 0, none⟩ (.int .u64 0)).setCell ⟨pk, 1, none⟩ (.int .u64 (e.i + r.length + 1))).setCell ⟨pk, 2, none⟩ (.int .u64 0)).setCell ⟨pk, 3, none⟩ (.int .u64 0)).setCell ⟨pk, 4, none⟩ (.int .u64 0)).setCell ⟨pk, 5, none⟩ (.bool false)).setCell ⟨pk, 6, none⟩ (.bool false)).setCell ⟨pk, 7, none⟩ (.pointer (some ⟨b5, 0, none⟩))).setCell ⟨pk, 8, none⟩ (.bool st.il)) ms hv sv ev e r := (HS1.out.nxt HN5.out).chg hCF (by simpa using mp) (by simpa using Ne.symm npm)
  have n5p : b5 ≠ pk := by
    have := HC1.out.size
    have z : w.drew.heap.size = w.heap.size := rfl
    omega
  have hIF := HB5.out.chg hCF (by simpa using n5p)
  have hC9 : Chg [ms, pk] w (((((((((w5.setCell ⟨pk, 0, none⟩ (.int .u64 0)).setCell ⟨pk, 1, none⟩ (.int .u64 (e.i + r.length + 1))).setCell ⟨pk, 2, none⟩ (.int .u64 0)).setCell ⟨pk, 3, none⟩ (.int .u64 0)).setCell ⟨pk, 4, none⟩ (.int .u64 0)).setCell ⟨pk, 5, none⟩ (.bool false)).setCell ⟨pk, 6, none⟩ (.bool false)).setCell ⟨pk, 7, none⟩ (.pointer (some ⟨b5, 0, none⟩))).setCell ⟨pk, 8, none⟩ (.bool st.il)) := ((((Chg.refl _ _).drew.trans HC1.out).mono (by simp)).trans (HN5.out.out.mono (by simp))).trans (hCF.mono (by simp))
  generalize (((((((((w5.setCell ⟨pk, 0, none⟩ (.int .u64 0)).setCell ⟨pk, 1, none⟩ (.int .u64 (e.i + r.length + 1))).setCell ⟨pk, 2, none⟩ (.int .u64 0)).setCell ⟨pk, 3, none⟩ (.int .u64 0)).setCell ⟨pk, 4, none⟩ (.int .u64 0)).setCell ⟨pk, 5, none⟩ (.bool false)).setCell ⟨pk, 6, none⟩ (.bool false)).setCell ⟨pk, 7, none⟩ (.pointer (some ⟨b5, 0, none⟩))).setCell ⟨pk, 8, none⟩ (.bool st.il)) = WF at hBF hRF hGF hLF hSF hIF hC9 ⊢
  have hb6 : w.heap.size ≤ b5 := by
    have := HC1.out.size
    have z : w.drew.heap.size = w.heap.size := rfl
    omega
  clear ew hCF hR5 hG5 hS1 hS5 d0 d1 d2 d3 d4 d5 d6 d7 d8 df dl HPF HP1 HPd HSTd HLd HL1 HS1 HC1 HN5 HB5 HS0
  have a0 := RaftAt.cell hRF 0 (.int .u64 s.id) rfl
  have a4 : WF.cell? ⟨rb, 4, none⟩ = some (.pointer (some ⟨rl, 0, none⟩)) := by rw [← HRL.out]; exact RaftAt.cell hRF 4 _ rfl
  have g0 := hGF.cell 0
  simp at g0
  have HBF := Lib.hid hBF
  have HLF := Lib.hid hLF
  have HSF := Lib.hid hSF
  have HIF := Lib.hid hIF
  have HC9 := Lib.hid hC9
  clear hBF hLF hSF hIF hC9 hRF hGF
  by_cases hid : id = s.id
  · subst hid
    go_wp2_with (first | (go_at_call 314; (with_reducible refine Calls.mono (rlLast_any HSF.out HLF.out HCALM.out nlm) ?_); rintro e w8 ⟨rfl, hl8, hs8, hc8⟩; have HB8 := Lib.hid (Blk.chg HBF.out hc8 n3); have d0 := (HB8.out).cell 0; have d1 := (HB8.out).cell 1; have d2 := (HB8.out).cell 2; have d3 := (HB8.out).cell 3; have d4 := (HB8.out).cell 4; have d5 := (HB8.out).cell 5; have d6 := (HB8.out).cell 6; have d7 := (HB8.out).cell 7; have d8 := (HB8.out).cell 8; simp at d0 d1 d2 d3 d4 d5 d6 d7 d8; have df := (HB8.out).frozen; have dl := (HB8.out).lt; have HS8 := Lib.hid hs8; have HC8 := Lib.hid hc8; clear hl8 hs8 hc8))
    go_end0
    have hq : Chg [pk] w8 (w8.setCell ⟨pk, 0, none⟩ (.int .u64 (e.i + r.length))) := (Chg.refl _ _).setCell (.inr (by simp)) _
    have hb := HB8.out.set_ 0 (.int .u64 (e.i + r.length))
    have hI8 := HIF.out.chg HC8.out (by simp; omega)
    first | refine ⟨b5, rfl, hb6, ?_, hI8.chg hq (by simpa using n5p), HS8.out.at_.chg hq (by simpa using Ne.symm npm), (HC9.out.trans (HC8.out.mono (by simp))).trans (hq.mono (by simp))⟩ | refine ⟨rfl, b5, hb6, ?_, hI8.chg hq (by simpa using n5p), HS8.out.at_.chg hq (by simpa using Ne.symm npm), (HC9.out.trans (HC8.out.mono (by simp))).trans (hq.mono (by simp))⟩
    simpa [PrS.fresh, PrS.cells] using hb
  · have hid2 : (id == s.id) = false := by simpa using hid
    go_wp2
    go_end0
    first | refine ⟨b5, rfl, hb6, ?_, HIF.out, HSF.out.at_, HC9.out⟩ | refine ⟨rfl, b5, hb6, ?_, HIF.out, HSF.out.at_, HC9.out⟩
    simpa [PrS.fresh, PrS.cells, hid] using HBF.out
end
end Go.Proofs.YtalhhplphlobbaaGreat
