/- A node that becomes a candidate; small functions of a raft. Conditions: sizes. A node that becomes a candidate, or asks beforehand. Conditions: sizes. send: a message is handed to the raft's lists. Conditions: sizes. -/
import Derived.Laws.EntriesVeiled
import Derived.Deep.DeepCutAuto
import Derived.Test.YtalhhplphlobbaaGreatP19
import Derived.Test.YtalhhplphlobbaaGreatP26
import Derived.Test.YtalhhplphlobbaaGreatP33
set_option linter.unusedVariables false
set_option linter.unusedSimpArgs false
namespace Go.Proofs.YtalhhplphlobbaaGreat
open Go.RowKit
theorem run_look {w : World} {b : Nat} {D : DataW Value} (hown : MapAt w b D) {k : Int} (hk : 0 ≤ k ∧ k < 2 ^ 64) {r : Option Value} (hr : mget D k = r) :
    (Instr.lookup 288 (.map (some b)) (.int .u64 k) false).run Tryz.prog w = .ok (r.getD (.pointer none)) w := by
  obtain ⟨v, ps, hrun, hv⟩ := World.ownsMap.lookup hown u64K Tryz.underlying288 (Tryz.zeroValue304 w) (zd := .held (.pointer none)) (zp := []) rfl (key_u64 hk)
  have h1 := (heldV_inv hv).1
  rw [(hown.look k).2 _, hr] at h1
  cases h1
  exact hrun
section
variable {M : List Nat} {w : World} {rb rl ms rob bt x0 : Nat} {x2 : Option Nat} {s : RaftS} {l : RLog} {hv sv ev mp sl cn : Value} {e : Ent} {r : List Ent} {V L : List Int} {f : Int → Option PrS} {p : Int → Nat} {opt : Int} {D : List Int} {zk : Nat}
set_option maxRecDepth 100000 in
set_option maxHeartbeats 1000000 in
theorem promotable_any (h : RaftAt w rb s) (hrl : s.rl = rl) (hl : RlAt w rl ms l) (hc : l.calm) (ht : TrkAt w (some x0) x2 bt V L f p) (hpr : s.prog = .map (some bt)) (hk : 0 ≤ s.id ∧ s.id < 2 ^ 64) :
    Calls Tryz.prog 284 #[.pointer (some ⟨rb, 0, none⟩)] w fun y w' => y = .returned (.bool (decide (s.id ∈ V))) ∧ Nxt w w' := by
  have a0 : w.drew.cell? ⟨rb, 0, none⟩ = some (.int .u64 s.id) := RaftAt.cell h 0 (.int .u64 s.id) rfl
  have a4 : w.drew.cell? ⟨rb, 4, none⟩ = some (.pointer (some ⟨rl, 0, none⟩)) := by rw [← hrl]; exact RaftAt.cell h 4 _ rfl
  have a12 : w.drew.cell? ⟨rb, 12, none⟩ = some (.map (some bt)) := by rw [← hpr]; exact RaftAt.cell h 12 _ rfl
  have H := Lib.hid (hasOrSnap_calm (Blk.drew hl) hc)
  obtain ⟨D, hD, hget⟩ := ht.prg.map
  have hlk := run_look (hD.chg (L := []) (Chg.refl _ _).drew (by simp)) hk (hget s.id)
  by_cases hm : s.id ∈ V ∨ s.id ∈ L
  · obtain ⟨st, hst, hil, hbl⟩ := ht.get hm
    have hdis := ht.dis s.id
    rw [hst] at hlk
    simp only [Option.map, Option.getD] at hlk
    have d8 : w.drew.cell? ⟨p s.id, 8, none⟩ = some (.bool st.il) := by simpa [PrS.cells] using hbl.cell 8
    clear hst hbl hD hget h hl ht
    by_cases hL : s.id ∈ L
    · have hV : s.id ∉ V := hdis hL
      rw [hil] at d8
      simp only [hL, decide_true] at d8
      have HV := Lib.hid hV
      clear hil hm hdis hV hL
      go_enter Tryz.func284, Tryz.ntmps284
      go_wp2_with fail
      go_region
      go_wp2_with (first | (go_at_call 292; (with_reducible refine Calls.mono (H.out) ?_); rintro e w' ⟨rfl, rfl⟩))
      go_ret
      exact ⟨by simp [HV.out], ⟨(Chg.refl _ _).drew⟩⟩
    · have hV : s.id ∈ V := hm.resolve_right hL
      rw [hil] at d8
      simp only [hL, decide_false] at d8
      have HV := Lib.hid hV
      clear hil hm hdis hV hL
      go_enter Tryz.func284, Tryz.ntmps284
      go_wp2_with fail
      go_region
      go_wp2_with (first | (go_at_call 292; (with_reducible refine Calls.mono (H.out) ?_); rintro e w' ⟨rfl, rfl⟩))
      go_ret
      exact ⟨by simp [HV.out], ⟨(Chg.refl _ _).drew⟩⟩
  · have hst : f s.id = none := by
      cases hx : f s.id with
      | none => rfl
      | some st => exact absurd ((ht.dom s.id).1 (by rw [hx]; rfl)) hm
    rw [hst] at hlk
    simp only [Option.map, Option.getD] at hlk
    have HV := Lib.hid (show s.id ∉ V from fun h => hm (.inl h))
    clear hst hD hget h hl ht hm
    go_enter Tryz.func284, Tryz.ntmps284
    go_wp2_with fail
    go_region
    go_wp2_with (first | (go_at_call 292; (with_reducible refine Calls.mono (H.out) ?_); rintro e w' ⟨rfl, rfl⟩))
    go_ret
    exact ⟨by simp [HV.out], ⟨(Chg.refl _ _).drew⟩⟩
set_option maxRecDepth 100000 in
set_option maxHeartbeats 400000 in
theorem past_any (h : RaftAt w rb s) : Calls Tryz.prog 345 #[.pointer (some ⟨rb, 0, none⟩)] w fun y w' => y = .returned (.bool (decide (s.ret ≤ s.ee))) ∧ Nxt w w' := by
  have c26 : w.cell? ⟨rb, 26, none⟩ = some (.int .i64 s.ee) := RaftAt.cell h 26 (.int .i64 s.ee) rfl
  have c32 : w.cell? ⟨rb, 32, none⟩ = some (.int .i64 s.ret) := RaftAt.cell h 32 (.int .i64 s.ret) rfl
  go_enter Tryz.func345, Tryz.ntmps345
  go_wp2_with fail
  go_region
  go_wp2
  go_ret
  exact ⟨rfl, ⟨(Chg.refl _ _).drew⟩⟩
set_option maxRecDepth 100000 in
set_option maxHeartbeats 400000 in
theorem unapplied_no (h : RaftAt w rb s) (hrl : s.rl = rl) (hl : RlAt w rl ms l) (hle : l.com ≤ l.apd) : Calls Tryz.prog 285 #[.pointer (some ⟨rb, 0, none⟩)] w fun y w' => y = .returned (.bool false) ∧ Nxt w w' := by
  have c4 : w.cell? ⟨rb, 4, none⟩ = some (.pointer (some ⟨rl, 0, none⟩)) := by rw [← hrl]; exact RaftAt.cell h 4 _ rfl
  obtain ⟨k0, k1, k2, k3, k4, k5, k6, k7, k8, k9, k10, k11⟩ := hl.cells
  go_enter Tryz.func285, Tryz.ntmps285
  go_wp2_with fail
  go_region
  go_wp2
  go_ret
  exact ⟨rfl, ⟨(Chg.refl _ _).drew⟩⟩
theorem voteResp_any (k : Int) (h : k = 5 ∨ k = 17) : Calls Tryz.prog 230 #[.int .i32 k] w fun y w' => y = .returned (.int .i32 (k + 1)) ∧ w = w' := by
  rcases h with rfl | rfl
  all_goals
    go_enter Tryz.func230, Tryz.ntmps230
    go_wp2
    go_ret
    exact ⟨rfl, rfl⟩
end
end Go.Proofs.YtalhhplphlobbaaGreat
namespace Go.Proofs.YtalhhplphlobbaaGreat
open Go.RowKit
/-- A candidate's fields. -/
def RaftS.cand (s : RaftS) (rb : Nat) (D : List Int) (k : Nat) (bv ro : Nat) : RaftS :=
  { s.res (s.term + 1) D k bv ro with vote := s.id, state := 1, tick := .func (.func 281) #[.pointer (some ⟨rb, 0, none⟩)] #[], step := .func (.func 397) #[] #[] }
/-- The fields of one that asks beforehand. -/
def RaftS.pre (s : RaftS) (rb bv : Nat) : RaftS :=
  { s with lead := 0, state := 3, votes := .map (some bv), tick := .func (.func 281) #[.pointer (some ⟨rb, 0, none⟩)] #[], step := .func (.func 397) #[] #[] }
def CandPost (M : List Nat) (w : World) (rb rl ms bt x0 : Nat) (x2 : Option Nat) (s : RaftS) (l : RLog) (hv sv ev : Value) (e : Ent) (r : List Ent) (V L : List Int) (f : Int → Option PrS) (p : Int → Nat) (opt : Int) (D : List Int) (zk : Nat) (y : Ending) (w' : World) : Prop :=
  y = .returned (.tuple #[]) ∧ ∃ bv ro' mo bi, ResetTo M w rb rl ms bt x0 x2 s l hv sv ev e r V L f p opt (s.cand rb D zk bv ro') w' bv ro' mo bi
set_option maxRecDepth 100000 in
set_option maxHeartbeats 4000000 in
theorem candidate_any {M : List Nat} {w : World} {rb rl ms rob bt x0 : Nat} {x2 : Option Nat} {s : RaftS} {l : RLog} {hv sv ev mp sl cn : Value} {e : Ent} {r : List Ent} {V L : List Int} {f : Int → Option PrS} {p : Int → Nat} {opt : Int} {D : List Int} {zk : Nat}
    (h : RaftAt w rb s) (hrl : s.rl = rl) (hl : RlAt w rl ms l) (hcalm : l.calm) (hs : StAt M w ms hv sv ev e r) (ht : TrkAt w (some x0) x2 bt V L f p) (hn : (V ++ L).Nodup) (hpr : s.prog = .map (some bt))
    (hzd : Sl M w s.zd (I64s D)) (hk : s.zn = zk) (hk1 : zk < 1000000000) (hDl : D.length ≤ 1000) (hDn : ∀ x ∈ D, 0 ≤ x ∧ x < s.et) (hn0 : 0 < s.et) (hn1 : s.et < 1000000000)
    (hro : s.ro = .pointer (some ⟨rob, 0, none⟩)) (hrob : Blk w rob 449 #[.int .i64 opt, mp, sl, cn]) (mb : rb ∈ M) (hpM : ∀ k st, f k = some st → p k ∈ M) (lK : (V ++ L).length ≤ 13) (hs2 : s.state ≠ 2) (ht0 : 0 ≤ s.term) (ht1 : s.term + 1 < 18446744073709551615) :
    Calls Tryz.prog 350 #[.pointer (some ⟨rb, 0, none⟩)] w (CandPost M w rb rl ms bt x0 x2 s l hv sv ev e r V L f p opt D zk) := by
  have hmf : ∀ (fn : Fn) (first cap : Array Value) (w : World), (Instr.makeFunc fn first cap).run Tryz.prog w = .ok (.func fn first cap) w := fun _ _ _ _ => rfl
  have hw1 : IntKind.u64.wrap (s.term + 1) = s.term + 1 := IntWalk.u64_in _ (by omega)
  have nrm := hs.at_.ne h (by decide)
  have nrl := Blk.ne h hl (by decide)
  have nro := Blk.ne h hrob (by decide)
  have c36 : w.cell? ⟨rb, 36, none⟩ = some s.step := RaftAt.cell h 36 _ rfl
  have c16 : w.cell? ⟨rb, 16, none⟩ = some (.int .u64 s.state) := RaftAt.cell h 16 (.int .u64 s.state) rfl
  have c1 : w.cell? ⟨rb, 1, none⟩ = some (.int .u64 s.term) := RaftAt.cell h 1 (.int .u64 s.term) rfl
  have cf := Blk.frozen h
  have hq : Chg [rb] w (w.setCell ⟨rb, 36, none⟩ (.func (.func 397) #[] #[])) := (Chg.refl _ _).setCell (.inr (by simp)) _
  have hR1 : RaftAt (w.setCell ⟨rb, 36, none⟩ (.func (.func 397) #[] #[])) rb { s with step := .func (.func 397) #[] #[] } := RaftAt.set_ h 36 _ { s with step := .func (.func 397) #[] #[] } rfl
  have hC := reset_any (term := s.term + 1) hR1 hrl (hl.chg hq (by simpa using nrl.symm)) hcalm (hs.chg hq (by simpa using mb) (by simpa using nrm.symm)) (ht.chgB h (by decide) hq) hn hpr (hzd.chg hq (by simpa using mb)) hk hk1 hDl hDn hn0 hn1 hro (hrob.chg hq (by simpa using nro.symm)) mb hpM lK
  have HC := Lib.hid hC
  have HQ := Lib.hid hq
  have hs2' : (s.state == 2) = false := by simpa using hs2
  clear h hrl hl hcalm hs ht hn hpr hzd hk hDn hro hrob hpM hC hR1 hq hs2
  go_enter Tryz.func350, Tryz.ntmps350
  go_wp2_with (first | (go_at_call 280; (with_reducible refine Calls.mono HC.out ?_); rintro e1 w2 ⟨rfl, bv, ro', mo, bi, hrt⟩; have HRT := Lib.hid hrt; clear hrt; have d35 : w2.cell? ⟨rb, 35, none⟩ = some s.tick := RaftAt.cell HRT.out.ra 35 _ rfl; have d0 : w2.cell? ⟨rb, 0, none⟩ = some (.int .u64 s.id) := RaftAt.cell HRT.out.ra 0 (.int .u64 s.id) rfl; have d2 := RaftAt.cell HRT.out.ra 2 _ rfl; have d16 : w2.cell? ⟨rb, 16, none⟩ = some (.int .u64 s.state) := RaftAt.cell HRT.out.ra 16 _ rfl; have df := Blk.frozen HRT.out.ra))
  go_end0
  have hR2 := RaftAt.set_ (RaftAt.set_ (RaftAt.set_ HRT.out.ra 35 (.func (.func 281) #[.pointer (some ⟨rb, 0, none⟩)] #[]) { (RaftS.res { s with step := .func (.func 397) #[] #[] } (s.term + 1) D zk bv ro') with tick := .func (.func 281) #[.pointer (some ⟨rb, 0, none⟩)] #[] } rfl) 2 (.int .u64 s.id) { (RaftS.res { s with step := .func (.func 397) #[] #[] } (s.term + 1) D zk bv ro') with tick := .func (.func 281) #[.pointer (some ⟨rb, 0, none⟩)] #[], vote := s.id } rfl) 16 (.int .u64 1) (s.cand rb D zk bv ro') rfl
  have hq2 : Chg [rb] w2 (((w2.setCell ⟨rb, 35, none⟩ (.func (.func 281) #[.pointer (some ⟨rb, 0, none⟩)] #[])).setCell ⟨rb, 2, none⟩ (.int .u64 s.id)).setCell ⟨rb, 16, none⟩ (.int .u64 1)) := (((Chg.refl _ _).setCell (.inr (by simp)) _).setCell (.inr (by simp)) _).setCell (.inr (by simp)) _
  have hF := HRT.out.more hq2 hR2 mb
  have hz : (w.setCell ⟨rb, 36, none⟩ (.func (.func 397) #[] #[])).heap.size = w.heap.size := by simp
  exact ⟨rfl, bv, ro', mo, bi, ⟨hF.ra, hF.la, hF.sa, hF.oa, by rw [← hz]; exact hF.ol, hF.va, by rw [← hz]; exact hF.vl, hF.ta, fun k st hk => ⟨by rw [← hz]; exact (hF.ia k st hk).1, (hF.ia k st hk).2⟩, hF.ja, (HQ.out.mono (by simp)).trans hF.ca⟩⟩
set_option maxRecDepth 100000 in
set_option maxHeartbeats 2000000 in
theorem preCandidate_any {w : World} {rb : Nat} {s : RaftS} (h : RaftAt w rb s) (hs2 : s.state ≠ 2) :
    Calls Tryz.prog 349 #[.pointer (some ⟨rb, 0, none⟩)] w fun y w' => y = .returned (.tuple #[]) ∧ ∃ bv, w.heap.size ≤ bv ∧ MapAt w' bv (.map []) ∧ RaftAt w' rb (s.pre rb bv) ∧ Chg [rb] w w' := by
  have hmf : ∀ (fn : Fn) (first cap : Array Value) (w : World), (Instr.makeFunc fn first cap).run Tryz.prog w = .ok (.func fn first cap) w := fun _ _ _ _ => rfl
  have c36 : w.cell? ⟨rb, 36, none⟩ = some s.step := RaftAt.cell h 36 _ rfl
  have c16 : w.cell? ⟨rb, 16, none⟩ = some (.int .u64 s.state) := RaftAt.cell h 16 (.int .u64 s.state) rfl
  have cf := Blk.frozen h
  have hq : Chg [rb] w (w.setCell ⟨rb, 36, none⟩ (.func (.func 397) #[] #[])) := (Chg.refl _ _).setCell (.inr (by simp)) _
  have hR1 : RaftAt (w.setCell ⟨rb, 36, none⟩ (.func (.func 397) #[] #[])) rb { s with step := .func (.func 397) #[] #[] } := RaftAt.set_ h 36 _ { s with step := .func (.func 397) #[] #[] } rfl
  have HC := Lib.hid (resetVotes_any hR1)
  have HQ := Lib.hid hq
  have hz : (w.setCell ⟨rb, 36, none⟩ (.func (.func 397) #[] #[])).heap.size = w.heap.size := by simp
  have HZ := Lib.hid hz
  have hs2' : (s.state == 2) = false := by simpa using hs2
  clear h hq hR1 hz hs2
  go_enter Tryz.func349, Tryz.ntmps349
  go_wp2_with (first | (go_at_call 342; (with_reducible refine Calls.mono HC.out ?_); rintro e1 w2 ⟨bv, rfl, hbv, hmv, hra, hc2⟩; have HRA := Lib.hid hra; have HMV := Lib.hid hmv; have HC2 := Lib.hid hc2; have HBV := Lib.hid hbv; clear hmv hc2 hbv; have d35 : w2.cell? ⟨rb, 35, none⟩ = some s.tick := RaftAt.cell HRA.out 35 _ rfl; have d20 : w2.cell? ⟨rb, 20, none⟩ = some (.int .u64 s.lead) := RaftAt.cell HRA.out 20 (.int .u64 s.lead) rfl; have d16 : w2.cell? ⟨rb, 16, none⟩ = some (.int .u64 s.state) := RaftAt.cell HRA.out 16 (.int .u64 s.state) rfl; have df := Blk.frozen HRA.out; clear hra))
  go_end0
  have hR2 := RaftAt.set_ (RaftAt.set_ (RaftAt.set_ HRA.out 35 (.func (.func 281) #[.pointer (some ⟨rb, 0, none⟩)] #[]) { s with step := .func (.func 397) #[] #[], votes := .map (some bv), tick := .func (.func 281) #[.pointer (some ⟨rb, 0, none⟩)] #[] } rfl) 20 (.int .u64 0) { s with step := .func (.func 397) #[] #[], votes := .map (some bv), tick := .func (.func 281) #[.pointer (some ⟨rb, 0, none⟩)] #[], lead := 0 } rfl) 16 (.int .u64 3) (s.pre rb bv) rfl
  have hq2 : Chg [rb] w2 (((w2.setCell ⟨rb, 35, none⟩ (.func (.func 281) #[.pointer (some ⟨rb, 0, none⟩)] #[])).setCell ⟨rb, 20, none⟩ (.int .u64 0)).setCell ⟨rb, 16, none⟩ (.int .u64 3)) := (((Chg.refl _ _).setCell (.inr (by simp)) _).setCell (.inr (by simp)) _).setCell (.inr (by simp)) _
  exact ⟨rfl, bv, by rw [← HZ.out]; exact HBV.out, HMV.out.chg hq2 (by simpa using HMV.out.ne_blk HRA.out), hR2, (HQ.out.trans HC2.out).trans hq2⟩
end Go.Proofs.YtalhhplphlobbaaGreat
namespace Go.Proofs.YtalhhplphlobbaaGreat
open Go.RowKit
theorem infoMsg : (Tryz.prog.info? 199).map (fun i => (i.zero, i.size, i.bytes)) = some (some (.pointer none), 1, 8) := by kernel_rfl
theorem own_keep {L : List Nat} {w w' : World} {base : Nat} {e : TypeId} {size : Nat} {v : Value} {n : Nat} {xs : List Value} (h : w.ownsRow base e size v n xs) (hc : Chg L w w') (hL : ∀ g ∈ rowL v, g ∉ L) : w'.ownsRow base e size v n xs := by
  obtain ⟨h1, h2⟩ := h
  refine ⟨h1, ?_⟩
  rcases h2 with h2 | ⟨g, cap, cur, rfl, hg, hh, r⟩
  · exact .inl h2
  · refine .inr ⟨g, cap, cur, rfl, hg, ?_, r⟩
    have hlt : g < w.heap.size := by
      rcases Nat.lt_or_ge g w.heap.size with hlt | hge
      · exact hlt
      · rw [Array.getElem?_eq_none hge] at hh; cases hh
    rw [hc.block g hlt (hL g (by simp [rowL, Value.ownBlock]))]
    exact hh
theorem own_form {w : World} {base : Nat} {e : TypeId} {size : Nat} {v : Value} {n : Nat} {xs : List Value} (h : w.ownsRow base e size v n xs) : ∃ A c, v = .slice A n c := by
  rcases h.2 with ⟨rfl, h0⟩ | ⟨g, cap, cur, rfl, _⟩
  · exact ⟨none, 0, by rw [h0]⟩
  · exact ⟨_, _, rfl⟩
section
variable {M : List Nat} {w : World} {rb g base : Nat} {s : RaftS} {m : MsgS} {cs : List Value}
/-- The world behind 'm.From = new(r.id)'. -/
theorem from_set (hm : MsgAt M w g m) (hg : g ∈ M) (hM : ∀ x ∈ M, x < w.heap.size) (n : Int) :
    MsgAt M ((w.setCell ⟨g, 2, none⟩ (.pointer (some ⟨w.heap.size, 0, none⟩))).alloc (.cells #[.int .u64 n] 22)) g { m with fr := n } ∧ Chg [g] w ((w.setCell ⟨g, 2, none⟩ (.pointer (some ⟨w.heap.size, 0, none⟩))).alloc (.cells #[.int .u64 n] 22)) := by
  have hc : Chg [g] w ((w.setCell ⟨g, 2, none⟩ (.pointer (some ⟨w.heap.size, 0, none⟩))).alloc (.cells #[.int .u64 n] 22)) := ((Chg.refl _ _).setCell (.inr (by simp)) _).alloc _
  refine ⟨?_, hc⟩
  have hgl := hm.lt
  obtain ⟨p0, p1, p2, p3, p4, p5, p7, p8, p10, p11, hb, h0, h1, h2, h3, h4, h5, h7, h8, h10, h11⟩ := hm
  have hs : ∀ x ∈ [g], x ∈ M := by simpa using hg
  have hb2 := (hb.set_ 2 (.pointer (some ⟨w.heap.size, 0, none⟩))).alloc (.cells #[.int .u64 n] 22)
  refine ⟨p0, p1, .pointer (some ⟨w.heap.size, 0, none⟩), p3, p4, p5, p7, p8, p10, p11, by simpa using hb2, h0.chg hc hs, h1.chg hc hs, .inr ⟨w.heap.size, 0, rfl, fun hx => by have := hM _ hx; omega, by simp, ?_⟩, h3.chg hc hs, h4.chg hc hs, h5.chg hc hs, h7.chg hc hs, h8.chg hc hs, h10.chg hc hs, h11.chg hc hs⟩
  simp [go_sem]
set_option maxRecDepth 100000 in
set_option maxHeartbeats 2000000 in
/-- A request for a vote, or for a pre-vote. -/
theorem send_vote (h : RaftAt w rb s) (hm : MsgAt M w g m) (hg : g ∈ M) (hrm : rb ∈ M) (hM : ∀ x ∈ M, x < w.heap.size) (hfr : m.fr = 0) (hte : m.te ≠ 0) (hty : m.ty = 5 ∨ m.ty = 17) (hto : m.dst ≠ s.id)
    (ho : w.ownsRow base 199 1 s.msgs cs.length cs) (hrw : ∀ x ∈ rowL s.msgs, x ∈ M) (hcl : cs.length < 1000) (hb : base ≤ w.heap.size) :
    Calls Tryz.prog 217 #[.pointer (some ⟨rb, 0, none⟩), .pointer (some ⟨g, 0, none⟩)] w fun y w' => y = .returned (.tuple #[]) ∧ ∃ v', RaftAt w' rb { s with msgs := v' } ∧ w'.ownsRow base 199 1 v' (cs.length + 1) (cs ++ [.pointer (some ⟨g, 0, none⟩)]) ∧
      MsgAt (rowL v' ++ M) w' g { m with fr := s.id } ∧ Chg (rb :: g :: rowL s.msgs) w w' ∧ (∀ x ∈ rowL v', x ∈ rowL s.msgs ∨ w.heap.size ≤ x) := by
  obtain ⟨i0, hi, hz0, hz1, hz2⟩ := info_parts infoMsg
  have HF := Lib.hid (mFrom_any hm)
  obtain ⟨hm1, hc1⟩ := from_set hm hg hM s.id
  have hkf : w.cell? ⟨g, 2, none⟩ ≠ none ∧ ∀ i, w.frozen? ⟨g, i, none⟩ = false := by
    obtain ⟨p0, p1, p2, p3, p4, p5, p7, p8, p10, p11, hb, _⟩ := hm
    exact ⟨by rw [hb.cell 2]; simp, hb.frozen⟩
  obtain ⟨x2, hx2⟩ := Option.ne_none_iff_exists'.1 hkf.1
  have kf := hkf.2
  have c0 : w.cell? ⟨rb, 0, none⟩ = some (.int .u64 s.id) := RaftAt.cell h 0 (.int .u64 s.id) rfl
  have hgl := hm.lt
  have nrg : rb ≠ g := by
    obtain ⟨_, _, _, _, _, _, _, _, _, _, hb, _⟩ := hm
    exact Blk.ne h hb (by decide)
  have hrow : ∀ x ∈ rowL s.msgs, x ∉ [g] := fun x hx hx2 => by
    obtain ⟨_, _, _, _, _, _, _, _, _, _, hb, _⟩ := hm
    simp at hx2
    subst hx2
    exact own_ne ho hb (by decide) hx
  have hrr : rb ∉ rowL s.msgs := own_ne ho h (by decide)
  have hgr : g ∉ rowL s.msgs := fun hx => hrow g hx (by simp)
  have hR1 := h.chg hc1 (by simpa using nrg)
  have ho1 := own_keep ho hc1 hrow
  have HC1 := Lib.hid hc1
  have HM1 := Lib.hid hm1
  have HR1 := Lib.hid hR1
  have HO1 := Lib.hid ho1
  have HRW := Lib.hid hrw
  clear h hm hM ho hrw hkf hc1 hm1 hR1 ho1 hrow
  go_enter Tryz.func217, Tryz.ntmps217
  go_upto_region 2 with (first | (go_at_call 172; (with_reducible refine Calls.mono (HF.out) ?_); rintro e w' ⟨rfl, rfl⟩))
  have hc1 := HC1.out
  have hm1 := HM1.out
  have hR1 := HR1.out
  have ho1 := HO1.out
  generalize (w.setCell ⟨g, 2, none⟩ (.pointer (some ⟨w.heap.size, 0, none⟩))).alloc (.cells #[.int .u64 s.id] 22) = w1 at hc1 hm1 hR1 ho1 ⊢
  clear HC1 HM1 HR1 HO1 hx2 kf c0
  have HT := Lib.hid (mType_any hm1)
  have HTE := Lib.hid (mTerm_any hm1)
  have HTO := Lib.hid (mTo_any hm1)
  have HTO' := Lib.hid (mTo_any (hm1.nxt ⟨(Chg.refl _ _).drew⟩))
  have d0 : w1.cell? ⟨rb, 0, none⟩ = some (.int .u64 s.id) := RaftAt.cell hR1 0 (.int .u64 s.id) rfl
  have d18 : w1.cell? ⟨rb, 18, none⟩ = some s.msgs := RaftAt.cell hR1 18 s.msgs rfl
  have df := Blk.frozen hR1
  have dl := Blk.lt hR1
  have hto' : (m.dst == s.id) = false := by simpa using hto
  have hte' : (m.te == 0) = false := by simpa using hte
  clear hto hte
  have HD := Lib.hid ho1
  have HM := Lib.hid hm1
  have HR := Lib.hid hR1
  have HC := Lib.hid hc1
  have hlt := fun (x : Nat) (hx : x ∈ rowL s.msgs) => own_lt ho1 hx
  have HLT := Lib.hid hlt
  clear ho1 hm1 hR1 hc1 hlt
  rcases hty with h5 | h5
  all_goals
    go_wp2_with (first | (go_at_call 170; (with_reducible refine Calls.mono (HT.out) ?_); rintro e w' ⟨rfl, rfl⟩) | (go_at_call 212; (with_reducible refine Calls.mono (HTE.out) ?_); rintro e w' ⟨rfl, rfl⟩))
    go_region_held3 (fun wx => wx.cell? ⟨rb, 0, none⟩ = some (.int .u64 s.id))
      (first | ((repeat' apply And.intro) <;> (first | with_reducible assumption | (simp; done) | ((repeat (refine cell_alloc ?_ _)); (first | with_reducible assumption | (refine Chg.at0 (Nxt.out (by assumption)) ?_; first | with_reducible assumption | (simp; done) | (simp [*]; done)) | (refine Chg.at0 (by assumption) ?_; first | with_reducible assumption | (simp; done) | (simp [*]; done)) | (simp [*]; done))) | ((repeat (first | with_reducible exact Chg.refl _ _ | with_reducible assumption | refine Chg.drew ?_ | refine Chg.alloc ?_ _)); done)))) (first | (go_at_call 282; (with_reducible refine Calls.mono (HTO'.out) ?_); rintro e w' ⟨rfl, rfl⟩))
    go_wp2_with (first | (at_builtin; refine wpList_append_sl _ [] rfl _ _ 274 rfl base 199 i0 (.pointer none) 8 Tryz.underlying274 hi hz0 hz1 hz2 rfl _ cs.length cs rfl ?c0 _ [.pointer (some ⟨g, 0, none⟩)] rfl (Sl.new1 _ _ _) ?c1 ?c2 ?c3 ?c4 ?_))
    case c0 => exact own_chg0 HD.out (((Chg.refl _ _).drew).alloc _)
    case c1 => simp [Value.oneCell']
    case c2 => simp only [List.length_singleton, maxLen]; omega
    case c3 => simp only [List.length_singleton]; omega
    case c4 => have := HC.out.size; simp; omega
    intro v' w3 hown3 hg3 hat3
    have hc3 : Chg (rowL s.msgs) w1 w3 := (((Chg.refl (rowL s.msgs) w1).drew).alloc _).trans (chg_row hg3)
    have hR3 := HR.out.chg hc3 hrr
    have hrv : ∀ x ∈ rowL v', x ∈ rowL s.msgs ∨ w1.heap.size ≤ x := fun x hx => by
      have z := rowL_after hat3 hx
      rcases z with z | z
      · exact .inl z
      · refine .inr (Nat.le_trans ?_ z)
        simp
    have hM3 : MsgAt (rowL v' ++ M) w3 g { m with fr := s.id } := (HM.out.more (fun x hx => by rcases List.mem_append.1 hx with hx | hx; exact (hrv x hx).imp (HRW.out x) id; exact .inl hx)).chg hc3 (fun x hx => List.mem_append_right _ (HRW.out x hx)) hgr
    have hrn : ∀ x ∈ rowL v', x ∉ [rb] := fun x hx hx2 => by
      simp at hx2
      subst hx2
      rcases hrv x hx with h1 | h1
      · exact hrr h1
      · omega
    have f18 : w3.cell? ⟨rb, 18, none⟩ = some s.msgs := RaftAt.cell hR3 18 s.msgs rfl
    have ff := Blk.frozen hR3
    have fl := Blk.lt hR3
    have HR3 := Lib.hid hR3
    have HM3 := Lib.hid hM3
    have HO3 := Lib.hid hown3
    have HC3 := Lib.hid hc3
    have HRV := Lib.hid hrv
    have HRN := Lib.hid hrn
    clear hR3 hM3 hown3 hc3 hrv hrn hg3 hat3 d0 d18 df
    obtain ⟨A', k', rfl⟩ := own_form HO3.out
    go_wp2
    go_end0
    have hc4 : Chg [rb] w3 (w3.setCell ⟨rb, 18, none⟩ (.slice A' (cs.length + 1) k')) := (Chg.refl _ _).setCell (.inr (by simp)) _
    have hz := HC.out.size
    exact ⟨rfl, _, RaftAt.set_ HR3.out 18 _ { s with msgs := .slice A' (cs.length + 1) k' } rfl, by simpa using own_keep HO3.out hc4 HRN.out, HM3.out.chg hc4 (by simpa using .inr hrm) (by simpa using Ne.symm nrg), ((HC.out.mono (by simp)).trans (HC3.out.mono (by simp; intro x hx; exact .inr (.inr hx)))).trans (hc4.mono (by simp)), fun x hx => (HRV.out x hx).imp id (fun h => Nat.le_trans hz h)⟩
set_option maxRecDepth 100000 in
set_option maxHeartbeats 2000000 in
/-- The answer to one. -/
theorem send_resp (h : RaftAt w rb s) (hm : MsgAt M w g m) (hg : g ∈ M) (hrm : rb ∈ M) (hM : ∀ x ∈ M, x < w.heap.size) (hfr : m.fr = 0) (hte : m.te ≠ 0) (hty : m.ty = 6 ∨ m.ty = 18)
    (ho : w.ownsRow base 199 1 s.msga cs.length cs) (hrw : ∀ x ∈ rowL s.msga, x ∈ M) (hcl : cs.length < 1000) (hb : base ≤ w.heap.size) :
    Calls Tryz.prog 217 #[.pointer (some ⟨rb, 0, none⟩), .pointer (some ⟨g, 0, none⟩)] w fun y w' => y = .returned (.tuple #[]) ∧ ∃ v', RaftAt w' rb { s with msga := v' } ∧ w'.ownsRow base 199 1 v' (cs.length + 1) (cs ++ [.pointer (some ⟨g, 0, none⟩)]) ∧
      MsgAt (rowL v' ++ M) w' g { m with fr := s.id } ∧ Chg (rb :: g :: rowL s.msga) w w' ∧ (∀ x ∈ rowL v', x ∈ rowL s.msga ∨ w.heap.size ≤ x) := by
  obtain ⟨i0, hi, hz0, hz1, hz2⟩ := info_parts infoMsg
  have HF := Lib.hid (mFrom_any hm)
  obtain ⟨hm1, hc1⟩ := from_set hm hg hM s.id
  have hkf : w.cell? ⟨g, 2, none⟩ ≠ none ∧ ∀ i, w.frozen? ⟨g, i, none⟩ = false := by
    obtain ⟨p0, p1, p2, p3, p4, p5, p7, p8, p10, p11, hb, _⟩ := hm
    exact ⟨by rw [hb.cell 2]; simp, hb.frozen⟩
  obtain ⟨x2, hx2⟩ := Option.ne_none_iff_exists'.1 hkf.1
  have kf := hkf.2
  have c0 : w.cell? ⟨rb, 0, none⟩ = some (.int .u64 s.id) := RaftAt.cell h 0 (.int .u64 s.id) rfl
  have hgl := hm.lt
  have nrg : rb ≠ g := by
    obtain ⟨_, _, _, _, _, _, _, _, _, _, hb, _⟩ := hm
    exact Blk.ne h hb (by decide)
  have hrow : ∀ x ∈ rowL s.msga, x ∉ [g] := fun x hx hx2 => by
    obtain ⟨_, _, _, _, _, _, _, _, _, _, hb, _⟩ := hm
    simp at hx2
    subst hx2
    exact own_ne ho hb (by decide) hx
  have hrr : rb ∉ rowL s.msga := own_ne ho h (by decide)
  have hgr : g ∉ rowL s.msga := fun hx => hrow g hx (by simp)
  have hR1 := h.chg hc1 (by simpa using nrg)
  have ho1 := own_keep ho hc1 hrow
  have HC1 := Lib.hid hc1
  have HM1 := Lib.hid hm1
  have HR1 := Lib.hid hR1
  have HO1 := Lib.hid ho1
  have HRW := Lib.hid hrw
  clear h hm hM ho hrw hkf hc1 hm1 hR1 ho1 hrow
  go_enter Tryz.func217, Tryz.ntmps217
  go_upto_region 2 with (first | (go_at_call 172; (with_reducible refine Calls.mono (HF.out) ?_); rintro e w' ⟨rfl, rfl⟩))
  have hc1 := HC1.out
  have hm1 := HM1.out
  have hR1 := HR1.out
  have ho1 := HO1.out
  generalize (w.setCell ⟨g, 2, none⟩ (.pointer (some ⟨w.heap.size, 0, none⟩))).alloc (.cells #[.int .u64 s.id] 22) = w1 at hc1 hm1 hR1 ho1 ⊢
  clear HC1 HM1 HR1 HO1 hx2 kf c0
  have HT := Lib.hid (mType_any hm1)
  have HTE := Lib.hid (mTerm_any hm1)
  have HTO := Lib.hid (mTo_any hm1)
  have HTO' := Lib.hid (mTo_any (hm1.nxt ⟨(Chg.refl _ _).drew⟩))
  have d0 : w1.cell? ⟨rb, 0, none⟩ = some (.int .u64 s.id) := RaftAt.cell hR1 0 (.int .u64 s.id) rfl
  have d19 : w1.cell? ⟨rb, 19, none⟩ = some s.msga := RaftAt.cell hR1 19 s.msga rfl
  have df := Blk.frozen hR1
  have dl := Blk.lt hR1
  have hte' : (m.te == 0) = false := by simpa using hte
  clear hte
  have HD := Lib.hid ho1
  have HM := Lib.hid hm1
  have HR := Lib.hid hR1
  have HC := Lib.hid hc1
  have hlt := fun (x : Nat) (hx : x ∈ rowL s.msga) => own_lt ho1 hx
  have HLT := Lib.hid hlt
  clear ho1 hm1 hR1 hc1 hlt
  rcases hty with h5 | h5
  all_goals
    go_wp2_with (first | (go_at_call 170; (with_reducible refine Calls.mono (HT.out) ?_); rintro e w' ⟨rfl, rfl⟩) | (go_at_call 212; (with_reducible refine Calls.mono (HTE.out) ?_); rintro e w' ⟨rfl, rfl⟩) | (at_builtin; refine wpList_append_sl _ [] rfl _ _ 274 rfl base 199 i0 (.pointer none) 8 Tryz.underlying274 hi hz0 hz1 hz2 rfl _ cs.length cs rfl ?c0 _ [.pointer (some ⟨g, 0, none⟩)] rfl (Sl.new1 _ _ _) ?c1 ?c2 ?c3 ?c4 ?_))
    case c0 => exact own_chg0 HD.out ((Chg.refl _ _).alloc _)
    case c1 => simp [Value.oneCell']
    case c2 => simp only [List.length_singleton, maxLen]; omega
    case c3 => simp only [List.length_singleton]; omega
    case c4 => have := HC.out.size; simp; omega
    intro v' w3 hown3 hg3 hat3
    have hc3 : Chg (rowL s.msga) w1 w3 := ((Chg.refl (rowL s.msga) w1).alloc _).trans (chg_row hg3)
    have hR3 := HR.out.chg hc3 hrr
    have hrv : ∀ x ∈ rowL v', x ∈ rowL s.msga ∨ w1.heap.size ≤ x := fun x hx => by
      have z := rowL_after hat3 hx
      rcases z with z | z
      · exact .inl z
      · refine .inr (Nat.le_trans ?_ z)
        simp
    have hM3 : MsgAt (rowL v' ++ M) w3 g { m with fr := s.id } := (HM.out.more (fun x hx => by rcases List.mem_append.1 hx with hx | hx; exact (hrv x hx).imp (HRW.out x) id; exact .inl hx)).chg hc3 (fun x hx => List.mem_append_right _ (HRW.out x hx)) hgr
    have hrn : ∀ x ∈ rowL v', x ∉ [rb] := fun x hx hx2 => by
      simp at hx2
      subst hx2
      rcases hrv x hx with h1 | h1
      · exact hrr h1
      · omega
    have f19 : w3.cell? ⟨rb, 19, none⟩ = some s.msga := RaftAt.cell hR3 19 s.msga rfl
    have ff := Blk.frozen hR3
    have fl := Blk.lt hR3
    have HR3 := Lib.hid hR3
    have HM3 := Lib.hid hM3
    have HO3 := Lib.hid hown3
    have HC3 := Lib.hid hc3
    have HRV := Lib.hid hrv
    have HRN := Lib.hid hrn
    clear hR3 hM3 hown3 hc3 hrv hrn hg3 hat3 d0 d19 df
    obtain ⟨A', k', rfl⟩ := own_form HO3.out
    go_wp2
    go_end0
    have hc4 : Chg [rb] w3 (w3.setCell ⟨rb, 19, none⟩ (.slice A' (cs.length + 1) k')) := (Chg.refl _ _).setCell (.inr (by simp)) _
    have hz := HC.out.size
    exact ⟨rfl, _, RaftAt.set_ HR3.out 19 _ { s with msga := .slice A' (cs.length + 1) k' } rfl, by simpa using own_keep HO3.out hc4 HRN.out, HM3.out.chg hc4 (by simpa using .inr hrm) (by simpa using Ne.symm nrg), ((HC.out.mono (by simp)).trans (HC3.out.mono (by simp; intro x hx; exact .inr (.inr hx)))).trans (hc4.mono (by simp)), fun x hx => (HRV.out x hx).imp id (fun h => Nat.le_trans hz h)⟩
end
end Go.Proofs.YtalhhplphlobbaaGreat
