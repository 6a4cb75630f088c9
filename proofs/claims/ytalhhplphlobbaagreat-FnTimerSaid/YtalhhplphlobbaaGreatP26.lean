/- What a calm log and a soft state say. Conditions: a log with nothing unstable. A calm log's entries: MemoryStorage.Entries, mustCheckOutOfBounds, slice, nextCommittedEnts. Conditions: sizes within the bounds. HasReady on a node at rest. Conditions: a calm log, no messages, no read states. -/
import Derived.LaidEql
import Derived.Test.YtalhhplphlobbaaGreatP05
import Derived.Test.YtalhhplphlobbaaGreatP25
set_option linter.unusedVariables false
set_option linter.unusedSimpArgs false
namespace Go.Proofs.YtalhhplphlobbaaGreat
open Go.RowKit
section
variable {w : World} {rl ms : Nat} {l : RLog}
set_option maxRecDepth 100000 in
set_option maxHeartbeats 400000 in
theorem nextSnap_calm (h : RlAt w rl ms l) (hc : l.calm) : Calls Tryz.prog 290 #[.pointer (some ⟨rl, 1, none⟩)] w fun y w' => y = .returned (.pointer none) ∧ w = w' := by
  obtain ⟨k0, k1, k2, k3, k4, k5, k6, k7, k8, k9, k10, k11⟩ := h.cells
  rw [hc.1] at k1
  go_enter Tryz.func290, Tryz.ntmps290
  go_wp2
  go_ret
  exact ⟨rfl, rfl⟩
set_option maxRecDepth 100000 in
set_option maxHeartbeats 400000 in
theorem hasOrSnap_calm (h : RlAt w rl ms l) (hc : l.calm) : Calls Tryz.prog 292 #[.pointer (some ⟨rl, 0, none⟩)] w fun y w' => y = .returned (.bool false) ∧ w = w' := by
  obtain ⟨k0, k1, k2, k3, k4, k5, k6, k7, k8, k9, k10, k11⟩ := h.cells
  rw [hc.1] at k1
  go_enter Tryz.func292, Tryz.ntmps292
  go_wp2
  go_ret
  exact ⟨rfl, rfl⟩
set_option maxRecDepth 100000 in
set_option maxHeartbeats 400000 in
theorem hasSnap_calm (h : RlAt w rl ms l) (hc : l.calm) : Calls Tryz.prog 236 #[.pointer (some ⟨rl, 0, none⟩)] w fun y w' => y = .returned (.bool false) ∧ w = w' := by
  have H := Lib.hid (nextSnap_calm h hc)
  have hb := Blk.lt h
  go_enter Tryz.func236, Tryz.ntmps236
  go_wp2_with (first | (go_at_call 290; (with_reducible refine Calls.mono (H.out) ?_); rintro e w' ⟨rfl, rfl⟩))
  go_ret
  exact ⟨rfl, rfl⟩
set_option maxRecDepth 100000 in
set_option maxHeartbeats 400000 in
theorem nextEnts_calm (h : RlAt w rl ms l) (hc : l.calm) (ho : l.oip = l.off) : Calls Tryz.prog 355 #[.pointer (some ⟨rl, 1, none⟩)] w fun y w' => y = .returned (.slice none 0 0) ∧ Nxt w w' := by
  obtain ⟨k0, k1, k2, k3, k4, k5, k6, k7, k8, k9, k10, k11⟩ := h.cells
  rw [hc.2] at k2
  rw [ho] at k5
  have e0 : IntKind.u64.wrap (l.off - l.off) = 0 := by rw [Int.sub_self]; rfl
  have e1 : IntKind.i64.wrap 0 = 0 := rfl
  go_enter Tryz.func355, Tryz.ntmps355
  go_wp2
  go_region_held3 (fun wx => wx.cell? ⟨rl, 5, none⟩ = some (.int .u64 l.off) ∧ wx.cell? ⟨rl, 3, none⟩ = some (.int .u64 l.off))
    (first | ((repeat' apply And.intro) <;> (first | with_reducible assumption | (simp; done) | ((repeat (refine cell_alloc ?_ _)); (first | with_reducible assumption | (refine Chg.at0 (Nxt.out (by assumption)) ?_; first | with_reducible assumption | (simp; done) | (simp [*]; done)) | (refine Chg.at0 (by assumption) ?_; first | with_reducible assumption | (simp; done) | (simp [*]; done)) | (simp [*]; done))) | ((repeat (first | with_reducible exact Chg.refl _ _ | with_reducible assumption | refine Chg.drew ?_ | refine Chg.alloc ?_ _)); done)))) (fail)
  go_wp2
  go_ret
  exact ⟨rfl, ⟨(Chg.refl _ _).drew⟩⟩
set_option maxRecDepth 100000 in
set_option maxHeartbeats 400000 in
theorem nextUns_calm (h : RlAt w rl ms l) (hc : l.calm) (ho : l.oip = l.off) : Calls Tryz.prog 291 #[.pointer (some ⟨rl, 0, none⟩)] w fun y w' => y = .returned (.slice none 0 0) ∧ Nxt w w' := by
  have H := Lib.hid (nextEnts_calm h hc ho)
  have hb := Blk.lt h
  go_enter Tryz.func291, Tryz.ntmps291
  go_wp2_with (first | (go_at_call 355; (with_reducible refine Calls.mono (H.out) ?_); rintro e w' ⟨rfl, hn⟩))
  go_ret
  exact ⟨rfl, hn⟩
set_option maxRecDepth 100000 in
set_option maxHeartbeats 400000 in
theorem hasUns_calm (h : RlAt w rl ms l) (hc : l.calm) (ho : l.oip = l.off) : Calls Tryz.prog 237 #[.pointer (some ⟨rl, 0, none⟩)] w fun y w' => y = .returned (.bool false) ∧ Nxt w w' := by
  have H := Lib.hid (nextUns_calm h hc ho)
  go_enter Tryz.func237, Tryz.ntmps237
  go_wp2_with (first | (go_at_call 291; (with_reducible refine Calls.mono (H.out) ?_); rintro e w' ⟨rfl, hn⟩))
  go_ret
  exact ⟨rfl, hn⟩
set_option maxRecDepth 100000 in
set_option maxHeartbeats 400000 in
theorem maxAppl_yes (h : RlAt w rl ms l) : Calls Tryz.prog 293 #[.pointer (some ⟨rl, 0, none⟩), .bool true] w fun y w' => y = .returned (.int .u64 l.com) ∧ w = w' := by
  obtain ⟨k0, k1, k2, k3, k4, k5, k6, k7, k8, k9, k10, k11⟩ := h.cells
  go_enter Tryz.func293, Tryz.ntmps293
  go_wp2
  go_ret
  exact ⟨rfl, rfl⟩
set_option maxRecDepth 100000 in
set_option maxHeartbeats 400000 in
theorem hasCom_calm (h : RlAt w rl ms l) (hc : l.calm) (hp : l.ps = false) (h1 : 0 ≤ l.apg ∧ l.apg + 1 < 18446744073709551615) (h2 : 0 ≤ l.com ∧ l.com + 1 < 18446744073709551615) :
    Calls Tryz.prog 238 #[.pointer (some ⟨rl, 0, none⟩), .bool true] w fun y w' => y = .returned (.bool (decide (l.apg < l.com))) ∧ Nxt w w' := by
  have H := Lib.hid (hasOrSnap_calm h hc)
  have H2 := Lib.hid (maxAppl_yes (Blk.drew h))
  obtain ⟨k0, k1, k2, k3, k4, k5, k6, k7, k8, k9, k10, k11⟩ := h.cells
  rw [hp] at k11
  have e1 : IntKind.u64.wrap (l.apg + 1) = l.apg + 1 := IntWalk.u64_in _ (by omega)
  have e2 : IntKind.u64.wrap (l.com + 1) = l.com + 1 := IntWalk.u64_in _ (by omega)
  go_enter Tryz.func238, Tryz.ntmps238
  go_wp2_with (first | (go_at_call 292; (with_reducible refine Calls.mono (H.out) ?_); rintro e w' ⟨rfl, rfl⟩))
  go_region_held3 (fun wx => wx.cell? ⟨rl, 7, none⟩ = some (.int .u64 l.apg))
    (first | ((repeat' apply And.intro) <;> (first | with_reducible assumption | (simp; done) | ((repeat (refine cell_alloc ?_ _)); (first | with_reducible assumption | (refine Chg.at0 (Nxt.out (by assumption)) ?_; first | with_reducible assumption | (simp; done) | (simp [*]; done)) | (refine Chg.at0 (by assumption) ?_; first | with_reducible assumption | (simp; done) | (simp [*]; done)) | (simp [*]; done))) | ((repeat (first | with_reducible exact Chg.refl _ _ | with_reducible assumption | refine Chg.drew ?_ | refine Chg.alloc ?_ _)); done)))) (first | (go_at_call 293; (with_reducible refine Calls.mono (H2.out) ?_); rintro e w' ⟨rfl, rfl⟩))
  go_wp2
  go_ret
  exact ⟨by first | rfl | simp | (congr 2; apply decide_eq_decide.2; omega), ⟨(Chg.refl _ _).drew⟩⟩
set_option maxRecDepth 100000 in
set_option maxHeartbeats 400000 in
theorem softEq_same {a b : Nat} {x s : Int} (ha : Blk w a 189 #[.int .u64 x, .int .u64 s]) (hb : Blk w b 189 #[.int .u64 x, .int .u64 s]) : Calls Tryz.prog 234 #[.pointer (some ⟨a, 0, none⟩), .pointer (some ⟨b, 0, none⟩)] w fun y w' => y = .returned (.bool true) ∧ Nxt w w' := by
  have a0 := (ha).cell 0; have a1 := (ha).cell 1; simp at a0 a1; have af := (ha).frozen; have al := (ha).lt
  have c0 := (hb).cell 0; have c1 := (hb).cell 1; simp at c0 c1; have cf := (hb).frozen; have cl := (hb).lt
  go_enter Tryz.func234, Tryz.ntmps234
  go_wp2
  go_region_held3 (fun wx => wx.cell? ⟨a, 0, none⟩ = some (.int .u64 x) ∧ wx.cell? ⟨a, 1, none⟩ = some (.int .u64 s) ∧ wx.cell? ⟨b, 0, none⟩ = some (.int .u64 x) ∧ wx.cell? ⟨b, 1, none⟩ = some (.int .u64 s))
    (first | ((repeat' apply And.intro) <;> (first | with_reducible assumption | (simp; done) | ((repeat (refine cell_alloc ?_ _)); (first | with_reducible assumption | (refine Chg.at0 (Nxt.out (by assumption)) ?_; first | with_reducible assumption | (simp; done) | (simp [*]; done)) | (refine Chg.at0 (by assumption) ?_; first | with_reducible assumption | (simp; done) | (simp [*]; done)) | (simp [*]; done))) | ((repeat (first | with_reducible exact Chg.refl _ _ | with_reducible assumption | refine Chg.drew ?_ | refine Chg.alloc ?_ _)); done)))) (fail)
  go_wp2
  go_ret
  exact ⟨rfl, ⟨(Chg.refl _ _).drew⟩⟩
end
end Go.Proofs.YtalhhplphlobbaaGreat
namespace Go.Proofs.YtalhhplphlobbaaGreat
open Go.RowKit
/-- A piece of a slice. -/
theorem Sl.sub {M : List Nat} {w : World} {b o n c i j c' : Nat} {xs : List Value} (h : Sl M w (.slice (some ⟨b, o, none⟩) n c) xs) (hij : i ≤ j) (hj : j ≤ n) (hc : j - i ≤ c') : Sl M w (.slice (some ⟨b, o + i, none⟩) (j - i) c') ((xs.take j).drop i) := by
  obtain ⟨A, n', c'', he, hl, hc', h0, ha⟩ := h
  injection he with h1 h2 h3
  subst h1; subst h2; subst h3
  refine ⟨_, _, _, rfl, by simp [hl]; omega, hc, by simp, fun b' o' s' e => ?_⟩
  obtain ⟨q1, q2, q3, q4⟩ := ha b o none rfl
  simp only [Option.some.injEq, Addr.mk.injEq] at e
  obtain ⟨rfl, rfl, rfl⟩ := e
  refine ⟨rfl, q2, q3, fun k u hu => ?_⟩
  rw [List.getElem?_drop, List.getElem?_take] at hu
  split at hu
  · rw [Nat.add_assoc]; exact q4 _ u hu
  · cases hu
theorem Ents.sub {M : List Nat} {w : World} {ps : List Value} {l : List Ent} (h : Ents M w ps l) (i j : Nat) : Ents M w ((ps.take j).drop i) ((l.take j).drop i) := by
  refine ⟨by simp [h.1], fun k e hk => ?_⟩
  rw [List.getElem?_drop, List.getElem?_take] at hk ⊢
  split at hk
  · rename_i hlt
    rw [if_pos hlt]; exact h.2 _ e hk
  · cases hk
theorem EntsAt.sub {M : List Nat} {w : World} {b o n c i j c' : Nat} {l : List Ent} (h : EntsAt M w (.slice (some ⟨b, o, none⟩) n c) l) (hij : i ≤ j) (hj : j ≤ n) (hc : j - i ≤ c') : EntsAt M w (.slice (some ⟨b, o + i, none⟩) (j - i) c') ((l.take j).drop i) := by
  obtain ⟨ps, h1, h2⟩ := h
  exact ⟨_, h1.sub hij hj hc, h2.sub i j⟩
theorem EntsAt.cut {M : List Nat} {w : World} {A : Option Addr} {n c : Nat} {l : List Ent} (h : EntsAt M w (.slice A n c) l) (hA : A.isSome = true) : EntsAt M w (.slice A n n) l := by
  obtain ⟨ps, ⟨A', n', c', he, hl, hc, h0, ha⟩, h2⟩ := h
  injection he with h1 h2 h3
  subst h1; subst h2; subst h3
  exact ⟨ps, ⟨_, _, _, rfl, hl, Nat.le_refl _, (by rintro rfl; cases hA), ha⟩, h2⟩
theorem limitEnts_any {M : List Nat} {w : World} {A : Option Addr} {n c : Nat} {l : List Ent} {mx : Int} (h : EntsAt M w (.slice A n c) l) (hf : ∀ x ∈ l, x.fits) (hd : ∀ x ∈ l, x.d.size ≤ 1000) (hmx : 2000 * (l.length : Int) ≤ mx) (hm : mx < 2 ^ 64) (hl : l.length ≤ 1000000) :
    Calls Tryz.prog 320 #[.slice A n c, .int .u64 mx] w fun y w' => y = .returned (.slice A n c) ∧ Nxt w w' := by
  obtain ⟨ps, h1, h2⟩ := h
  obtain ⟨ss, h3, h4, _⟩ := h2.szs hf hd
  exact limit_any h1 h3 (by omega) hm (by omega) (by rw [h2.1]; omega)
theorem sub_mem {α : Type} {e : α} {r : List α} {i j : Nat} (hi : 1 ≤ i) {x : α} (h : x ∈ ((e :: r).take j).drop i) : x ∈ r := by
  obtain ⟨i, rfl⟩ : ∃ k, i = k + 1 := ⟨i - 1, by omega⟩
  rcases j with _ | j
  · simp at h
  · simp only [List.take_succ_cons, List.drop_succ_cons] at h
    exact List.mem_of_mem_take (List.mem_of_mem_drop h)
section
variable {M : List Nat} {w : World} {ms rl : Nat} {hv sv ev : Value} {e : Ent} {r : List Ent} {l : RLog}
set_option maxRecDepth 100000 in
set_option maxHeartbeats 1000000 in
theorem msEntries_any (i j : Nat) (mx : Int) (h : MsAt w ms hv sv ev) (hms : ms ∈ M) (he : EntsAt M w ev (e :: r)) (h0 : 0 ≤ e.i) (h1 : e.i < 4611686018427387904) (hr : r.length ≤ 1000000) (hi : 1 ≤ i) (hij : i < j) (hj : j ≤ r.length + 1)
    (hf : ∀ x ∈ r, x.fits) (hd : ∀ x ∈ r, x.d.size ≤ 1000) (hmx : 2000 * r.length ≤ mx) (hm : mx < 2 ^ 64) :
    Calls Tryz.prog 252 #[.pointer (some ⟨ms, 0, none⟩), .int .u64 (e.i + i), .int .u64 (e.i + j), .int .u64 mx] w fun y w' => ∃ b o, y = .returned (.tuple #[.slice (some ⟨b, o, none⟩) (j - i) (j - i), .nilIface]) ∧ EntsAt M w' (.slice (some ⟨b, o, none⟩) (j - i) (j - i)) (((e :: r).take j).drop i) ∧ MsAt w' ms hv sv ev ∧ Chg [ms] w w' := by
  have H := Lib.hid h
  obtain ⟨n0, n1, n2, n3, n4, n5, hb⟩ := h
  have hML : ∀ x ∈ [ms], x ∈ M := by simpa using hms
  have k2 := hb.cell 2
  simp at k2
  have k6 := hb.cell 6
  simp at k6
  have f6 := hb.frozen 6
  obtain ⟨b, o, n, c, p, rfl, hn, hnc, hbM, hb', hc, hp⟩ := he.head
  have i0 : (0 : Int) < n := by omega
  have hle : ¬ e.i + (i : Int) ≤ e.i := by omega
  have hgt : ¬ (e.i + (r.length : Int) + 1 < e.i + (j : Int)) := by omega
  have hn1 : ¬ (n : Int) = 1 := by omega
  have ei : IntKind.u64.wrap (e.i + (i : Int) - e.i) = i := by rw [show e.i + (i : Int) - e.i = i by omega]; exact IntWalk.u64_in _ (by omega)
  have ej : IntKind.u64.wrap (e.i + (j : Int) - e.i) = j := by rw [show e.i + (j : Int) - e.i = j by omega]; exact IntWalk.u64_in _ (by omega)
  have b1 : (0 : Int) ≤ i ∧ (i : Int) < j ∧ (i : Int) ≤ j ∧ (j : Int) ≤ c ∧ (j : Int) ≤ n ∧ ¬ (i : Int) = c ∧ ¬ i = c ∧ (i : Int) < c ∧ i ≤ j ∧ j ≤ c := by omega
  obtain ⟨b1, b2, b3, b4, b5, b6, b7, b8, b9, b10⟩ := b1
  have hne : b ≠ ms := fun h => hbM (h ▸ hms)
  have HE := Lib.hid he
  have HN := Lib.hid hn
  have hbl := hb.lt
  clear he hb hn
  go_enter Tryz.func252, Tryz.ntmps252
  go_wp2_with (first | (go_at_call 154; (with_reducible refine Calls.mono (entIndex_any (EntAt.chg hp ?_ hML)) ?_); (focus (first | with_reducible assumption | ((repeat (first | with_reducible exact Chg.refl _ _ | with_reducible assumption | with_reducible refine Chg.drew ?_ | with_reducible refine Chg.alloc ?_ _ | with_reducible refine Chg.setCell ?_ (by simp) _ | with_reducible refine Chg.nxt ?_ (by assumption))); done))); rintro e w' ⟨rfl, rfl⟩) | (go_at_call 190; (with_reducible refine Calls.mono (msLast_any (H.out.bump 6 (by omega) _) (EntsAt.chg HE.out ?_ hML) h0 h1 (by omega)) ?_); (focus (first | with_reducible assumption | ((repeat (first | with_reducible exact Chg.refl _ _ | with_reducible assumption | with_reducible refine Chg.drew ?_ | with_reducible refine Chg.alloc ?_ _ | with_reducible refine Chg.setCell ?_ (by simp) _ | with_reducible refine Chg.nxt ?_ (by assumption))); done))); rintro e w1 ⟨rfl, hn1⟩; obtain ⟨qc1, qf1, qz1⟩ := hn1.rules; (try simp at qz1)))
  have hlen : (((e :: r).take j).drop i).length = j - i := by simp; omega
  have hE1 := (EntsAt.chg (L := []) (EntsAt.chg (L := [ms]) HE.out ((by (focus (first | with_reducible assumption | ((repeat (first | with_reducible exact Chg.refl _ _ | with_reducible assumption | with_reducible refine Chg.drew ?_ | with_reducible refine Chg.alloc ?_ _ | with_reducible refine Chg.setCell ?_ (by simp) _ | with_reducible refine Chg.nxt ?_ (by assumption))); done)))) : Chg [ms] w (w.setCell { block := ms, off := 6 } (Value.int IntKind.i64 (wrap64 (n3 + 1))))) hML) hn1.out (by simp)).sub b9 (by omega) (show j - i ≤ c - i by omega)
  (go_at_call 320; (with_reducible refine Calls.mono (limitEnts_any hE1 (fun x hx => hf x (sub_mem hi hx)) (fun x hx => hd x (sub_mem hi hx)) (by rw [hlen]; omega) hm (by rw [hlen]; omega)) ?_); rintro e w2 ⟨rfl, hn2⟩)
  have HLEN := Lib.hid hlen
  have HE1 := Lib.hid hE1
  clear hlen hE1 ei ej
  go_wp2
  go_ret2
  exact ⟨_, _, rfl, EntsAt.cut (EntsAt.chg (L := []) HE1.out hn2.out (by simp)) rfl, ((H.out.bump 6 (by omega) _).chg hn1.out (by simp)).chg hn2.out (by simp), (by (focus (first | with_reducible assumption | ((repeat (first | with_reducible exact Chg.refl _ _ | with_reducible assumption | with_reducible refine Chg.drew ?_ | with_reducible refine Chg.alloc ?_ _ | with_reducible refine Chg.setCell ?_ (by simp) _ | with_reducible refine Chg.nxt ?_ (by assumption))); done))))⟩
set_option maxRecDepth 100000 in
set_option maxHeartbeats 1000000 in
theorem mustCheck_calm (lo hi : Int) (h : StAt M w ms hv sv ev e r) (hl : RlAt w rl ms l) (hcalm : l.calm) (hne : rl ≠ ms) (h1 : e.i + 1 ≤ lo) (h2 : lo ≤ hi) (h3 : hi ≤ e.i + r.length + 1) :
    Calls Tryz.prog 400 #[.pointer (some ⟨rl, 0, none⟩), .int .u64 lo, .int .u64 hi] w fun y w' => y = .returned .nilIface ∧ RlAt w' rl ms l ∧ StAt M w' ms hv sv ev e r ∧ Chg [ms] w w' := by
  have i0 := h.i0
  have i1 := h.i1
  have i2 := h.len
  have b1 : ¬ hi < lo := by omega
  have b2 : ¬ lo < e.i + 1 := by omega
  have ew : IntKind.u64.wrap (e.i + (r.length : Int) + 1 - (e.i + 1)) = r.length := by rw [show e.i + (r.length : Int) + 1 - (e.i + 1) = r.length by omega]; exact IntWalk.u64_in _ (by omega)
  have b3 : ¬ e.i + 1 + (r.length : Int) < hi := by omega
  have H := Lib.hid h
  have HL := Lib.hid hl
  have HC := Lib.hid hcalm
  clear h hl hcalm
  go_enter Tryz.func400, Tryz.ntmps400
  go_wp2_with (first | (go_at_call 376; (with_reducible refine Calls.mono (rlFirst_any H.out HL.out HC.out hne) ?_); rintro e w1 ⟨rfl, hl1, hs1, hc1⟩; have HL1 := Lib.hid hl1; have HS1 := Lib.hid hs1; have HC1 := Lib.hid hc1; clear hl1 hs1 hc1) | (go_at_call 314; (with_reducible refine Calls.mono (rlLast_any HS1.out HL1.out HC.out hne) ?_); rintro e w2 ⟨rfl, hl2, hs2, hc2⟩; have HL2 := Lib.hid hl2; have HS2 := Lib.hid hs2; have HC2 := Lib.hid hc2; clear hl2 hs2 hc2))
  go_ret
  exact ⟨rfl, HL2.out, HS2.out, HC1.out.trans HC2.out⟩
/-- No error is none of the package's errors. -/
theorem eql_nil_err (w : World) (x : Value) : (binOp .eql 175 .nilIface (.iface 251 x)).run Tryz.prog w = .ok (.bool false) w := run_eql_iface_nil_left w 251 x Tryz.underlying175
set_option maxRecDepth 100000 in
set_option maxHeartbeats 1000000 in
theorem slice_calm (i j : Nat) (mx : Int) (h : StAt M w ms hv sv ev e r) (hl : RlAt w rl ms l) (hcalm : l.calm) (hne : rl ≠ ms) (hoff : l.off = e.i + r.length + 1) (hi : 1 ≤ i) (hij : i < j) (hj : j ≤ r.length + 1)
    (hf : ∀ x ∈ r, x.fits) (hd : ∀ x ∈ r, x.d.size ≤ 1000) (hmx : 2000 * r.length ≤ mx) (hm : mx < 2 ^ 64) :
    Calls Tryz.prog 356 #[.pointer (some ⟨rl, 0, none⟩), .int .u64 (e.i + i), .int .u64 (e.i + j), .int .u64 mx] w fun y w' => ∃ b o, y = .returned (.tuple #[.slice (some ⟨b, o, none⟩) (j - i) (j - i), .nilIface]) ∧ EntsAt M w' (.slice (some ⟨b, o, none⟩) (j - i) (j - i)) (((e :: r).take j).drop i) ∧ RlAt w' rl ms l ∧ StAt M w' ms hv sv ev e r ∧ Chg [ms] w w' := by
  have i0 := h.i0
  have i1 := h.i1
  have i2 := h.len
  obtain ⟨k0, k1, k2, k3, _⟩ := hl.cells
  rw [hcalm.1] at k1
  rw [hcalm.2] at k2
  rw [hoff] at k3
  have b1 : ¬ e.i + (i : Int) = e.i + j := by omega
  have b2 : ¬ e.i + (r.length : Int) + 1 ≤ e.i + (i : Int) := by omega
  have b3 : e.i + (j : Int) ≤ e.i + r.length + 1 := by omega
  have bm : min (e.i + (j : Int)) (e.i + r.length + 1) = e.i + j := Int.min_eq_left b3
  have rlt := Blk.lt hl
  have mlt := h.lt
  have H := Lib.hid h
  have HL := Lib.hid hl
  have HC := Lib.hid hcalm
  have HO := Lib.hid hoff
  clear h hl hcalm hoff
  go_enter Tryz.func356, Tryz.ntmps356
  go_wp2_with (first | (go_at_call 400; (with_reducible refine Calls.mono (mustCheck_calm (e.i + i) (e.i + j) H.out HL.out HC.out hne (by omega) (by omega) (by omega)) ?_); rintro e w1 ⟨rfl, hl1, hs1, hc1⟩; have HL1 := Lib.hid hl1; have HS1 := Lib.hid hs1; have HC1 := Lib.hid hc1; obtain ⟨m0, m1, m2, m3, _⟩ := hl1.cells; rw [HC.out.1] at m1; rw [HC.out.2] at m2; rw [HO.out] at m3; clear hl1 hs1 hc1) | (go_at_call 252; (with_reducible refine Calls.mono (msEntries_any i j mx HS1.out.at_ HS1.out.mem HS1.out.ents HS1.out.i0 HS1.out.i1 (by omega) hi hij hj hf hd hmx hm) ?_); rintro e w2 ⟨b, o, rfl, he2, ha2, hc2⟩; have el := eql_nil_err w2; have HE2 := Lib.hid he2; have HS2 := Lib.hid (HS1.out.ms_ ha2 hc2); have HL2 := Lib.hid (HL1.out.chg hc2 (by simpa using hne)); have HC2 := Lib.hid hc2; obtain ⟨n0, n1, n2, n3, _⟩ := HL2.out.cells; rw [HC.out.1] at n1; rw [HC.out.2] at n2; rw [HO.out] at n3; clear he2 ha2 hc2))
  go_ret2
  exact ⟨_, _, rfl, HE2.out, HL2.out, HS2.out, HC1.out.trans HC2.out⟩
theorem take_drop_cons {α : Type} (e : α) (r : List α) (a c : Nat) : ((e :: r).take (c + 1)).drop (a + 1) = (r.take c).drop a := by simp
set_option maxRecDepth 100000 in
set_option maxHeartbeats 1000000 in
theorem nextCom_calm (a c : Nat) (h : StAt M w ms hv sv ev e r) (hl : RlAt w rl ms l) (hcalm : l.calm) (hp : l.ps = false) (hne : rl ≠ ms) (hoff : l.off = e.i + r.length + 1) (ha : l.apg = e.i + a) (hc : l.com = e.i + c) (hac : a < c) (hcl : c ≤ r.length)
    (hf : ∀ x ∈ r, x.fits) (hd : ∀ x ∈ r, x.d.size ≤ 1000) (has : 0 ≤ l.asz) (hmx : 2000 * r.length + l.asz ≤ l.mx) (hm : l.mx < 2 ^ 64) :
    Calls Tryz.prog 294 #[.pointer (some ⟨rl, 0, none⟩), .bool true] w fun y w' => ∃ b o, y = .returned (.slice (some ⟨b, o, none⟩) (c - a) (c - a)) ∧ EntsAt M w' (.slice (some ⟨b, o, none⟩) (c - a) (c - a)) ((r.take c).drop a) ∧ RlAt w' rl ms l ∧ StAt M w' ms hv sv ev e r ∧ Chg [ms] w w' := by
  have i0 := h.i0
  have i1 := h.i1
  have i2 := h.len
  have H4 := Lib.hid (hasOrSnap_calm hl hcalm)
  have H5 := Lib.hid (maxAppl_yes (Blk.drew hl))
  obtain ⟨k0, k1, k2, k3, k4, k5, k6, k7, k8, k9, k10, k11⟩ := hl.cells
  rw [hp] at k11
  have hmax : 0 ≤ l.mx - l.asz ∧ l.mx - l.asz < 2 ^ 64 ∧ 2000 * (r.length : Int) ≤ l.mx - l.asz ∧ 0 < l.mx - l.asz := by omega
  obtain ⟨m1, m2, m3, m4⟩ := hmax
  have e1 : IntKind.u64.wrap (l.apg + 1) = l.apg + 1 := IntWalk.u64_in _ (by omega)
  have e2 : IntKind.u64.wrap (l.com + 1) = l.com + 1 := IntWalk.u64_in _ (by omega)
  have e3 : IntKind.u64.wrap (l.mx - l.asz) = l.mx - l.asz := IntWalk.u64_in _ (by omega)
  have b1 : ¬ l.com + 1 ≤ l.apg + 1 := by omega
  have b2 : ¬ l.mx - l.asz ≤ 0 := by omega
  have rlt := Blk.lt hl
  have HSL := Lib.hid (fun (w : World) (h : StAt M w ms hv sv ev e r) (hl : RlAt w rl ms l) => slice_calm (a + 1) (c + 1) (l.mx - l.asz) h hl hcalm hne hoff (by omega) (by omega) (by omega) hf hd m3 m2)
  have hlo : e.i + ((a + 1 : Nat) : Int) = l.apg + 1 := by omega
  have hhi : e.i + ((c + 1 : Nat) : Int) = l.com + 1 := by omega
  rw [hlo, hhi, take_drop_cons, show c + 1 - (a + 1) = c - a by omega] at HSL
  have H := Lib.hid h
  have HL := Lib.hid hl
  clear h hl hcalm hoff ha hc hp hf hd has hmx hm hlo hhi
  go_enter Tryz.func294, Tryz.ntmps294
  go_wp2_with (first | (go_at_call 292; (with_reducible refine Calls.mono (H4.out) ?_); rintro e w' ⟨rfl, rfl⟩))
  go_region_held3 (fun wx => wx.cell? ⟨rl, 7, none⟩ = some (.int .u64 l.apg))
    (first | ((repeat' apply And.intro) <;> (first | with_reducible assumption | (simp; done) | ((repeat (refine cell_alloc ?_ _)); (first | with_reducible assumption | (refine Chg.at0 (Nxt.out (by assumption)) ?_; first | with_reducible assumption | (simp; done) | (simp [*]; done)) | (refine Chg.at0 (by assumption) ?_; first | with_reducible assumption | (simp; done) | (simp [*]; done)) | (simp [*]; done))) | ((repeat (first | with_reducible exact Chg.refl _ _ | with_reducible assumption | refine Chg.drew ?_ | refine Chg.alloc ?_ _)); done)))) (first | (go_at_call 293; (with_reducible refine Calls.mono (H5.out) ?_); rintro e w' ⟨rfl, rfl⟩))
  have d9 := (((Chg.refl [] w).drew).at0 k9)
  have d10 := (((Chg.refl [] w).drew).at0 k10)
  clear e1 e2
  go_wp2
  go_region_held3 (fun wx => wx.cell? ⟨rl, 9, none⟩ = some (.int .u64 l.mx) ∧ wx.cell? ⟨rl, 10, none⟩ = some (.int .u64 l.asz))
    (first | ((repeat' apply And.intro) <;> (first | with_reducible assumption | (simp; done) | ((repeat (refine cell_alloc ?_ _)); (first | with_reducible assumption | (refine Chg.at0 (Nxt.out (by assumption)) ?_; first | with_reducible assumption | (simp; done) | (simp [*]; done)) | (refine Chg.at0 (by assumption) ?_; first | with_reducible assumption | (simp; done) | (simp [*]; done)) | (simp [*]; done))) | ((repeat (first | with_reducible exact Chg.refl _ _ | with_reducible assumption | refine Chg.drew ?_ | refine Chg.alloc ?_ _)); done)))) (fail)
  have hS2 := H.out.nxt (⟨((Chg.refl [] w).drew).drew⟩ : Nxt w w.drew.drew)
  have hL2 : RlAt w.drew.drew rl ms l := Blk.drew (Blk.drew HL.out)
  have HSL2 := Lib.hid (HSL.out _ hS2 hL2)
  clear e3 hS2 hL2
  go_wp2_with (first | (go_at_call 356; (with_reducible refine Calls.mono (HSL2.out) ?_); rintro e w2 ⟨b, o, rfl, he2, hl2, hs2, hc2⟩; have HE2 := Lib.hid he2; have HL2 := Lib.hid hl2; have HS2 := Lib.hid hs2; have HC2 := Lib.hid hc2; clear he2 hl2 hs2 hc2))
  go_ret
  exact ⟨_, _, rfl, HE2.out, HL2.out, HS2.out, (((Chg.refl _ _).drew).drew).trans HC2.out⟩
end
end Go.Proofs.YtalhhplphlobbaaGreat
namespace Go.Proofs.YtalhhplphlobbaaGreat
open Go.RowKit
section
variable {M : List Nat} {W w : World} {rb rl ms rn ss a : Nat} {s : RaftS} {l : RLog} {v v' u1 u2 u3 u4 u0 : Value} {t vo c : Int}
theorem softState_from (h : RaftAt W rb s) (hc : Chg [] W w) : Calls Tryz.prog 209 #[.pointer (some ⟨rb, 0, none⟩)] w fun y w' => y = .returned (.agg #[.int .u64 s.lead, .int .u64 s.state]) ∧ Chg [] W w' ∧ Nxt w w' := by
  refine Calls.mono (softState_any (h.nxt ⟨hc⟩)) ?_
  rintro y w' ⟨rfl, hn⟩
  exact ⟨rfl, hc.nxt hn, hn⟩
theorem softEq_from {x s : Int} (hs : Blk W ss 189 #[.int .u64 x, .int .u64 s]) (hc : Chg [] W w) (ha : Blk w a 189 #[.int .u64 x, .int .u64 s]) : Calls Tryz.prog 234 #[.pointer (some ⟨a, 0, none⟩), .pointer (some ⟨ss, 0, none⟩)] w fun y w' => y = .returned (.bool true) ∧ Chg [] W w' ∧ Nxt w w' := by
  refine Calls.mono (softEq_same ha (hs.nxt ⟨hc⟩)) ?_
  rintro y w' ⟨rfl, hn⟩
  exact ⟨rfl, hc.nxt hn, hn⟩
theorem hardState_from (h : RaftAt W rb s) (hrl : s.rl = rl) (hl : RlAt W rl ms l) (hM : ∀ x ∈ M, x < W.heap.size) (hc : Chg [] W w) :
    Calls Tryz.prog 210 #[.pointer (some ⟨rb, 0, none⟩)] w fun y w' => ∃ b, y = .returned (.pointer (some ⟨b, 0, none⟩)) ∧ HardAt M w' (.pointer (some ⟨b, 0, none⟩)) s.term s.vote l.com ∧ Chg [] W w' ∧ Nxt w w' := by
  refine Calls.mono (hardState_any (M := M) (h.nxt ⟨hc⟩) hrl (hl.nxt ⟨hc⟩) (fun x hx => Nat.lt_of_lt_of_le (hM x hx) hc.size)) ?_
  rintro y w' ⟨b, rfl, hh, hb, hn⟩
  exact ⟨b, rfl, hh, hc.nxt hn, hn⟩
theorem hardEmpty_from (h : HardAt M w v t vo c) (ht : 0 < t) (hc : Chg [] W w) : Calls Tryz.prog 180 #[v] w fun y w' => y = .returned (.bool false) ∧ HardAt M w' v t vo c ∧ Chg [] W w' ∧ Nxt w w' := by
  refine Calls.mono (hardEmpty_no h ht) ?_
  rintro y w' ⟨rfl, hn⟩
  exact ⟨rfl, h.chg (L := []) hn.out (by simp), hc.nxt hn, hn⟩
theorem hardEq_from (h' : HardAt M W v' t vo c) (hc : Chg [] W w) (h : HardAt M w v t vo c) : Calls Tryz.prog 235 #[v, v'] w fun y w' => y = .returned (.bool true) ∧ w = w' := hardEq_same h (h'.chg hc (by simp))
theorem hasSnap_from (h : RlAt W rl ms l) (hcm : l.calm) (hc : Chg [] W w) : Calls Tryz.prog 236 #[.pointer (some ⟨rl, 0, none⟩)] w fun y w' => y = .returned (.bool false) ∧ w = w' := hasSnap_calm (h.nxt ⟨hc⟩) hcm
theorem hasUns_from (h : RlAt W rl ms l) (hcm : l.calm) (ho : l.oip = l.off) (hc : Chg [] W w) : Calls Tryz.prog 237 #[.pointer (some ⟨rl, 0, none⟩)] w fun y w' => y = .returned (.bool false) ∧ Chg [] W w' ∧ Nxt w w' := by
  refine Calls.mono (hasUns_calm (h.nxt ⟨hc⟩) hcm ho) ?_
  rintro y w' ⟨rfl, hn⟩
  exact ⟨rfl, hc.nxt hn, hn⟩
theorem hasCom_from (h : RlAt W rl ms l) (hcm : l.calm) (hp : l.ps = false) (h1 : 0 ≤ l.apg ∧ l.apg + 1 < 18446744073709551615) (h2 : 0 ≤ l.com ∧ l.com + 1 < 18446744073709551615) (hc : Chg [] W w) :
    Calls Tryz.prog 238 #[.pointer (some ⟨rl, 0, none⟩), .bool true] w fun y w' => y = .returned (.bool (decide (l.apg < l.com))) ∧ Chg [] W w' ∧ Nxt w w' := by
  refine Calls.mono (hasCom_calm (h.nxt ⟨hc⟩) hcm hp h1 h2) ?_
  rintro y w' ⟨rfl, hn⟩
  exact ⟨rfl, hc.nxt hn, hn⟩
set_option maxRecDepth 100000 in
set_option maxHeartbeats 400000 in
theorem applyUns_any (h : Blk w rn 276 #[u0, .bool false, u2, u3, u4]) : Calls Tryz.prog 239 #[.pointer (some ⟨rn, 0, none⟩)] w fun y w' => y = .returned (.bool true) ∧ w = w' := by
  have a0 := (h).cell 0; have a1 := (h).cell 1; have a2 := (h).cell 2; have a3 := (h).cell 3; have a4 := (h).cell 4; simp at a0 a1 a2 a3 a4; have af := (h).frozen; have al := (h).lt
  go_enter Tryz.func239, Tryz.ntmps239
  go_wp2
  go_ret
  exact ⟨rfl, rfl⟩
theorem applyUns_from (h : Blk W rn 276 #[u0, .bool false, u2, u3, u4]) (hc : Chg [] W w) : Calls Tryz.prog 239 #[.pointer (some ⟨rn, 0, none⟩)] w fun y w' => y = .returned (.bool true) ∧ w = w' := applyUns_any (h.nxt ⟨hc⟩)
set_option maxRecDepth 100000 in
set_option maxHeartbeats 4000000 in
theorem hasReady_any {hs : Nat} (hrn : Blk W rn 276 #[.pointer (some ⟨rb, 0, none⟩), .bool false, .pointer (some ⟨ss, 0, none⟩), .pointer (some ⟨hs, 0, none⟩), u4]) (h : RaftAt W rb s) (hrl : s.rl = rl) (hl : RlAt W rl ms l) (hcm : l.calm) (ho : l.oip = l.off) (hp : l.ps = false)
    (h1 : 0 ≤ l.apg ∧ l.apg + 1 < 18446744073709551615) (h2 : 0 ≤ l.com ∧ l.com + 1 < 18446744073709551615) (ht : 0 < s.term) (hs0 : Blk W ss 189 #[.int .u64 s.lead, .int .u64 s.state]) (hh : HardAt M W (.pointer (some ⟨hs, 0, none⟩)) s.term s.vote l.com) (hM : ∀ x ∈ M, x < W.heap.size)
    (m1 : s.msgs = .slice none 0 0) (m2 : s.msga = .slice none 0 0) (m3 : s.rs = .slice none 0 0) :
    Calls Tryz.prog 175 #[.pointer (some ⟨rn, 0, none⟩)] W fun y w' => y = .returned (.bool (decide (l.apg < l.com))) ∧ Nxt W w' := by
  have a0 := (hrn).cell 0; have a1 := (hrn).cell 1; have a2 := (hrn).cell 2; have a3 := (hrn).cell 3; have a4 := (hrn).cell 4; simp at a0 a1 a2 a3 a4; have af := (hrn).frozen; have al := (hrn).lt
  have b3 : W.cell? ⟨rb, 3, none⟩ = some s.rs := RaftAt.cell h 3 _ rfl
  have b4 : W.cell? ⟨rb, 4, none⟩ = some (.pointer (some ⟨s.rl, 0, none⟩)) := RaftAt.cell h 4 _ rfl
  have b18 : W.cell? ⟨rb, 18, none⟩ = some s.msgs := RaftAt.cell h 18 _ rfl
  have b19 : W.cell? ⟨rb, 19, none⟩ = some s.msga := RaftAt.cell h 19 _ rfl
  rw [m3] at b3
  rw [hrl] at b4
  rw [m1] at b18
  rw [m2] at b19
  have bl := Blk.lt h
  have HR := Lib.hid h
  have HRN := Lib.hid hrn
  have HL := Lib.hid hl
  have HS := Lib.hid hs0
  have HH := Lib.hid hh
  have HM := Lib.hid hM
  have HRL := Lib.hid hrl
  have HO := Lib.hid ho
  have H1 := Lib.hid h1
  have H2 := Lib.hid h2
  clear h hrn hl hs0 hh hM hrl m1 m2 m3 ho h1 h2
  go_enter Tryz.func175, Tryz.ntmps175
  go_wp2_with (first | (go_at_call 209; (with_reducible refine Calls.mono (softState_from HR.out ?_) ?_); (focus (first | with_reducible assumption | ((repeat (first | with_reducible exact Chg.refl _ _ | with_reducible assumption | refine Chg.drew ?_ | refine Chg.alloc ?_ _)); done))); rintro e w2 ⟨rfl, hc2, hn2⟩; obtain ⟨qc2, qf2, qz2⟩ := hn2.rules; (try simp at qz2); have hbn := Blk.new w2 189 #[.int .u64 s.lead, .int .u64 s.state]; have d2 := Chg.at0 (Chg.alloc hc2 (.cells #[.int .u64 s.lead, .int .u64 s.state] 189)) a2) | (go_at_call 234; (with_reducible refine Calls.mono (softEq_from HS.out ?_ hbn) ?_); (focus (first | with_reducible assumption | ((repeat (first | with_reducible exact Chg.refl _ _ | with_reducible assumption | refine Chg.drew ?_ | refine Chg.alloc ?_ _)); done))); rintro e w3 ⟨rfl, hc3, hn3⟩; obtain ⟨qc3, qf3, qz3⟩ := hn3.rules; (try simp at qz3)) | (go_at_call 210; (with_reducible refine Calls.mono (hardState_from HR.out HRL.out HL.out HM.out ?_) ?_); (focus (first | with_reducible assumption | ((repeat (first | with_reducible exact Chg.refl _ _ | with_reducible assumption | refine Chg.drew ?_ | refine Chg.alloc ?_ _)); done))); rintro e w4 ⟨hpb, rfl, hh4, hc4, hn4⟩; obtain ⟨qc4, qf4, qz4⟩ := hn4.rules; (try simp at qz4)) | (go_at_call 180; (with_reducible refine Calls.mono (hardEmpty_from (W := W) hh4 ht ?_) ?_); (focus (first | with_reducible assumption | ((repeat (first | with_reducible exact Chg.refl _ _ | with_reducible assumption | refine Chg.drew ?_ | refine Chg.alloc ?_ _)); done))); rintro e w5 ⟨rfl, hh5, hc5, hn5⟩; obtain ⟨qc5, qf5, qz5⟩ := hn5.rules; (try simp at qz5); have f3 := hc5.at0 a3; have g4 := hc5.at0 b4; have g18 := hc5.at0 b18; have g19 := hc5.at0 b19; have g3 := hc5.at0 b3) | (go_at_call 235; (with_reducible refine Calls.mono (hardEq_from HH.out ?_ hh5) ?_); (focus (first | with_reducible assumption | ((repeat (first | with_reducible exact Chg.refl _ _ | with_reducible assumption | refine Chg.drew ?_ | refine Chg.alloc ?_ _)); done))); rintro e w6 ⟨rfl, rfl⟩) | (go_at_call 236; (with_reducible refine Calls.mono (hasSnap_from HL.out hcm ?_) ?_); (focus (first | with_reducible assumption | ((repeat (first | with_reducible exact Chg.refl _ _ | with_reducible assumption | refine Chg.drew ?_ | refine Chg.alloc ?_ _)); done))); rintro e w7 ⟨rfl, rfl⟩))
  clear hbn d2 f3 g3 g18 g19 hh5 hh4 hc2 hc3 hc4 hn2 hn3 hn4 hn5 qc2 qf2 qz2 qc3 qf3 qz3 qc4 qf4 qz4 qc5 qf5 qz5 a0 a1 a2 a3 a4 b4 b18 b19 af
  go_region_held3 (fun wx => wx.cell? ⟨rb, 4, none⟩ = some (.pointer (some ⟨rl, 0, none⟩)) ∧ Chg [] W wx)
    (first | ((repeat' apply And.intro) <;> (first | with_reducible assumption | (simp; done) | ((repeat (refine cell_alloc ?_ _)); (first | with_reducible assumption | (refine Chg.at0 (Nxt.out (by assumption)) ?_; first | with_reducible assumption | (simp; done) | (simp [*]; done)) | (refine Chg.at0 (by assumption) ?_; first | with_reducible assumption | (simp; done) | (simp [*]; done)) | (simp [*]; done))) | ((repeat (first | with_reducible exact Chg.refl _ _ | with_reducible assumption | refine Chg.drew ?_ | refine Chg.alloc ?_ _)); done)))) (first | (go_at_call 237; (with_reducible refine Calls.mono (hasUns_from HL.out hcm HO.out ?_) ?_); (focus (first | with_reducible assumption | ((repeat (first | with_reducible exact Chg.refl _ _ | with_reducible assumption | refine Chg.drew ?_ | refine Chg.alloc ?_ _)); done))); rintro e w7 ⟨rfl, hc7, hn7⟩; obtain ⟨qc7, qf7, qz7⟩ := hn7.rules; (try simp at qz7)) | (go_at_call 239; (with_reducible refine Calls.mono (applyUns_from HRN.out ?_) ?_); (focus (first | with_reducible assumption | ((repeat (first | with_reducible exact Chg.refl _ _ | with_reducible assumption | refine Chg.drew ?_ | refine Chg.alloc ?_ _)); done))); rintro e w8 ⟨rfl, rfl⟩) | (go_at_call 238; (with_reducible refine Calls.mono (hasCom_from HL.out hcm hp H1.out H2.out ?_) ?_); (focus (first | with_reducible assumption | ((repeat (first | with_reducible exact Chg.refl _ _ | with_reducible assumption | refine Chg.drew ?_ | refine Chg.alloc ?_ _)); done))); rintro e w9 ⟨rfl, hc9, hn9⟩; obtain ⟨qc9, qf9, qz9⟩ := hn9.rules; (try simp at qz9)))
  have g3 := hc9.at0 b3
  have hN : Nxt W w9 := ⟨hc9⟩
  clear hc7 hn7 hn9 qc7 qf7 qz7 qc9 qf9 qz9
  by_cases hd : l.apg < l.com
  · simp only [hd, decide_true]
    go_wp2
    go_ret
    exact ⟨by simp [hd], hN⟩
  · simp only [hd, decide_false]
    go_wp2
    go_ret
    exact ⟨by simp [hd], hN⟩
end
end Go.Proofs.YtalhhplphlobbaaGreat
