/- A calm log's entries: MemoryStorage.Entries, mustCheckOutOfBounds, slice, nextCommittedEnts. Conditions: sizes within the bounds. Members: known, Has, Once, members. Conditions: none but the shapes. members: a configuration as the laws let it in. Conditions: none but the shapes. row: a log as the laws let it in. Conditions: the shapes; where the log begins. -/
import Derived.LaidEql
import Derived.BigRegion
import Derived.StillTailTactics
import Derived.WalkKit
import Derived.Test.YtalhhplphlobbaaGreatP18
import Derived.Test.YtalhhplphlobbaaGreatP20
set_option linter.unusedVariables false
set_option linter.unusedSimpArgs false
namespace Go.Proofs.YtalhhplphlobbaaGreat
open Go.RowKit
/-- A piece of a slice. -/
theorem Sl.sub {M : List Nat} {w : World} {b o n c i j c' : Nat} {xs : List Value} (h : Sl M w (.slice (some ⟨b, o, none⟩) n c) xs) (hij : i ≤ j) (hj : j ≤ n) (hc : j - i ≤ c') : Sl M w (.slice (some ⟨b, o + i, none⟩) (j - i) c') ((xs.take j).drop i) := by
  obtain ⟨A, n', c'', he, hl, hc', h0, ha⟩ := h
  injection he with h1 h2 h3
  subst h1; subst h2; subst h3
  refine ⟨_, _, _, rfl, by simp [hl]; omega, hc, by simp, fun b' o' s' e => ?_⟩
  obtain ⟨q1, q2, q3, q4⟩ := ha b o none rfl
  simp only [Option.some.injEq, Addr.mk.injEq] at e
  obtain ⟨rfl, rfl, rfl⟩ := e
  refine ⟨rfl, q2, q3, fun k u hu => ?_⟩
  rw [List.getElem?_drop, List.getElem?_take] at hu
  split at hu
  · rw [Nat.add_assoc]; exact q4 _ u hu
  · cases hu
theorem Ents.sub {M : List Nat} {w : World} {ps : List Value} {l : List Ent} (h : Ents M w ps l) (i j : Nat) : Ents M w ((ps.take j).drop i) ((l.take j).drop i) := by
  refine ⟨by simp [h.1], fun k e hk => ?_⟩
  rw [List.getElem?_drop, List.getElem?_take] at hk ⊢
  split at hk
  · rename_i hlt
    rw [if_pos hlt]; exact h.2 _ e hk
  · cases hk
theorem EntsAt.sub {M : List Nat} {w : World} {b o n c i j c' : Nat} {l : List Ent} (h : EntsAt M w (.slice (some ⟨b, o, none⟩) n c) l) (hij : i ≤ j) (hj : j ≤ n) (hc : j - i ≤ c') : EntsAt M w (.slice (some ⟨b, o + i, none⟩) (j - i) c') ((l.take j).drop i) := by
  obtain ⟨ps, h1, h2⟩ := h
  exact ⟨_, h1.sub hij hj hc, h2.sub i j⟩
theorem EntsAt.cut {M : List Nat} {w : World} {A : Option Addr} {n c : Nat} {l : List Ent} (h : EntsAt M w (.slice A n c) l) (hA : A.isSome = true) : EntsAt M w (.slice A n n) l := by
  obtain ⟨ps, ⟨A', n', c', he, hl, hc, h0, ha⟩, h2⟩ := h
  injection he with h1 h2 h3
  subst h1; subst h2; subst h3
  exact ⟨ps, ⟨_, _, _, rfl, hl, Nat.le_refl _, (by rintro rfl; cases hA), ha⟩, h2⟩
theorem limitEnts_any {M : List Nat} {w : World} {A : Option Addr} {n c : Nat} {l : List Ent} {mx : Int} (h : EntsAt M w (.slice A n c) l) (hf : ∀ x ∈ l, x.fits) (hd : ∀ x ∈ l, x.d.size ≤ 1000) (hmx : 2000 * (l.length : Int) ≤ mx) (hm : mx < 2 ^ 64) (hl : l.length ≤ 1000000) :
    Calls Tryz.prog 320 #[.slice A n c, .int .u64 mx] w fun y w' => y = .returned (.slice A n c) ∧ Nxt w w' := by
  obtain ⟨ps, h1, h2⟩ := h
  obtain ⟨ss, h3, h4, _⟩ := h2.szs hf hd
  exact limit_any h1 h3 (by omega) hm (by omega) (by rw [h2.1]; omega)
theorem sub_mem {α : Type} {e : α} {r : List α} {i j : Nat} (hi : 1 ≤ i) {x : α} (h : x ∈ ((e :: r).take j).drop i) : x ∈ r := by
  obtain ⟨i, rfl⟩ : ∃ k, i = k + 1 := ⟨i - 1, by omega⟩
  rcases j with _ | j
  · simp at h
  · simp only [List.take_succ_cons, List.drop_succ_cons] at h
    exact List.mem_of_mem_take (List.mem_of_mem_drop h)
section
variable {M : List Nat} {w : World} {ms rl : Nat} {hv sv ev : Value} {e : Ent} {r : List Ent} {l : RLog}
set_option maxRecDepth 100000 in
set_option maxHeartbeats 1000000 in
theorem msEntries_any (i j : Nat) (mx : Int) (h : MsAt w ms hv sv ev) (hms : ms ∈ M) (he : EntsAt M w ev (e :: r)) (h0 : 0 ≤ e.i) (h1 : e.i < 4611686018427387904) (hr : r.length ≤ 1000000) (hi : 1 ≤ i) (hij : i < j) (hj : j ≤ r.length + 1)
    (hf : ∀ x ∈ r, x.fits) (hd : ∀ x ∈ r, x.d.size ≤ 1000) (hmx : 2000 * r.length ≤ mx) (hm : mx < 2 ^ 64) :
    Calls Tryz.prog 252 #[.pointer (some ⟨ms, 0, none⟩), .int .u64 (e.i + i), .int .u64 (e.i + j), .int .u64 mx] w fun y w' => ∃ b o, y = .returned (.tuple #[.slice (some ⟨b, o, none⟩) (j - i) (j - i), .nilIface]) ∧ EntsAt M w' (.slice (some ⟨b, o, none⟩) (j - i) (j - i)) (((e :: r).take j).drop i) ∧ MsAt w' ms hv sv ev ∧ Chg [ms] w w' := by
  have H := Lib.hid h
  obtain ⟨n0, n1, n2, n3, n4, n5, hb⟩ := h
  have hML : ∀ x ∈ [ms], x ∈ M := by simpa using hms
  have k2 := hb.cell 2
  simp at k2
  have k6 := hb.cell 6
  simp at k6
  have f6 := hb.frozen 6
  obtain ⟨b, o, n, c, p, rfl, hn, hnc, hbM, hb', hc, hp⟩ := he.head
  have i0 : (0 : Int) < n := by omega
  have hle : ¬ e.i + (i : Int) ≤ e.i := by omega
  have hgt : ¬ (e.i + (r.length : Int) + 1 < e.i + (j : Int)) := by omega
  have hn1 : ¬ (n : Int) = 1 := by omega
  have ei : IntKind.u64.wrap (e.i + (i : Int) - e.i) = i := by rw [show e.i + (i : Int) - e.i = i by omega]; exact IntWalk.u64_in _ (by omega)
  have ej : IntKind.u64.wrap (e.i + (j : Int) - e.i) = j := by rw [show e.i + (j : Int) - e.i = j by omega]; exact IntWalk.u64_in _ (by omega)
  have b1 : (0 : Int) ≤ i ∧ (i : Int) < j ∧ (i : Int) ≤ j ∧ (j : Int) ≤ c ∧ (j : Int) ≤ n ∧ ¬ (i : Int) = c ∧ ¬ i = c ∧ (i : Int) < c ∧ i ≤ j ∧ j ≤ c := by omega
  obtain ⟨b1, b2, b3, b4, b5, b6, b7, b8, b9, b10⟩ := b1
  have hne : b ≠ ms := fun h => hbM (h ▸ hms)
  have HE := Lib.hid he
  have HN := Lib.hid hn
  have hbl := hb.lt
  clear he hb hn
  go_enter Tryz.func252, Tryz.ntmps252
  go_wp2_with (first | (go_at_call 154; (with_reducible refine Calls.mono (entIndex_any (EntAt.chg hp ?_ hML)) ?_); (focus (first | with_reducible assumption | ((repeat (first | with_reducible exact Chg.refl _ _ | with_reducible assumption | with_reducible refine Chg.drew ?_ | with_reducible refine Chg.alloc ?_ _ | with_reducible refine Chg.setCell ?_ (by simp) _ | with_reducible refine Chg.nxt ?_ (by assumption))); done))); rintro e w' ⟨rfl, rfl⟩) | (go_at_call 190; (with_reducible refine Calls.mono (msLast_any (H.out.bump 6 (by omega) _) (EntsAt.chg HE.out ?_ hML) h0 h1 (by omega)) ?_); (focus (first | with_reducible assumption | ((repeat (first | with_reducible exact Chg.refl _ _ | with_reducible assumption | with_reducible refine Chg.drew ?_ | with_reducible refine Chg.alloc ?_ _ | with_reducible refine Chg.setCell ?_ (by simp) _ | with_reducible refine Chg.nxt ?_ (by assumption))); done))); rintro e w1 ⟨rfl, hn1⟩; obtain ⟨qc1, qf1, qz1⟩ := hn1.rules; (try simp at qz1)))
  have hlen : (((e :: r).take j).drop i).length = j - i := by simp; omega
  have hE1 := (EntsAt.chg (L := []) (EntsAt.chg (L := [ms]) HE.out ((by (focus (first | with_reducible assumption | ((repeat (first | with_reducible exact Chg.refl _ _ | with_reducible assumption | with_reducible refine Chg.drew ?_ | with_reducible refine Chg.alloc ?_ _ | with_reducible refine Chg.setCell ?_ (by simp) _ | with_reducible refine Chg.nxt ?_ (by assumption))); done)))) : Chg [ms] w (w.setCell { block := ms, off := 6 } (Value.int IntKind.i64 (wrap64 (n3 + 1))))) hML) hn1.out (by simp)).sub b9 (by omega) (show j - i ≤ c - i by omega)
  (go_at_call 320; (with_reducible refine Calls.mono (limitEnts_any hE1 (fun x hx => hf x (sub_mem hi hx)) (fun x hx => hd x (sub_mem hi hx)) (by rw [hlen]; omega) hm (by rw [hlen]; omega)) ?_); rintro e w2 ⟨rfl, hn2⟩)
  have HLEN := Lib.hid hlen
  have HE1 := Lib.hid hE1
  clear hlen hE1 ei ej
  go_wp2
  go_ret2
  exact ⟨_, _, rfl, EntsAt.cut (EntsAt.chg (L := []) HE1.out hn2.out (by simp)) rfl, ((H.out.bump 6 (by omega) _).chg hn1.out (by simp)).chg hn2.out (by simp), (by (focus (first | with_reducible assumption | ((repeat (first | with_reducible exact Chg.refl _ _ | with_reducible assumption | with_reducible refine Chg.drew ?_ | with_reducible refine Chg.alloc ?_ _ | with_reducible refine Chg.setCell ?_ (by simp) _ | with_reducible refine Chg.nxt ?_ (by assumption))); done))))⟩
set_option maxRecDepth 100000 in
set_option maxHeartbeats 1000000 in
theorem mustCheck_calm (lo hi : Int) (h : StAt M w ms hv sv ev e r) (hl : RlAt w rl ms l) (hcalm : l.calm) (hne : rl ≠ ms) (h1 : e.i + 1 ≤ lo) (h2 : lo ≤ hi) (h3 : hi ≤ e.i + r.length + 1) :
    Calls Tryz.prog 400 #[.pointer (some ⟨rl, 0, none⟩), .int .u64 lo, .int .u64 hi] w fun y w' => y = .returned .nilIface ∧ RlAt w' rl ms l ∧ StAt M w' ms hv sv ev e r ∧ Chg [ms] w w' := by
  have i0 := h.i0
  have i1 := h.i1
  have i2 := h.len
  have b1 : ¬ hi < lo := by omega
  have b2 : ¬ lo < e.i + 1 := by omega
  have ew : IntKind.u64.wrap (e.i + (r.length : Int) + 1 - (e.i + 1)) = r.length := by rw [show e.i + (r.length : Int) + 1 - (e.i + 1) = r.length by omega]; exact IntWalk.u64_in _ (by omega)
  have b3 : ¬ e.i + 1 + (r.length : Int) < hi := by omega
  have H := Lib.hid h
  have HL := Lib.hid hl
  have HC := Lib.hid hcalm
  clear h hl hcalm
  go_enter Tryz.func400, Tryz.ntmps400
  go_wp2_with (first | (go_at_call 376; (with_reducible refine Calls.mono (rlFirst_any H.out HL.out HC.out hne) ?_); rintro e w1 ⟨rfl, hl1, hs1, hc1⟩; have HL1 := Lib.hid hl1; have HS1 := Lib.hid hs1; have HC1 := Lib.hid hc1; clear hl1 hs1 hc1) | (go_at_call 314; (with_reducible refine Calls.mono (rlLast_any HS1.out HL1.out HC.out hne) ?_); rintro e w2 ⟨rfl, hl2, hs2, hc2⟩; have HL2 := Lib.hid hl2; have HS2 := Lib.hid hs2; have HC2 := Lib.hid hc2; clear hl2 hs2 hc2))
  go_ret
  exact ⟨rfl, HL2.out, HS2.out, HC1.out.trans HC2.out⟩
/-- No error is none of the package's errors. -/
theorem eql_nil_err (w : World) (x : Value) : (binOp .eql 175 .nilIface (.iface 251 x)).run Tryz.prog w = .ok (.bool false) w := run_eql_iface_nil_left w 251 x Tryz.underlying175
set_option maxRecDepth 100000 in
set_option maxHeartbeats 1000000 in
theorem slice_calm (i j : Nat) (mx : Int) (h : StAt M w ms hv sv ev e r) (hl : RlAt w rl ms l) (hcalm : l.calm) (hne : rl ≠ ms) (hoff : l.off = e.i + r.length + 1) (hi : 1 ≤ i) (hij : i < j) (hj : j ≤ r.length + 1)
    (hf : ∀ x ∈ r, x.fits) (hd : ∀ x ∈ r, x.d.size ≤ 1000) (hmx : 2000 * r.length ≤ mx) (hm : mx < 2 ^ 64) :
    Calls Tryz.prog 356 #[.pointer (some ⟨rl, 0, none⟩), .int .u64 (e.i + i), .int .u64 (e.i + j), .int .u64 mx] w fun y w' => ∃ b o, y = .returned (.tuple #[.slice (some ⟨b, o, none⟩) (j - i) (j - i), .nilIface]) ∧ EntsAt M w' (.slice (some ⟨b, o, none⟩) (j - i) (j - i)) (((e :: r).take j).drop i) ∧ RlAt w' rl ms l ∧ StAt M w' ms hv sv ev e r ∧ Chg [ms] w w' := by
  have i0 := h.i0
  have i1 := h.i1
  have i2 := h.len
  obtain ⟨k0, k1, k2, k3, _⟩ := hl.cells
  rw [hcalm.1] at k1
  rw [hcalm.2] at k2
  rw [hoff] at k3
  have b1 : ¬ e.i + (i : Int) = e.i + j := by omega
  have b2 : ¬ e.i + (r.length : Int) + 1 ≤ e.i + (i : Int) := by omega
  have b3 : e.i + (j : Int) ≤ e.i + r.length + 1 := by omega
  have bm : min (e.i + (j : Int)) (e.i + r.length + 1) = e.i + j := Int.min_eq_left b3
  have rlt := Blk.lt hl
  have mlt := h.lt
  have H := Lib.hid h
  have HL := Lib.hid hl
  have HC := Lib.hid hcalm
  have HO := Lib.hid hoff
  clear h hl hcalm hoff
  go_enter Tryz.func356, Tryz.ntmps356
  go_wp2_with (first | (go_at_call 400; (with_reducible refine Calls.mono (mustCheck_calm (e.i + i) (e.i + j) H.out HL.out HC.out hne (by omega) (by omega) (by omega)) ?_); rintro e w1 ⟨rfl, hl1, hs1, hc1⟩; have HL1 := Lib.hid hl1; have HS1 := Lib.hid hs1; have HC1 := Lib.hid hc1; obtain ⟨m0, m1, m2, m3, _⟩ := hl1.cells; rw [HC.out.1] at m1; rw [HC.out.2] at m2; rw [HO.out] at m3; clear hl1 hs1 hc1) | (go_at_call 252; (with_reducible refine Calls.mono (msEntries_any i j mx HS1.out.at_ HS1.out.mem HS1.out.ents HS1.out.i0 HS1.out.i1 (by omega) hi hij hj hf hd hmx hm) ?_); rintro e w2 ⟨b, o, rfl, he2, ha2, hc2⟩; have el := eql_nil_err w2; have HE2 := Lib.hid he2; have HS2 := Lib.hid (HS1.out.ms_ ha2 hc2); have HL2 := Lib.hid (HL1.out.chg hc2 (by simpa using hne)); have HC2 := Lib.hid hc2; obtain ⟨n0, n1, n2, n3, _⟩ := HL2.out.cells; rw [HC.out.1] at n1; rw [HC.out.2] at n2; rw [HO.out] at n3; clear he2 ha2 hc2))
  go_ret2
  exact ⟨_, _, rfl, HE2.out, HL2.out, HS2.out, HC1.out.trans HC2.out⟩
theorem take_drop_cons {α : Type} (e : α) (r : List α) (a c : Nat) : ((e :: r).take (c + 1)).drop (a + 1) = (r.take c).drop a := by simp
set_option maxRecDepth 100000 in
set_option maxHeartbeats 1000000 in
theorem nextCom_calm (a c : Nat) (h : StAt M w ms hv sv ev e r) (hl : RlAt w rl ms l) (hcalm : l.calm) (hp : l.ps = false) (hne : rl ≠ ms) (hoff : l.off = e.i + r.length + 1) (ha : l.apg = e.i + a) (hc : l.com = e.i + c) (hac : a < c) (hcl : c ≤ r.length)
    (hf : ∀ x ∈ r, x.fits) (hd : ∀ x ∈ r, x.d.size ≤ 1000) (has : 0 ≤ l.asz) (hmx : 2000 * r.length + l.asz ≤ l.mx) (hm : l.mx < 2 ^ 64) :
    Calls Tryz.prog 294 #[.pointer (some ⟨rl, 0, none⟩), .bool true] w fun y w' => ∃ b o, y = .returned (.slice (some ⟨b, o, none⟩) (c - a) (c - a)) ∧ EntsAt M w' (.slice (some ⟨b, o, none⟩) (c - a) (c - a)) ((r.take c).drop a) ∧ RlAt w' rl ms l ∧ StAt M w' ms hv sv ev e r ∧ Chg [ms] w w' := by
  have i0 := h.i0
  have i1 := h.i1
  have i2 := h.len
  have H4 := Lib.hid (hasOrSnap_calm hl hcalm)
  have H5 := Lib.hid (maxAppl_yes (Blk.drew hl))
  obtain ⟨k0, k1, k2, k3, k4, k5, k6, k7, k8, k9, k10, k11⟩ := hl.cells
  rw [hp] at k11
  have hmax : 0 ≤ l.mx - l.asz ∧ l.mx - l.asz < 2 ^ 64 ∧ 2000 * (r.length : Int) ≤ l.mx - l.asz ∧ 0 < l.mx - l.asz := by omega
  obtain ⟨m1, m2, m3, m4⟩ := hmax
  have e1 : IntKind.u64.wrap (l.apg + 1) = l.apg + 1 := IntWalk.u64_in _ (by omega)
  have e2 : IntKind.u64.wrap (l.com + 1) = l.com + 1 := IntWalk.u64_in _ (by omega)
  have e3 : IntKind.u64.wrap (l.mx - l.asz) = l.mx - l.asz := IntWalk.u64_in _ (by omega)
  have b1 : ¬ l.com + 1 ≤ l.apg + 1 := by omega
  have b2 : ¬ l.mx - l.asz ≤ 0 := by omega
  have rlt := Blk.lt hl
  have HSL := Lib.hid (fun (w : World) (h : StAt M w ms hv sv ev e r) (hl : RlAt w rl ms l) => slice_calm (a + 1) (c + 1) (l.mx - l.asz) h hl hcalm hne hoff (by omega) (by omega) (by omega) hf hd m3 m2)
  have hlo : e.i + ((a + 1 : Nat) : Int) = l.apg + 1 := by omega
  have hhi : e.i + ((c + 1 : Nat) : Int) = l.com + 1 := by omega
  rw [hlo, hhi, take_drop_cons, show c + 1 - (a + 1) = c - a by omega] at HSL
  have H := Lib.hid h
  have HL := Lib.hid hl
  clear h hl hcalm hoff ha hc hp hf hd has hmx hm hlo hhi
  go_enter Tryz.func294, Tryz.ntmps294
  go_wp2_with (first | (go_at_call 292; (with_reducible refine Calls.mono (H4.out) ?_); rintro e w' ⟨rfl, rfl⟩))
  go_region_held3 (fun wx => wx.cell? ⟨rl, 7, none⟩ = some (.int .u64 l.apg))
    (first | ((repeat' apply And.intro) <;> (first | with_reducible assumption | (simp; done) | ((repeat (refine cell_alloc ?_ _)); (first | with_reducible assumption | (refine Chg.at0 (Nxt.out (by assumption)) ?_; first | with_reducible assumption | (simp; done) | (simp [*]; done)) | (refine Chg.at0 (by assumption) ?_; first | with_reducible assumption | (simp; done) | (simp [*]; done)) | (simp [*]; done))) | ((repeat (first | with_reducible exact Chg.refl _ _ | with_reducible assumption | refine Chg.drew ?_ | refine Chg.alloc ?_ _)); done)))) (first | (go_at_call 293; (with_reducible refine Calls.mono (H5.out) ?_); rintro e w' ⟨rfl, rfl⟩))
  have d9 := (((Chg.refl [] w).drew).at0 k9)
  have d10 := (((Chg.refl [] w).drew).at0 k10)
  clear e1 e2
  go_wp2
  go_region_held3 (fun wx => wx.cell? ⟨rl, 9, none⟩ = some (.int .u64 l.mx) ∧ wx.cell? ⟨rl, 10, none⟩ = some (.int .u64 l.asz))
    (first | ((repeat' apply And.intro) <;> (first | with_reducible assumption | (simp; done) | ((repeat (refine cell_alloc ?_ _)); (first | with_reducible assumption | (refine Chg.at0 (Nxt.out (by assumption)) ?_; first | with_reducible assumption | (simp; done) | (simp [*]; done)) | (refine Chg.at0 (by assumption) ?_; first | with_reducible assumption | (simp; done) | (simp [*]; done)) | (simp [*]; done))) | ((repeat (first | with_reducible exact Chg.refl _ _ | with_reducible assumption | refine Chg.drew ?_ | refine Chg.alloc ?_ _)); done)))) (fail)
  have hS2 := H.out.nxt (⟨((Chg.refl [] w).drew).drew⟩ : Nxt w w.drew.drew)
  have hL2 : RlAt w.drew.drew rl ms l := Blk.drew (Blk.drew HL.out)
  have HSL2 := Lib.hid (HSL.out _ hS2 hL2)
  clear e3 hS2 hL2
  go_wp2_with (first | (go_at_call 356; (with_reducible refine Calls.mono (HSL2.out) ?_); rintro e w2 ⟨b, o, rfl, he2, hl2, hs2, hc2⟩; have HE2 := Lib.hid he2; have HL2 := Lib.hid hl2; have HS2 := Lib.hid hs2; have HC2 := Lib.hid hc2; clear he2 hl2 hs2 hc2))
  go_ret
  exact ⟨_, _, rfl, HE2.out, HL2.out, HS2.out, (((Chg.refl _ _).drew).drew).trans HC2.out⟩
end
end Go.Proofs.YtalhhplphlobbaaGreat
namespace Go.Proofs.YtalhhplphlobbaaGreat
open Go.RowKit
/-- A call that answers a bool and changes nothing. -/
def BoolP (P : Bool → Prop) (w : World) (y : Ending) (w' : World) : Prop := ∃ b, y = .returned (.bool b) ∧ P b ∧ Nxt w w'
set_option maxRecDepth 100000 in
set_option maxHeartbeats 400000 in
theorem known_any (w : World) (x : Int) : Calls Tryz.prog 27 #[.int .u64 x] w fun y w' => y = .returned (.bool (decide (0 < x ∧ x < 1099511627776))) ∧ Nxt w w' := by
  go_enter Tryz.func27, Tryz.ntmps27
  go_wp2
  all_goals (go_ret; refine ⟨?_, ⟨Chg.refl _ _⟩⟩; show Ending.returned (.bool _) = _; congr 2; simp; try omega)
theorem u64_at {M : List Nat} {w : World} {A : Option Addr} {n c : Nat} {V : List Int} (h : Sl M w (.slice A n c) (U64s V)) {k : Nat} (hk : k < n) : ∃ b o x, A = some ⟨b, o, none⟩ ∧ V[k]? = some x ∧ w.cell? ⟨b, o + k, none⟩ = some (.int .u64 x) ∧ b < w.heap.size := by
  obtain ⟨b, o, p, rfl, hp, hc, hb⟩ := sl_at h hk
  simp only [U64s, List.getElem?_map] at hp
  cases hj : V[k]? with
  | none => rw [hj] at hp; cases hp
  | some x =>
    rw [hj] at hp
    injection hp with hp
    subst hp
    exact ⟨b, o, x, rfl, rfl, hc, hb⟩
theorem u64_len {M : List Nat} {w : World} {A : Option Addr} {n c : Nat} {V : List Int} (h : Sl M w (.slice A n c) (U64s V)) : V.length = n ∧ n ≤ c := by
  obtain ⟨A', n', c', he, hl, hc, _⟩ := h
  injection he with h1 h2 h3
  subst h1; subst h2; subst h3
  exact ⟨by simpa [U64s] using hl, hc⟩
set_option maxRecDepth 100000 in
set_option maxHeartbeats 800000 in
theorem has_any {M : List Nat} {w : World} {A : Option Addr} {n c : Nat} {V : List Int} (x : Int) (h : Sl M w (.slice A n c) (U64s V)) (hn : n < 2 ^ 62) : Calls Tryz.prog 21 #[.slice A n c, .int .u64 x] w (BoolP (fun b => b = false → x ∉ V) w) := by
  have HS := Lib.hid h
  have HG := Lib.hid (u64_len h).1
  clear h
  go_enter Tryz.func21, Tryz.ntmps21
  go_wp2
  go_loopw [9] (fun i wr => ∃ k : Nat, k ≤ n ∧ i = .int .i64 k ∧ (∀ j y, j < k → V[j]? = some y → x ≠ y) ∧ Chg [] w wr) (fun i _ => n - (intOf i).toNat)
  case atStart => exact ⟨0, by omega, rfl, fun j y hj => by omega, Chg.refl _ _⟩
  case round =>
    obtain ⟨k, hk, rfl, hno, hcw⟩ := hrel
    have HNO := Lib.hid hno
    clear hno
    by_cases hlt : k < n
    · obtain ⟨b, o, z, rfl, hp, hcell, _⟩ := u64_at HS.out hlt
      have d1 := hcw.at0 hcell
      have HP := Lib.hid hp
      have HCW := Lib.hid hcw
      clear hcell hp hcw
      have hcmp : z = x ∨ ¬ z = x := Classical.em _
      by_cases hzx : z = x
      · subst hzx
        go_wp2
        go_ret
        exact ⟨true, rfl, by simp, ⟨HCW.out⟩⟩
      · have hzx' : (z == x) = false := by simp [hzx]
        go_wp2
        exact ⟨⟨k + 1, by omega, by simp, fun j y hj hy => by
          rcases Nat.lt_or_ge j k with h1 | h1
          · exact HNO.out j y h1 hy
          · have : j = k := by omega
            subst this
            rw [HP.out] at hy
            injection hy with hy
            subst hy
            exact fun e => hzx e.symm, HCW.out⟩, by simp [intOf]; omega⟩
    · have hkn : k = n := by omega
      subst hkn
      go_wp2
      go_ret
      refine ⟨false, rfl, fun _ hx => ?_, ⟨hcw⟩⟩
      obtain ⟨j, hj⟩ := List.mem_iff_getElem?.1 hx
      have hjl := (List.getElem?_eq_some_iff.1 hj).1
      exact HNO.out j x (by have := HG.out; omega) hj rfl
theorem u64_take {M : List Nat} {w : World} {A : Option Addr} {n c k : Nat} {V : List Int} (h : Sl M w (.slice A n c) (U64s V)) (hk : k ≤ n) : Sl M w (.slice A k c) (U64s (V.take k)) := by
  obtain ⟨A', n', c', he, hl, hc, h0, ha⟩ := h
  injection he with h1 h2 h3
  subst h1; subst h2; subst h3
  have hVl : V.length = n := by simpa [U64s] using hl
  refine ⟨_, _, _, rfl, by simp [U64s]; omega, by omega, h0, fun b o s e => ?_⟩
  obtain ⟨g1, g2, g3, g4⟩ := ha b o s e
  refine ⟨g1, g2, g3, fun j u hu => g4 j u ?_⟩
  simp only [U64s, List.map_take, List.getElem?_take] at hu ⊢
  split at hu
  · exact hu
  · cases hu
theorem nodup_take {V : List Int} (h : ∀ j y, V[j]? = some y → y ∉ V.take j) : V.Nodup := by
  show List.Pairwise (· ≠ ·) V
  rw [List.pairwise_iff_getElem]
  intro i j hi hj hij hEq
  refine h j V[j] (List.getElem?_eq_getElem hj) ?_
  have : (V.take j)[i]? = some V[j] := by rw [List.getElem?_take, if_pos hij, List.getElem?_eq_getElem hi, hEq]
  exact List.mem_of_getElem? this
set_option maxRecDepth 100000 in
set_option maxHeartbeats 800000 in
theorem once_any {M : List Nat} {w : World} {A : Option Addr} {n c : Nat} {V : List Int} (h : Sl M w (.slice A n c) (U64s V)) (hn : n < 2 ^ 62) : Calls Tryz.prog 69 #[.slice A n c] w (BoolP (fun b => b = true → V.Nodup) w) := by
  have HS := Lib.hid h
  have HG := Lib.hid (u64_len h)
  clear h
  go_enter Tryz.func69, Tryz.ntmps69
  go_wp2
  go_loopw [3, 4, 7] (fun _ _ i wr => ∃ k : Nat, k ≤ n ∧ i = .int .i64 k ∧ (∀ j y, j < k → V[j]? = some y → y ∉ V.take j) ∧ Chg [] w wr) (fun _ _ i _ => n - (intOf i).toNat)
  case atStart => exact ⟨0, by omega, rfl, fun j y hj => by omega, Chg.refl _ _⟩
  case round =>
    obtain ⟨k, hk, rfl, hno, hcw⟩ := hrel
    have HNO := Lib.hid hno
    clear hno
    by_cases hlt : k < n
    · obtain ⟨b, o, z, rfl, hp, hcell, _⟩ := u64_at HS.out hlt
      have d1 := hcw.at0 hcell
      have HP := Lib.hid hp
      have HCW := Lib.hid hcw
      have HT := Lib.hid (has_any z ((u64_take HS.out hk).chg0 hcw) (by omega))
      have hkc : k ≤ c := by have := HG.out; omega
      clear hcell hp hcw
      go_wp2_with (first | (go_at_call 21; (with_reducible refine Calls.mono HT.out ?_); rintro e w1 ⟨b1, rfl, hb1, hn1⟩; have HB1 := Lib.hid hb1; clear hb1; rcases b1))
      · exact ⟨⟨k + 1, by omega, by simp, fun j y hj hy => by
          rcases Nat.lt_or_ge j k with h1 | h1
          · exact HNO.out j y h1 hy
          · have : j = k := by omega
            subst this
            rw [HP.out] at hy
            injection hy with hy
            subst hy
            exact HB1.out trivial, HCW.out.trans hn1.out⟩, by simp [intOf]; omega⟩
      · go_ret
        exact ⟨false, rfl, by simp, ⟨HCW.out.trans hn1.out⟩⟩
    · have hkn : k = n := by omega
      subst hkn
      go_wp2
      go_ret
      refine ⟨true, rfl, fun _ => nodup_take fun j y hy => ?_, ⟨hcw⟩⟩
      have hjl := (List.getElem?_eq_some_iff.1 hy).1
      exact HNO.out j y (by have := HG.out.1; omega) hy
end Go.Proofs.YtalhhplphlobbaaGreat
namespace Go.Proofs.YtalhhplphlobbaaGreat
open Go.RowKit
/-- What a configuration is if members says yes. -/
structure MemOk (V L V2 L2 : List Int) (bal : Bool) : Prop where
  V0 : V ≠ []
  lV : V.length ≤ 9
  lL : L.length ≤ 4
  v2 : V2 = []
  l2 : L2 = []
  al : bal = false
  kn : ∀ k ∈ V ++ L, 0 < k ∧ k < 1099511627776
  nd : (V ++ L).Nodup
structure MemS (w0 : World) (b : Nat) (v1 v2 : Value) (V L : List Int) (X : World) : Prop where
  c0 : X.cell? ⟨b, 0, none⟩ = some v1
  c1 : X.cell? ⟨b, 1, none⟩ = some v2
  s1 : Sl [] X v1 (U64s V)
  s2 : Sl [] X v2 (U64s L)
  ch : Chg [] w0 X
theorem MemS.nxt {w0 X Y : World} {b : Nat} {v1 v2 : Value} {V L : List Int} (h : MemS w0 b v1 v2 V L X) (hc : Chg [] X Y) : MemS w0 b v1 v2 V L Y := ⟨hc.at0 h.c0, hc.at0 h.c1, h.s1.chg0 hc, h.s2.chg0 hc, h.ch.trans hc⟩
theorem u64_one (V : List Int) : ∀ u ∈ U64s V, u.oneCell' = true := by
  intro u hu
  simp only [U64s, List.mem_map] at hu
  obtain ⟨a, _, rfl⟩ := hu
  rfl
set_option maxRecDepth 100000 in
set_option maxHeartbeats 4000000 in
theorem members_any {w : World} {A1 A2 A3 A4 : Option Addr} {m1 k1 m2 k2 m3 k3 m4 k4 : Nat} {bal : Bool} {V L V2 L2 : List Int}
    (h1 : Sl [] w (.slice A1 m1 k1) (U64s V)) (h2 : Sl [] w (.slice A2 m2 k2) (U64s L)) (h3 : Sl [] w (.slice A3 m3 k3) (U64s V2)) (h4 : Sl [] w (.slice A4 m4 k4) (U64s L2)) (b3 : m3 < 2 ^ 61) (b4 : m4 < 2 ^ 61) :
    Calls Tryz.prog 29 #[.agg #[.slice A1 m1 k1, .slice A2 m2 k2, .slice A3 m3 k3, .slice A4 m4 k4, .bool bal]] w (BoolP (fun b => b = true → MemOk V L V2 L2 bal) w) := by
  have H1 := Lib.hid h1
  have H2 := Lib.hid h2
  have HL := Lib.hid (show V.length = m1 ∧ L.length = m2 ∧ V2.length = m3 ∧ L2.length = m4 from ⟨(u64_len h1).1, (u64_len h2).1, (u64_len h3).1, (u64_len h4).1⟩)
  clear h1 h2 h3 h4
  have hb0 := Blk.new w 26 #[.slice A1 m1 k1, .slice A2 m2 k2, .slice A3 m3 k3, .slice A4 m4 k4, .bool bal]
  have hX : Chg [] w (w.alloc (.cells #[.slice A1 m1 k1, .slice A2 m2 k2, .slice A3 m3 k3, .slice A4 m4 k4, .bool bal] 26)) := (Chg.refl _ _).alloc _
  go_enter Tryz.func29, Tryz.ntmps29
  go_upto_region 1 with fail
  generalize w.alloc (.cells #[.slice A1 m1 k1, .slice A2 m2 k2, .slice A3 m3 k3, .slice A4 m4 k4, .bool bal] 26) = X at hb0 hX ⊢
  obtain ⟨b, hb⟩ : ∃ b, b = w.heap.size := ⟨_, rfl⟩
  rw [← hb] at hb0 ⊢
  clear hb
  have c0 : X.cell? ⟨b, 0, none⟩ = some (.slice A1 m1 k1) := hb0.cell 0
  have c1 : X.cell? ⟨b, 1, none⟩ = some (.slice A2 m2 k2) := hb0.cell 1
  have c2 : X.cell? ⟨b, 2, none⟩ = some (.slice A3 m3 k3) := hb0.cell 2
  have c3 : X.cell? ⟨b, 3, none⟩ = some (.slice A4 m4 k4) := hb0.cell 3
  have c4 : X.cell? ⟨b, 4, none⟩ = some (.bool bal) := hb0.cell 4
  have HX := Lib.hid hX
  clear hb0 hX
  go_upto_region 3 with fail
  all_goals (first | (go_ret; exact ⟨false, rfl, by simp, ⟨HX.out⟩⟩) | skip)
  rename_i r4 r3 r2 r1 r0 K0 a0
  have HK := Lib.hid (show m1 ≠ 0 ∧ m1 ≤ 9 ∧ m2 ≤ 4 ∧ m3 = 0 ∧ m4 = 0 ∧ bal = false from ⟨r4, by omega, by omega, by omega, by omega, r0.2⟩)
  clear r4 r3 r2 r1 r0
  have hm : MemS w b (.slice A1 m1 k1) (.slice A2 m2 k2) V L X := ⟨c0, c1, H1.out.chg0 HX.out, H2.out.chg0 HX.out, HX.out⟩
  have hd : MemS w b (.slice A1 m1 k1) (.slice A2 m2 k2) V L X.drew := hm.nxt ((Chg.refl _ _).drew)
  obtain ⟨i0, hi, hz0, hz1, hz2⟩ := info_parts info22
  refine wp_region_held_drew (S := MemS w b (.slice A1 m1 k1) (.slice A2 m2 k2) V L) (by kernel_rfl) hd (fun hHeld => ?_)
  refine wpAnyH_take (i := 1) (v := .pointer (some ⟨b, 0, none⟩)) rfl (by kernel_rfl) (by kernel_rfl) (by kernel_rfl) (fun _ _ _ h => h) (Or.inl ⟨by rfl, fun w hw => by go_simp⟩) hHeld ?_
  simp only [Act.put, List.setIfInBounds_toArray, List.set_cons_zero, List.set_cons_succ]
  refine wpAnyH_take (i := 2) (v := .slice A1 m1 k1) rfl (by kernel_rfl) (by kernel_rfl) (by kernel_rfl) (fun _ _ _ h => h) (Or.inl ⟨by rfl, fun w hw => ?_⟩) hHeld ?_
  · have := hw.c0
    go_simp
  simp only [Act.put, List.setIfInBounds_toArray, List.set_cons_zero, List.set_cons_succ]
  refine wpAnyH_take (i := 4) (v := .pointer (some ⟨b, 1, none⟩)) rfl (by kernel_rfl) (by kernel_rfl) (by kernel_rfl) (fun _ _ _ h => h) (Or.inl ⟨by rfl, fun w hw => by go_simp⟩) hHeld ?_
  simp only [Act.put, List.setIfInBounds_toArray, List.set_cons_zero, List.set_cons_succ]
  refine wpAnyH_take (i := 5) (v := .slice A2 m2 k2) rfl (by kernel_rfl) (by kernel_rfl) (by kernel_rfl) (fun _ _ _ h => h) (Or.inl ⟨by rfl, fun w hw => ?_⟩) hHeld ?_
  · have := hw.c1
    go_simp
  simp only [Act.put, List.setIfInBounds_toArray, List.set_cons_zero, List.set_cons_succ]
  refine wpAnyH_ready (rs := [0]) (by kernel_rfl) (by simp) ?_
  refine AllReadyH.cons rfl (fun K hK => ?_) AllReadyH.nil
  go_simp
  have hd2 := hm.nxt (((Chg.refl _ X).alloc (Obj.cells #[] 22)).drew)
  have ho2 : ((X.alloc (Obj.cells #[] 22)).drew).ownsRow X.heap.size 22 1 (.slice (some ⟨X.heap.size, 0, none⟩) 0 0) 0 [] := own_chg0 (World.ownsRow_lit (e := 22) (size := 1) (base := X.heap.size) X #[] 0 (Nat.le_refl _) (by decide) rfl) ((Chg.refl _ _).drew)
  have hs2 : X.heap.size ≤ ((X.alloc (Obj.cells #[] 22)).drew).heap.size := (((Chg.refl [] X).alloc (Obj.cells #[] 22)).drew).size
  have hXY : Chg [] X ((X.alloc (Obj.cells #[] 22)).drew) := ((Chg.refl [] X).alloc (Obj.cells #[] 22)).drew
  generalize (X.alloc (Obj.cells #[] 22)).drew = Y at hd2 ho2 hs2 hXY ⊢
  refine hK.out _ _ hd2 (fun hHeld => ?_)
  clear hK K
  refine wpAnyH_ready (rs := [3]) (by kernel_rfl) (by simp) ?_
  refine AllReadyH.cons rfl (fun K hK => ?_) AllReadyH.nil
  rw [if_pos (by rfl)]
  refine wp_append_sl Y [] _ _ 24 rfl X.heap.size 22 i0 (.int .u64 0) 8 Tryz.underlying24 hi hz0 hz1 hz2 rfl (.slice (some ⟨X.heap.size, 0, none⟩) 0 0) 0 [] rfl ho2 (.slice A1 m1 k1) (U64s V) rfl hd2.s1 (u64_one V) ?_ ?_ hs2 ?_
  · have := HK.out; have := HL.out; simp only [U64s, List.length_map, maxLen]; omega
  · have := HK.out; have := HL.out; simp only [U64s, List.length_map]; omega
  intro v3 Y3 ho3 hg3 hat3
  have hc3 : Chg [] X Y3 := chg_row0 hXY hg3 (fun g hg => (own_lt ho2 hg).1)
  have hm3 := hm.nxt hc3
  rw [List.nil_append, Nat.zero_add] at ho3
  simp only [Act.put, List.setIfInBounds_toArray, List.set_cons_zero, List.set_cons_succ]
  refine hK.out _ _ hm3 (fun hHeld => ?_)
  clear hK K hat3 hg3
  refine wpAnyH_ready (rs := [6]) (by kernel_rfl) (by simp) ?_
  refine AllReadyH.cons rfl (fun K hK => ?_) AllReadyH.nil
  rw [if_pos (by rfl)]
  refine wp_append_sl Y3 [] _ _ 24 rfl X.heap.size 22 i0 (.int .u64 0) 8 Tryz.underlying24 hi hz0 hz1 hz2 rfl v3 _ (U64s V) rfl ho3 (.slice A2 m2 k2) (U64s L) rfl hm3.s2 (u64_one L) ?_ ?_ hc3.size ?_
  · have := HK.out; have := HL.out; simp only [U64s, List.length_map, maxLen]; omega
  · have := HK.out; have := HL.out; simp only [U64s, List.length_map]; omega
  intro v4 Y4 ho4 hg4 hat4
  have hc4 : Chg [] X Y4 := chg_row0 hc3 hg4 (fun g hg => (own_lt ho3 hg).1)
  have hm4 := hm.nxt hc4
  simp only [Act.put, List.setIfInBounds_toArray, List.set_cons_zero, List.set_cons_succ]
  refine hK.out _ _ hm4 (fun hHeld => ?_)
  clear hK K hat4 hg4
  have hs4 : Sl [] Y4 v4 (U64s (V ++ L)) := by
    have z := Sl.of_own (M := []) ho4 (by simp)
    rw [show U64s (V ++ L) = U64s V ++ U64s L by simp [U64s]]
    exact z
  obtain ⟨A9, n9, k9, rfl⟩ := hs4.form
  have hl9 := (u64_len hs4).1
  refine wpAnyH_ready (rs := [7]) (by kernel_rfl) (by simp) ?_
  refine AllReadyH.cons rfl (fun K hK => ?_) AllReadyH.nil
  go_simp
  refine hK.out _ _ hm4 (fun hHeld => ?_)
  refine wpAnyH_done (by kernel_rfl) ?_ _
  have HS4 := Lib.hid hs4
  have HL9 := Lib.hid hl9
  have HC4 := Lib.hid (HX.out.trans hc4)
  have hn62 : n9 < 2 ^ 62 := by have := HK.out; have := HL.out; rw [List.length_append] at hl9; omega
  clear hK K hs4 hl9 hc4 hm4 ho4 hm3 hc3 ho3 hm hd hHeld hi hz0 hz1 hz2
  go_wp2_with fail
  go_loopw [5, 45] (fun _ i wr => ∃ k : Nat, k ≤ n9 ∧ i = .int .i64 k ∧ (∀ j y, j < k → (V ++ L)[j]? = some y → 0 < y ∧ y < 1099511627776) ∧ Chg [] Y4 wr) (fun _ i _ => n9 - (intOf i).toNat)
  case atStart => exact ⟨0, by omega, rfl, fun j y hj => by omega, Chg.refl _ _⟩
  case round =>
    obtain ⟨k, hk, rfl, hno, hcw⟩ := hrel
    have HNO := Lib.hid hno
    clear hno
    by_cases hlt : k < n9
    · obtain ⟨b', o, z, rfl, hp, hcell, _⟩ := u64_at HS4.out hlt
      have d1 := hcw.at0 hcell
      have HP := Lib.hid hp
      have HCW := Lib.hid hcw
      clear hcell hp hcw
      obtain ⟨bz, hbz⟩ : ∃ bz, bz = decide (0 < z ∧ z < 1099511627776) := ⟨_, rfl⟩
      have HBZ := Lib.hid hbz
      clear hbz
      go_wp2_with (first | (go_at_call 27; (with_reducible refine Calls.mono (known_any _ z) ?_); rintro e w1 ⟨rfl, hn1⟩; rw [← HBZ.out]; rcases bz))
      · go_ret
        exact ⟨false, rfl, by simp, ⟨(HC4.out.trans HCW.out).trans hn1.out⟩⟩
      · exact ⟨⟨k + 1, by omega, by simp, fun j y hj hy => by
          rcases Nat.lt_or_ge j k with h1 | h1
          · exact HNO.out j y h1 hy
          · have : j = k := by omega
            subst this
            rw [HP.out] at hy
            injection hy with hy
            subst hy
            exact of_decide_eq_true HBZ.out.symm, HCW.out.trans hn1.out⟩, by simp [intOf]; omega⟩
    · have hkn : k = n9 := by omega
      subst hkn
      have HCW := Lib.hid hcw
      clear hcw
      have HON := Lib.hid (once_any (HS4.out.chg0 HCW.out) hn62)
      go_wp2_with (first | (go_at_call 69; (with_reducible refine Calls.mono HON.out ?_); rintro e w1 ⟨b1, rfl, hb1, hn1⟩; have HB1 := Lib.hid hb1; clear hb1))
      go_ret
      refine ⟨b1, rfl, fun hb => ?_, ⟨(HC4.out.trans HCW.out).trans hn1.out⟩⟩
      have q := HK.out
      have q2 := HL.out
      exact ⟨by rintro rfl; simp at q2; omega, by omega, by omega, List.eq_nil_of_length_eq_zero (by omega), List.eq_nil_of_length_eq_zero (by omega), q.2.2.2.2.2, fun x hx => by
        obtain ⟨j, hj⟩ := List.mem_iff_getElem?.1 hx
        have hjl := (List.getElem?_eq_some_iff.1 hj).1
        exact HNO.out j x (by have := HL9.out; omega) hj, HB1.out hb⟩
end Go.Proofs.YtalhhplphlobbaaGreat
namespace Go.Proofs.YtalhhplphlobbaaGreat
open Go.RowKit
/-- What a log is if row says yes. -/
structure RowOk (bi hT : Int) (l : List EntK) : Prop where
  ll : l.length ≤ 30
  at_ : ∀ (j : Nat) e, l[j]? = some e → e.i = bi + 1 + j ∧ e.k = 0 ∧ e.d.size ≤ 100 ∧ e.t ≤ hT
set_option maxRecDepth 100000 in
set_option maxHeartbeats 4000000 in
theorem row_any {w : World} {v : Value} {l : List EntK} {bi bt hT : Int} (h : LogK w v l) (hn : l.length < 2 ^ 62) (h0 : 0 ≤ bi) (h1 : bi ≤ 1099511627776) :
    Calls Tryz.prog 60 #[.int .u64 bi, .int .u64 bt, v, .int .u64 hT] w (BoolP (fun b => b = true → RowOk bi hT l ∧ bt ≤ hT) w) := by
  obtain ⟨A, c, rfl⟩ := h.form
  obtain ⟨n, hnn⟩ : ∃ n, n = l.length := ⟨_, rfl⟩
  rw [← hnn] at h hn ⊢
  have HS := Lib.hid h
  have HN := Lib.hid hnn
  clear h hnn
  go_enter Tryz.func60, Tryz.ntmps60
  go_upto_region 3 with fail
  all_goals (first | (go_ret; exact ⟨false, rfl, by simp, ⟨Chg.refl _ _⟩⟩) | skip)
  rename_i r1 r0 K1 a1 K0 a0
  have hn30 : n ≤ 30 := by omega
  have HT := Lib.hid r0.2
  clear r1 r0
  have e1 : IntKind.u64.wrap (bi + 1) = bi + 1 := IntWalk.u64_in _ (by omega)
  go_wp2_with fail
  go_loopw [1, 21] (fun q i wr => ∃ (k : Nat) (T : Int), k ≤ n ∧ i = .int .i64 k ∧ q = .int .u64 T ∧ (∀ (j : Nat) e, j < k → l[j]? = some e → e.i = bi + 1 + j ∧ e.k = 0 ∧ e.d.size ≤ 100 ∧ e.t ≤ hT) ∧ Chg [] w wr) (fun _ i _ => n - (intOf i).toNat)
  case atStart => exact ⟨0, _, by omega, rfl, rfl, fun j e hj => by omega, Chg.refl _ _⟩
  case round =>
    obtain ⟨k, T, hk, rfl, rfl, hno, hcw⟩ := hrel
    have HNO := Lib.hid hno
    clear hno
    by_cases hlt : k < n
    · obtain ⟨b, o, e, rfl, hp, hb, k1, k2, k3, k4⟩ := HS.out.at_ hlt
      have d1 := hcw.at0 k1
      have d2 := hcw.at0 k2
      have d3 := hcw.at0 k3
      have d4 := hcw.at0 k4
      have HP := Lib.hid hp
      have HCW := Lib.hid hcw
      have e2 : IntKind.u64.wrap (bi + 1 + k) = bi + 1 + k := IntWalk.u64_in _ (by omega)
      have e3 : IntKind.u64.wrap (k : Int) = k := IntWalk.u64_in _ (by omega)
      clear k1 k2 k3 k4 hcw hp
      go_upto_region 8 with fail
      all_goals (first | (go_ret; exact ⟨false, rfl, by simp, ⟨HCW.out.alloc _⟩⟩) | skip)
      rename_i r4 r3 r2 r1 r0
      have HE := Lib.hid (show e.i = bi + 1 + k ∧ e.k = 0 ∧ e.d.size ≤ 100 ∧ e.t ≤ hT from ⟨r4, r1, by omega, r2⟩)
      clear r4 r3 r2 r1 r0
      go_wp2
      exact ⟨⟨k + 1, e.t, by omega, by simp, rfl, fun j x hj hx => by
          rcases Nat.lt_or_ge j k with h1 | h1
          · exact HNO.out j x h1 hx
          · have : j = k := by omega
            subst this
            rw [HP.out] at hx
            injection hx with hx
            subst hx
            exact HE.out, HCW.out.alloc _⟩, by simp [intOf]; omega⟩
    · have hkn : k = n := by omega
      subst hkn
      go_wp2
      go_ret
      exact ⟨true, rfl, fun _ => ⟨⟨by have := HN.out; omega, fun j e hj => HNO.out j e (by have := (List.getElem?_eq_some_iff.1 hj).1; have := HN.out; omega) hj⟩, HT.out⟩, ⟨hcw⟩⟩
end Go.Proofs.YtalhhplphlobbaaGreat
