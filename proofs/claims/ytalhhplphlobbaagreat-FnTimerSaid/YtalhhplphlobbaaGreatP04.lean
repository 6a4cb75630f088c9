/- The memory storage: firstIndex, lastIndex, FirstIndex, LastIndex. Conditions: sizes. The memory storage: Term, Append. Conditions: sizes. -/
import Derived.Test.YtalhhplphlobbaaGreatP03
set_option linter.unusedVariables false
set_option linter.unusedSimpArgs false
namespace Go.Proofs.YtalhhplphlobbaaGreat
open Go.RowKit

theorem EntsAt.open_ {M : List Nat} {w : World} {v : Value} {l : List Ent} (h : EntsAt M w v l) : ∃ A n c, v = .slice A n c ∧ l.length = n ∧ n ≤ c ∧ (A = none → c = 0) ∧
    ∀ b o s, A = some ⟨b, o, s⟩ → s = none ∧ b ∉ M ∧ b < w.heap.size ∧ ∀ (j : Nat) (e : Ent), l[j]? = some e → ∃ p, w.cell? ⟨b, o + j, none⟩ = some p ∧ EntAt M w p e.t e.i e.d := by
  obtain ⟨ps, ⟨A, n, c, rfl, hl, hc, h0, ha⟩, hp, he⟩ := h
  refine ⟨A, n, c, rfl, hp.symm.trans hl, hc, h0, fun b o s e => ?_⟩
  obtain ⟨h1, h2, h3, h4⟩ := ha b o s e
  refine ⟨h1, h2, h3, fun j x hx => ?_⟩
  obtain ⟨p, hp1, hp2⟩ := he j x hx
  exact ⟨p, h4 j p hp1, hp2⟩
/-- A list that is not empty: its first pointer. -/
theorem EntsAt.head {M : List Nat} {w : World} {v : Value} {e : Ent} {r : List Ent} (h : EntsAt M w v (e :: r)) : ∃ b o n c p, v = .slice (some ⟨b, o, none⟩) n c ∧ n = r.length + 1 ∧ n ≤ c ∧ b ∉ M ∧ b < w.heap.size ∧ w.cell? ⟨b, o, none⟩ = some p ∧ EntAt M w p e.t e.i e.d := by
  obtain ⟨A, n, c, rfl, hl, hc, h0, ha⟩ := h.open_
  rcases A with _ | ⟨b, o, s⟩
  · have := h0 rfl
    simp at hl
    omega
  · obtain ⟨rfl, h2, h3, h4⟩ := ha b o s rfl
    obtain ⟨p, h5, h6⟩ := h4 0 e rfl
    exact ⟨b, o, n, c, p, rfl, by simpa using hl.symm, hc, h2, h3, h5, h6⟩

section
variable {M : List Nat} {w : World} {ms : Nat} {hv sv ev : Value} {e : Ent} {r : List Ent}
set_option maxRecDepth 100000 in
set_option maxHeartbeats 400000 in
theorem msFirst_any (h : MsAt w ms hv sv ev) (he : EntsAt M w ev (e :: r)) (h0 : 0 ≤ e.i) (h1 : e.i < 4611686018427387904) :
    Calls Tryz.prog 153 #[.pointer (some ⟨ms, 0, none⟩)] w fun x w' => x = .returned (.int .u64 (e.i + 1)) ∧ w = w' := by
  obtain ⟨n0, n1, n2, n3, n4, n5, hb⟩ := h
  obtain ⟨b, o, n, c, p, rfl, hn, hnc, hbM, hb', hc, hp⟩ := he.head
  have k2 := hb.cell 2
  simp at k2
  have hn0 : 0 < n := by omega
  have hn0' : (0 : Int) < (n : Int) := by omega
  clear hn
  go_enter Tryz.func153, Tryz.ntmps153
  go_wp2_with (first | (go_at_call 154; (with_reducible refine Calls.mono (entIndex_any hp) ?_); rintro e w' ⟨rfl, rfl⟩))
  go_ret
  exact ⟨rfl, rfl⟩

set_option maxRecDepth 100000 in
set_option maxHeartbeats 400000 in
theorem msLast_any (h : MsAt w ms hv sv ev) (he : EntsAt M w ev (e :: r)) (h0 : 0 ≤ e.i) (h1 : e.i < 4611686018427387904) (hr : r.length < 1000000000) :
    Calls Tryz.prog 190 #[.pointer (some ⟨ms, 0, none⟩)] w fun x w' => x = .returned (.int .u64 (e.i + r.length)) ∧ Nxt w w' := by
  obtain ⟨n0, n1, n2, n3, n4, n5, hb⟩ := h
  obtain ⟨b, o, n, c, p, rfl, hn, hnc, hbM, hb', hc, hp⟩ := he.head
  have k2 := hb.cell 2
  simp at k2
  have hn0 : 0 < n := by omega
  have hn0' : (0 : Int) < (n : Int) := by omega
  have hn1 : (n : Int) ≤ 1000000000 := by omega
  have e1 : e.i + (n : Int) - 1 = e.i + r.length := by omega
  have E1 := Lib.hid e1
  clear hn e1
  go_enter Tryz.func190, Tryz.ntmps190
  go_wp2_with fail
  go_quiet ((go_at_call 154; exact Calls.quiet_of_same ((entIndex_any (EntAt.chg (L := []) hp ((Chg.refl _ _).drewN _) (fun _ h => by cases h))).mono fun _ _ ⟨he, hw⟩ => ⟨he, hw.symm⟩)))
  go_wp2
  go_ret
  refine ⟨?_, ⟨(Chg.refl _ _).drewN _⟩⟩
  show Ending.returned (.int .u64 _) = _
  rw [E1.out]
end

theorem MsAt.bump {w : World} {ms : Nat} {hv sv ev : Value} (h : MsAt w ms hv sv ev) (k : Nat) (hk : k = 3 ∨ k = 4 ∨ k = 5 ∨ k = 6 ∨ k = 7 ∨ k = 8) (x : Int) : MsAt (w.setCell ⟨ms, k, none⟩ (.int .i64 x)) ms hv sv ev := by
  obtain ⟨n0, n1, n2, n3, n4, n5, hb⟩ := h
  have h1 := hb.set_ k (.int .i64 x)
  rcases hk with rfl | rfl | rfl | rfl | rfl | rfl
  · exact ⟨x, n1, n2, n3, n4, n5, by simpa using h1⟩
  · exact ⟨n0, x, n2, n3, n4, n5, by simpa using h1⟩
  · exact ⟨n0, n1, x, n3, n4, n5, by simpa using h1⟩
  · exact ⟨n0, n1, n2, x, n4, n5, by simpa using h1⟩
  · exact ⟨n0, n1, n2, n3, x, n5, by simpa using h1⟩
  · exact ⟨n0, n1, n2, n3, n4, x, by simpa using h1⟩

section
variable {M : List Nat} {w : World} {ms : Nat} {hv sv ev : Value} {e : Ent} {r : List Ent}
set_option maxRecDepth 100000 in
set_option maxHeartbeats 400000 in
theorem msFirstIndex_any (h : MsAt w ms hv sv ev) (hms : ms ∈ M) (he : EntsAt M w ev (e :: r)) (h0 : 0 ≤ e.i) (h1 : e.i < 4611686018427387904) :
    Calls Tryz.prog 250 #[.pointer (some ⟨ms, 0, none⟩)] w fun x w' => x = .returned (.tuple #[.int .u64 (e.i + 1), .nilIface]) ∧ MsAt w' ms hv sv ev ∧ Chg [ms] w w' := by
  have H := Lib.hid h
  obtain ⟨n0, n1, n2, n3, n4, n5, hb⟩ := h
  have hML : ∀ x ∈ [ms], x ∈ M := by simpa using hms
  have k4 := hb.cell 4
  simp at k4
  have f4 := hb.frozen 4
  go_enter Tryz.func250, Tryz.ntmps250
  go_wp2_with (first | (go_at_call 153; (with_reducible refine Calls.mono (msFirst_any (H.out.bump 4 (by omega) _) (EntsAt.chg he ?_ hML) h0 h1) ?_); (focus (first | with_reducible assumption | ((repeat (first | with_reducible exact Chg.refl _ _ | with_reducible assumption | with_reducible refine Chg.drew ?_ | with_reducible refine Chg.alloc ?_ _ | with_reducible refine Chg.setCell ?_ (by simp) _ | with_reducible refine Chg.nxt ?_ (by assumption))); done))); rintro e w' ⟨rfl, rfl⟩))
  go_ret2
  exact ⟨rfl, H.out.bump 4 (by omega) _, (by (focus (first | with_reducible assumption | ((repeat (first | with_reducible exact Chg.refl _ _ | with_reducible assumption | with_reducible refine Chg.drew ?_ | with_reducible refine Chg.alloc ?_ _ | with_reducible refine Chg.setCell ?_ (by simp) _ | with_reducible refine Chg.nxt ?_ (by assumption))); done))))⟩

set_option maxRecDepth 100000 in
set_option maxHeartbeats 400000 in
theorem msLastIndex_any (h : MsAt w ms hv sv ev) (hms : ms ∈ M) (he : EntsAt M w ev (e :: r)) (h0 : 0 ≤ e.i) (h1 : e.i < 4611686018427387904) (hr : r.length < 1000000000) :
    Calls Tryz.prog 251 #[.pointer (some ⟨ms, 0, none⟩)] w fun x w' => x = .returned (.tuple #[.int .u64 (e.i + r.length), .nilIface]) ∧ MsAt w' ms hv sv ev ∧ Chg [ms] w w' := by
  have H := Lib.hid h
  obtain ⟨n0, n1, n2, n3, n4, n5, hb⟩ := h
  have hML : ∀ x ∈ [ms], x ∈ M := by simpa using hms
  have k4 := hb.cell 5
  simp at k4
  have f4 := hb.frozen 5
  go_enter Tryz.func251, Tryz.ntmps251
  go_wp2_with (first | (go_at_call 190; (with_reducible refine Calls.mono (msLast_any (H.out.bump 5 (by omega) _) (EntsAt.chg he ?_ hML) h0 h1 hr) ?_); (focus (first | with_reducible assumption | ((repeat (first | with_reducible exact Chg.refl _ _ | with_reducible assumption | with_reducible refine Chg.drew ?_ | with_reducible refine Chg.alloc ?_ _ | with_reducible refine Chg.setCell ?_ (by simp) _ | with_reducible refine Chg.nxt ?_ (by assumption))); done))); rintro e w1 ⟨rfl, hn1⟩; obtain ⟨qc1, qf1, qz1⟩ := hn1.rules; (try simp at qz1)))
  go_ret2
  exact ⟨rfl, (H.out.bump 5 (by omega) _).chg hn1.out (by simp), (by (focus (first | with_reducible assumption | ((repeat (first | with_reducible exact Chg.refl _ _ | with_reducible assumption | with_reducible refine Chg.drew ?_ | with_reducible refine Chg.alloc ?_ _ | with_reducible refine Chg.setCell ?_ (by simp) _ | with_reducible refine Chg.nxt ?_ (by assumption))); done))))⟩

set_option maxRecDepth 100000 in
set_option maxHeartbeats 400000 in
theorem msInitial_any {d : ByteArray} {i t : Int} {c : Cf} {hb0 : Option Addr} (h : MsAt w ms (.pointer hb0) sv ev) (hms : ms ∈ M) (hs : SnapAt M w sv d i t c) :
    Calls Tryz.prog 502 #[.pointer (some ⟨ms, 0, none⟩)] w fun x w' => ∃ b, x = .returned (.tuple #[.pointer hb0, .pointer (some ⟨b, 0, none⟩), .nilIface]) ∧ CfAt M w' (.pointer (some ⟨b, 0, none⟩)) c ∧ MsAt w' ms (.pointer hb0) sv ev ∧ Chg [ms] w w' := by
  have H := Lib.hid h
  obtain ⟨n0, n1, n2, n3, n4, n5, hb⟩ := h
  have hML : ∀ x ∈ [ms], x ∈ M := by simpa using hms
  obtain ⟨bs, rfl⟩ := hs.form
  have k0 := hb.cell 0
  simp at k0
  have k1 := hb.cell 1
  simp at k1
  have k3 := hb.cell 3
  simp at k3
  have f3 := hb.frozen 3
  go_enter Tryz.func502, Tryz.ntmps502
  go_wp2_with (first | (go_at_call 149; (with_reducible refine Calls.mono (snapMeta_any (SnapAt.chg hs ?_ hML)) ?_); (focus (first | with_reducible assumption | ((repeat (first | with_reducible exact Chg.refl _ _ | with_reducible assumption | with_reducible refine Chg.drew ?_ | with_reducible refine Chg.alloc ?_ _ | with_reducible refine Chg.setCell ?_ (by simp) _ | with_reducible refine Chg.nxt ?_ (by assumption))); done))); rintro e w' ⟨bm, rfl, hm, rfl⟩) | (go_at_call 183; (with_reducible refine Calls.mono (metaConf_any hm) ?_); rintro e w' ⟨bc, rfl, hcf, rfl⟩) | (go_at_call 267; (with_reducible refine Calls.mono (ensureConf_any hcf) ?_); rintro e w' ⟨rfl, rfl⟩))
  go_ret3
  exact ⟨_, rfl, hcf, H.out.bump 3 (by omega) _, (by (focus (first | with_reducible assumption | ((repeat (first | with_reducible exact Chg.refl _ _ | with_reducible assumption | with_reducible refine Chg.drew ?_ | with_reducible refine Chg.alloc ?_ _ | with_reducible refine Chg.setCell ?_ (by simp) _ | with_reducible refine Chg.nxt ?_ (by assumption))); done))))⟩
end
end Go.Proofs.YtalhhplphlobbaaGreat
namespace Go.Proofs.YtalhhplphlobbaaGreat
open Go.RowKit

/-- Inside a region that only reads. -/
theorem entIndex_q {M : List Nat} {w : World} {v : Value} {t i : Int} {d : ByteArray} (h : EntAt M w v t i d) (n : Nat) : Calls Tryz.prog 154 #[v] (w.drewN n) fun e w'' => e = .returned (.int .u64 i) ∧ ∃ m, w'' = w.drewN m :=
  Calls.quiet_of_same ((entIndex_any (EntAt.chg (L := []) h ((Chg.refl _ _).drewN _) (fun _ h => by cases h))).mono fun _ _ ⟨he, hw⟩ => ⟨he, hw.symm⟩)
section
variable {M : List Nat} {w : World} {ms : Nat} {hv sv ev : Value} {e : Ent} {r : List Ent}
set_option maxRecDepth 100000 in
set_option maxHeartbeats 1000000 in
theorem msTerm_any (a : Int) (x : Ent) (h : MsAt w ms hv sv ev) (hms : ms ∈ M) (he : EntsAt M w ev (e :: r)) (h0 : 0 ≤ e.i) (h1 : e.i < 4611686018427387904) (hr : r.length < 1000000000)
    (ha : e.i ≤ a) (ha2 : a ≤ e.i + r.length) (hx : (e :: r)[(a - e.i).toNat]? = some x) :
    Calls Tryz.prog 503 #[.pointer (some ⟨ms, 0, none⟩), .int .u64 a] w fun y w' => y = .returned (.tuple #[.int .u64 x.t, .nilIface]) ∧ MsAt w' ms hv sv ev ∧ Chg [ms] w w' := by
  have H := Lib.hid h
  have HE := Lib.hid he
  obtain ⟨n0, n1, n2, n3, n4, n5, hb⟩ := h
  obtain ⟨A, n, c, rfl, hn, hnc, hA, hcell⟩ := he.open_
  have hML : ∀ x ∈ [ms], x ∈ M := by simpa using hms
  simp only [List.length_cons] at hn
  rcases A with _ | ⟨b, o, s⟩
  · have := hA rfl
    omega
  obtain ⟨rfl, hbM, hbl, hcs⟩ := hcell b o s rfl
  obtain ⟨p0, c0, hp0⟩ := hcs 0 e rfl
  obtain ⟨p1, c1, hp1⟩ := hcs _ x hx
  have hne : b ≠ ms := fun h => hbM (h ▸ hms)
  clear hx hcs hcell
  rw [Nat.add_zero] at c0
  have k2 := hb.cell 2
  simp at k2
  have k7 := hb.cell 7
  simp at k7
  have f7 := hb.frozen 7
  have b1 : 0 ≤ a - e.i := by omega
  have b2 : a - e.i < (n : Int) := by omega
  have b3 : (n : Int) ≤ 1000000000 := by omega
  have b4 : (0 : Int) < n := by omega
  have b5 : 0 < n := by omega
  have b6 : ¬ a < e.i := by omega
  have b7 : a ≤ 4611686019427387904 := by omega
  have hn' : n = r.length + 1 := hn.symm
  have HN := Lib.hid hn'
  clear hn hn' ha2
  go_enter Tryz.func503, Tryz.ntmps503
  go_wp2_with (first | (go_at_call 154; (with_reducible refine Calls.mono (entIndex_any (EntAt.chg hp0 ?_ hML)) ?_); (focus (first | with_reducible assumption | ((repeat (first | with_reducible exact Chg.refl _ _ | with_reducible assumption | with_reducible refine Chg.drew ?_ | with_reducible refine Chg.alloc ?_ _ | with_reducible refine Chg.setCell ?_ (by simp) _ | with_reducible refine Chg.nxt ?_ (by assumption))); done))); rintro e w' ⟨rfl, rfl⟩) | (go_at_call 191; (with_reducible refine Calls.mono (entTerm_any (EntAt.chg hp1 ?_ hML)) ?_); (focus (first | with_reducible assumption | ((repeat (first | with_reducible exact Chg.refl _ _ | with_reducible assumption | with_reducible refine Chg.drew ?_ | with_reducible refine Chg.alloc ?_ _ | with_reducible refine Chg.setCell ?_ (by simp) _ | with_reducible refine Chg.nxt ?_ (by assumption))); done))); rintro e w' ⟨rfl, rfl⟩))
  go_ret2
  exact ⟨rfl, H.out.bump 7 (by omega) _, (by (focus (first | with_reducible assumption | ((repeat (first | with_reducible exact Chg.refl _ _ | with_reducible assumption | with_reducible refine Chg.drew ?_ | with_reducible refine Chg.alloc ?_ _ | with_reducible refine Chg.setCell ?_ (by simp) _ | with_reducible refine Chg.nxt ?_ (by assumption))); done))))⟩

set_option maxRecDepth 100000 in
set_option maxHeartbeats 400000 in
theorem msAppend_nil {v : Value} (hl : EntsAt M w v []) :
    Calls Tryz.prog 99 #[.pointer (some ⟨ms, 0, none⟩), v] w fun y w' => y = .returned .nilIface ∧ w = w' := by
  obtain ⟨A, n, c, rfl, hn, _⟩ := hl.open_
  have hn0 : n = 0 := by simpa using hn.symm
  subst hn0
  clear hn
  go_enter Tryz.func99, Tryz.ntmps99
  go_wp2
  go_ret
  exact ⟨rfl, rfl⟩

set_option maxRecDepth 100000 in
set_option maxHeartbeats 1000000 in
/-- Entries that follow the one entry that is there. -/
theorem msAppend_one {base : Nat} {v : Value} {t1 : Int} {d1 : ByteArray} (h : MsAt w ms hv sv ev) (hms : ms ∈ M) (hM : ∀ x ∈ M, x < base) (hbase : base ≤ w.heap.size) (he : OwnEnts M w base ev [e]) (h0 : 0 ≤ e.i) (h1 : e.i < 4611686018427387904)
    (hl0 : EntsAt (rowL ev ++ M) w v (⟨t1, e.i + 1, d1⟩ :: r)) (hr : r.length < 1000000) :
    Calls Tryz.prog 99 #[.pointer (some ⟨ms, 0, none⟩), v] w fun y w' => y = .returned .nilIface ∧ ∃ ev', MsAt w' ms hv sv ev' ∧ OwnEnts M w' base ev' (e :: ⟨t1, e.i + 1, d1⟩ :: r) ∧ Chg (ms :: rowL ev) w w' := by
  obtain ⟨i0, hi, hz0, hz1, hz2⟩ := info_parts info238
  have H := Lib.hid h
  have heA := he.at hM
  have HE := Lib.hid he
  have hl := hl0.more (M' := M) (fun x hx => .inl (List.mem_append_right _ hx))
  obtain ⟨n0, n1, n2, n3, n4, n5, hb⟩ := h
  have hML : ∀ x ∈ [ms], x ∈ M := by simpa using hms
  obtain ⟨b, o, n, c, p, rfl, hn, hnc, hbM, hbl, hc, hp⟩ := hl.head
  obtain ⟨ps2, hsl0, hps2⟩ := hl0
  have hsl := hsl0.more (M' := M) (fun x hx => .inl (List.mem_append_right _ hx))
  obtain ⟨be, oe, ne, ce, pe, rfl, hne, hnce, hbeM, hbel, hce, hpe⟩ := heA.head
  obtain ⟨ps, hown, hps⟩ := he
  have hne1 : ne = 1 := by simpa using hne
  subst hne1
  have k2 := hb.cell 2
  simp at k2
  have f2 := hb.frozen 2
  have b2 : 0 < n := by omega
  have b2' : (0 : Int) < (n : Int) := by omega
  have b3 : (n : Int) ≤ 1000000000 := by omega
  have b4 : (1 : Int) ≤ (n : Int) := by omega
  have hn' : n = r.length + 1 := hn
  have hl2 : ps2.length = r.length + 1 := hps2.1
  have HN := Lib.hid hn'
  have HL2 := Lib.hid hl2
  have hown' : w.ownsRow base 238 1 (.slice (some ⟨be, oe, none⟩) 1 ce) 1 ps := hown
  have HO := Lib.hid hown'
  have HS := Lib.hid hsl
  clear hn hn' hne hl2 hown hown' hsl
  go_enter Tryz.func99, Tryz.ntmps99
  go_wp2_with (first | (go_at_call 153; (with_reducible refine Calls.mono (msFirst_any H.out heA h0 h1) ?_); rintro e w' ⟨rfl, rfl⟩) | (go_at_call 154; (with_reducible refine Calls.mono (entIndex_any hp) ?_); rintro e w' ⟨rfl, rfl⟩))
  go_quiet ((go_at_call 154; (first | with_reducible exact entIndex_q hp _ | with_reducible exact entIndex_q hpe _)))
  go_wp2_with (at_builtin; refine wpList_append_sl _ M rfl _ _ 180 rfl base 238 i0 (.pointer none) 8 Tryz.underlying180 hi hz0 hz1 hz2 rfl _ 1 ps rfl ?c0 _ ps2 rfl ?cs ?c1 ?c2 ?c3 ?c4 ?_)
  case c0 => exact own_chg0 HO.out ((Chg.refl _ _).drewN _)
  case cs => exact HS.out.chg0 ((Chg.refl _ _).drewN _)
  case c1 =>
    intro u hu
    obtain ⟨j, hj, hju⟩ := List.mem_iff_getElem.1 hu
    obtain ⟨q, hq1, hq2⟩ := hps2.2 j ((⟨t1, e.i + 1, d1⟩ :: r)[j]'(by simp; have := HL2.out; omega)) (List.getElem?_eq_getElem _)
    rw [List.getElem?_eq_getElem hj, hju] at hq1
    obtain ⟨_, _, _, _, rfl, _⟩ := hq2
    injection hq1 with hq1
    subst hq1
    rfl
  case c2 => have := HL2.out; simp only [maxLen]; omega
  case c3 => have := HL2.out; omega
  case c4 => exact hbase
  intro v' w2 hown2 hg2 hat2
  have hrow : ∀ g ∈ rowL (.slice (some ⟨be, oe, none⟩) 1 ce), base ≤ g := fun g hg => (own_lt HO.out hg).1
  have hc2 := chg_row hg2
  have hmr : ms ∉ rowL (.slice (some ⟨be, oe, none⟩) 1 ce) := fun hm => by have := hrow _ hm; have := hM _ hms; omega
  have k2' := hc2.at_ (show (w.drewN _).cell? ⟨ms, 2, none⟩ = some _ from k2) hmr
  have f2' : w2.frozen? ⟨ms, 2, none⟩ = false := (hc2.frozen (p := ⟨ms, 2, none⟩) (by simpa using hb.lt) hmr).trans f2
  obtain ⟨A', n', c', rfl⟩ := (Sl.of_own (M := []) hown2 (by simp)).form
  go_wp2
  go_ret
  have hf : Chg [ms] w2 (w2.setCell ⟨ms, 2, none⟩ (.slice A' n' c')) := (by (focus (first | with_reducible assumption | ((repeat (first | with_reducible exact Chg.refl _ _ | with_reducible assumption | with_reducible refine Chg.drew ?_ | with_reducible refine Chg.alloc ?_ _ | with_reducible refine Chg.setCell ?_ (by simp) _ | with_reducible refine Chg.nxt ?_ (by assumption))); done))))
  obtain ⟨m0, m1, m2, m3, m4, m5, hbm⟩ := H.out
  have hb2 := (Blk.chg (hbm.drewN nq) hc2 hmr).set_ 2 (.slice A' n' c')
  simp at hb2
  refine ⟨rfl, .slice A' n' c', ⟨_, _, _, _, _, _, hb2⟩, ⟨ps ++ ps2, ?_, ?_⟩, ?_⟩
  · have := own_chg hown2 hf (fun g hg => by simp at hg; subst hg; exact hM _ hms)
    rw [show (e :: ⟨t1, e.i + 1, d1⟩ :: r).length = 1 + ps2.length from by rw [HL2.out]; simp; omega]
    exact this
  · have h3 := Ents.app hps hps2
    have h4 := Ents.row (h3.chg ((Chg.refl [] _).drewN nq) (by simp)) hg2 hat2
    exact h4.chg hf (fun x hx => List.mem_append_right _ (hML x hx))
  · exact ((((Chg.refl _ w).drewN nq).trans (hc2.mono (fun x hx => List.mem_cons_of_mem _ hx)))).trans (hf.mono (fun x hx => by simp at hx; simp [hx]))
end
end Go.Proofs.YtalhhplphlobbaaGreat
