/- The memory storage: NewMemoryStorage, ApplySnapshot, SetHardState, firstIndex, lastIndex. Conditions: sizes. The memory storage: firstIndex, lastIndex, FirstIndex, LastIndex. Conditions: sizes. The memory storage: Term, Append. Conditions: sizes. The raft log over a storage, nothing unstable: newLogWithSize, firstIndex, lastIndex, term, lastEntryID. Conditions: sizes. -/
import Derived.Test.YtalhhplphlobbaaGreatP02
set_option linter.unusedVariables false
set_option linter.unusedSimpArgs false
namespace Go.Proofs.YtalhhplphlobbaaGreat
open Go.RowKit

/-- A MemoryStorage: its three fields; the counters of calls are left open. -/
def MsAt (w : World) (ms : Nat) (hv sv ev : Value) : Prop :=
  ∃ c0 c1 c2 c3 c4 c5 : Int, Blk w ms 246 #[hv, sv, ev, .int .i64 c0, .int .i64 c1, .int .i64 c2, .int .i64 c3, .int .i64 c4, .int .i64 c5]
theorem MsAt.chg {L : List Nat} {w w' : World} {ms : Nat} {hv sv ev : Value} (h : MsAt w ms hv sv ev) (hc : Chg L w w') (hg : ms ∉ L) : MsAt w' ms hv sv ev := by
  obtain ⟨c0, c1, c2, c3, c4, c5, hb⟩ := h
  exact ⟨c0, c1, c2, c3, c4, c5, hb.chg hc hg⟩
theorem MsAt.lt {w : World} {ms : Nat} {hv sv ev : Value} (h : MsAt w ms hv sv ev) : ms < w.heap.size := by
  obtain ⟨_, _, _, _, _, _, hb⟩ := h
  exact hb.lt
def cf0 : Cf := ⟨[], [], [], [], false⟩

set_option maxRecDepth 100000 in
set_option maxHeartbeats 400000 in
theorem setHard_any (w : World) (ms : Nat) (hv sv ev hv' : Value) (hp : ∃ a, hv' = .pointer a) (h : MsAt w ms hv sv ev) :
    Calls Tryz.prog 101 #[.pointer (some ⟨ms, 0, none⟩), hv'] w fun e w' => e = .returned .nilIface ∧ MsAt w' ms hv' sv ev ∧ Chg [ms] w w' := by
  obtain ⟨c0, c1, c2, c3, c4, c5, hb⟩ := h
  obtain ⟨a, rfl⟩ := hp
  have k0 := hb.cell 0
  simp at k0
  have f0 := hb.frozen 0
  go_enter Tryz.func101, Tryz.ntmps101
  go_wp2
  go_ret
  refine ⟨rfl, ⟨c0, c1, c2, c3, c4, c5, ?_⟩, ?_⟩
  · simpa using hb.set_ 0 (.pointer a)
  · (focus (first | with_reducible assumption | ((repeat (first | with_reducible exact Chg.refl _ _ | with_reducible assumption | with_reducible refine Chg.drew ?_ | with_reducible refine Chg.alloc ?_ _ | with_reducible refine Chg.setCell ?_ (by simp) _ | with_reducible refine Chg.nxt ?_ (by assumption))); done)))

set_option maxRecDepth 100000 in
set_option maxHeartbeats 1000000 in
theorem ensureSnap_nil (M : List Nat) (W w : World) (hM : ∀ x ∈ M, x < W.heap.size) (hW : Chg [] W w) : Calls Tryz.prog 148 #[.pointer none] w fun e w' => ∃ b, e = .returned (.pointer (some ⟨b, 0, none⟩)) ∧ SnapAt M w' (.pointer (some ⟨b, 0, none⟩)) ByteArray.empty 0 0 cf0 ∧ Chg [] W w' ∧ Nxt w w' := by
  go_enter Tryz.func148, Tryz.ntmps148
  have hz := hW.size
  go_wp2
  go_ret
  refine ⟨w.heap.size, rfl, ⟨w.heap.size, .slice none 0 0, .pointer (some ⟨w.heap.size + 1, 0, none⟩), rfl, fun hm => ?_, (by first | go_size | (simp [go_sem]; done) | (simp [go_sem]; omega)), (by first | go_cell | (simp [go_sem]; done) | (simp [go_sem]; rfl)), (by first | go_cell | (simp [go_sem]; done) | (simp [go_sem]; rfl)), Sl.nil _ _,
    ⟨w.heap.size + 1, .pointer (some ⟨w.heap.size + 2, 0, none⟩), .pointer (some ⟨w.heap.size + 4, 0, none⟩), .pointer (some ⟨w.heap.size + 5, 0, none⟩), rfl, fun hm => ?_, (by first | go_size | (simp [go_sem]; done) | (simp [go_sem]; omega)), (by first | go_cell | (simp [go_sem]; done) | (simp [go_sem]; rfl)), (by first | go_cell | (simp [go_sem]; done) | (simp [go_sem]; rfl)), (by first | go_cell | (simp [go_sem]; done) | (simp [go_sem]; rfl)),
      ⟨w.heap.size + 2, .slice none 0 0, .slice none 0 0, .slice none 0 0, .slice none 0 0, .pointer (some ⟨w.heap.size + 3, 0, none⟩), rfl, fun hm => ?_, (by first | go_size | (simp [go_sem]; done) | (simp [go_sem]; omega)), (by first | go_cell | (simp [go_sem]; done) | (simp [go_sem]; rfl)), (by first | go_cell | (simp [go_sem]; done) | (simp [go_sem]; rfl)), (by first | go_cell | (simp [go_sem]; done) | (simp [go_sem]; rfl)), (by first | go_cell | (simp [go_sem]; done) | (simp [go_sem]; rfl)), (by first | go_cell | (simp [go_sem]; done) | (simp [go_sem]; rfl)),
        Sl.nil _ _, Sl.nil _ _, Sl.nil _ _, Sl.nil _ _, ⟨w.heap.size + 3, 0, rfl, fun hm => ?_, (by first | go_size | (simp [go_sem]; done) | (simp [go_sem]; omega)), (by first | go_cell | (simp [go_sem]; done) | (simp [go_sem]; rfl))⟩⟩, ⟨w.heap.size + 4, 0, rfl, fun hm => ?_, (by first | go_size | (simp [go_sem]; done) | (simp [go_sem]; omega)), (by first | go_cell | (simp [go_sem]; done) | (simp [go_sem]; rfl))⟩, ⟨w.heap.size + 5, 0, rfl, fun hm => ?_, (by first | go_size | (simp [go_sem]; done) | (simp [go_sem]; omega)), (by first | go_cell | (simp [go_sem]; done) | (simp [go_sem]; rfl))⟩⟩⟩, ?_, ⟨?_⟩⟩
  all_goals first | (have := hM _ hm; omega) | (focus (first | with_reducible assumption | ((repeat (first | with_reducible exact Chg.refl _ _ | with_reducible assumption | refine Chg.drew ?_ | refine Chg.alloc ?_ _)); done)))

set_option maxRecDepth 100000 in
set_option maxHeartbeats 1000000 in
theorem newStorage_any (M : List Nat) (W w : World) (hM : ∀ x ∈ M, x < W.heap.size) (hW : Chg [] W w) :
    Calls Tryz.prog 96 #[] w fun e w' => ∃ ms sv ev, e = .returned (.pointer (some ⟨ms, 0, none⟩)) ∧ w.heap.size ≤ ms ∧ MsAt w' ms (.pointer none) sv ev ∧ SnapAt (ms :: M) w' sv ByteArray.empty 0 0 cf0 ∧ Chg [] W w' ∧ Nxt w w' := by
  have hz := hW.size
  go_enter Tryz.func96, Tryz.ntmps96
  have hq : ∀ o1 o2 o3, ∀ x ∈ ((w.heap.size + 2) :: M), x < (((w.alloc o1).alloc o2).alloc o3).heap.size := fun o1 o2 o3 x hx => by
    rcases List.mem_cons.1 hx with rfl | hx
    · simp
    · have := hM _ hx; simp; omega
  have hb : ∀ o1 o2 cs, Blk (((w.alloc o1).alloc o2).alloc (.cells cs 246)) (w.heap.size + 2) 246 cs := fun o1 o2 cs => by
    have := Blk.new ((w.alloc o1).alloc o2) 246 cs
    simpa using this
  go_wp2_with (first | (go_at_call 148; (with_reducible refine Calls.mono (ensureSnap_nil ((w.heap.size + 2) :: M) _ _ (hq _ _ _) (Chg.refl _ _)) ?_); rintro e w1 ⟨b1, rfl, hs1, hc1, hn1⟩; obtain ⟨qc1, qf1, qz1⟩ := hn1.rules; simp at qz1; have l1 : w.heap.size + 2 < w1.heap.size := by omega))
  go_ret
  have h1 := ((hb _ _ _).nxt hn1).set_ 1 (.pointer (some ⟨b1, 0, none⟩))
  simp at h1
  refine ⟨w.heap.size + 2, _, _, rfl, by omega, ⟨0, 0, 0, 0, 0, 0, h1⟩, SnapAt.chg (L := [w.heap.size + 2]) hs1 (Chg.setCell (Chg.refl _ _) (by simp) _) (by simp), ?_, ⟨?_⟩⟩
  · exact ((((hW.alloc _).alloc _).alloc _).nxt hn1).setCell (.inl (by simp; omega)) _
  · exact (((((Chg.refl _ _).alloc _).alloc _).alloc _).nxt hn1).setCell (.inl (by simp; omega)) _

set_option maxRecDepth 100000 in
set_option maxHeartbeats 1000000 in
theorem applySnap_any (M : List Nat) (w : World) (ms : Nat) (hv sv ev v : Value) (d0 : ByteArray) (i0 t0 : Int) (c0 : Cf) (d : ByteArray) (i t : Int) (c : Cf)
    (h : MsAt w ms hv sv ev) (hms : ms ∈ M) (h0 : SnapAt M w sv d0 i0 t0 c0) (h1 : SnapAt M w v d i t c) (hM : ∀ x ∈ M, x < w.heap.size) (hlt : i0 < i) (ld : d.data.size ≤ 1000000000)
    (l1 : c.vs.length ≤ 1000000000) (l2 : c.ls.length ≤ 1000000000) (l3 : c.os.length ≤ 1000000000) (l4 : c.ns.length ≤ 1000000000) :
    Calls Tryz.prog 97 #[.pointer (some ⟨ms, 0, none⟩), v] w fun e w' => e = .returned .nilIface ∧ ∃ sv' ev', MsAt w' ms hv sv' ev' ∧ SnapAt M w' sv' d i t c ∧ OwnEnts M w' w.heap.size ev' [⟨t, i, ByteArray.empty⟩] ∧ Chg [ms] w w' := by
  obtain ⟨n0, n1, n2, n3, n4, n5, hb⟩ := h
  obtain ⟨bs, rfl⟩ := h0.form
  obtain ⟨bv, rfl⟩ := h1.form
  have f1 := hb.frozen 1
  have f2 := hb.frozen 2
  have k2 := hb.cell 2
  simp at k2
  have k1 := hb.cell 1
  simp at k1
  have hbl := hb.lt
  have hML : ∀ x ∈ [ms], x ∈ M := by simpa using hms
  by_cases hi0 : i0 = 0
  all_goals
    go_enter Tryz.func97, Tryz.ntmps97
    go_wp2_with (first | (go_at_call 148; (with_reducible refine Calls.mono (ensureSnap_any h1) ?_); rintro e w' ⟨rfl, rfl⟩) | (go_at_call 149; (with_reducible refine Calls.mono (snapMeta_any h0) ?_); rintro e w' ⟨bm, rfl, hm, rfl⟩) | (go_at_call 150; (with_reducible refine Calls.mono (metaIndex_any hm) ?_); rintro e w' ⟨rfl, rfl⟩) | (go_at_call 149; (with_reducible refine Calls.mono (snapMeta_any (SnapAt.chg h1 ?_ hML)) ?_); (focus (first | with_reducible assumption | ((repeat (first | with_reducible exact Chg.refl _ _ | with_reducible assumption | with_reducible refine Chg.drew ?_ | with_reducible refine Chg.alloc ?_ _ | with_reducible refine Chg.setCell ?_ (by simp) _ | with_reducible refine Chg.nxt ?_ (by assumption))); done))); rintro e w' ⟨bm1, rfl, hm1, rfl⟩) | (go_at_call 150; (with_reducible refine Calls.mono (metaIndex_any hm1) ?_); rintro e w' ⟨rfl, rfl⟩) | (go_at_call 152; (with_reducible refine Calls.mono (metaTerm_any hm1) ?_); rintro e w' ⟨rfl, rfl⟩) | (go_at_call 151; (with_reducible refine Calls.mono (snapClone_any M w _ _ d i t c h1 hM ld l1 l2 l3 l4 ?_) ?_); (focus (first | with_reducible assumption | ((repeat (first | with_reducible exact Chg.refl _ _ | with_reducible assumption | with_reducible refine Chg.drew ?_ | with_reducible refine Chg.alloc ?_ _ | with_reducible refine Chg.setCell ?_ (by simp) _ | with_reducible refine Chg.nxt ?_ (by assumption))); done))); rintro e w1 ⟨b3, rfl, hs3, hc3, hn3⟩; obtain ⟨qc3, qf3, qz3⟩ := hn3.rules; (try simp at qz3); obtain ⟨lms, _, _, _, _, _, _⟩ := lts (Nat.lt_of_lt_of_le hbl hn3.out.size)))
    go_ret
    have hq : ∀ x ∈ M, x < w1.heap.size := fun x hx => Nat.lt_of_lt_of_le (hM x hx) hn3.out.size
    have hb1 := (((((((hb.nxt hn3).set_ 1 (.pointer (some ⟨b3, 0, none⟩))).set_ 2 (.slice (some ⟨w1.heap.size + 3, 0, none⟩) 1 1)).alloc (.cells #[.int .u64 t] 22)).alloc (.cells #[.int .u64 i] 22)).alloc (.cells #[.pointer (some ⟨w1.heap.size, 0, none⟩), .pointer (some ⟨w1.heap.size + 1, 0, none⟩), .pointer none, .slice none 0 0] 242)).alloc (.cells #[.pointer (some ⟨w1.heap.size + 2, 0, none⟩)] 238))
    simp at hb1
    have hrow : ∀ (w5 : World) (x : Value), w5.heap.size = w1.heap.size + 3 → (w5.alloc (.cells #[x] 238)).ownsRow w.heap.size 238 1 (.slice (some ⟨w1.heap.size + 3, 0, none⟩) 1 1) 1 [x] := fun w5 x h5 =>
      ⟨rfl, .inr ⟨w1.heap.size + 3, 1, #[x], rfl, by omega, by have := heap_alloc_new w5 (.cells #[x] 238); rw [h5] at this; exact this, Nat.le_refl _, by simp [maxLen], rfl, rfl⟩⟩
    have hq2 : ∀ x ∈ rowL (.slice (some ⟨w1.heap.size + 3, 0, none⟩) 1 1) ++ M, x < w1.heap.size ∨ x = w1.heap.size + 3 := fun x hx => by
      rcases List.mem_append.1 hx with h | h
      · right; rw [mem_rowL] at h; simpa [Value.ownBlock] using h.symm
      · exact .inl (hq x h)
    refine ⟨rfl, .pointer (some ⟨b3, 0, none⟩), .slice (some ⟨w1.heap.size + 3, 0, none⟩) 1 1, ⟨_, _, _, _, _, _, hb1⟩, SnapAt.chg (L := [ms]) hs3 ?_ hML, ⟨[.pointer (some ⟨w1.heap.size + 2, 0, none⟩)], hrow _ _ (by first | go_size | (simp [go_sem]; done) | (simp [go_sem]; omega)), rfl, fun j e he => ?_⟩, ?_⟩
    · (focus (first | with_reducible assumption | ((repeat (first | with_reducible exact Chg.refl _ _ | with_reducible assumption | with_reducible refine Chg.drew ?_ | with_reducible refine Chg.alloc ?_ _ | with_reducible refine Chg.setCell ?_ (by simp) _ | with_reducible refine Chg.nxt ?_ (by assumption))); done)))
    · rcases j with _ | j
      · simp only [List.getElem?_cons_zero, Option.some.injEq] at he
        subst he
        exact ⟨_, rfl, ⟨w1.heap.size + 2, .pointer (some ⟨w1.heap.size, 0, none⟩), .pointer (some ⟨w1.heap.size + 1, 0, none⟩), .slice none 0 0, rfl, fun hm => by have := hq2 _ hm; omega, (by first | go_size | (simp [go_sem]; done) | (simp [go_sem]; omega)), (by first | go_cell | (simp [go_sem]; done) | (simp [go_sem]; rfl)), (by first | go_cell | (simp [go_sem]; done) | (simp [go_sem]; rfl)), (by first | go_cell | (simp [go_sem]; done) | (simp [go_sem]; rfl)), (by first | go_cell | (simp [go_sem]; done) | (simp [go_sem]; rfl)),
          ⟨w1.heap.size, 0, rfl, fun hm => by have := hq2 _ hm; omega, (by first | go_size | (simp [go_sem]; done) | (simp [go_sem]; omega)), (by first | go_cell | (simp [go_sem]; done) | (simp [go_sem]; rfl))⟩, ⟨w1.heap.size + 1, 0, rfl, fun hm => by have := hq2 _ hm; omega, (by first | go_size | (simp [go_sem]; done) | (simp [go_sem]; omega)), (by first | go_cell | (simp [go_sem]; done) | (simp [go_sem]; rfl))⟩, Sl.nil _ _⟩⟩
      · simp at he
    · (focus (first | with_reducible assumption | ((repeat (first | with_reducible exact Chg.refl _ _ | with_reducible assumption | with_reducible refine Chg.drew ?_ | with_reducible refine Chg.alloc ?_ _ | with_reducible refine Chg.setCell ?_ (by simp) _ | with_reducible refine Chg.nxt ?_ (by assumption))); done)))
end Go.Proofs.YtalhhplphlobbaaGreat
namespace Go.Proofs.YtalhhplphlobbaaGreat
open Go.RowKit

theorem EntsAt.open_ {M : List Nat} {w : World} {v : Value} {l : List Ent} (h : EntsAt M w v l) : ∃ A n c, v = .slice A n c ∧ l.length = n ∧ n ≤ c ∧ (A = none → c = 0) ∧
    ∀ b o s, A = some ⟨b, o, s⟩ → s = none ∧ b ∉ M ∧ b < w.heap.size ∧ ∀ (j : Nat) (e : Ent), l[j]? = some e → ∃ p, w.cell? ⟨b, o + j, none⟩ = some p ∧ EntAt M w p e.t e.i e.d := by
  obtain ⟨ps, ⟨A, n, c, rfl, hl, hc, h0, ha⟩, hp, he⟩ := h
  refine ⟨A, n, c, rfl, hp.symm.trans hl, hc, h0, fun b o s e => ?_⟩
  obtain ⟨h1, h2, h3, h4⟩ := ha b o s e
  refine ⟨h1, h2, h3, fun j x hx => ?_⟩
  obtain ⟨p, hp1, hp2⟩ := he j x hx
  exact ⟨p, h4 j p hp1, hp2⟩
/-- A list that is not empty: its first pointer. -/
theorem EntsAt.head {M : List Nat} {w : World} {v : Value} {e : Ent} {r : List Ent} (h : EntsAt M w v (e :: r)) : ∃ b o n c p, v = .slice (some ⟨b, o, none⟩) n c ∧ n = r.length + 1 ∧ n ≤ c ∧ b ∉ M ∧ b < w.heap.size ∧ w.cell? ⟨b, o, none⟩ = some p ∧ EntAt M w p e.t e.i e.d := by
  obtain ⟨A, n, c, rfl, hl, hc, h0, ha⟩ := h.open_
  rcases A with _ | ⟨b, o, s⟩
  · have := h0 rfl
    simp at hl
    omega
  · obtain ⟨rfl, h2, h3, h4⟩ := ha b o s rfl
    obtain ⟨p, h5, h6⟩ := h4 0 e rfl
    exact ⟨b, o, n, c, p, rfl, by simpa using hl.symm, hc, h2, h3, h5, h6⟩

section
variable {M : List Nat} {w : World} {ms : Nat} {hv sv ev : Value} {e : Ent} {r : List Ent}
set_option maxRecDepth 100000 in
set_option maxHeartbeats 400000 in
theorem msFirst_any (h : MsAt w ms hv sv ev) (he : EntsAt M w ev (e :: r)) (h0 : 0 ≤ e.i) (h1 : e.i < 4611686018427387904) :
    Calls Tryz.prog 153 #[.pointer (some ⟨ms, 0, none⟩)] w fun x w' => x = .returned (.int .u64 (e.i + 1)) ∧ w = w' := by
  obtain ⟨n0, n1, n2, n3, n4, n5, hb⟩ := h
  obtain ⟨b, o, n, c, p, rfl, hn, hnc, hbM, hb', hc, hp⟩ := he.head
  have k2 := hb.cell 2
  simp at k2
  have hn0 : 0 < n := by omega
  have hn0' : (0 : Int) < (n : Int) := by omega
  clear hn
  go_enter Tryz.func153, Tryz.ntmps153
  go_wp2_with (first | (go_at_call 154; (with_reducible refine Calls.mono (entIndex_any hp) ?_); rintro e w' ⟨rfl, rfl⟩))
  go_ret
  exact ⟨rfl, rfl⟩

set_option maxRecDepth 100000 in
set_option maxHeartbeats 400000 in
theorem msLast_any (h : MsAt w ms hv sv ev) (he : EntsAt M w ev (e :: r)) (h0 : 0 ≤ e.i) (h1 : e.i < 4611686018427387904) (hr : r.length < 1000000000) :
    Calls Tryz.prog 190 #[.pointer (some ⟨ms, 0, none⟩)] w fun x w' => x = .returned (.int .u64 (e.i + r.length)) ∧ Nxt w w' := by
  obtain ⟨n0, n1, n2, n3, n4, n5, hb⟩ := h
  obtain ⟨b, o, n, c, p, rfl, hn, hnc, hbM, hb', hc, hp⟩ := he.head
  have k2 := hb.cell 2
  simp at k2
  have hn0 : 0 < n := by omega
  have hn0' : (0 : Int) < (n : Int) := by omega
  have hn1 : (n : Int) ≤ 1000000000 := by omega
  have e1 : e.i + (n : Int) - 1 = e.i + r.length := by omega
  have E1 := Lib.hid e1
  clear hn e1
  go_enter Tryz.func190, Tryz.ntmps190
  go_wp2_with fail
  go_quiet ((go_at_call 154; exact Calls.quiet_of_same ((entIndex_any (EntAt.chg (L := []) hp ((Chg.refl _ _).drewN _) (fun _ h => by cases h))).mono fun _ _ ⟨he, hw⟩ => ⟨he, hw.symm⟩)))
  go_wp2
  go_ret
  refine ⟨?_, ⟨(Chg.refl _ _).drewN _⟩⟩
  show Ending.returned (.int .u64 _) = _
  rw [E1.out]
end

theorem MsAt.bump {w : World} {ms : Nat} {hv sv ev : Value} (h : MsAt w ms hv sv ev) (k : Nat) (hk : k = 3 ∨ k = 4 ∨ k = 5 ∨ k = 6 ∨ k = 7 ∨ k = 8) (x : Int) : MsAt (w.setCell ⟨ms, k, none⟩ (.int .i64 x)) ms hv sv ev := by
  obtain ⟨n0, n1, n2, n3, n4, n5, hb⟩ := h
  have h1 := hb.set_ k (.int .i64 x)
  rcases hk with rfl | rfl | rfl | rfl | rfl | rfl
  · exact ⟨x, n1, n2, n3, n4, n5, by simpa using h1⟩
  · exact ⟨n0, x, n2, n3, n4, n5, by simpa using h1⟩
  · exact ⟨n0, n1, x, n3, n4, n5, by simpa using h1⟩
  · exact ⟨n0, n1, n2, x, n4, n5, by simpa using h1⟩
  · exact ⟨n0, n1, n2, n3, x, n5, by simpa using h1⟩
  · exact ⟨n0, n1, n2, n3, n4, x, by simpa using h1⟩

section
variable {M : List Nat} {w : World} {ms : Nat} {hv sv ev : Value} {e : Ent} {r : List Ent}
set_option maxRecDepth 100000 in
set_option maxHeartbeats 400000 in
theorem msFirstIndex_any (h : MsAt w ms hv sv ev) (hms : ms ∈ M) (he : EntsAt M w ev (e :: r)) (h0 : 0 ≤ e.i) (h1 : e.i < 4611686018427387904) :
    Calls Tryz.prog 250 #[.pointer (some ⟨ms, 0, none⟩)] w fun x w' => x = .returned (.tuple #[.int .u64 (e.i + 1), .nilIface]) ∧ MsAt w' ms hv sv ev ∧ Chg [ms] w w' := by
  have H := Lib.hid h
  obtain ⟨n0, n1, n2, n3, n4, n5, hb⟩ := h
  have hML : ∀ x ∈ [ms], x ∈ M := by simpa using hms
  have k4 := hb.cell 4
  simp at k4
  have f4 := hb.frozen 4
  go_enter Tryz.func250, Tryz.ntmps250
  go_wp2_with (first | (go_at_call 153; (with_reducible refine Calls.mono (msFirst_any (H.out.bump 4 (by omega) _) (EntsAt.chg he ?_ hML) h0 h1) ?_); (focus (first | with_reducible assumption | ((repeat (first | with_reducible exact Chg.refl _ _ | with_reducible assumption | with_reducible refine Chg.drew ?_ | with_reducible refine Chg.alloc ?_ _ | with_reducible refine Chg.setCell ?_ (by simp) _ | with_reducible refine Chg.nxt ?_ (by assumption))); done))); rintro e w' ⟨rfl, rfl⟩))
  go_ret2
  exact ⟨rfl, H.out.bump 4 (by omega) _, (by (focus (first | with_reducible assumption | ((repeat (first | with_reducible exact Chg.refl _ _ | with_reducible assumption | with_reducible refine Chg.drew ?_ | with_reducible refine Chg.alloc ?_ _ | with_reducible refine Chg.setCell ?_ (by simp) _ | with_reducible refine Chg.nxt ?_ (by assumption))); done))))⟩

set_option maxRecDepth 100000 in
set_option maxHeartbeats 400000 in
theorem msLastIndex_any (h : MsAt w ms hv sv ev) (hms : ms ∈ M) (he : EntsAt M w ev (e :: r)) (h0 : 0 ≤ e.i) (h1 : e.i < 4611686018427387904) (hr : r.length < 1000000000) :
    Calls Tryz.prog 251 #[.pointer (some ⟨ms, 0, none⟩)] w fun x w' => x = .returned (.tuple #[.int .u64 (e.i + r.length), .nilIface]) ∧ MsAt w' ms hv sv ev ∧ Chg [ms] w w' := by
  have H := Lib.hid h
  obtain ⟨n0, n1, n2, n3, n4, n5, hb⟩ := h
  have hML : ∀ x ∈ [ms], x ∈ M := by simpa using hms
  have k4 := hb.cell 5
  simp at k4
  have f4 := hb.frozen 5
  go_enter Tryz.func251, Tryz.ntmps251
  go_wp2_with (first | (go_at_call 190; (with_reducible refine Calls.mono (msLast_any (H.out.bump 5 (by omega) _) (EntsAt.chg he ?_ hML) h0 h1 hr) ?_); (focus (first | with_reducible assumption | ((repeat (first | with_reducible exact Chg.refl _ _ | with_reducible assumption | with_reducible refine Chg.drew ?_ | with_reducible refine Chg.alloc ?_ _ | with_reducible refine Chg.setCell ?_ (by simp) _ | with_reducible refine Chg.nxt ?_ (by assumption))); done))); rintro e w1 ⟨rfl, hn1⟩; obtain ⟨qc1, qf1, qz1⟩ := hn1.rules; (try simp at qz1)))
  go_ret2
  exact ⟨rfl, (H.out.bump 5 (by omega) _).chg hn1.out (by simp), (by (focus (first | with_reducible assumption | ((repeat (first | with_reducible exact Chg.refl _ _ | with_reducible assumption | with_reducible refine Chg.drew ?_ | with_reducible refine Chg.alloc ?_ _ | with_reducible refine Chg.setCell ?_ (by simp) _ | with_reducible refine Chg.nxt ?_ (by assumption))); done))))⟩

set_option maxRecDepth 100000 in
set_option maxHeartbeats 400000 in
theorem msInitial_any {d : ByteArray} {i t : Int} {c : Cf} {hb0 : Option Addr} (h : MsAt w ms (.pointer hb0) sv ev) (hms : ms ∈ M) (hs : SnapAt M w sv d i t c) :
    Calls Tryz.prog 502 #[.pointer (some ⟨ms, 0, none⟩)] w fun x w' => ∃ b, x = .returned (.tuple #[.pointer hb0, .pointer (some ⟨b, 0, none⟩), .nilIface]) ∧ CfAt M w' (.pointer (some ⟨b, 0, none⟩)) c ∧ MsAt w' ms (.pointer hb0) sv ev ∧ Chg [ms] w w' := by
  have H := Lib.hid h
  obtain ⟨n0, n1, n2, n3, n4, n5, hb⟩ := h
  have hML : ∀ x ∈ [ms], x ∈ M := by simpa using hms
  obtain ⟨bs, rfl⟩ := hs.form
  have k0 := hb.cell 0
  simp at k0
  have k1 := hb.cell 1
  simp at k1
  have k3 := hb.cell 3
  simp at k3
  have f3 := hb.frozen 3
  go_enter Tryz.func502, Tryz.ntmps502
  go_wp2_with (first | (go_at_call 149; (with_reducible refine Calls.mono (snapMeta_any (SnapAt.chg hs ?_ hML)) ?_); (focus (first | with_reducible assumption | ((repeat (first | with_reducible exact Chg.refl _ _ | with_reducible assumption | with_reducible refine Chg.drew ?_ | with_reducible refine Chg.alloc ?_ _ | with_reducible refine Chg.setCell ?_ (by simp) _ | with_reducible refine Chg.nxt ?_ (by assumption))); done))); rintro e w' ⟨bm, rfl, hm, rfl⟩) | (go_at_call 183; (with_reducible refine Calls.mono (metaConf_any hm) ?_); rintro e w' ⟨bc, rfl, hcf, rfl⟩) | (go_at_call 267; (with_reducible refine Calls.mono (ensureConf_any hcf) ?_); rintro e w' ⟨rfl, rfl⟩))
  go_ret3
  exact ⟨_, rfl, hcf, H.out.bump 3 (by omega) _, (by (focus (first | with_reducible assumption | ((repeat (first | with_reducible exact Chg.refl _ _ | with_reducible assumption | with_reducible refine Chg.drew ?_ | with_reducible refine Chg.alloc ?_ _ | with_reducible refine Chg.setCell ?_ (by simp) _ | with_reducible refine Chg.nxt ?_ (by assumption))); done))))⟩
end
end Go.Proofs.YtalhhplphlobbaaGreat
namespace Go.Proofs.YtalhhplphlobbaaGreat
open Go.RowKit

/-- Inside a region that only reads. -/
theorem entIndex_q {M : List Nat} {w : World} {v : Value} {t i : Int} {d : ByteArray} (h : EntAt M w v t i d) (n : Nat) : Calls Tryz.prog 154 #[v] (w.drewN n) fun e w'' => e = .returned (.int .u64 i) ∧ ∃ m, w'' = w.drewN m :=
  Calls.quiet_of_same ((entIndex_any (EntAt.chg (L := []) h ((Chg.refl _ _).drewN _) (fun _ h => by cases h))).mono fun _ _ ⟨he, hw⟩ => ⟨he, hw.symm⟩)
section
variable {M : List Nat} {w : World} {ms : Nat} {hv sv ev : Value} {e : Ent} {r : List Ent}
set_option maxRecDepth 100000 in
set_option maxHeartbeats 1000000 in
theorem msTerm_any (a : Int) (x : Ent) (h : MsAt w ms hv sv ev) (hms : ms ∈ M) (he : EntsAt M w ev (e :: r)) (h0 : 0 ≤ e.i) (h1 : e.i < 4611686018427387904) (hr : r.length < 1000000000)
    (ha : e.i ≤ a) (ha2 : a ≤ e.i + r.length) (hx : (e :: r)[(a - e.i).toNat]? = some x) :
    Calls Tryz.prog 503 #[.pointer (some ⟨ms, 0, none⟩), .int .u64 a] w fun y w' => y = .returned (.tuple #[.int .u64 x.t, .nilIface]) ∧ MsAt w' ms hv sv ev ∧ Chg [ms] w w' := by
  have H := Lib.hid h
  have HE := Lib.hid he
  obtain ⟨n0, n1, n2, n3, n4, n5, hb⟩ := h
  obtain ⟨A, n, c, rfl, hn, hnc, hA, hcell⟩ := he.open_
  have hML : ∀ x ∈ [ms], x ∈ M := by simpa using hms
  simp only [List.length_cons] at hn
  rcases A with _ | ⟨b, o, s⟩
  · have := hA rfl
    omega
  obtain ⟨rfl, hbM, hbl, hcs⟩ := hcell b o s rfl
  obtain ⟨p0, c0, hp0⟩ := hcs 0 e rfl
  obtain ⟨p1, c1, hp1⟩ := hcs _ x hx
  have hne : b ≠ ms := fun h => hbM (h ▸ hms)
  clear hx hcs hcell
  rw [Nat.add_zero] at c0
  have k2 := hb.cell 2
  simp at k2
  have k7 := hb.cell 7
  simp at k7
  have f7 := hb.frozen 7
  have b1 : 0 ≤ a - e.i := by omega
  have b2 : a - e.i < (n : Int) := by omega
  have b3 : (n : Int) ≤ 1000000000 := by omega
  have b4 : (0 : Int) < n := by omega
  have b5 : 0 < n := by omega
  have b6 : ¬ a < e.i := by omega
  have b7 : a ≤ 4611686019427387904 := by omega
  have hn' : n = r.length + 1 := hn.symm
  have HN := Lib.hid hn'
  clear hn hn' ha2
  go_enter Tryz.func503, Tryz.ntmps503
  go_wp2_with (first | (go_at_call 154; (with_reducible refine Calls.mono (entIndex_any (EntAt.chg hp0 ?_ hML)) ?_); (focus (first | with_reducible assumption | ((repeat (first | with_reducible exact Chg.refl _ _ | with_reducible assumption | with_reducible refine Chg.drew ?_ | with_reducible refine Chg.alloc ?_ _ | with_reducible refine Chg.setCell ?_ (by simp) _ | with_reducible refine Chg.nxt ?_ (by assumption))); done))); rintro e w' ⟨rfl, rfl⟩) | (go_at_call 191; (with_reducible refine Calls.mono (entTerm_any (EntAt.chg hp1 ?_ hML)) ?_); (focus (first | with_reducible assumption | ((repeat (first | with_reducible exact Chg.refl _ _ | with_reducible assumption | with_reducible refine Chg.drew ?_ | with_reducible refine Chg.alloc ?_ _ | with_reducible refine Chg.setCell ?_ (by simp) _ | with_reducible refine Chg.nxt ?_ (by assumption))); done))); rintro e w' ⟨rfl, rfl⟩))
  go_ret2
  exact ⟨rfl, H.out.bump 7 (by omega) _, (by (focus (first | with_reducible assumption | ((repeat (first | with_reducible exact Chg.refl _ _ | with_reducible assumption | with_reducible refine Chg.drew ?_ | with_reducible refine Chg.alloc ?_ _ | with_reducible refine Chg.setCell ?_ (by simp) _ | with_reducible refine Chg.nxt ?_ (by assumption))); done))))⟩

set_option maxRecDepth 100000 in
set_option maxHeartbeats 400000 in
theorem msAppend_nil {v : Value} (hl : EntsAt M w v []) :
    Calls Tryz.prog 99 #[.pointer (some ⟨ms, 0, none⟩), v] w fun y w' => y = .returned .nilIface ∧ w = w' := by
  obtain ⟨A, n, c, rfl, hn, _⟩ := hl.open_
  have hn0 : n = 0 := by simpa using hn.symm
  subst hn0
  clear hn
  go_enter Tryz.func99, Tryz.ntmps99
  go_wp2
  go_ret
  exact ⟨rfl, rfl⟩

set_option maxRecDepth 100000 in
set_option maxHeartbeats 1000000 in
/-- Entries that follow the one entry that is there. -/
theorem msAppend_one {base : Nat} {v : Value} {t1 : Int} {d1 : ByteArray} (h : MsAt w ms hv sv ev) (hms : ms ∈ M) (hM : ∀ x ∈ M, x < base) (hbase : base ≤ w.heap.size) (he : OwnEnts M w base ev [e]) (h0 : 0 ≤ e.i) (h1 : e.i < 4611686018427387904)
    (hl0 : EntsAt (rowL ev ++ M) w v (⟨t1, e.i + 1, d1⟩ :: r)) (hr : r.length < 1000000) :
    Calls Tryz.prog 99 #[.pointer (some ⟨ms, 0, none⟩), v] w fun y w' => y = .returned .nilIface ∧ ∃ ev', MsAt w' ms hv sv ev' ∧ OwnEnts M w' base ev' (e :: ⟨t1, e.i + 1, d1⟩ :: r) ∧ Chg (ms :: rowL ev) w w' := by
  obtain ⟨i0, hi, hz0, hz1, hz2⟩ := info_parts info238
  have H := Lib.hid h
  have heA := he.at hM
  have HE := Lib.hid he
  have hl := hl0.more (M' := M) (fun x hx => .inl (List.mem_append_right _ hx))
  obtain ⟨n0, n1, n2, n3, n4, n5, hb⟩ := h
  have hML : ∀ x ∈ [ms], x ∈ M := by simpa using hms
  obtain ⟨b, o, n, c, p, rfl, hn, hnc, hbM, hbl, hc, hp⟩ := hl.head
  obtain ⟨ps2, hsl0, hps2⟩ := hl0
  have hsl := hsl0.more (M' := M) (fun x hx => .inl (List.mem_append_right _ hx))
  obtain ⟨be, oe, ne, ce, pe, rfl, hne, hnce, hbeM, hbel, hce, hpe⟩ := heA.head
  obtain ⟨ps, hown, hps⟩ := he
  have hne1 : ne = 1 := by simpa using hne
  subst hne1
  have k2 := hb.cell 2
  simp at k2
  have f2 := hb.frozen 2
  have b2 : 0 < n := by omega
  have b2' : (0 : Int) < (n : Int) := by omega
  have b3 : (n : Int) ≤ 1000000000 := by omega
  have b4 : (1 : Int) ≤ (n : Int) := by omega
  have hn' : n = r.length + 1 := hn
  have hl2 : ps2.length = r.length + 1 := hps2.1
  have HN := Lib.hid hn'
  have HL2 := Lib.hid hl2
  have hown' : w.ownsRow base 238 1 (.slice (some ⟨be, oe, none⟩) 1 ce) 1 ps := hown
  have HO := Lib.hid hown'
  have HS := Lib.hid hsl
  clear hn hn' hne hl2 hown hown' hsl
  go_enter Tryz.func99, Tryz.ntmps99
  go_wp2_with (first | (go_at_call 153; (with_reducible refine Calls.mono (msFirst_any H.out heA h0 h1) ?_); rintro e w' ⟨rfl, rfl⟩) | (go_at_call 154; (with_reducible refine Calls.mono (entIndex_any hp) ?_); rintro e w' ⟨rfl, rfl⟩))
  go_quiet ((go_at_call 154; (first | with_reducible exact entIndex_q hp _ | with_reducible exact entIndex_q hpe _)))
  go_wp2_with (at_builtin; refine wpList_append_sl _ M rfl _ _ 180 rfl base 238 i0 (.pointer none) 8 Tryz.underlying180 hi hz0 hz1 hz2 rfl _ 1 ps rfl ?c0 _ ps2 rfl ?cs ?c1 ?c2 ?c3 ?c4 ?_)
  case c0 => exact own_chg0 HO.out ((Chg.refl _ _).drewN _)
  case cs => exact HS.out.chg0 ((Chg.refl _ _).drewN _)
  case c1 =>
    intro u hu
    obtain ⟨j, hj, hju⟩ := List.mem_iff_getElem.1 hu
    obtain ⟨q, hq1, hq2⟩ := hps2.2 j ((⟨t1, e.i + 1, d1⟩ :: r)[j]'(by simp; have := HL2.out; omega)) (List.getElem?_eq_getElem _)
    rw [List.getElem?_eq_getElem hj, hju] at hq1
    obtain ⟨_, _, _, _, rfl, _⟩ := hq2
    injection hq1 with hq1
    subst hq1
    rfl
  case c2 => have := HL2.out; simp only [maxLen]; omega
  case c3 => have := HL2.out; omega
  case c4 => exact hbase
  intro v' w2 hown2 hg2 hat2
  have hrow : ∀ g ∈ rowL (.slice (some ⟨be, oe, none⟩) 1 ce), base ≤ g := fun g hg => (own_lt HO.out hg).1
  have hc2 := chg_row hg2
  have hmr : ms ∉ rowL (.slice (some ⟨be, oe, none⟩) 1 ce) := fun hm => by have := hrow _ hm; have := hM _ hms; omega
  have k2' := hc2.at_ (show (w.drewN _).cell? ⟨ms, 2, none⟩ = some _ from k2) hmr
  have f2' : w2.frozen? ⟨ms, 2, none⟩ = false := (hc2.frozen (p := ⟨ms, 2, none⟩) (by simpa using hb.lt) hmr).trans f2
  obtain ⟨A', n', c', rfl⟩ := (Sl.of_own (M := []) hown2 (by simp)).form
  go_wp2
  go_ret
  have hf : Chg [ms] w2 (w2.setCell ⟨ms, 2, none⟩ (.slice A' n' c')) := (by (focus (first | with_reducible assumption | ((repeat (first | with_reducible exact Chg.refl _ _ | with_reducible assumption | with_reducible refine Chg.drew ?_ | with_reducible refine Chg.alloc ?_ _ | with_reducible refine Chg.setCell ?_ (by simp) _ | with_reducible refine Chg.nxt ?_ (by assumption))); done))))
  obtain ⟨m0, m1, m2, m3, m4, m5, hbm⟩ := H.out
  have hb2 := (Blk.chg (hbm.drewN nq) hc2 hmr).set_ 2 (.slice A' n' c')
  simp at hb2
  refine ⟨rfl, .slice A' n' c', ⟨_, _, _, _, _, _, hb2⟩, ⟨ps ++ ps2, ?_, ?_⟩, ?_⟩
  · have := own_chg hown2 hf (fun g hg => by simp at hg; subst hg; exact hM _ hms)
    rw [show (e :: ⟨t1, e.i + 1, d1⟩ :: r).length = 1 + ps2.length from by rw [HL2.out]; simp; omega]
    exact this
  · have h3 := Ents.app hps hps2
    have h4 := Ents.row (h3.chg ((Chg.refl [] _).drewN nq) (by simp)) hg2 hat2
    exact h4.chg hf (fun x hx => List.mem_append_right _ (hML x hx))
  · exact ((((Chg.refl _ w).drewN nq).trans (hc2.mono (fun x hx => List.mem_cons_of_mem _ hx)))).trans (hf.mono (fun x hx => by simp at hx; simp [hx]))
end
end Go.Proofs.YtalhhplphlobbaaGreat
namespace Go.Proofs.YtalhhplphlobbaaGreat
open Go.RowKit

/-- A storage whole: its first entry (the snapshot's place) and those behind it. -/
structure StAt (M : List Nat) (w : World) (ms : Nat) (hv sv ev : Value) (e : Ent) (r : List Ent) : Prop where
  at_ : MsAt w ms hv sv ev
  mem : ms ∈ M
  ents : EntsAt M w ev (e :: r)
  i0 : 0 ≤ e.i
  i1 : e.i < 4611686018427387904
  len : r.length < 1000000
section
variable {M L : List Nat} {w w' : World} {ms : Nat} {hv sv ev : Value} {e : Ent} {r : List Ent}
theorem StAt.chg (h : StAt M w ms hv sv ev e r) (hc : Chg L w w') (hL : ∀ x ∈ L, x ∈ M) (hn : ms ∉ L) : StAt M w' ms hv sv ev e r :=
  ⟨h.at_.chg hc hn, h.mem, h.ents.chg hc hL, h.i0, h.i1, h.len⟩
theorem StAt.nxt (h : StAt M w ms hv sv ev e r) (hc : Nxt w w') : StAt M w' ms hv sv ev e r := h.chg hc.out (by simp) (by simp)
/-- Behind a call that turned nothing but the counters. -/
theorem StAt.ms_ (h : StAt M w ms hv sv ev e r) (ha : MsAt w' ms hv sv ev) (hc : Chg [ms] w w') : StAt M w' ms hv sv ev e r :=
  ⟨ha, h.mem, h.ents.chg hc (by simpa using h.mem), h.i0, h.i1, h.len⟩
theorem StAt.lt (h : StAt M w ms hv sv ev e r) : ms < w.heap.size := h.at_.lt
end

/-- The fields of a raftLog but the storage. -/
structure RLog where
  snap : Value
  ents : Value
  off : Int
  sip : Bool
  oip : Int
  com : Int
  apg : Int
  apd : Int
  mx : Int
  asz : Int
  ps : Bool
def RlAt (w : World) (rl ms : Nat) (l : RLog) : Prop :=
  Blk w rl 355 #[.iface 137 (.pointer (some ⟨ms, 0, none⟩)), l.snap, l.ents, .int .u64 l.off, .bool l.sip, .int .u64 l.oip, .int .u64 l.com, .int .u64 l.apg, .int .u64 l.apd, .int .u64 l.mx, .int .u64 l.asz, .bool l.ps]
/-- Nothing unstable. -/
def RLog.calm (l : RLog) : Prop := l.snap = .pointer none ∧ l.ents = .slice none 0 0

section
variable {M : List Nat} {w : World} {ms rl : Nat} {hv sv ev : Value} {e : Ent} {r : List Ent} {l : RLog}
set_option maxRecDepth 100000 in
set_option maxHeartbeats 1000000 in
theorem newLog_any (mx : Int) (h : StAt M w ms hv sv ev e r) :
    Calls Tryz.prog 270 #[.iface 137 (.pointer (some ⟨ms, 0, none⟩)), .int .u64 mx] w fun x w' => ∃ rl, x = .returned (.pointer (some ⟨rl, 0, none⟩)) ∧ w.heap.size ≤ rl ∧ RlAt w' rl ms ⟨.pointer none, .slice none 0 0, e.i + r.length + 1, false, e.i + r.length + 1, e.i, e.i, e.i, mx, 0, false⟩ ∧ StAt M w' ms hv sv ev e r ∧ Chg [ms] w w' := by
  have h0 := h.i0
  have h1 := h.i1
  have h2 := h.len
  have H := Lib.hid h
  clear h
  go_enter Tryz.func270, Tryz.ntmps270
  go_wp2_with (first | (go_at_call 250; (with_reducible refine Calls.mono (msFirstIndex_any H.out.at_ H.out.mem H.out.ents H.out.i0 H.out.i1) ?_); rintro e w1 ⟨rfl, ha1, hc1⟩) | (go_at_call 251; (with_reducible refine Calls.mono (msLastIndex_any (H.out.ms_ ha1 hc1).at_ H.out.mem (H.out.ms_ ha1 hc1).ents H.out.i0 H.out.i1 (by have := H.out.len; omega)) ?_); rintro e w2 ⟨rfl, ha2, hc2⟩))
  go_ret
  have hc3 : Chg [ms] w w2 := hc1.trans hc2
  have hS := (H.out.ms_ ha1 hc1).ms_ ha2 hc2
  exact ⟨w2.heap.size, rfl, hc3.size, Blk.new _ _ _, hS.chg (L := []) ((Chg.refl _ _).alloc _) (by simp) (by simp), hc3.alloc _⟩

/-- What a walk over the log's fields needs of the block. -/
theorem RlAt.cells {w : World} {rl ms : Nat} {l : RLog} (h : RlAt w rl ms l) : w.cell? ⟨rl, 0, none⟩ = some (.iface 137 (.pointer (some ⟨ms, 0, none⟩))) ∧ w.cell? ⟨rl, 1, none⟩ = some l.snap ∧ w.cell? ⟨rl, 2, none⟩ = some l.ents ∧
    w.cell? ⟨rl, 3, none⟩ = some (.int .u64 l.off) ∧ w.cell? ⟨rl, 4, none⟩ = some (.bool l.sip) ∧ w.cell? ⟨rl, 5, none⟩ = some (.int .u64 l.oip) ∧ w.cell? ⟨rl, 6, none⟩ = some (.int .u64 l.com) ∧ w.cell? ⟨rl, 7, none⟩ = some (.int .u64 l.apg) ∧
    w.cell? ⟨rl, 8, none⟩ = some (.int .u64 l.apd) ∧ w.cell? ⟨rl, 9, none⟩ = some (.int .u64 l.mx) ∧ w.cell? ⟨rl, 10, none⟩ = some (.int .u64 l.asz) ∧ w.cell? ⟨rl, 11, none⟩ = some (.bool l.ps) := by
  refine ⟨?_, ?_, ?_, ?_, ?_, ?_, ?_, ?_, ?_, ?_, ?_, ?_⟩
  all_goals (rw [Blk.cell h]; rfl)
theorem RlAt.chg {L : List Nat} {w w' : World} {rl ms : Nat} {l : RLog} (h : RlAt w rl ms l) (hc : Chg L w w') (hg : rl ∉ L) : RlAt w' rl ms l := Blk.chg h hc hg

set_option maxRecDepth 100000 in
set_option maxHeartbeats 400000 in
theorem unFirst_any (hl : RlAt w rl ms l) (hcalm : l.calm) :
    Calls Tryz.prog 410 #[.pointer (some ⟨rl, 1, none⟩)] w fun x w' => x = .returned (.tuple #[.int .u64 0, .bool false]) ∧ w = w' := by
  obtain ⟨k0, k1, k2, k3, _⟩ := hl.cells
  rw [hcalm.1] at k1
  rw [hcalm.2] at k2
  clear hl hcalm
  go_enter Tryz.func410, Tryz.ntmps410
  go_wp2
  go_ret2
  exact ⟨rfl, rfl⟩

set_option maxRecDepth 100000 in
set_option maxHeartbeats 400000 in
theorem unLast_any (hl : RlAt w rl ms l) (hcalm : l.calm) :
    Calls Tryz.prog 360 #[.pointer (some ⟨rl, 1, none⟩)] w fun x w' => x = .returned (.tuple #[.int .u64 0, .bool false]) ∧ w = w' := by
  obtain ⟨k0, k1, k2, k3, _⟩ := hl.cells
  rw [hcalm.1] at k1
  rw [hcalm.2] at k2
  clear hl hcalm
  go_enter Tryz.func360, Tryz.ntmps360
  go_wp2
  go_ret2
  exact ⟨rfl, rfl⟩

set_option maxRecDepth 100000 in
set_option maxHeartbeats 400000 in
theorem unTerm_any (hl : RlAt w rl ms l) (hcalm : l.calm) (a : Int) (ha : a < l.off) :
    Calls Tryz.prog 352 #[.pointer (some ⟨rl, 1, none⟩), .int .u64 a] w fun x w' => x = .returned (.tuple #[.int .u64 0, .bool false]) ∧ w = w' := by
  obtain ⟨k0, k1, k2, k3, _⟩ := hl.cells
  rw [hcalm.1] at k1
  rw [hcalm.2] at k2
  clear hl hcalm
  go_enter Tryz.func352, Tryz.ntmps352
  go_wp2
  go_ret2
  exact ⟨rfl, rfl⟩

set_option maxRecDepth 100000 in
set_option maxHeartbeats 400000 in
theorem rlFirst_any (h : StAt M w ms hv sv ev e r) (hl : RlAt w rl ms l) (hcalm : l.calm) (hne : rl ≠ ms) :
    Calls Tryz.prog 376 #[.pointer (some ⟨rl, 0, none⟩)] w fun x w' => x = .returned (.int .u64 (e.i + 1)) ∧ RlAt w' rl ms l ∧ StAt M w' ms hv sv ev e r ∧ Chg [ms] w w' := by
  have H := Lib.hid h
  have HL := Lib.hid hl
  have HC := Lib.hid hcalm
  obtain ⟨k0, k1, k2, _⟩ := hl.cells
  rw [hcalm.1] at k1
  rw [hcalm.2] at k2
  clear h hl hcalm
  go_enter Tryz.func376, Tryz.ntmps376
  go_wp2_with (first | (go_at_call 410; (with_reducible refine Calls.mono (unFirst_any HL.out HC.out) ?_); rintro e w' ⟨rfl, rfl⟩) | (go_at_call 250; (with_reducible refine Calls.mono (msFirstIndex_any H.out.at_ H.out.mem H.out.ents H.out.i0 H.out.i1) ?_); rintro e w1 ⟨rfl, ha1, hc1⟩))
  go_ret
  exact ⟨rfl, HL.out.chg hc1 (by simpa using hne), H.out.ms_ ha1 hc1, hc1⟩

set_option maxRecDepth 100000 in
set_option maxHeartbeats 400000 in
theorem rlLast_any (h : StAt M w ms hv sv ev e r) (hl : RlAt w rl ms l) (hcalm : l.calm) (hne : rl ≠ ms) :
    Calls Tryz.prog 314 #[.pointer (some ⟨rl, 0, none⟩)] w fun x w' => x = .returned (.int .u64 (e.i + r.length)) ∧ RlAt w' rl ms l ∧ StAt M w' ms hv sv ev e r ∧ Chg [ms] w w' := by
  have H := Lib.hid h
  have HL := Lib.hid hl
  have HC := Lib.hid hcalm
  obtain ⟨k0, k1, k2, _⟩ := hl.cells
  rw [hcalm.1] at k1
  rw [hcalm.2] at k2
  clear h hl hcalm
  go_enter Tryz.func314, Tryz.ntmps314
  go_wp2_with (first | (go_at_call 360; (with_reducible refine Calls.mono (unLast_any HL.out HC.out) ?_); rintro e w' ⟨rfl, rfl⟩) | (go_at_call 251; (with_reducible refine Calls.mono (msLastIndex_any H.out.at_ H.out.mem H.out.ents H.out.i0 H.out.i1 (by have := H.out.len; omega)) ?_); rintro e w1 ⟨rfl, ha1, hc1⟩))
  go_ret
  exact ⟨rfl, HL.out.chg hc1 (by simpa using hne), H.out.ms_ ha1 hc1, hc1⟩

set_option maxRecDepth 100000 in
set_option maxHeartbeats 1000000 in
theorem rlTerm_any (a : Int) (x : Ent) (h : StAt M w ms hv sv ev e r) (hl : RlAt w rl ms l) (hcalm : l.calm) (hne : rl ≠ ms) (ha : e.i ≤ a) (ha2 : a ≤ e.i + r.length) (ho : a < l.off) (hx : (e :: r)[(a - e.i).toNat]? = some x) :
    Calls Tryz.prog 323 #[.pointer (some ⟨rl, 0, none⟩), .int .u64 a] w fun y w' => y = .returned (.tuple #[.int .u64 x.t, .nilIface]) ∧ RlAt w' rl ms l ∧ StAt M w' ms hv sv ev e r ∧ Chg [ms] w w' := by
  have H := Lib.hid h
  have HL := Lib.hid hl
  have HC := Lib.hid hcalm
  have HX := Lib.hid hx
  have h0 := h.i0
  have h1 := h.i1
  have h2 := h.len
  have a0 : 0 ≤ a := by omega
  have a1 : a ≤ 4611686018428387904 := by omega
  have a2 : ¬ a + 1 < e.i + 1 := by omega
  have a3 : ¬ e.i + (r.length : Int) < a := by omega
  obtain ⟨k0, k1, k2, k3, _⟩ := hl.cells
  rw [hcalm.1] at k1
  rw [hcalm.2] at k2
  clear h hl hcalm hx
  go_enter Tryz.func323, Tryz.ntmps323
  go_wp2_with (first | (go_at_call 352; (with_reducible refine Calls.mono (unTerm_any HL.out HC.out a ho) ?_); rintro e w' ⟨rfl, rfl⟩) | (go_at_call 376; (with_reducible refine Calls.mono (rlFirst_any H.out HL.out HC.out hne) ?_); rintro e w1 ⟨rfl, hl1, hs1, hc1⟩) | (go_at_call 314; (with_reducible refine Calls.mono (rlLast_any hs1 hl1 HC.out hne) ?_); rintro e w2 ⟨rfl, hl2, hs2, hc2⟩; obtain ⟨j0, _⟩ := hl2.cells) | (go_at_call 503; (with_reducible refine Calls.mono (msTerm_any a x hs2.at_ hs2.mem hs2.ents hs2.i0 hs2.i1 (by have := hs2.len; omega) ha ha2 HX.out) ?_); rintro e w3 ⟨rfl, ha3, hc3⟩))
  go_ret2
  exact ⟨rfl, hl2.chg hc3 (by simpa using hne), hs2.ms_ ha3 hc3, (hc1.trans hc2).trans hc3⟩
end
end Go.Proofs.YtalhhplphlobbaaGreat
