/- Words for begin: a log's slice is kept; Append behind the snapshot's place. Conditions: sizes. begin: the storage and the node are made. Conditions: sizes. -/
import Derived.Test.YtalhhplphlobbaaGreatP24
set_option linter.unusedVariables false
set_option linter.unusedSimpArgs false
namespace Go.Proofs.YtalhhplphlobbaaGreat
open Go.RowKit
theorem LogAt.chg {L : List Nat} {w w' : World} {v : Value} {l : List Ent} (h : LogAt w v l) (hc : Chg L w w') (hL : ∀ a n c, v = .slice (some a) n c → a.block ∉ L) : LogAt w' v l := by
  obtain ⟨A, n, c, rfl, h1, h2, h3, h4⟩ := h
  refine ⟨A, n, c, rfl, h1, h2, h3, fun b o s hA => ?_⟩
  obtain ⟨rfl, hb, hcs⟩ := h4 b o s hA
  subst hA
  have hn : b ∉ L := hL ⟨b, o, none⟩ n c rfl
  refine ⟨rfl, Nat.lt_of_lt_of_le hb hc.size, fun j e he => ?_⟩
  obtain ⟨k0, k1, k2, k3⟩ := hcs j e he
  exact ⟨hc.at_ k0 hn, hc.at_ k1 hn, hc.at_ k2 hn, hc.at_ k3 hn⟩
/-- The entries of a log that follows index i. -/
def Follows (i : Int) : List Ent → Prop
  | [] => True
  | x :: _ => x.i = i + 1
theorem msApp_any {M : List Nat} {w : World} {ms base : Nat} {hv sv ev v : Value} {e : Ent} {l : List Ent} (h : MsAt w ms hv sv ev) (hms : ms ∈ M) (hM : ∀ x ∈ M, x < base) (hbase : base ≤ w.heap.size) (he : OwnEnts M w base ev [e]) (h0 : 0 ≤ e.i) (h1 : e.i < 4611686018427387904)
    (hl0 : EntsAt (rowL ev ++ M) w v l) (hf : Follows e.i l) (hr : l.length < 1000000) :
    Calls Tryz.prog 99 #[.pointer (some ⟨ms, 0, none⟩), v] w fun y w' => y = .returned .nilIface ∧ ∃ ev', MsAt w' ms hv sv ev' ∧ OwnEnts M w' base ev' (e :: l) ∧ Chg (ms :: rowL ev) w w' := by
  rcases l with _ | ⟨x, r⟩
  · refine (msAppend_nil hl0).mono ?_
    rintro y w' ⟨rfl, rfl⟩
    exact ⟨rfl, ev, h, he, Chg.refl _ _⟩
  · obtain ⟨t1, i1, d1⟩ := x
    simp only [Follows] at hf
    subst hf
    exact msAppend_one h hms hM hbase he h0 h1 hl0 (by simp at hr; omega)
/-- The rows that came since a base lie from there on. -/
theorem OwnEnts.lo {M : List Nat} {w : World} {base : Nat} {v : Value} {l : List Ent} (h : OwnEnts M w base v l) : ∀ x ∈ rowL v, base ≤ x ∧ x < w.heap.size := by
  obtain ⟨ps, h1, _⟩ := h
  exact fun x hx => own_lt h1 hx
theorem OwnEnts.nxt {M : List Nat} {w w' : World} {base : Nat} {v : Value} {l : List Ent} (h : OwnEnts M w base v l) (hn : Nxt w w') : OwnEnts M w' base v l := by
  obtain ⟨ps, h1, h2⟩ := h
  exact ⟨ps, own_chg0 h1 hn.out, h2.chg hn.out (by simp)⟩
set_option maxRecDepth 100000 in
set_option maxHeartbeats 1000000 in
theorem applySnap2_any (M : List Nat) (w : World) (ms : Nat) (hv sv ev v : Value) (d0 : ByteArray) (i0 t0 : Int) (c0 : Cf) (d : ByteArray) (i t : Int) (c : Cf)
    (h : MsAt w ms hv sv ev) (hms : ms ∈ M) (h0 : SnapAt M w sv d0 i0 t0 c0) (h1 : SnapAt M w v d i t c) (hM : ∀ x ∈ M, x < w.heap.size) (hlt : i0 < i) (ld : d.data.size ≤ 1000000000)
    (l1 : c.vs.length ≤ 1000000000) (l2 : c.ls.length ≤ 1000000000) (l3 : c.os.length ≤ 1000000000) (l4 : c.ns.length ≤ 1000000000) :
    Calls Tryz.prog 97 #[.pointer (some ⟨ms, 0, none⟩), v] w fun e w' => e = .returned .nilIface ∧ ∃ sv' ev', MsAt w' ms hv sv' ev' ∧ SnapAt (rowL ev' ++ M) w' sv' d i t c ∧ OwnEnts M w' w.heap.size ev' [⟨t, i, ByteArray.empty⟩] ∧ Chg [ms] w w' := by
  obtain ⟨n0, n1, n2, n3, n4, n5, hb⟩ := h
  obtain ⟨bs, rfl⟩ := h0.form
  obtain ⟨bv, rfl⟩ := h1.form
  have f1 := hb.frozen 1
  have f2 := hb.frozen 2
  have k2 := hb.cell 2
  simp at k2
  have k1 := hb.cell 1
  simp at k1
  have hbl := hb.lt
  have hML : ∀ x ∈ [ms], x ∈ M := by simpa using hms
  by_cases hi0 : i0 = 0
  all_goals
    go_enter Tryz.func97, Tryz.ntmps97
    go_wp2_with (first | (go_at_call 148; (with_reducible refine Calls.mono (ensureSnap_any h1) ?_); rintro e w' ⟨rfl, rfl⟩) | (go_at_call 149; (with_reducible refine Calls.mono (snapMeta_any h0) ?_); rintro e w' ⟨bm, rfl, hm, rfl⟩) | (go_at_call 150; (with_reducible refine Calls.mono (metaIndex_any hm) ?_); rintro e w' ⟨rfl, rfl⟩) | (go_at_call 149; (with_reducible refine Calls.mono (snapMeta_any (SnapAt.chg h1 ?_ hML)) ?_); (focus (first | with_reducible assumption | ((repeat (first | with_reducible exact Chg.refl _ _ | with_reducible assumption | with_reducible refine Chg.drew ?_ | with_reducible refine Chg.alloc ?_ _ | with_reducible refine Chg.setCell ?_ (by simp) _ | with_reducible refine Chg.nxt ?_ (by assumption))); done))); rintro e w' ⟨bm1, rfl, hm1, rfl⟩) | (go_at_call 150; (with_reducible refine Calls.mono (metaIndex_any hm1) ?_); rintro e w' ⟨rfl, rfl⟩) | (go_at_call 152; (with_reducible refine Calls.mono (metaTerm_any hm1) ?_); rintro e w' ⟨rfl, rfl⟩) | (go_at_call 151; (with_reducible refine Calls.mono (snapClone_any M w _ _ d i t c h1 hM ld l1 l2 l3 l4 ?_) ?_); (focus (first | with_reducible assumption | ((repeat (first | with_reducible exact Chg.refl _ _ | with_reducible assumption | with_reducible refine Chg.drew ?_ | with_reducible refine Chg.alloc ?_ _ | with_reducible refine Chg.setCell ?_ (by simp) _ | with_reducible refine Chg.nxt ?_ (by assumption))); done))); rintro e w1 ⟨b3, rfl, hs3, hc3, hn3⟩; obtain ⟨qc3, qf3, qz3⟩ := hn3.rules; (try simp at qz3); obtain ⟨lms, _, _, _, _, _, _⟩ := lts (Nat.lt_of_lt_of_le hbl hn3.out.size)))
    go_ret
    have hq : ∀ x ∈ M, x < w1.heap.size := fun x hx => Nat.lt_of_lt_of_le (hM x hx) hn3.out.size
    have hb1 := (((((((hb.nxt hn3).set_ 1 (.pointer (some ⟨b3, 0, none⟩))).set_ 2 (.slice (some ⟨w1.heap.size + 3, 0, none⟩) 1 1)).alloc (.cells #[.int .u64 t] 22)).alloc (.cells #[.int .u64 i] 22)).alloc (.cells #[.pointer (some ⟨w1.heap.size, 0, none⟩), .pointer (some ⟨w1.heap.size + 1, 0, none⟩), .pointer none, .slice none 0 0] 242)).alloc (.cells #[.pointer (some ⟨w1.heap.size + 2, 0, none⟩)] 238))
    simp at hb1
    have hrow : ∀ (w5 : World) (x : Value), w5.heap.size = w1.heap.size + 3 → (w5.alloc (.cells #[x] 238)).ownsRow w.heap.size 238 1 (.slice (some ⟨w1.heap.size + 3, 0, none⟩) 1 1) 1 [x] := fun w5 x h5 =>
      ⟨rfl, .inr ⟨w1.heap.size + 3, 1, #[x], rfl, by omega, by have := heap_alloc_new w5 (.cells #[x] 238); rw [h5] at this; exact this, Nat.le_refl _, by simp [maxLen], rfl, rfl⟩⟩
    have hq2 : ∀ x ∈ rowL (.slice (some ⟨w1.heap.size + 3, 0, none⟩) 1 1) ++ M, x < w1.heap.size ∨ x = w1.heap.size + 3 := fun x hx => by
      rcases List.mem_append.1 hx with h | h
      · right; rw [mem_rowL] at h; simpa [Value.ownBlock] using h.symm
      · exact .inl (hq x h)
    refine ⟨rfl, .pointer (some ⟨b3, 0, none⟩), .slice (some ⟨w1.heap.size + 3, 0, none⟩) 1 1, ⟨_, _, _, _, _, _, hb1⟩, SnapAt.chg (L := [ms]) (SnapAt.more (M' := rowL (.slice (some ⟨w1.heap.size + 3, 0, none⟩) 1 1) ++ M) hs3 (fun x hx => by rcases List.mem_append.1 hx with q | q; rw [mem_rowL] at q; simp [Value.ownBlock] at q; omega; exact .inl q)) ?_ (fun x hx => List.mem_append_right _ (hML x hx)), ⟨[.pointer (some ⟨w1.heap.size + 2, 0, none⟩)], hrow _ _ (by first | go_size | (simp [go_sem]; done) | (simp [go_sem]; omega)), rfl, fun j e he => ?_⟩, ?_⟩
    · (focus (first | with_reducible assumption | ((repeat (first | with_reducible exact Chg.refl _ _ | with_reducible assumption | with_reducible refine Chg.drew ?_ | with_reducible refine Chg.alloc ?_ _ | with_reducible refine Chg.setCell ?_ (by simp) _ | with_reducible refine Chg.nxt ?_ (by assumption))); done)))
    · rcases j with _ | j
      · simp only [List.getElem?_cons_zero, Option.some.injEq] at he
        subst he
        exact ⟨_, rfl, ⟨w1.heap.size + 2, .pointer (some ⟨w1.heap.size, 0, none⟩), .pointer (some ⟨w1.heap.size + 1, 0, none⟩), .slice none 0 0, rfl, fun hm => by have := hq2 _ hm; omega, (by first | go_size | (simp [go_sem]; done) | (simp [go_sem]; omega)), (by first | go_cell | (simp [go_sem]; done) | (simp [go_sem]; rfl)), (by first | go_cell | (simp [go_sem]; done) | (simp [go_sem]; rfl)), (by first | go_cell | (simp [go_sem]; done) | (simp [go_sem]; rfl)), (by first | go_cell | (simp [go_sem]; done) | (simp [go_sem]; rfl)),
          ⟨w1.heap.size, 0, rfl, fun hm => by have := hq2 _ hm; omega, (by first | go_size | (simp [go_sem]; done) | (simp [go_sem]; omega)), (by first | go_cell | (simp [go_sem]; done) | (simp [go_sem]; rfl))⟩, ⟨w1.heap.size + 1, 0, rfl, fun hm => by have := hq2 _ hm; omega, (by first | go_size | (simp [go_sem]; done) | (simp [go_sem]; omega)), (by first | go_cell | (simp [go_sem]; done) | (simp [go_sem]; rfl))⟩, Sl.nil _ _⟩⟩
      · simp at he
    · (focus (first | with_reducible assumption | ((repeat (first | with_reducible exact Chg.refl _ _ | with_reducible assumption | with_reducible refine Chg.drew ?_ | with_reducible refine Chg.alloc ?_ _ | with_reducible refine Chg.setCell ?_ (by simp) _ | with_reducible refine Chg.nxt ?_ (by assumption))); done)))
end Go.Proofs.YtalhhplphlobbaaGreat
namespace Go.Proofs.YtalhhplphlobbaaGreat
open Go.RowKit
theorem sinHeld {w : World} {nb ms : Nat} {id et ht msz mco mun inf bi bt hT hV hC apd ap0 : Int} {rd rnv cfv : Value} {pv cq le nf sd ref : Bool} {bd : ByteArray} {A1 A2 A3 A4 A5 : Option Addr} {m1 k1 m2 k2 m3 k3 m4 k4 m5 k5 : Nat} (h : SinAt w nb ⟨⟨id, et, ht, rd, pv, cq, le, nf, sd, msz, mco, mun, inf, bd, bi, bt, .slice A1 m1 k1, .slice A2 m2 k2, .slice A3 m3 k3, .slice A4 m4 k4, false, .slice A5 m5 k5, hT, hV, hC, apd⟩, ref, rnv, .pointer (some ⟨ms, 0, none⟩), ap0, cfv⟩) : (w).cell? ⟨nb, 13, none⟩ = some (.string bd) ∧ (w).cell? ⟨nb, 14, none⟩ = some (.int .u64 bi) ∧ (w).cell? ⟨nb, 15, none⟩ = some (.int .u64 bt) ∧ (w).cell? ⟨nb, 16, none⟩ = some (.slice A1 m1 k1) ∧ (w).cell? ⟨nb, 17, none⟩ = some (.slice A2 m2 k2) ∧ (w).cell? ⟨nb, 18, none⟩ = some (.slice A3 m3 k3) ∧ (w).cell? ⟨nb, 19, none⟩ = some (.slice A4 m4 k4) ∧ (w).cell? ⟨nb, 20, none⟩ = some (.bool false) ∧ (w).cell? ⟨nb, 21, none⟩ = some (.slice A5 m5 k5) ∧ (w).cell? ⟨nb, 22, none⟩ = some (.int .u64 hT) ∧ (w).cell? ⟨nb, 23, none⟩ = some (.int .u64 hV) ∧ (w).cell? ⟨nb, 24, none⟩ = some (.int .u64 hC) ∧ (w).cell? ⟨nb, 28, none⟩ = some (.pointer (some ⟨ms, 0, none⟩)) :=
  ⟨SinAt.cell h 13 _ rfl, SinAt.cell h 14 _ rfl, SinAt.cell h 15 _ rfl, SinAt.cell h 16 _ rfl, SinAt.cell h 17 _ rfl, SinAt.cell h 18 _ rfl, SinAt.cell h 19 _ rfl, SinAt.cell h 20 _ rfl, SinAt.cell h 21 _ rfl, SinAt.cell h 22 _ rfl, SinAt.cell h 23 _ rfl, SinAt.cell h 24 _ rfl, SinAt.cell h 28 _ rfl⟩
/-- What of a node just begun lies apart from all blocks made since. -/
structure BegBig (w : World) (nb : Nat) (set : SetS) (V L : List Int) (l : List Ent) (D : List Int) (w' : World) (ms cfp rn rb rl hs : Nat) (f : Int → Option PrS) (p : Int → Nat) (hv sv ev : Value) (B n : Nat) : Prop where
  b0 : w.heap.size ≤ B
  b1 : B ≤ n
  b2 : B ≤ rn ∧ rn < n
  b3 : B ≤ rb ∧ rb < n
  b4 : B ≤ rl ∧ rl < n
  b5 : nb < B ∧ ms < B
  fr : ∀ k st, f k = some st → B ≤ p k ∧ p k < n
  ha : HardAt (List.range n) w' (.pointer (some ⟨hs, 0, none⟩)) set.hT set.hV set.hC
  big : ∀ M' : List Nat, (∀ x ∈ M', x ∈ [nb, ms] ∨ B ≤ x) → nb ∈ M' → ms ∈ M' → StAt M' w' ms hv sv ev ⟨set.bt, set.bi, ByteArray.empty⟩ l ∧ HardAt M' w' hv set.hT set.hV set.hC ∧ SnapAt M' w' sv set.bd set.bi set.bt ⟨V, L, [], [], false⟩ ∧ ConfAt M' w' (.pointer (some ⟨cfp, 0, none⟩)) V L [] [] false ∧ Sl M' w' set.rd (I64s D)
/-- A node as begin leaves it. -/
structure BegTo (w : World) (nb : Nat) (set : SetS) (V L : List Int) (l : List Ent) (D : List Int) (w' : World) (ms cfp cb rn ss hs rb rl bt x0 : Nat) (x2 : Option Nat) (bv ro mo : Nat) (bi : Int → Nat) (f : Int → Option PrS) (p : Int → Nat) (hv sv ev : Value) : Prop where
  sn : SinAt w' nb ⟨set, false, .pointer (some ⟨rn, 0, none⟩), .pointer (some ⟨ms, 0, none⟩), max set.apd set.bi, .pointer (some ⟨cfp, 0, none⟩)⟩
  run : RunAt w' cb (set.cfg ms set.apd).valid hv sv ev ⟨set.bt, set.bi, ByteArray.empty⟩ l V L set.hT set.hV set.hC D rb rl bt x0 x2 bv ro mo bi f p
  rw_ : Blk w' rn 276 #[.pointer (some ⟨rb, 0, none⟩), .bool false, .pointer (some ⟨ss, 0, none⟩), .pointer (some ⟨hs, 0, none⟩), .slice none 0 0]
  sa : Blk w' ss 189 #[.int .u64 0, .int .u64 0]
  ha : HardAt [nb, rn, rb, rl, ms] w' (.pointer (some ⟨hs, 0, none⟩)) set.hT set.hV set.hC
  st : StAt [nb, rn, rb, rl, ms] w' ms hv sv ev ⟨set.bt, set.bi, ByteArray.empty⟩ l
  sh : HardAt [nb, rn, rb, rl, ms] w' hv set.hT set.hV set.hC
  sp : SnapAt [nb, rn, rb, rl, ms] w' sv set.bd set.bi set.bt ⟨V, L, [], [], false⟩
  cf : ConfAt [nb, rn, rb, rl, ms] w' (.pointer (some ⟨cfp, 0, none⟩)) V L [] [] false
  ca : Chg [nb] w w'
  nw : w.heap.size ≤ rn ∧ w.heap.size ≤ rb ∧ w.heap.size ≤ rl ∧ w.heap.size ≤ ms
  big : ∃ B n, BegBig w nb set V L l D w' ms cfp rn rb rl hs f p hv sv ev B n
def BegPost (w : World) (nb : Nat) (set : SetS) (V L : List Int) (l : List Ent) (D : List Int) (y : Ending) (w' : World) : Prop :=
  y = .returned (.bool false) ∧ ∃ ms cfp cb rn ss hs rb rl bt x0 x2 bv ro mo bi f p hv sv ev, BegTo w nb set V L l D w' ms cfp cb rn ss hs rb rl bt x0 x2 bv ro mo bi f p hv sv ev
set_option maxRecDepth 100000 in
set_option maxHeartbeats 8000000 in
theorem begin_any {w : World} {nb : Nat} {id et ht msz mco mun inf bi bt hT hV hC apd ap0 : Int} {rd rnv cfv : Value} {pv cq le nf sd ref : Bool} {bd : ByteArray} {A1 A2 A3 A4 A5 : Option Addr} {m1 k1 m2 k2 m3 k3 m4 k4 m5 k5 : Nat} {V L : List Int} {l : List Ent} {D : List Int}
    (h : SinAt w nb ⟨⟨id, et, ht, rd, pv, cq, le, nf, sd, msz, mco, mun, inf, bd, bi, bt, .slice A1 m1 k1, .slice A2 m2 k2, .slice A3 m3 k3, .slice A4 m4 k4, false, .slice A5 m5 k5, hT, hV, hC, apd⟩, false, .pointer none, .pointer none, 0, .pointer none⟩) (h0 : 0 < id) (h1 : id < 4611686018427387904) (h2 : 0 < ht) (h3 : ht < et) (h3b : et < 1000000000) (h4 : 0 < mco) (h5 : 0 < inf) (h7 : msz ≤ 18446744073709551615) (h8 : le = true → cq = true)
    (b1 : Sl [nb] w (.slice A1 m1 k1) (U64s V)) (b2 : Sl [nb] w (.slice A2 m2 k2) (U64s L)) (b3 : Sl [nb] w (.slice A3 m3 k3) (U64s [])) (b4 : Sl [nb] w (.slice A4 m4 k4) (U64s [])) (hbd : bd.data.size ≤ 1000000000)
    (hlg : LogAt w (.slice A5 m5 k5) l) (hln : ∀ a, A5 = some a → a.block ≠ nb) (hll : l.length ≤ 1000) (hfl : Follows bi l) (hi0 : 0 < bi) (hi1 : bi < 4611686018427387904) (ht0 : 0 < hT) (hc0 : bi ≤ hC) (hc1 : hC ≤ bi + l.length)
    (ha : apd = 0 ∨ bi ≤ apd ∧ apd ≤ hC) (hn : (V ++ L).Nodup) (hV0 : V ≠ []) (hr : ∀ k ∈ V ++ L, 0 < k ∧ k < 2 ^ 64) (lV : V.length ≤ 12) (lL : L.length ≤ 12) (lK : (V ++ L).length ≤ 13)
    (hzd : Sl [nb] w rd (I64s D)) (hDl : D.length ≤ 1000) (hDn : ∀ x ∈ D, 0 ≤ x ∧ x < et) :
    Calls Tryz.prog 63 #[.pointer (some ⟨nb, 0, none⟩)] w (BegPost w nb ⟨id, et, ht, rd, pv, cq, le, nf, sd, msz, mco, mun, inf, bd, bi, bt, .slice A1 m1 k1, .slice A2 m2 k2, .slice A3 m3 k3, .slice A4 m4 k4, false, .slice A5 m5 k5, hT, hV, hC, apd⟩ V L l D) := by
  have H := Lib.hid h
  have n28 : w.cell? ⟨nb, 28, none⟩ = some (.pointer none) := SinAt.cell h 28 _ rfl
  have nf0 := Blk.frozen h
  have nlt := Blk.lt h
  have hM0 : ∀ x ∈ [nb], x < w.heap.size := by simpa using nlt
  have B1 := Lib.hid b1
  have B2 := Lib.hid b2
  have B3 := Lib.hid b3
  have B4 := Lib.hid b4
  have LG := Lib.hid hlg
  have LN := Lib.hid hln
  have FL := Lib.hid hfl
  have HA := Lib.hid ha
  have ND := Lib.hid hn
  have HR := Lib.hid hr
  have ZD := Lib.hid hzd
  have DN := Lib.hid hDn
  clear h b1 b2 b3 b4 hlg hln hfl ha hn hr hzd hDn
  go_enter Tryz.func63, Tryz.ntmps63
  go_wp2_with (first | (go_at_call 96; (with_reducible refine Calls.mono (newStorage_any [nb] w w hM0 (Chg.refl _ _)) ?_); rintro e1 w1 ⟨ms, sv0, ev0, rfl, hms0, hma1, hsn1, hc1', hn1⟩; have k28 := hn1.out.at0 n28; have kf := Blk.frozen (H.out.nxt hn1)))
  have nmb : ms ≠ nb := by omega
  have hq2 : Chg [nb] w1 (w1.setCell ⟨nb, 28, none⟩ (.pointer (some ⟨ms, 0, none⟩))) := (Chg.refl _ _).setCell (.inr (by simp)) _
  have hS2 : SinAt (w1.setCell ⟨nb, 28, none⟩ (.pointer (some ⟨ms, 0, none⟩))) nb ⟨⟨id, et, ht, rd, pv, cq, le, nf, sd, msz, mco, mun, inf, bd, bi, bt, .slice A1 m1 k1, .slice A2 m2 k2, .slice A3 m3 k3, .slice A4 m4 k4, false, .slice A5 m5 k5, hT, hV, hC, apd⟩, false, .pointer none, .pointer (some ⟨ms, 0, none⟩), 0, .pointer none⟩ := SinAt.set_ (H.out.nxt hn1) 28 _ _ rfl
  have hma2 := hma1.chg hq2 (by simpa using nmb)
  have hsn2 := SnapAt.chg (L := [nb]) hsn1 hq2 (by simp)
  have hw2 : Chg [nb] w (w1.setCell ⟨nb, 28, none⟩ (.pointer (some ⟨ms, 0, none⟩))) := (hn1.out.mono (by simp)).trans hq2
  generalize w1.setCell ⟨nb, 28, none⟩ (.pointer (some ⟨ms, 0, none⟩)) = w2 at hq2 hS2 hma2 hsn2 hw2 ⊢
  have hSA0 : (w2.drew).cell? ⟨nb, 13, none⟩ = some (.string bd) ∧ (w2.drew).cell? ⟨nb, 14, none⟩ = some (.int .u64 bi) ∧ (w2.drew).cell? ⟨nb, 15, none⟩ = some (.int .u64 bt) ∧ (w2.drew).cell? ⟨nb, 16, none⟩ = some (.slice A1 m1 k1) ∧ (w2.drew).cell? ⟨nb, 17, none⟩ = some (.slice A2 m2 k2) ∧ (w2.drew).cell? ⟨nb, 18, none⟩ = some (.slice A3 m3 k3) ∧ (w2.drew).cell? ⟨nb, 19, none⟩ = some (.slice A4 m4 k4) ∧ (w2.drew).cell? ⟨nb, 20, none⟩ = some (.bool false) ∧ (w2.drew).cell? ⟨nb, 21, none⟩ = some (.slice A5 m5 k5) ∧ (w2.drew).cell? ⟨nb, 22, none⟩ = some (.int .u64 hT) ∧ (w2.drew).cell? ⟨nb, 23, none⟩ = some (.int .u64 hV) ∧ (w2.drew).cell? ⟨nb, 24, none⟩ = some (.int .u64 hC) ∧ (w2.drew).cell? ⟨nb, 28, none⟩ = some (.pointer (some ⟨ms, 0, none⟩)) := sinHeld (Blk.drew hS2)
  have HSA0 := Lib.hid hSA0
  have HS2 := Lib.hid hS2
  have hd2 : Chg [] w2 w2.drew := (Chg.refl _ _).drew
  have hM2 : ∀ x ∈ ms :: [nb], x < w2.drew.heap.size := by
    have z1 := hma2.lt
    have z2 := Blk.lt hS2
    have z3 : w2.drew.heap.size = w2.heap.size := rfl
    intro x hx
    simp only [List.mem_cons, List.not_mem_nil, or_false] at hx
    rcases hx with rfl | rfl <;> omega
  have hmore : ∀ x ∈ ms :: [nb], x ∈ [nb] ∨ w.heap.size ≤ x := by
    intro x hx
    simp only [List.mem_cons, List.not_mem_nil, or_false] at hx
    rcases hx with rfl | rfl
    · exact .inr hms0
    · simp
  have hsub : ∀ x ∈ ([nb] : List Nat), x ∈ ms :: [nb] := by simp
  have hw2d : Chg [nb] w w2.drew := hw2.drew
  have SN := Lib.hid (snapTo_any (ms :: [nb]) w2.drew w2.drew bd bi bt (.slice A1 m1 k1) (.slice A2 m2 k2) (.slice A3 m3 k3) (.slice A4 m4 k4) ⟨V, L, [], [], false⟩ ((B1.out.more hmore).chg hw2d hsub) ((B2.out.more hmore).chg hw2d hsub) ((B3.out.more hmore).chg hw2d hsub) ((B4.out.more hmore).chg hw2d hsub) hM2 (by simp; omega) (by simp; omega) (by simp) (by simp) (Chg.refl _ _))
  have HMA2 := Lib.hid (hma2.chg hd2 (by simp))
  have HSN2 := Lib.hid (SnapAt.chg (L := []) hsn2 hd2 (by simp))
  have HW2 := Lib.hid hw2d
  have HMORE := Lib.hid hmore
  have HM2 := Lib.hid hM2
  clear hS2 hSA0 hma2 hsn2 hw2 hw2d hmore hM2 hsub hma1 hsn1 hc1' hn1 k28 kf hq2
  go_region_held3 (fun wx => (wx).cell? ⟨nb, 13, none⟩ = some (.string bd) ∧ (wx).cell? ⟨nb, 14, none⟩ = some (.int .u64 bi) ∧ (wx).cell? ⟨nb, 15, none⟩ = some (.int .u64 bt) ∧ (wx).cell? ⟨nb, 16, none⟩ = some (.slice A1 m1 k1) ∧ (wx).cell? ⟨nb, 17, none⟩ = some (.slice A2 m2 k2) ∧ (wx).cell? ⟨nb, 18, none⟩ = some (.slice A3 m3 k3) ∧ (wx).cell? ⟨nb, 19, none⟩ = some (.slice A4 m4 k4) ∧ (wx).cell? ⟨nb, 20, none⟩ = some (.bool false) ∧ (wx).cell? ⟨nb, 21, none⟩ = some (.slice A5 m5 k5) ∧ (wx).cell? ⟨nb, 22, none⟩ = some (.int .u64 hT) ∧ (wx).cell? ⟨nb, 23, none⟩ = some (.int .u64 hV) ∧ (wx).cell? ⟨nb, 24, none⟩ = some (.int .u64 hC) ∧ (wx).cell? ⟨nb, 28, none⟩ = some (.pointer (some ⟨ms, 0, none⟩)))
    (first | with_reducible exact HSA0.out | with_reducible assumption)
    (first | (go_at_call 98; (with_reducible refine Calls.mono SN.out ?_); rintro e1 w3 ⟨b3, rfl, hsp3, hc3, hn3⟩; have hS3 := (HS2.out.nxt ⟨hd2⟩).nxt hn3; have hSA1 := sinHeld hS3; have HSP3 := Lib.hid hsp3; have HN3 := Lib.hid hn3; clear hsp3 hc3 hn3 SN) | (go_at_call 97; (with_reducible refine Calls.mono (applySnap2_any (ms :: [nb]) w3 ms _ sv0 ev0 _ ByteArray.empty 0 0 cf0 bd bi bt ⟨V, L, [], [], false⟩ (HMA2.out.chg HN3.out.out (by simp)) (by simp) (SnapAt.chg (L := []) HSN2.out HN3.out.out (by simp)) HSP3.out (fun x hx => Nat.lt_of_lt_of_le (HM2.out x hx) HN3.out.out.size) hi0 hbd (by simp; omega) (by simp; omega) (by simp) (by simp)) ?_); rintro e1 w4 ⟨rfl, sv, ev4, hma4, hsp4, how4, hc4⟩; have hS4 := hS3.chg hc4 (by simpa using Ne.symm nmb); have hSA2 := sinHeld hS4; have HMA4 := Lib.hid hma4; have HSP4 := Lib.hid hsp4; have HOW4 := Lib.hid how4; have HC4 := Lib.hid hc4; clear hma4 hsp4 how4 hc4; have hw4 : Chg [nb] w w4 := (HW2.out.trans (HN3.out.out.mono (by simp))).then HC4.out (by simp; omega); have HW4 := Lib.hid hw4; have hlo4 := HOW4.out.lo; have hlg4 := LG.out.chg hw4 (fun a n c e0 => by cases e0; simpa using LN.out a rfl); have HE := Lib.hid (entriesTo_any (rowL ev4 ++ (ms :: [nb])) w4 w4 _ l hlg4 hll (fun x hx => by rcases List.mem_append.1 hx with q | q; exact (hlo4 x q).2; exact Nat.lt_of_lt_of_le (HM2.out x q) (Nat.le_trans HN3.out.out.size HC4.out.size)) (Chg.refl _ _)); clear hw4 hlo4 hlg4) | (go_at_call 100; (with_reducible refine Calls.mono HE.out ?_); rintro e1 w5 ⟨A, n, c, rfl, hes5, hc5, hn5⟩; have hS5 := hS4.nxt hn5; have hSA3 := sinHeld hS5; have HP := Lib.hid (msApp_any (base := w3.heap.size) (HMA4.out.chg hn5.out (by simp)) (by simp) (fun x hx => Nat.lt_of_lt_of_le (HM2.out x hx) HN3.out.out.size) (Nat.le_trans HC4.out.size hn5.out.size) (HOW4.out.nxt hn5) (Int.le_of_lt hi0) hi1 hes5 FL.out (by omega)); have HN5 := Lib.hid hn5; clear hes5 hc5 hn5 HE) | (go_at_call 99; (with_reducible refine Calls.mono HP.out ?_); rintro e1 w6 ⟨rfl, ev, hma6, how6, hc6⟩; have hrow : ∀ x ∈ ms :: rowL ev4, x ∉ [nb] := (fun x hx => by have z1 := HOW4.out.lo; have z2 := HN3.out.out.size; have z3 := HM2.out nb (by simp); simp only [List.mem_cons] at hx; rcases hx with rfl | hx; simpa using nmb; have := (z1 x hx).1; simp; omega); have hS6 := hS5.chg hc6 (fun hm => hrow nb hm (by simp)); have hSA4 := sinHeld hS6; have HMA6 := Lib.hid hma6; have HOW6 := Lib.hid how6; have HC6 := Lib.hid hc6; have hw6 : Chg [nb] w w6 := (HW4.out.trans (HN5.out.out.mono (by simp))).then hc6 (fun x hx hl => by have z1 := HOW4.out.lo; have z2 := HN3.out.out.size; have z3 := HW2.out.size; simp only [List.mem_cons] at hx; rcases hx with rfl | hx; omega; have := (z1 x hx).1; omega); have HW6 := Lib.hid hw6; have HH := Lib.hid (hardTo_any (ms :: [nb]) w6 w6 hT hV hC (fun x hx => Nat.lt_of_lt_of_le (HM2.out x hx) (Nat.le_trans (Nat.le_trans (Nat.le_trans HN3.out.out.size HC4.out.size) HN5.out.out.size) hc6.size)) (Chg.refl _ _)); clear hma6 how6 hc6 hw6 HP hrow) | (go_at_call 102; (with_reducible refine Calls.mono HH.out ?_); rintro e1 w7 ⟨b7, rfl, hh7, hc7, hn7⟩; have hS7 := hS6.nxt hn7; have hSA5 := sinHeld hS7; have HH7 := Lib.hid hh7; have HN7 := Lib.hid hn7; clear hh7 hc7 hn7 HH) | (go_at_call 101; (with_reducible refine Calls.mono (setHard_any w7 ms _ sv ev _ ⟨_, rfl⟩ (HMA6.out.chg HN7.out.out (by simp))) ?_); rintro e1 w8 ⟨rfl, hma8, hc8⟩; have hS8 := hS7.chg hc8 (by simpa using Ne.symm nmb); have hSA6 := sinHeld hS8; have HMA8 := Lib.hid hma8; have HC8 := Lib.hid hc8; clear hma8 hc8))
  have hw8 : Chg [nb] w w8 := (HW6.out.trans (HN7.out.out.mono (by simp))).then HC8.out (by simp; omega)
  have HW8 := Lib.hid hw8
  have HS8 := Lib.hid hS8
  have n30 : w8.cell? ⟨nb, 30, none⟩ = some (.pointer none) := SinAt.cell hS8 30 _ rfl
  have kf8 := Blk.frozen hS8
  have hsub : ∀ x ∈ ([nb] : List Nat), x ∈ ms :: [nb] := by simp
  have hM8 : ∀ x ∈ ms :: [nb], x < w8.heap.size := fun x hx => Nat.lt_of_lt_of_le (HM2.out x hx) (Nat.le_trans (Nat.le_trans (Nat.le_trans (Nat.le_trans (Nat.le_trans HN3.out.out.size HC4.out.size) HN5.out.out.size) HC6.out.size) HN7.out.out.size) HC8.out.size)
  have HM8 := Lib.hid hM8
  have CT := Lib.hid (confTo_from (ms :: [nb]) w8 w8 (.slice A1 m1 k1) (.slice A2 m2 k2) (.slice A3 m3 k3) (.slice A4 m4 k4) ⟨V, L, [], [], false⟩ ((B1.out.more HMORE.out).chg hw8 hsub) ((B2.out.more HMORE.out).chg hw8 hsub) ((B3.out.more HMORE.out).chg hw8 hsub) ((B4.out.more HMORE.out).chg hw8 hsub) hM8 (by simp; omega) (by simp; omega) (by simp) (by simp) (Chg.refl _ _))
  have hc38 : Chg (ms :: rowL ev4) w4 w8 := ((HN5.out.out.mono (by simp)).trans HC6.out).trans ((HN7.out.out.mono (by simp)).trans (HC8.out.mono (by simp)))
  have hsp8 : SnapAt (rowL ev4 ++ (ms :: [nb])) w8 sv bd bi bt ⟨V, L, [], [], false⟩ := HSP4.out.chg hc38 (by intro x hx; simp only [List.mem_cons] at hx; rcases hx with rfl | hx; simp; exact List.mem_append_left _ hx)
  have hent8 : EntsAt (ms :: [nb]) w8 ev (⟨bt, bi, ByteArray.empty⟩ :: l) := ((HOW6.out.at (fun x hx => Nat.lt_of_lt_of_le (HM2.out x hx) HN3.out.out.size)).chg HN7.out.out (by simp)).chg HC8.out (by simp)
  have hh8 : HardAt (ms :: [nb]) w8 (.pointer (some ⟨b7, 0, none⟩)) hT hV hC := HH7.out.chg HC8.out (by simp)
  have HSP8 := Lib.hid (hsp8.more (M' := ms :: [nb]) (fun x hx => .inl (List.mem_append_right _ hx)))
  have HENT8 := Lib.hid hent8
  have HH8 := Lib.hid hh8
  clear hS3 hS4 hS5 hS6 hS7 hS8 hSA1 hSA2 hSA3 hSA4 hSA5 hw8 hsub hM8 hc38 hsp8 hent8 hh8 HSP4 HOW4 HOW6 HH7 HMA2 HMA4 HMA6 HSN2 HSP3 HW4 HW6 HSA0
  go_wp2_with (first | (go_at_call 103; (with_reducible refine Calls.mono CT.out ?_); rintro e1 w9 ⟨b9, rfl, hcf9, hc9, hn9⟩; have q30 := hn9.out.at0 n30; have kf9 := Blk.frozen (HS8.out.nxt hn9); have HCF9 := Lib.hid hcf9; have HN9 := Lib.hid hn9; clear hcf9 hc9 hn9 CT n30 kf8))
  have hq10 : Chg [nb] w9 (w9.setCell ⟨nb, 30, none⟩ (.pointer (some ⟨b9, 0, none⟩))) := (Chg.refl _ _).setCell (.inr (by simp)) _
  have hS10 : SinAt (w9.setCell ⟨nb, 30, none⟩ (.pointer (some ⟨b9, 0, none⟩))) nb ⟨⟨id, et, ht, rd, pv, cq, le, nf, sd, msz, mco, mun, inf, bd, bi, bt, .slice A1 m1 k1, .slice A2 m2 k2, .slice A3 m3 k3, .slice A4 m4 k4, false, .slice A5 m5 k5, hT, hV, hC, apd⟩, false, .pointer none, .pointer (some ⟨ms, 0, none⟩), 0, .pointer (some ⟨b9, 0, none⟩)⟩ := SinAt.set_ (HS8.out.nxt HN9.out) 30 _ _ rfl
  have hc810 : Chg [nb] w8 (w9.setCell ⟨nb, 30, none⟩ (.pointer (some ⟨b9, 0, none⟩))) := (HN9.out.out.mono (by simp)).trans hq10
  have hcf10 : ConfAt (ms :: [nb]) (w9.setCell ⟨nb, 30, none⟩ (.pointer (some ⟨b9, 0, none⟩))) (.pointer (some ⟨b9, 0, none⟩)) V L [] [] false := ConfAt.chg HCF9.out hq10 (by simp)
  generalize w9.setCell ⟨nb, 30, none⟩ (.pointer (some ⟨b9, 0, none⟩)) = w10 at hq10 hS10 hc810 hcf10 ⊢
  have c14 : w10.cell? ⟨nb, 14, none⟩ = some (.int .u64 bi) := SinAt.cell hS10 14 _ rfl
  have c25 : w10.cell? ⟨nb, 25, none⟩ = some (.int .u64 apd) := SinAt.cell hS10 25 _ rfl
  have c29 : w10.cell? ⟨nb, 29, none⟩ = some (.int .u64 0) := SinAt.cell hS10 29 _ rfl
  have cf10 := Blk.frozen hS10
  have HS10 := Lib.hid hS10
  have HC810 := Lib.hid hc810
  have HCF10 := Lib.hid hcf10
  clear q30 kf9 HN9 HCF9 hq10 hS10 hc810 hcf10 HS8
  go_region
  have hq11 : Chg [nb] w10 (w10.setCell ⟨nb, 29, none⟩ (.int .u64 (max apd bi))).drew := ((Chg.refl _ _).setCell (.inr (by simp)) _).drew
  have hS11 : SinAt (w10.setCell ⟨nb, 29, none⟩ (.int .u64 (max apd bi))).drew nb ⟨⟨id, et, ht, rd, pv, cq, le, nf, sd, msz, mco, mun, inf, bd, bi, bt, .slice A1 m1 k1, .slice A2 m2 k2, .slice A3 m3 k3, .slice A4 m4 k4, false, .slice A5 m5 k5, hT, hV, hC, apd⟩, false, .pointer none, .pointer (some ⟨ms, 0, none⟩), max apd bi, .pointer (some ⟨b9, 0, none⟩)⟩ := Blk.drew (SinAt.set_ HS10.out 29 _ ⟨⟨id, et, ht, rd, pv, cq, le, nf, sd, msz, mco, mun, inf, bd, bi, bt, .slice A1 m1 k1, .slice A2 m2 k2, .slice A3 m3 k3, .slice A4 m4 k4, false, .slice A5 m5 k5, hT, hV, hC, apd⟩, false, .pointer none, .pointer (some ⟨ms, 0, none⟩), max apd bi, .pointer (some ⟨b9, 0, none⟩)⟩ rfl)
  generalize (w10.setCell ⟨nb, 29, none⟩ (.int .u64 (max apd bi))).drew = w11 at hq11 hS11 ⊢
  have hc811 : Chg [nb] w8 w11 := HC810.out.trans hq11
  have hw11 : Chg [nb] w w11 := HW8.out.trans hc811
  have hsub : ∀ x ∈ ([nb] : List Nat), x ∈ ms :: [nb] := by simp
  have hsp11 := SnapAt.chg HSP8.out hc811 hsub
  have hh11 := HardAt.chg HH8.out hc811 hsub
  have hst11 : StAt (ms :: [nb]) w11 ms (.pointer (some ⟨b7, 0, none⟩)) sv ev ⟨bt, bi, ByteArray.empty⟩ l := ⟨HMA8.out.chg hc811 (by simpa using nmb), by simp, HENT8.out.chg hc811 hsub, Int.le_of_lt hi0, hi1, by omega⟩
  have hcf11 : ConfAt (ms :: [nb]) w11 (.pointer (some ⟨b9, 0, none⟩)) V L [] [] false := ConfAt.chg HCF10.out hq11 hsub
  have hM11 : ∀ x ∈ ms :: [nb], x < w11.heap.size := fun x hx => Nat.lt_of_lt_of_le (HM8.out x hx) hc811.size
  have hzd11 : Sl (ms :: [nb]) w11 rd (I64s D) := (ZD.out.more HMORE.out).chg hw11 hsub
  have ST := Lib.hid (start_any (M := ms :: [nb]) (ap := apd) hS11 rfl h0 h1 h2 h3 h3b h4 h5 h7 h8 hst11 (by simp) hM11 hsp11 hh11 ht0 hc0 hc1 HA.out ND.out hV0 HR.out lV lL lK hzd11 hDl DN.out ⟨_, rfl⟩ ⟨_, _, _, rfl⟩ ⟨_, _, _, rfl⟩ ⟨_, _, _, rfl⟩ ⟨_, _, _, rfl⟩ ⟨_, _, _, rfl⟩)
  have c25' : w11.cell? ⟨nb, 25, none⟩ = some (.int .u64 apd) := SinAt.cell hS11 25 _ rfl
  have HST11 := Lib.hid hst11
  have HM11 := Lib.hid hM11
  have HZD11 := Lib.hid hzd11
  have HSP11 := Lib.hid hsp11
  have HH11 := Lib.hid hh11
  have HCF11 := Lib.hid hcf11
  have HW11 := Lib.hid hw11
  clear c14 c25 c29 cf10 hq11 hS11 hc811 hsub hsp11 hh11 hst11 hcf11 hM11 hzd11 hw11 HS10 HC810 HCF10
  go_wp2_with (first | (go_at_call 104; (with_reducible refine Calls.mono ST.out ?_); rintro e1 w12 ⟨rfl, cb, rn, ss, hs, rb, rl, bt', x0, x2, bv, ro, mo, bi', f, p, hrun, hS12, hrn12, hss12, hhs12, z1, z2, z3, z4, z5, hc12, hfr, nn, y0, y1, y2, y3, y4, hhn⟩; have HFR := Lib.hid hfr; have HPN := Lib.hid y1; have HHN := Lib.hid hhn; clear hfr y1 hhn; have HRUN := Lib.hid hrun; have HS12 := Lib.hid hS12; have HRN12 := Lib.hid hrn12; have HSS12 := Lib.hid hss12; have HHS12 := Lib.hid hhs12; have HC12 := Lib.hid hc12; clear hrun hS12 hrn12 hss12 hhs12 hc12))
  go_ret
  have hmo : ∀ x ∈ [nb, rn, rb, rl, ms], x ∈ ms :: [nb] ∨ w11.heap.size ≤ x := by
    intro x hx
    simp only [List.mem_cons, List.not_mem_nil, or_false] at hx
    rcases hx with rfl | rfl | rfl | rfl | rfl
    · simp
    · exact .inr z1
    · exact .inr z3
    · exact .inr z4
    · simp
  have hsb : ∀ x ∈ ([nb, ms] : List Nat), x ∈ [nb, rn, rb, rl, ms] := by simp
  have hlt11 : nb < w11.heap.size ∧ ms < w11.heap.size := ⟨HM11.out nb (by simp), HM11.out ms (by simp)⟩
  have hbig : BegBig w nb ⟨id, et, ht, rd, pv, cq, le, nf, sd, msz, mco, mun, inf, bd, bi, bt, .slice A1 m1 k1, .slice A2 m2 k2, .slice A3 m3 k3, .slice A4 m4 k4, false, .slice A5 m5 k5, hT, hV, hC, apd⟩ V L l D w12 ms b9 rn rb rl hs f p (.pointer (some ⟨b7, 0, none⟩)) sv ev w11.heap.size nn := by
    refine ⟨HW11.out.size, y0, ⟨z1, y2⟩, ⟨z3, y3⟩, ⟨z4, y4⟩, hlt11, fun k st hk => ⟨HFR.out k st hk, HPN.out k st hk⟩, HHN.out, fun M' h1 h2 h3 => ?_⟩
    have hmo' : ∀ x ∈ M', x ∈ ms :: [nb] ∨ w11.heap.size ≤ x := fun x hx => (h1 x hx).imp (fun h => by simp at h ⊢; exact h.symm) (fun h => h)
    have hsb' : ∀ x ∈ ([nb, ms] : List Nat), x ∈ M' := fun x hx => by
      simp only [List.mem_cons, List.not_mem_nil, or_false] at hx
      rcases hx with rfl | rfl
      · exact h2
      · exact h3
    exact ⟨HST11.out.grow hmo' h3 HRUN.out.ma HC12.out hsb', (HH11.out.more hmo').chg HC12.out hsb', (SnapAt.more HSP11.out hmo').chg HC12.out hsb', ConfAt.chg (ConfAt.more HCF11.out hmo') HC12.out hsb', (HZD11.out.more hmo').chg HC12.out hsb'⟩
  exact ⟨rfl, ms, b9, cb, rn, ss, hs, rb, rl, bt', x0, x2, bv, ro, mo, bi', f, p, .pointer (some ⟨b7, 0, none⟩), sv, ev, ⟨HS12.out, HRUN.out, HRN12.out, HSS12.out, HHS12.out, HST11.out.grow hmo (by simp) HRUN.out.ma HC12.out hsb, (HH11.out.more hmo).chg HC12.out hsb, (SnapAt.more HSP11.out hmo).chg HC12.out hsb, ConfAt.chg (ConfAt.more HCF11.out hmo) HC12.out hsb, HW11.out.then HC12.out (by simp; omega), ⟨Nat.le_trans HW11.out.size z1, Nat.le_trans HW11.out.size z3, Nat.le_trans HW11.out.size z4, by omega⟩, w11.heap.size, nn, hbig⟩⟩
end Go.Proofs.YtalhhplphlobbaaGreat
