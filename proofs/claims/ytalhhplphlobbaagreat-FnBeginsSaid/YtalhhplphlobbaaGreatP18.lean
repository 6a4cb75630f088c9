/- Words for begin: a log's slice is kept; Append behind the snapshot's place. Conditions: sizes. Does a setup fit: the law's first guard. Conditions: none but the shapes. Sizes of entries: zzVarint, ZzSize, entsSize, payloadSize, payloadsSize, limitSize. Conditions: bounds. -/
import Derived.Deep.DeepCutAuto
import Derived.Test.YtalhhplphlobbaaGreatP03
import Derived.Test.YtalhhplphlobbaaGreatP17
set_option linter.unusedVariables false
set_option linter.unusedSimpArgs false
namespace Go.Proofs.YtalhhplphlobbaaGreat
open Go.RowKit
theorem LogAt.chg {L : List Nat} {w w' : World} {v : Value} {l : List Ent} (h : LogAt w v l) (hc : Chg L w w') (hL : ∀ a n c, v = .slice (some a) n c → a.block ∉ L) : LogAt w' v l := by
  obtain ⟨A, n, c, rfl, h1, h2, h3, h4⟩ := h
  refine ⟨A, n, c, rfl, h1, h2, h3, fun b o s hA => ?_⟩
  obtain ⟨rfl, hb, hcs⟩ := h4 b o s hA
  subst hA
  have hn : b ∉ L := hL ⟨b, o, none⟩ n c rfl
  refine ⟨rfl, Nat.lt_of_lt_of_le hb hc.size, fun j e he => ?_⟩
  obtain ⟨k0, k1, k2, k3⟩ := hcs j e he
  exact ⟨hc.at_ k0 hn, hc.at_ k1 hn, hc.at_ k2 hn, hc.at_ k3 hn⟩
/-- The entries of a log that follows index i. -/
def Follows (i : Int) : List Ent → Prop
  | [] => True
  | x :: _ => x.i = i + 1
theorem msApp_any {M : List Nat} {w : World} {ms base : Nat} {hv sv ev v : Value} {e : Ent} {l : List Ent} (h : MsAt w ms hv sv ev) (hms : ms ∈ M) (hM : ∀ x ∈ M, x < base) (hbase : base ≤ w.heap.size) (he : OwnEnts M w base ev [e]) (h0 : 0 ≤ e.i) (h1 : e.i < 4611686018427387904)
    (hl0 : EntsAt (rowL ev ++ M) w v l) (hf : Follows e.i l) (hr : l.length < 1000000) :
    Calls Tryz.prog 99 #[.pointer (some ⟨ms, 0, none⟩), v] w fun y w' => y = .returned .nilIface ∧ ∃ ev', MsAt w' ms hv sv ev' ∧ OwnEnts M w' base ev' (e :: l) ∧ Chg (ms :: rowL ev) w w' := by
  rcases l with _ | ⟨x, r⟩
  · refine (msAppend_nil hl0).mono ?_
    rintro y w' ⟨rfl, rfl⟩
    exact ⟨rfl, ev, h, he, Chg.refl _ _⟩
  · obtain ⟨t1, i1, d1⟩ := x
    simp only [Follows] at hf
    subst hf
    exact msAppend_one h hms hM hbase he h0 h1 hl0 (by simp at hr; omega)
/-- The rows that came since a base lie from there on. -/
theorem OwnEnts.lo {M : List Nat} {w : World} {base : Nat} {v : Value} {l : List Ent} (h : OwnEnts M w base v l) : ∀ x ∈ rowL v, base ≤ x ∧ x < w.heap.size := by
  obtain ⟨ps, h1, _⟩ := h
  exact fun x hx => own_lt h1 hx
theorem OwnEnts.nxt {M : List Nat} {w w' : World} {base : Nat} {v : Value} {l : List Ent} (h : OwnEnts M w base v l) (hn : Nxt w w') : OwnEnts M w' base v l := by
  obtain ⟨ps, h1, h2⟩ := h
  exact ⟨ps, own_chg0 h1 hn.out, h2.chg hn.out (by simp)⟩
set_option maxRecDepth 100000 in
set_option maxHeartbeats 1000000 in
theorem applySnap2_any (M : List Nat) (w : World) (ms : Nat) (hv sv ev v : Value) (d0 : ByteArray) (i0 t0 : Int) (c0 : Cf) (d : ByteArray) (i t : Int) (c : Cf)
    (h : MsAt w ms hv sv ev) (hms : ms ∈ M) (h0 : SnapAt M w sv d0 i0 t0 c0) (h1 : SnapAt M w v d i t c) (hM : ∀ x ∈ M, x < w.heap.size) (hlt : i0 < i) (ld : d.data.size ≤ 1000000000)
    (l1 : c.vs.length ≤ 1000000000) (l2 : c.ls.length ≤ 1000000000) (l3 : c.os.length ≤ 1000000000) (l4 : c.ns.length ≤ 1000000000) :
    Calls Tryz.prog 97 #[.pointer (some ⟨ms, 0, none⟩), v] w fun e w' => e = .returned .nilIface ∧ ∃ sv' ev', MsAt w' ms hv sv' ev' ∧ SnapAt (rowL ev' ++ M) w' sv' d i t c ∧ OwnEnts M w' w.heap.size ev' [⟨t, i, ByteArray.empty⟩] ∧ Chg [ms] w w' := by
  obtain ⟨n0, n1, n2, n3, n4, n5, hb⟩ := h
  obtain ⟨bs, rfl⟩ := h0.form
  obtain ⟨bv, rfl⟩ := h1.form
  have f1 := hb.frozen 1
  have f2 := hb.frozen 2
  have k2 := hb.cell 2
  simp at k2
  have k1 := hb.cell 1
  simp at k1
  have hbl := hb.lt
  have hML : ∀ x ∈ [ms], x ∈ M := by simpa using hms
  by_cases hi0 : i0 = 0
  all_goals
    go_enter Tryz.func97, Tryz.ntmps97
    go_wp2_with (first | (go_at_call 148; (with_reducible refine Calls.mono (ensureSnap_any h1) ?_); rintro e w' ⟨rfl, rfl⟩) | (go_at_call 149; (with_reducible refine Calls.mono (snapMeta_any h0) ?_); rintro e w' ⟨bm, rfl, hm, rfl⟩) | (go_at_call 150; (with_reducible refine Calls.mono (metaIndex_any hm) ?_); rintro e w' ⟨rfl, rfl⟩) | (go_at_call 149; (with_reducible refine Calls.mono (snapMeta_any (SnapAt.chg h1 ?_ hML)) ?_); (focus (first | with_reducible assumption | ((repeat (first | with_reducible exact Chg.refl _ _ | with_reducible assumption | with_reducible refine Chg.drew ?_ | with_reducible refine Chg.alloc ?_ _ | with_reducible refine Chg.setCell ?_ (by simp) _ | with_reducible refine Chg.nxt ?_ (by assumption))); done))); rintro e w' ⟨bm1, rfl, hm1, rfl⟩) | (go_at_call 150; (with_reducible refine Calls.mono (metaIndex_any hm1) ?_); rintro e w' ⟨rfl, rfl⟩) | (go_at_call 152; (with_reducible refine Calls.mono (metaTerm_any hm1) ?_); rintro e w' ⟨rfl, rfl⟩) | (go_at_call 151; (with_reducible refine Calls.mono (snapClone_any M w _ _ d i t c h1 hM ld l1 l2 l3 l4 ?_) ?_); (focus (first | with_reducible assumption | ((repeat (first | with_reducible exact Chg.refl _ _ | with_reducible assumption | with_reducible refine Chg.drew ?_ | with_reducible refine Chg.alloc ?_ _ | with_reducible refine Chg.setCell ?_ (by simp) _ | with_reducible refine Chg.nxt ?_ (by assumption))); done))); rintro e w1 ⟨b3, rfl, hs3, hc3, hn3⟩; obtain ⟨qc3, qf3, qz3⟩ := hn3.rules; (try simp at qz3); obtain ⟨lms, _, _, _, _, _, _⟩ := lts (Nat.lt_of_lt_of_le hbl hn3.out.size)))
    go_ret
    have hq : ∀ x ∈ M, x < w1.heap.size := fun x hx => Nat.lt_of_lt_of_le (hM x hx) hn3.out.size
    have hb1 := (((((((hb.nxt hn3).set_ 1 (.pointer (some ⟨b3, 0, none⟩))).set_ 2 (.slice (some ⟨w1.heap.size + 3, 0, none⟩) 1 1)).alloc (.cells #[.int .u64 t] 22)).alloc (.cells #[.int .u64 i] 22)).alloc (.cells #[.pointer (some ⟨w1.heap.size, 0, none⟩), .pointer (some ⟨w1.heap.size + 1, 0, none⟩), .pointer none, .slice none 0 0] 242)).alloc (.cells #[.pointer (some ⟨w1.heap.size + 2, 0, none⟩)] 238))
    simp at hb1
    have hrow : ∀ (w5 : World) (x : Value), w5.heap.size = w1.heap.size + 3 → (w5.alloc (.cells #[x] 238)).ownsRow w.heap.size 238 1 (.slice (some ⟨w1.heap.size + 3, 0, none⟩) 1 1) 1 [x] := fun w5 x h5 =>
      ⟨rfl, .inr ⟨w1.heap.size + 3, 1, #[x], rfl, by omega, by have := heap_alloc_new w5 (.cells #[x] 238); rw [h5] at this; exact this, Nat.le_refl _, by simp [maxLen], rfl, rfl⟩⟩
    have hq2 : ∀ x ∈ rowL (.slice (some ⟨w1.heap.size + 3, 0, none⟩) 1 1) ++ M, x < w1.heap.size ∨ x = w1.heap.size + 3 := fun x hx => by
      rcases List.mem_append.1 hx with h | h
      · right; rw [mem_rowL] at h; simpa [Value.ownBlock] using h.symm
      · exact .inl (hq x h)
    refine ⟨rfl, .pointer (some ⟨b3, 0, none⟩), .slice (some ⟨w1.heap.size + 3, 0, none⟩) 1 1, ⟨_, _, _, _, _, _, hb1⟩, SnapAt.chg (L := [ms]) (SnapAt.more (M' := rowL (.slice (some ⟨w1.heap.size + 3, 0, none⟩) 1 1) ++ M) hs3 (fun x hx => by rcases List.mem_append.1 hx with q | q; rw [mem_rowL] at q; simp [Value.ownBlock] at q; omega; exact .inl q)) ?_ (fun x hx => List.mem_append_right _ (hML x hx)), ⟨[.pointer (some ⟨w1.heap.size + 2, 0, none⟩)], hrow _ _ (by first | go_size | (simp [go_sem]; done) | (simp [go_sem]; omega)), rfl, fun j e he => ?_⟩, ?_⟩
    · (focus (first | with_reducible assumption | ((repeat (first | with_reducible exact Chg.refl _ _ | with_reducible assumption | with_reducible refine Chg.drew ?_ | with_reducible refine Chg.alloc ?_ _ | with_reducible refine Chg.setCell ?_ (by simp) _ | with_reducible refine Chg.nxt ?_ (by assumption))); done)))
    · rcases j with _ | j
      · simp only [List.getElem?_cons_zero, Option.some.injEq] at he
        subst he
        exact ⟨_, rfl, ⟨w1.heap.size + 2, .pointer (some ⟨w1.heap.size, 0, none⟩), .pointer (some ⟨w1.heap.size + 1, 0, none⟩), .slice none 0 0, rfl, fun hm => by have := hq2 _ hm; omega, (by first | go_size | (simp [go_sem]; done) | (simp [go_sem]; omega)), (by first | go_cell | (simp [go_sem]; done) | (simp [go_sem]; rfl)), (by first | go_cell | (simp [go_sem]; done) | (simp [go_sem]; rfl)), (by first | go_cell | (simp [go_sem]; done) | (simp [go_sem]; rfl)), (by first | go_cell | (simp [go_sem]; done) | (simp [go_sem]; rfl)),
          ⟨w1.heap.size, 0, rfl, fun hm => by have := hq2 _ hm; omega, (by first | go_size | (simp [go_sem]; done) | (simp [go_sem]; omega)), (by first | go_cell | (simp [go_sem]; done) | (simp [go_sem]; rfl))⟩, ⟨w1.heap.size + 1, 0, rfl, fun hm => by have := hq2 _ hm; omega, (by first | go_size | (simp [go_sem]; done) | (simp [go_sem]; omega)), (by first | go_cell | (simp [go_sem]; done) | (simp [go_sem]; rfl))⟩, Sl.nil _ _⟩⟩
      · simp at he
    · (focus (first | with_reducible assumption | ((repeat (first | with_reducible exact Chg.refl _ _ | with_reducible assumption | with_reducible refine Chg.drew ?_ | with_reducible refine Chg.alloc ?_ _ | with_reducible refine Chg.setCell ?_ (by simp) _ | with_reducible refine Chg.nxt ?_ (by assumption))); done)))
end Go.Proofs.YtalhhplphlobbaaGreat
namespace Go.Proofs.YtalhhplphlobbaaGreat
open Go.RowKit
/-- An entry as the caller gives it: its kind is open. -/
structure EntK where
  t : Int
  i : Int
  k : Int
  d : ByteArray
def LogK (w : World) (v : Value) (l : List EntK) : Prop :=
  ∃ A n c, v = .slice A n c ∧ l.length = n ∧ n ≤ c ∧ (A = none → c = 0) ∧
    (∀ b o s, A = some ⟨b, o, s⟩ → s = none ∧ b < w.heap.size ∧ ∀ j e, l[j]? = some e → w.cell? ⟨b, o + j * 4, none⟩ = some (.int .u64 e.t) ∧ w.cell? ⟨b, o + j * 4 + 1, none⟩ = some (.int .u64 e.i) ∧
      w.cell? ⟨b, o + j * 4 + 2, none⟩ = some (.int .i64 e.k) ∧ w.cell? ⟨b, o + j * 4 + 3, none⟩ = some (.string e.d))
theorem LogK.nxt {w w' : World} {v : Value} {l : List EntK} (h : LogK w v l) (hn : Chg [] w w') : LogK w' v l := by
  obtain ⟨A, n, c, rfl, hl, hc, h0, ha⟩ := h
  refine ⟨A, n, c, rfl, hl, hc, h0, fun b o s e => ?_⟩
  obtain ⟨h1, h2, h3⟩ := ha b o s e
  exact ⟨h1, Nat.lt_of_lt_of_le h2 hn.size, fun j x hx => by
    obtain ⟨k1, k2, k3, k4⟩ := h3 j x hx
    exact ⟨hn.at0 k1, hn.at0 k2, hn.at0 k3, hn.at0 k4⟩⟩
theorem LogK.form {w : World} {v : Value} {l : List EntK} (h : LogK w v l) : ∃ A c, v = .slice A l.length c := by
  obtain ⟨A, n, c, rfl, rfl, _⟩ := h
  exact ⟨A, c, rfl⟩
theorem LogK.at_ {w : World} {A : Option Addr} {n c k : Nat} {l : List EntK} (h : LogK w (.slice A n c) l) (hk : k < n) : ∃ b o e, A = some ⟨b, o, none⟩ ∧ l[k]? = some e ∧ b < w.heap.size ∧
    w.cell? ⟨b, o + k * 4, none⟩ = some (.int .u64 e.t) ∧ w.cell? ⟨b, o + k * 4 + 1, none⟩ = some (.int .u64 e.i) ∧ w.cell? ⟨b, o + k * 4 + 2, none⟩ = some (.int .i64 e.k) ∧ w.cell? ⟨b, o + k * 4 + 3, none⟩ = some (.string e.d) := by
  obtain ⟨A', n', c', hv, hl, hc, h0, ha⟩ := h
  injection hv with e1 e2 e3
  subst e1 e2 e3
  rcases A with _ | ⟨b, o, s⟩
  · have := h0 rfl
    omega
  · obtain ⟨rfl, h2, h3⟩ := ha b o s rfl
    obtain ⟨k1, k2, k3, k4⟩ := h3 k l[k] (List.getElem?_eq_getElem (by omega))
    exact ⟨b, o, l[k], rfl, List.getElem?_eq_getElem (by omega), h2, k1, k2, k3, k4⟩
/-- A log whose kinds are all that of data. -/
theorem LogK.log {w : World} {v : Value} {l : List EntK} (h : LogK w v l) (hk : ∀ e ∈ l, e.k = 0) : LogAt w v (l.map fun e => ⟨e.t, e.i, e.d⟩) := by
  obtain ⟨A, n, c, rfl, hl, hc, h0, ha⟩ := h
  refine ⟨A, n, c, rfl, by simpa using hl, hc, h0, fun b o s e => ?_⟩
  obtain ⟨h1, h2, h3⟩ := ha b o s e
  refine ⟨h1, h2, fun j x hx => ?_⟩
  rw [List.getElem?_map] at hx
  cases hj : l[j]? with
  | none => rw [hj] at hx; cases hx
  | some e =>
    rw [hj] at hx
    injection hx with hx
    subst hx
    obtain ⟨k1, k2, k3, k4⟩ := h3 j e hj
    rw [hk e (List.mem_of_getElem? hj)] at k3
    exact ⟨k1, k2, k3, k4⟩
set_option maxRecDepth 100000 in
set_option maxHeartbeats 400000 in
theorem fits5_any (w : World) (t i k : Int) (d : ByteArray) : Calls Tryz.prog 94 #[.agg #[.int .u64 t, .int .u64 i, .int .i64 k, .string d]] w fun y w' => ∃ b, y = .returned (.bool b) ∧ Nxt w w' := by
  go_enter Tryz.func94, Tryz.ntmps94
  go_wp2
  all_goals (go_ret; exact ⟨_, rfl, ⟨(Chg.refl _ _).alloc _⟩⟩)
set_option maxRecDepth 100000 in
set_option maxHeartbeats 400000 in
theorem fits3_any (w : World) (A1 A2 A3 A4 : Option Addr) (n1 c1 n2 c2 n3 c3 n4 c4 : Nat) (b : Bool) : Calls Tryz.prog 68 #[.agg #[.slice A1 n1 c1, .slice A2 n2 c2, .slice A3 n3 c3, .slice A4 n4 c4, .bool b]] w fun y w' => ∃ b, y = .returned (.bool b) ∧ Nxt w w' := by
  go_enter Tryz.func68, Tryz.ntmps68
  go_wp2
  all_goals (go_ret; exact ⟨_, rfl, ⟨(Chg.refl _ _).alloc _⟩⟩)
set_option maxRecDepth 100000 in
set_option maxHeartbeats 400000 in
theorem fits2_any (w : World) (d : ByteArray) (i t : Int) (A1 A2 A3 A4 : Option Addr) (n1 c1 n2 c2 n3 c3 n4 c4 : Nat) (b : Bool) : Calls Tryz.prog 28 #[.agg #[.string d, .int .u64 i, .int .u64 t, .slice A1 n1 c1, .slice A2 n2 c2, .slice A3 n3 c3, .slice A4 n4 c4, .bool b]] w fun y w' => ∃ b, y = .returned (.bool b) ∧ Nxt w w' := by
  go_enter Tryz.func28, Tryz.ntmps28
  go_wp2_with (first | (go_at_call 68; (with_reducible refine Calls.mono (fits3_any _ _ _ _ _ _ _ _ _ _ _ _ _ _) ?_); rintro e w1 ⟨b1, rfl, hn1⟩; rcases b1))
  all_goals (go_ret; first | exact ⟨_, rfl, ⟨((Chg.refl _ _).alloc _).trans (Nxt.out (by assumption))⟩⟩ | exact ⟨_, rfl, ⟨(Chg.refl _ _).alloc _⟩⟩)
set_option maxRecDepth 100000 in
set_option maxHeartbeats 800000 in
theorem fits4_any (w : World) (v : Value) (l : List EntK) (h : LogK w v l) (hn : l.length < 2 ^ 62) : Calls Tryz.prog 59 #[v] w fun y w' => ∃ b, y = .returned (.bool b) ∧ Nxt w w' := by
  obtain ⟨A, c, rfl⟩ := h.form
  obtain ⟨n, hnn⟩ : ∃ n, n = l.length := ⟨_, rfl⟩
  rw [← hnn] at h hn ⊢
  have HS := Lib.hid h
  have HN := Lib.hid hnn
  clear h hnn
  go_enter Tryz.func59, Tryz.ntmps59
  go_wp2
  · go_ret
    exact ⟨_, rfl, ⟨Chg.refl _ _⟩⟩
  · go_loopw [10] (fun i wr => ∃ k : Nat, k ≤ n ∧ i = .int .i64 k ∧ Chg [] w wr) (fun i _ => n - (intOf i).toNat)
    case atStart => exact ⟨0, by omega, rfl, Chg.refl _ _⟩
    case round =>
      obtain ⟨k, hk, rfl, hcw⟩ := hrel
      by_cases hlt : k < n
      · obtain ⟨b, o, e, rfl, hp, hb, k1, k2, k3, k4⟩ := HS.out.at_ hlt
        have d1 := hcw.at0 k1
        have d2 := hcw.at0 k2
        have d3 := hcw.at0 k3
        have d4 := hcw.at0 k4
        have HCW := Lib.hid hcw
        clear k1 k2 k3 k4 hcw hp
        go_wp2_with (first | (go_at_call 94; (with_reducible refine Calls.mono (fits5_any _ _ _ _ _) ?_); rintro e w1 ⟨b1, rfl, hn1⟩; rcases b1))
        · go_ret
          exact ⟨_, rfl, ⟨(HCW.out.alloc _).trans hn1.out⟩⟩
        · exact ⟨⟨k + 1, by omega, by simp, (HCW.out.alloc _).trans hn1.out⟩, by simp [intOf]; omega⟩
      · go_wp2
        go_ret
        exact ⟨_, rfl, ⟨hcw⟩⟩
/-- What is known of any argument of the laws: the shapes, and the ranges of the numbers. -/
structure Arg (W : World) (s : SetS) (V L V2 L2 D : List Int) (l : List EntK) : Prop where
  rd : Sl [] W s.rd (I64s D)
  b1 : Sl [] W s.b1 (U64s V)
  b2 : Sl [] W s.b2 (U64s L)
  b3 : Sl [] W s.b3 (U64s V2)
  b4 : Sl [] W s.b4 (U64s L2)
  lg : LogK W s.lg l
  ll : l.length < 2 ^ 62
  id : 0 ≤ s.id ∧ s.id < 2 ^ 64
  et : -2 ^ 63 ≤ s.et ∧ s.et < 2 ^ 63
  ht : -2 ^ 63 ≤ s.ht ∧ s.ht < 2 ^ 63
  msz : 0 ≤ s.msz ∧ s.msz < 2 ^ 64
  mco : 0 ≤ s.mco ∧ s.mco < 2 ^ 64
  mun : 0 ≤ s.mun ∧ s.mun < 2 ^ 64
  inf : -2 ^ 63 ≤ s.inf ∧ s.inf < 2 ^ 63
  bi : 0 ≤ s.bi ∧ s.bi < 2 ^ 64
  bt : 0 ≤ s.bt ∧ s.bt < 2 ^ 64
  hT : 0 ≤ s.hT ∧ s.hT < 2 ^ 64
  hV : 0 ≤ s.hV ∧ s.hV < 2 ^ 64
  hC : 0 ≤ s.hC ∧ s.hC < 2 ^ 64
  apd : 0 ≤ s.apd ∧ s.apd < 2 ^ 64
  Dr : ∀ x ∈ D, -2 ^ 63 ≤ x ∧ x < 2 ^ 63
  Mr : ∀ x ∈ V ++ L ++ V2 ++ L2, 0 ≤ x ∧ x < 2 ^ 64
  lr : ∀ e ∈ l, (0 ≤ e.t ∧ e.t < 2 ^ 64) ∧ (0 ≤ e.i ∧ e.i < 2 ^ 64) ∧ (-2 ^ 63 ≤ e.k ∧ e.k < 2 ^ 63)
set_option maxRecDepth 100000 in
set_option maxHeartbeats 2000000 in
theorem fits_any {W w : World} {s : SetS} {V L V2 L2 D : List Int} {l : List EntK} (h : Arg W s V L V2 L2 D l) (hn : Chg [] W w) : Calls Tryz.prog 15 #[.agg s.list.toArray] w fun y w' => ∃ b, y = .returned (.bool b) ∧ Nxt w w' := by
  obtain ⟨A0, m0, k0, e0⟩ := h.rd.form
  obtain ⟨A1, m1, k1, e1⟩ := h.b1.form
  obtain ⟨A2, m2, k2, e2⟩ := h.b2.form
  obtain ⟨A3, m3, k3, e3⟩ := h.b3.form
  obtain ⟨A4, m4, k4, e4⟩ := h.b4.form
  obtain ⟨A5, k5, e5⟩ := h.lg.form
  have hl := h.ll
  have HL := Lib.hid (h.lg.nxt hn)
  clear h hn
  obtain ⟨id, et, ht, rd, pv, cq, le, nf, sd, msz, mco, mun, inf, bd, bi, bt, b1, b2, b3, b4, bal, lg, hT, hV, hC, apd⟩ := s
  simp only at e0 e1 e2 e3 e4 e5 HL
  subst e0 e1 e2 e3 e4 e5
  obtain ⟨n, hnn⟩ : ∃ n, n = l.length := ⟨_, rfl⟩
  rw [← hnn] at HL ⊢
  have HN := Lib.hid hnn
  clear hnn
  obtain ⟨SL, hSL⟩ : ∃ SL, SL = SetS.list ⟨id, et, ht, .slice A0 m0 k0, pv, cq, le, nf, sd, msz, mco, mun, inf, bd, bi, bt, .slice A1 m1 k1, .slice A2 m2 k2, .slice A3 m3 k3, .slice A4 m4 k4, bal, .slice A5 n k5, hT, hV, hC, apd⟩ := ⟨_, rfl⟩
  rw [← hSL]
  have HSL := Lib.hid hSL
  clear hSL
  have hb0 := Blk.new w 33 SL.toArray
  go_enter Tryz.func15, Tryz.ntmps15
  go_upto_region 1 with fail
  have hX : Chg [] w (w.alloc (.cells SL.toArray 33)) := (Chg.refl _ _).alloc _
  generalize w.alloc (.cells SL.toArray 33) = X at hb0 hX ⊢
  obtain ⟨b, hb⟩ : ∃ b, b = w.heap.size := ⟨_, rfl⟩
  rw [← hb] at hb0 ⊢
  rw [HSL.out] at hb0
  clear hb
  have c3 : X.cell? ⟨b, 3, none⟩ = some (.slice A0 m0 k0) := hb0.cell 3
  have c13 : X.cell? ⟨b, 13, none⟩ = some (.string bd) := hb0.cell 13
  have c14 : X.cell? ⟨b, 14, none⟩ = some (.int .u64 bi) := hb0.cell 14
  have c15 : X.cell? ⟨b, 15, none⟩ = some (.int .u64 bt) := hb0.cell 15
  have c16 : X.cell? ⟨b, 16, none⟩ = some (.slice A1 m1 k1) := hb0.cell 16
  have c17 : X.cell? ⟨b, 17, none⟩ = some (.slice A2 m2 k2) := hb0.cell 17
  have c18 : X.cell? ⟨b, 18, none⟩ = some (.slice A3 m3 k3) := hb0.cell 18
  have c19 : X.cell? ⟨b, 19, none⟩ = some (.slice A4 m4 k4) := hb0.cell 19
  have c20 : X.cell? ⟨b, 20, none⟩ = some (.bool bal) := hb0.cell 20
  have c21 : X.cell? ⟨b, 21, none⟩ = some (.slice A5 n k5) := hb0.cell 21
  have HX := Lib.hid hX
  clear hb0 hX
  go_wp2_with (first | (go_at_call 28; (with_reducible refine Calls.mono (fits2_any _ _ _ _ _ _ _ _ _ _ _ _ _ _ _ _ _) ?_); rintro e w1 ⟨b1, rfl, hn1⟩; have c21' := hn1.out.at0 c21; rcases b1) | (go_at_call 59; (with_reducible refine Calls.mono (fits4_any _ _ l (HL.out.nxt (HX.out.trans (Nxt.out (by assumption)))) (by have := HN.out; omega)) ?_); rintro e w2 ⟨b2, rfl, hn2⟩; rcases b2))
  · go_ret
    exact ⟨_, rfl, ⟨HX.out⟩⟩
  · go_ret
    exact ⟨_, rfl, ⟨HX.out.trans hn1.out⟩⟩
  all_goals (go_ret; exact ⟨_, rfl, ⟨(HX.out.trans (Nxt.out (by assumption))).trans hn2.out⟩⟩)
end Go.Proofs.YtalhhplphlobbaaGreat
namespace Go.Proofs.YtalhhplphlobbaaGreat
open Go.RowKit
theorem vz_step {k x : Nat} (h : x * 128 ^ k < 2 ^ 64) (hx : 128 ≤ x) : k + 1 ≤ 9 ∧ x / 128 * 128 ^ (k + 1) < 2 ^ 64 := by
  have h2 : x / 128 * 128 ^ (k + 1) ≤ x * 128 ^ k := by
    rw [Nat.pow_succ, Nat.mul_comm (128 ^ k) 128, ← Nat.mul_assoc]
    exact Nat.mul_le_mul_right _ (Nat.div_mul_le_self x 128)
  refine ⟨?_, by omega⟩
  rcases Nat.lt_or_ge k 9 with h1 | h1
  · omega
  · exfalso
    have h3 : 128 ^ 9 ≤ 128 ^ k := Nat.pow_le_pow_right (by omega) h1
    have h4 : 128 * 128 ^ 9 ≤ x * 128 ^ k := Nat.mul_le_mul hx h3
    have h5 : (2 : Nat) ^ 64 ≤ 128 * 128 ^ 9 := by decide
    omega
/-- How many bytes a number takes. -/
def vsz (x : Nat) : Nat := if x < 128 then 1 else vsz (x / 128) + 1
theorem vsz_small {x : Nat} (h : x < 128) : vsz x = 1 := by rw [vsz, if_pos h]
theorem vsz_big {x : Nat} (h : 128 ≤ x) : vsz x = vsz (x / 128) + 1 := by rw [vsz, if_neg (by omega)]
theorem vsz_pos (x : Nat) : 1 ≤ vsz x := by
  rcases Nat.lt_or_ge x 128 with h | h
  · rw [vsz_small h]; omega
  · rw [vsz_big h]; omega
theorem vsz_le {k x : Nat} (h : x * 128 ^ k < 2 ^ 64) (hk : k ≤ 9) : vsz x + k ≤ 10 := by
  induction x using Nat.strongRecOn generalizing k with
  | _ x ih =>
    rcases Nat.lt_or_ge x 128 with h1 | h1
    · rw [vsz_small h1]; omega
    · obtain ⟨h2, h3⟩ := vz_step h h1
      have := ih (x / 128) (by omega) h3 h2
      rw [vsz_big h1]; omega
set_option maxRecDepth 100000 in
set_option maxHeartbeats 1000000 in
theorem varint_any (x : Nat) (w : World) (hx : x < 2 ^ 64) : Calls Tryz.prog 354 #[.int .u64 x] w fun y w' => y = .returned (.int .i64 (vsz x)) ∧ w = w' := by
  go_enter Tryz.func354, Tryz.ntmps354
  go_wp2
  go_loop [0, 3] (fun n s => ∃ k z : Nat, k + vsz z = vsz x ∧ k ≤ 9 ∧ z * 128 ^ k < 2 ^ 64 ∧ n = .int .u64 z ∧ s = .int .i64 (k + 1 : Nat)) (fun n _ => (intOf n).toNat)
  case atStart => exact ⟨0, x, by omega, by omega, by omega, rfl, rfl⟩
  case round =>
    obtain ⟨k, z, hv, hk, hz, rfl, rfl⟩ := hrel
    have hz64 : z < 2 ^ 64 := Nat.lt_of_le_of_lt (Nat.le_mul_of_pos_right z (Nat.pow_pos (by omega))) hz
    by_cases h : 128 ≤ z
    · obtain ⟨h1, h2⟩ := vz_step hz h
      rw [vsz_big h] at hv
      have HZ := Lib.hid h2
      have HV := Lib.hid hv
      have b1 : (128 : Int) ≤ z := by omega
      clear hz h2 hv
      go_wp2
      exact ⟨⟨k + 1, z / 128, by have := HV.out; omega, h1, HZ.out, by simp, by simp⟩, by simp [intOf]; omega⟩
    · rw [vsz_small (by omega)] at hv
      have HV := Lib.hid hv
      have b1 : ¬ (128 : Int) ≤ z := by omega
      clear hz hv
      go_wp2
      go_ret
      refine ⟨?_, rfl⟩
      rw [← HV.out]
      rfl
theorem varint_q (x : Nat) (w : World) (n : Nat) (hx : x < 2 ^ 64) : Calls Tryz.prog 354 #[.int .u64 x] (w.drewN n) fun y w'' => y = .returned (.int .i64 (vsz x)) ∧ ∃ m, w'' = w.drewN m :=
  Calls.quiet_of_same ((varint_any x _ hx).mono fun _ _ ⟨he, hw⟩ => ⟨he, hw.symm⟩)
/-- An entry's numbers and its text are within bounds. -/
def Ent.fits (e : Ent) : Prop := 0 ≤ e.t ∧ e.t < 2 ^ 63 ∧ 0 ≤ e.i ∧ e.i < 2 ^ 63 ∧ e.d.size ≤ 1000000
/-- The size of an entry's written form: its text counts if its slice is not nil. -/
def esz (t i n : Nat) (has : Bool) : Nat := 1 + vsz t + (1 + vsz i) + (if has then 1 + vsz n + n else 0)
/-- An entry has a size. -/
def EntSz (w : World) (v : Value) (s : Nat) : Prop := ∃ (b b1 o1 b2 o2 t i n c : Nat) (A : Option Addr), v = .pointer (some ⟨b, 0, none⟩) ∧ w.cell? ⟨b, 0, none⟩ = some (.pointer (some ⟨b1, o1, none⟩)) ∧ w.cell? ⟨b, 1, none⟩ = some (.pointer (some ⟨b2, o2, none⟩)) ∧ w.cell? ⟨b, 2, none⟩ = some (.pointer none) ∧ w.cell? ⟨b, 3, none⟩ = some (.slice A n c) ∧
  w.cell? ⟨b1, o1, none⟩ = some (.int .u64 t) ∧ w.cell? ⟨b2, o2, none⟩ = some (.int .u64 i) ∧ (A = none → n = 0 ∧ c = 0) ∧ t < 2 ^ 63 ∧ i < 2 ^ 63 ∧ n ≤ 1000000 ∧ s = esz t i n A.isSome
theorem EntAt.sz {M : List Nat} {w : World} {v : Value} {e : Ent} (h : EntAt M w v e.t e.i e.d) (hf : e.fits) : ∃ s : Nat, EntSz w v s ∧ s ≤ e.d.size + 40 := by
  obtain ⟨b, p1, p2, sd, rfl, hb, hl, c1, c2, c3, c4, ⟨b1, o1, rfl, hb1, hl1, hc1⟩, ⟨b2, o2, rfl, hb2, hl2, hc2⟩, h3⟩ := h
  obtain ⟨A, n, c, rfl, hn, hnc, hA0, hA⟩ := h3
  obtain ⟨f1, f2, f3, f4, f5⟩ := hf
  obtain ⟨t, ht⟩ := Int.eq_ofNat_of_zero_le f1
  obtain ⟨i, hi⟩ := Int.eq_ofNat_of_zero_le f3
  have hn' : n = e.d.size := by rw [← hn]; unfold Bs; rw [List.length_map, Array.length_toList]; rfl
  rw [ht] at hc1 f2
  rw [hi] at hc2 f4
  refine ⟨_, ⟨b, b1, o1, b2, o2, t, i, n, c, A, rfl, c1, c2, c3, c4, hc1, hc2, fun h => ⟨by have := hA0 h; omega, hA0 h⟩, by omega, by omega, by omega, rfl⟩, ?_⟩
  have v1 := vsz_le (k := 0) (x := t) (by omega) (by omega)
  have v2 := vsz_le (k := 0) (x := i) (by omega) (by omega)
  have v3 := vsz_le (k := 0) (x := n) (by omega) (by omega)
  unfold esz
  split <;> omega
theorem EntSz.keep {w w' : World} {v : Value} {s : Nat} (h : EntSz w v s) (hk : ∀ b o x, w.cell? ⟨b, o, none⟩ = some x → w'.cell? ⟨b, o, none⟩ = some x) : EntSz w' v s := by
  obtain ⟨b, b1, o1, b2, o2, t, i, n, c, A, rfl, c1, c2, c3, c4, hc1, hc2, hr⟩ := h
  exact ⟨b, b1, o1, b2, o2, t, i, n, c, A, rfl, hk _ _ _ c1, hk _ _ _ c2, hk _ _ _ c3, hk _ _ _ c4, hk _ _ _ hc1, hk _ _ _ hc2, hr⟩
theorem EntSz.chg0 {w w' : World} {v : Value} {s : Nat} (h : EntSz w v s) (hc : Chg [] w w') : EntSz w' v s := h.keep fun _ _ _ hx => hc.at0 hx
set_option maxRecDepth 100000 in
set_option maxHeartbeats 1000000 in
theorem entSize_any {w : World} {v : Value} {s : Nat} (h : EntSz w v s) : Calls Tryz.prog 288 #[v] w fun y w' => y = .returned (.int .i64 s) ∧ ∃ m, w' = w.drewN m := by
  obtain ⟨b, b1, o1, b2, o2, t, i, n, c, A, rfl, c1, c2, c3, c4, hc1, hc2, hA0, t0, i0, n2, hs⟩ := h
  have t1 : t < 2 ^ 64 := by omega
  have i1 : i < 2 ^ 64 := by omega
  have n1 : n < 2 ^ 64 := by omega
  have v1 := vsz_le (k := 0) (x := t) (by omega) (by omega)
  have v2 := vsz_le (k := 0) (x := i) (by omega) (by omega)
  have v3 := vsz_le (k := 0) (x := n) (by omega) (by omega)
  have HS := Lib.hid hs
  clear hs t0 i0
  rcases A with _ | A
  · obtain ⟨rfl, rfl⟩ := hA0 rfl
    clear hA0
    go_enter Tryz.func288, Tryz.ntmps288
    go_wp2_with (first | (go_at_call 354; (with_reducible refine Calls.mono (varint_any t _ t1) ?_); rintro e w' ⟨rfl, rfl⟩) | (go_at_call 354; (with_reducible refine Calls.mono (varint_any i _ i1) ?_); rintro e w' ⟨rfl, rfl⟩))
    go_ret
    refine ⟨?_, 0, rfl⟩
    show Ending.returned (.int .i64 _) = _
    rw [HS.out]
    simp [esz]
  · clear hA0
    go_enter Tryz.func288, Tryz.ntmps288
    go_wp2_with (first | (go_at_call 354; (with_reducible refine Calls.mono (varint_any t _ t1) ?_); rintro e w' ⟨rfl, rfl⟩) | (go_at_call 354; (with_reducible refine Calls.mono (varint_any i _ i1) ?_); rintro e w' ⟨rfl, rfl⟩))
    go_quiet ((go_at_call 354; exact varint_q n _ _ n1))
    go_wp2
    go_ret
    refine ⟨?_, _, rfl⟩
    rw [HS.out]
    simp [esz]
theorem entSize_nxt {W w : World} {v : Value} {s : Nat} (h : EntSz W v s) (hc : Chg [] W w) : Calls Tryz.prog 288 #[v] w fun y w' => y = .returned (.int .i64 s) ∧ Chg [] W w' := by
  refine (entSize_any (h.chg0 hc)).mono ?_
  rintro y w' ⟨rfl, m, rfl⟩
  exact ⟨rfl, hc.drewN _⟩
/-- The entries of a row have sizes. -/
def Szs (w : World) (ps : List Value) (ss : List Nat) : Prop := ps.length = ss.length ∧ ∀ (j : Nat) p s, ps[j]? = some p → ss[j]? = some s → EntSz w p s
theorem Szs.chg0 {w w' : World} {ps : List Value} {ss : List Nat} (h : Szs w ps ss) (hc : Chg [] w w') : Szs w' ps ss := ⟨h.1, fun j p s h1 h2 => (h.2 j p s h1 h2).chg0 hc⟩
theorem Ents.szs {M : List Nat} {w : World} {ps : List Value} {l : List Ent} (h : Ents M w ps l) (hf : ∀ e ∈ l, e.fits) {D : Nat} (hD : ∀ e ∈ l, e.d.size ≤ D) : ∃ ss, Szs w ps ss ∧ ss.sum ≤ l.length * (D + 40) ∧ ∀ x ∈ ss, x ≤ D + 40 := by
  induction l generalizing ps with
  | nil =>
    have : ps = [] := List.eq_nil_of_length_eq_zero h.1
    subst this
    exact ⟨[], ⟨rfl, fun j p s h => by simp at h⟩, by simp, by simp⟩
  | cons e l ih =>
    obtain ⟨hl, hk⟩ := h
    rcases ps with _ | ⟨p, ps⟩
    · simp at hl
    · obtain ⟨q, hq, he⟩ := hk 0 e rfl
      simp only [List.getElem?_cons_zero, Option.some.injEq] at hq
      subst hq
      obtain ⟨s, hs, hb⟩ := he.sz (hf e (by simp))
      obtain ⟨ss, h1, h2, h3⟩ := ih (ps := ps) ⟨by simpa using hl, fun j e' hj => hk (j + 1) e' (by simpa using hj)⟩ (fun x hx => hf x (by simp [hx])) (fun x hx => hD x (by simp [hx]))
      have hd := hD e (by simp)
      refine ⟨s :: ss, ⟨by simp [h1.1], fun j q s' hj hs' => ?_⟩, ?_, ?_⟩
      · rcases j with _ | j
        · simp at hj hs'; subst hj; subst hs'; exact hs
        · exact h1.2 j q s' (by simpa using hj) (by simpa using hs')
      · simp only [List.sum_cons, List.length_cons, Nat.add_mul]; omega
      · intro x hx
        rcases List.mem_cons.1 hx with rfl | hx
        · omega
        · exact h3 x hx
theorem take_sum {ss : List Nat} {k : Nat} (h : k < ss.length) : (ss.take (k + 1)).sum = (ss.take k).sum + ss[k] := by
  rw [List.take_succ_eq_append_getElem h, List.sum_append]; simp
theorem take_le (ss : List Nat) (k : Nat) : (ss.take k).sum ≤ ss.sum := by
  have := congrArg List.sum (List.take_append_drop k ss)
  rw [List.sum_append] at this
  omega
theorem sl_at {M : List Nat} {w : World} {A : Option Addr} {n c : Nat} {xs : List Value} (h : Sl M w (.slice A n c) xs) {k : Nat} (hk : k < n) : ∃ b o p, A = some ⟨b, o, none⟩ ∧ xs[k]? = some p ∧ w.cell? ⟨b, o + k, none⟩ = some p ∧ b < w.heap.size := by
  obtain ⟨A', n', c', he, hl, hc, h0, ha⟩ := h
  injection he with h1 h2 h3
  subst h1; subst h2; subst h3
  rcases A with _ | ⟨b, o, s⟩
  · have := h0 rfl
    omega
  · obtain ⟨rfl, _, hlt, hx⟩ := ha b o s rfl
    have hg : xs[k]? = some xs[k] := List.getElem?_eq_getElem (by omega)
    exact ⟨b, o, xs[k], rfl, hg, hx k _ hg, hlt⟩
theorem sl_len {M : List Nat} {w : World} {A : Option Addr} {n c : Nat} {xs : List Value} (h : Sl M w (.slice A n c) xs) : xs.length = n ∧ n ≤ c ∧ (A = none → c = 0) := by
  obtain ⟨A', n', c', he, hl, hc, h0, ha⟩ := h
  injection he with h1 h2 h3
  subst h1; subst h2; subst h3
  exact ⟨hl, hc, h0⟩
set_option maxRecDepth 100000 in
set_option maxHeartbeats 1000000 in
theorem entsSize_any {M : List Nat} {w : World} {v : Value} {ps : List Value} {ss : List Nat} (h : Sl M w v ps) (hz : Szs w ps ss) (hb : ss.sum < 2 ^ 62) (hl : ps.length < 2 ^ 62) : Calls Tryz.prog 226 #[v] w fun y w' => y = .returned (.int .u64 ss.sum) ∧ Nxt w w' := by
  obtain ⟨A, n, c, rfl⟩ := h.form
  obtain ⟨g1, g2, g3⟩ := sl_len h
  have g4 := hz.1
  have HS := Lib.hid h
  have HZ := Lib.hid hz
  have HG := Lib.hid (show ss.length = n by omega)
  have n1 : n < 2 ^ 62 := by omega
  clear h hz g1 g3 g4 hl
  go_enter Tryz.func226, Tryz.ntmps226
  go_wp2
  go_loopw [3, 8] (fun s i wr => ∃ k : Nat, k ≤ n ∧ i = .int .i64 k ∧ s = .int .u64 ((ss.take k).sum : Nat) ∧ Chg [] w wr) (fun _ i _ => n - (intOf i).toNat)
  case atStart => exact ⟨0, by omega, rfl, by simp, Chg.refl _ _⟩
  case round =>
    obtain ⟨k, hk, rfl, rfl, hcw⟩ := hrel
    have ht := take_le ss k
    by_cases hlt : k < n
    · obtain ⟨b, o, p, rfl, hp, hcell, _⟩ := sl_at HS.out hlt
      have hks : k < ss.length := by have := HG.out; omega
      have hE := HZ.out.2 k p ss[k] hp (List.getElem?_eq_getElem hks)
      have d1 := hcw.at0 hcell
      have i1 : (0 : Int) ≤ k ∧ (k : Int) < n := by omega
      have hts := take_sum hks
      have htl := take_le ss (k + 1)
      rw [hts] at htl
      obtain ⟨sk, hsk⟩ : ∃ sk, sk = ss[k] := ⟨_, rfl⟩
      rw [← hsk] at hE htl hts
      obtain ⟨T, hT⟩ : ∃ T, T = (ss.take k).sum := ⟨_, rfl⟩
      rw [← hT] at ht htl hts ⊢
      have HT := Lib.hid hts
      have HCW := Lib.hid hcw
      have HE := Lib.hid hE
      clear hp hts hsk hT hcell hcw hE
      go_wp2_with (first | (go_at_call 288; (with_reducible refine Calls.mono (entSize_nxt HE.out HCW.out) ?_); rintro e w' ⟨rfl, hc2⟩; have HC2 := Lib.hid hc2; clear hc2))
      exact ⟨⟨k + 1, by omega, by simp, by rw [HT.out]; simp, HC2.out⟩, by simp [intOf]; omega⟩
    · have hkn : k = n := by omega
      subst hkn
      go_wp2
      go_ret
      refine ⟨?_, ⟨hcw⟩⟩
      show Ending.returned (.int .u64 _) = _
      rw [List.take_of_length_le (by have := HG.out; omega)]
set_option maxRecDepth 100000 in
set_option maxHeartbeats 1000000 in
/-- limitSize where all fits. -/
theorem limit_any {M : List Nat} {w : World} {A : Option Addr} {n c : Nat} {ps : List Value} {ss : List Nat} {mx : Int} (h : Sl M w (.slice A n c) ps) (hz : Szs w ps ss) (hb : (ss.sum : Int) ≤ mx) (hm : mx < 2 ^ 64) (hs62 : ss.sum < 2 ^ 62) (hl : ps.length < 2 ^ 62) : Calls Tryz.prog 320 #[.slice A n c, .int .u64 mx] w fun y w' => y = .returned (.slice A n c) ∧ Nxt w w' := by
  obtain ⟨g1, g2, g3⟩ := sl_len h
  have g4 := hz.1
  have HS := Lib.hid h
  have HZ := Lib.hid hz
  have HG := Lib.hid (show ss.length = n by omega)
  have n1 : n < 2 ^ 62 := by omega
  clear h hz g1 g3 g4 hl
  by_cases hn0 : n = 0
  · subst hn0
    go_enter Tryz.func320, Tryz.ntmps320
    go_wp2
    go_ret
    exact ⟨rfl, ⟨Chg.refl _ _⟩⟩
  · have i0 : (0 : Int) < n := by omega
    have hn0' : ¬ (n : Int) = 0 := by omega
    obtain ⟨b, o, p, rfl, hp, hcell, _⟩ := sl_at HS.out (show 0 < n by omega)
    have hks : 0 < ss.length := by have := HG.out; omega
    have hE := HZ.out.2 0 p ss[0] hp (List.getElem?_eq_getElem hks)
    have hts := take_sum hks
    have htl := take_le ss (0 + 1)
    rw [hts] at htl
    simp at hts htl
    obtain ⟨sk, hsk⟩ : ∃ sk, sk = ss[0] := ⟨_, rfl⟩
    rw [← hsk] at hE htl hts
    have HT := Lib.hid hts
    have HE := Lib.hid hE
    rw [Nat.add_zero] at hcell
    clear hts hE hsk hp hks
    go_enter Tryz.func320, Tryz.ntmps320
    go_wp2_with (first | (go_at_call 288; (with_reducible refine Calls.mono (entSize_nxt HE.out (Chg.refl _ _)) ?_); rintro e w' ⟨rfl, hc2⟩; have HC2 := Lib.hid hc2; clear hc2))
    go_loopw [5, 6] (fun s i wr => ∃ k : Nat, 1 ≤ k ∧ k ≤ n ∧ i = .int .i64 k ∧ s = .int .u64 ((ss.take k).sum : Nat) ∧ Chg [] w wr) (fun _ i _ => n - (intOf i).toNat)
    case atStart => exact ⟨1, by omega, by omega, rfl, by rw [HT.out], HC2.out⟩
    case round =>
      obtain ⟨k, hk1, hk, rfl, rfl, hcw⟩ := hrel
      have ht := take_le ss k
      clear HE HT HC2 htl hcell
      by_cases hlt : k < n
      · obtain ⟨b', o', p, hAe, hp, hcell, _⟩ := sl_at HS.out hlt
        simp only [Option.some.injEq, Addr.mk.injEq] at hAe
        obtain ⟨rfl, rfl, _⟩ := hAe
        have hks : k < ss.length := by have := HG.out; omega
        have hE := HZ.out.2 k p ss[k] hp (List.getElem?_eq_getElem hks)
        have d1 := hcw.at0 hcell
        have i1 : (0 : Int) ≤ k ∧ (k : Int) < n := by omega
        have hts := take_sum hks
        have htl := take_le ss (k + 1)
        rw [hts] at htl
        obtain ⟨sk, hsk⟩ : ∃ sk, sk = ss[k] := ⟨_, rfl⟩
        rw [← hsk] at hE htl hts
        obtain ⟨T, hT⟩ : ∃ T, T = (ss.take k).sum := ⟨_, rfl⟩
        rw [← hT] at ht htl hts ⊢
        have hmx : ¬ mx < (T : Int) + sk := by omega
        have HT := Lib.hid hts
        have HCW := Lib.hid hcw
        have HE := Lib.hid hE
        clear hp hts hsk hT hcell hcw hE
        go_wp2_with (first | (go_at_call 288; (with_reducible refine Calls.mono (entSize_nxt HE.out HCW.out) ?_); rintro e w' ⟨rfl, hc2⟩; have HC2 := Lib.hid hc2; clear hc2))
        exact ⟨⟨k + 1, by omega, by omega, by simp, by rw [HT.out]; simp, HC2.out⟩, by simp [intOf]; omega⟩
      · have hkn : k = n := by omega
        subst hkn
        go_wp2
        go_ret
        exact ⟨rfl, ⟨hcw⟩⟩
set_option maxRecDepth 100000 in
set_option maxHeartbeats 1000000 in
theorem paySize_any {M : List Nat} {w : World} {v : Value} {i t : Int} {d : ByteArray} (h : EntAt M w v t i d) (hd : d.size ≤ 1000000) : Calls Tryz.prog 289 #[v] w fun y w' => y = .returned (.int .u64 d.size) ∧ w = w' := by
  have H := Lib.hid h
  obtain ⟨b, hb⟩ : ∃ b, v = .pointer (some ⟨b, 0, none⟩) := by obtain ⟨b, _, _, _, rfl, _⟩ := h; exact ⟨b, rfl⟩
  subst hb
  clear h
  go_enter Tryz.func289, Tryz.ntmps289
  go_wp2_with (first | (go_at_call 243; (with_reducible refine Calls.mono (entData_any H.out) ?_); rintro e w' ⟨A, n, c, rfl, hs, rfl⟩; obtain ⟨g1, g2, g3⟩ := sl_len hs; have hn' : n = d.size := by rw [← g1]; unfold Bs; rw [List.length_map, Array.length_toList]; rfl); obtain rfl := hn'; clear g1 g3 hs)
  go_ret
  exact ⟨rfl, rfl⟩
theorem pays_le {l : List Ent} {D : Nat} (hD : ∀ e ∈ l, e.d.size ≤ D) (k : Nat) : ((l.take k).map (·.d.size)).sum ≤ k * D := by
  induction l generalizing k with
  | nil => simp
  | cons e l ih =>
    rcases k with _ | k
    · simp
    · have h1 := hD e (by simp)
      have h2 := ih (fun x hx => hD x (by simp [hx])) k
      simp only [List.take_succ_cons, List.map_cons, List.sum_cons, Nat.add_mul]; omega
theorem pays_step {l : List Ent} {k : Nat} {e : Ent} (h : l[k]? = some e) : ((l.take (k + 1)).map (·.d.size)).sum = ((l.take k).map (·.d.size)).sum + e.d.size := by
  have hk : k < l.length := by
    rcases Nat.lt_or_ge k l.length with h1 | h1
    · exact h1
    · rw [List.getElem?_eq_none h1] at h; cases h
  rw [List.getElem?_eq_getElem hk] at h
  injection h with h
  rw [List.take_succ_eq_append_getElem hk, List.map_append, List.sum_append, h]; simp
set_option maxRecDepth 100000 in
set_option maxHeartbeats 1000000 in
theorem paysSize_any {M : List Nat} {w : World} {v : Value} {l : List Ent} (h : EntsAt M w v l) (hD : ∀ e ∈ l, e.d.size ≤ 1000000) (hl : l.length ≤ 1000000) : Calls Tryz.prog 228 #[v] w fun y w' => y = .returned (.int .u64 ((l.map (·.d.size)).sum : Nat)) ∧ Nxt w w' := by
  obtain ⟨ps, hs, hz⟩ := h
  obtain ⟨A, n, c, rfl⟩ := hs.form
  obtain ⟨g1, g2, g3⟩ := sl_len hs
  have g4 := hz.1
  have HS := Lib.hid hs
  have HZ := Lib.hid hz
  have HG := Lib.hid (show l.length = n by omega)
  have n1 : n ≤ 1000000 := by omega
  clear hs hz g1 g3 g4 hl
  go_enter Tryz.func228, Tryz.ntmps228
  go_wp2
  go_loopw [3, 8] (fun s i wr => ∃ k : Nat, k ≤ n ∧ i = .int .i64 k ∧ s = .int .u64 (((l.take k).map (·.d.size)).sum : Nat) ∧ Chg [] w wr) (fun _ i _ => n - (intOf i).toNat)
  case atStart => exact ⟨0, by omega, rfl, by simp, Chg.refl _ _⟩
  case round =>
    obtain ⟨k, hk, rfl, rfl, hcw⟩ := hrel
    have ht := pays_le hD k
    by_cases hlt : k < n
    · obtain ⟨b, o, p, rfl, hp, hcell, _⟩ := sl_at HS.out hlt
      have hks : k < l.length := by have := HG.out; omega
      obtain ⟨q, hq, hE⟩ := HZ.out.2 k l[k] (List.getElem?_eq_getElem hks)
      rw [hp] at hq
      injection hq with hq
      subst hq
      have d1 := hcw.at0 hcell
      have i1 : (0 : Int) ≤ k ∧ (k : Int) < n := by omega
      have hts := pays_step (List.getElem?_eq_getElem hks)
      have hd := hD l[k] (List.getElem_mem hks)
      obtain ⟨x, hx⟩ : ∃ x, x = l[k] := ⟨_, rfl⟩
      rw [← hx] at hE hts hd
      obtain ⟨T, hT⟩ : ∃ T, T = ((l.take k).map (·.d.size)).sum := ⟨_, rfl⟩
      rw [← hT] at ht hts ⊢
      have hE2 := EntAt.chg (L := []) hE hcw (by simp)
      have ht2 : T + x.d.size ≤ 2000000000000 := by have : k * 1000000 ≤ 1000000 * 1000000 := Nat.mul_le_mul (by omega) (Nat.le_refl _); omega
      obtain ⟨z, hz⟩ : ∃ z, z = x.d.size := ⟨_, rfl⟩
      rw [← hz] at hts ht2
      have HT := Lib.hid hts
      have HCW := Lib.hid hcw
      have HE := Lib.hid hE2
      have HD := Lib.hid hd
      have HZZ := Lib.hid hz
      clear hp hts hT hcell hcw hE hE2 hd hz hx ht
      go_wp2_with (first | (go_at_call 289; (with_reducible refine Calls.mono (paySize_any HE.out HD.out) ?_); rw [← HZZ.out]; rintro e w' ⟨rfl, rfl⟩))
      exact ⟨⟨k + 1, by omega, by simp, by rw [HT.out]; simp, HCW.out⟩, by simp [intOf]; omega⟩
    · have hkn : k = n := by omega
      subst hkn
      go_wp2
      go_ret
      refine ⟨?_, ⟨hcw⟩⟩
      show Ending.returned (.int .u64 _) = _
      rw [List.take_of_length_le (by have := HG.out; omega)]
end Go.Proofs.YtalhhplphlobbaaGreat
