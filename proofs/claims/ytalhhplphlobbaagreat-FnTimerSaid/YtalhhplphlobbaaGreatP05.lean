/- Sizes of entries: zzVarint, ZzSize, entsSize, payloadSize, payloadsSize, limitSize. Conditions: bounds. The raft log over a storage, nothing unstable: newLogWithSize, firstIndex, lastIndex, term, lastEntryID. Conditions: sizes. -/
import Derived.Test.YtalhhplphlobbaaGreatP04
set_option linter.unusedVariables false
set_option linter.unusedSimpArgs false
namespace Go.Proofs.YtalhhplphlobbaaGreat
open Go.RowKit
theorem vz_step {k x : Nat} (h : x * 128 ^ k < 2 ^ 64) (hx : 128 ≤ x) : k + 1 ≤ 9 ∧ x / 128 * 128 ^ (k + 1) < 2 ^ 64 := by
  have h2 : x / 128 * 128 ^ (k + 1) ≤ x * 128 ^ k := by
    rw [Nat.pow_succ, Nat.mul_comm (128 ^ k) 128, ← Nat.mul_assoc]
    exact Nat.mul_le_mul_right _ (Nat.div_mul_le_self x 128)
  refine ⟨?_, by omega⟩
  rcases Nat.lt_or_ge k 9 with h1 | h1
  · omega
  · exfalso
    have h3 : 128 ^ 9 ≤ 128 ^ k := Nat.pow_le_pow_right (by omega) h1
    have h4 : 128 * 128 ^ 9 ≤ x * 128 ^ k := Nat.mul_le_mul hx h3
    have h5 : (2 : Nat) ^ 64 ≤ 128 * 128 ^ 9 := by decide
    omega
/-- How many bytes a number takes. -/
def vsz (x : Nat) : Nat := if x < 128 then 1 else vsz (x / 128) + 1
theorem vsz_small {x : Nat} (h : x < 128) : vsz x = 1 := by rw [vsz, if_pos h]
theorem vsz_big {x : Nat} (h : 128 ≤ x) : vsz x = vsz (x / 128) + 1 := by rw [vsz, if_neg (by omega)]
theorem vsz_pos (x : Nat) : 1 ≤ vsz x := by
  rcases Nat.lt_or_ge x 128 with h | h
  · rw [vsz_small h]; omega
  · rw [vsz_big h]; omega
theorem vsz_le {k x : Nat} (h : x * 128 ^ k < 2 ^ 64) (hk : k ≤ 9) : vsz x + k ≤ 10 := by
  induction x using Nat.strongRecOn generalizing k with
  | _ x ih =>
    rcases Nat.lt_or_ge x 128 with h1 | h1
    · rw [vsz_small h1]; omega
    · obtain ⟨h2, h3⟩ := vz_step h h1
      have := ih (x / 128) (by omega) h3 h2
      rw [vsz_big h1]; omega
set_option maxRecDepth 100000 in
set_option maxHeartbeats 1000000 in
theorem varint_any (x : Nat) (w : World) (hx : x < 2 ^ 64) : Calls Tryz.prog 354 #[.int .u64 x] w fun y w' => y = .returned (.int .i64 (vsz x)) ∧ w = w' := by
  go_enter Tryz.func354, Tryz.ntmps354
  go_wp2
  go_loop [0, 3] (fun n s => ∃ k z : Nat, k + vsz z = vsz x ∧ k ≤ 9 ∧ z * 128 ^ k < 2 ^ 64 ∧ n = .int .u64 z ∧ s = .int .i64 (k + 1 : Nat)) (fun n _ => (intOf n).toNat)
  case atStart => exact ⟨0, x, by omega, by omega, by omega, rfl, rfl⟩
  case round =>
    obtain ⟨k, z, hv, hk, hz, rfl, rfl⟩ := hrel
    have hz64 : z < 2 ^ 64 := Nat.lt_of_le_of_lt (Nat.le_mul_of_pos_right z (Nat.pow_pos (by omega))) hz
    by_cases h : 128 ≤ z
    · obtain ⟨h1, h2⟩ := vz_step hz h
      rw [vsz_big h] at hv
      have HZ := Lib.hid h2
      have HV := Lib.hid hv
      have b1 : (128 : Int) ≤ z := by omega
      clear hz h2 hv
      go_wp2
      exact ⟨⟨k + 1, z / 128, by have := HV.out; omega, h1, HZ.out, by simp, by simp⟩, by simp [intOf]; omega⟩
    · rw [vsz_small (by omega)] at hv
      have HV := Lib.hid hv
      have b1 : ¬ (128 : Int) ≤ z := by omega
      clear hz hv
      go_wp2
      go_ret
      refine ⟨?_, rfl⟩
      rw [← HV.out]
      rfl
theorem varint_q (x : Nat) (w : World) (n : Nat) (hx : x < 2 ^ 64) : Calls Tryz.prog 354 #[.int .u64 x] (w.drewN n) fun y w'' => y = .returned (.int .i64 (vsz x)) ∧ ∃ m, w'' = w.drewN m :=
  Calls.quiet_of_same ((varint_any x _ hx).mono fun _ _ ⟨he, hw⟩ => ⟨he, hw.symm⟩)
/-- An entry's numbers and its text are within bounds. -/
def Ent.fits (e : Ent) : Prop := 0 ≤ e.t ∧ e.t < 2 ^ 63 ∧ 0 ≤ e.i ∧ e.i < 2 ^ 63 ∧ e.d.size ≤ 1000000
/-- The size of an entry's written form: its text counts if its slice is not nil. -/
def esz (t i n : Nat) (has : Bool) : Nat := 1 + vsz t + (1 + vsz i) + (if has then 1 + vsz n + n else 0)
/-- An entry has a size. -/
def EntSz (w : World) (v : Value) (s : Nat) : Prop := ∃ (b b1 o1 b2 o2 t i n c : Nat) (A : Option Addr), v = .pointer (some ⟨b, 0, none⟩) ∧ w.cell? ⟨b, 0, none⟩ = some (.pointer (some ⟨b1, o1, none⟩)) ∧ w.cell? ⟨b, 1, none⟩ = some (.pointer (some ⟨b2, o2, none⟩)) ∧ w.cell? ⟨b, 2, none⟩ = some (.pointer none) ∧ w.cell? ⟨b, 3, none⟩ = some (.slice A n c) ∧
  w.cell? ⟨b1, o1, none⟩ = some (.int .u64 t) ∧ w.cell? ⟨b2, o2, none⟩ = some (.int .u64 i) ∧ (A = none → n = 0 ∧ c = 0) ∧ t < 2 ^ 63 ∧ i < 2 ^ 63 ∧ n ≤ 1000000 ∧ s = esz t i n A.isSome
theorem EntAt.sz {M : List Nat} {w : World} {v : Value} {e : Ent} (h : EntAt M w v e.t e.i e.d) (hf : e.fits) : ∃ s : Nat, EntSz w v s ∧ s ≤ e.d.size + 40 := by
  obtain ⟨b, p1, p2, sd, rfl, hb, hl, c1, c2, c3, c4, ⟨b1, o1, rfl, hb1, hl1, hc1⟩, ⟨b2, o2, rfl, hb2, hl2, hc2⟩, h3⟩ := h
  obtain ⟨A, n, c, rfl, hn, hnc, hA0, hA⟩ := h3
  obtain ⟨f1, f2, f3, f4, f5⟩ := hf
  obtain ⟨t, ht⟩ := Int.eq_ofNat_of_zero_le f1
  obtain ⟨i, hi⟩ := Int.eq_ofNat_of_zero_le f3
  have hn' : n = e.d.size := by rw [← hn]; unfold Bs; rw [List.length_map, Array.length_toList]; rfl
  rw [ht] at hc1 f2
  rw [hi] at hc2 f4
  refine ⟨_, ⟨b, b1, o1, b2, o2, t, i, n, c, A, rfl, c1, c2, c3, c4, hc1, hc2, fun h => ⟨by have := hA0 h; omega, hA0 h⟩, by omega, by omega, by omega, rfl⟩, ?_⟩
  have v1 := vsz_le (k := 0) (x := t) (by omega) (by omega)
  have v2 := vsz_le (k := 0) (x := i) (by omega) (by omega)
  have v3 := vsz_le (k := 0) (x := n) (by omega) (by omega)
  unfold esz
  split <;> omega
theorem EntSz.keep {w w' : World} {v : Value} {s : Nat} (h : EntSz w v s) (hk : ∀ b o x, w.cell? ⟨b, o, none⟩ = some x → w'.cell? ⟨b, o, none⟩ = some x) : EntSz w' v s := by
  obtain ⟨b, b1, o1, b2, o2, t, i, n, c, A, rfl, c1, c2, c3, c4, hc1, hc2, hr⟩ := h
  exact ⟨b, b1, o1, b2, o2, t, i, n, c, A, rfl, hk _ _ _ c1, hk _ _ _ c2, hk _ _ _ c3, hk _ _ _ c4, hk _ _ _ hc1, hk _ _ _ hc2, hr⟩
theorem EntSz.chg0 {w w' : World} {v : Value} {s : Nat} (h : EntSz w v s) (hc : Chg [] w w') : EntSz w' v s := h.keep fun _ _ _ hx => hc.at0 hx
set_option maxRecDepth 100000 in
set_option maxHeartbeats 1000000 in
theorem entSize_any {w : World} {v : Value} {s : Nat} (h : EntSz w v s) : Calls Tryz.prog 288 #[v] w fun y w' => y = .returned (.int .i64 s) ∧ ∃ m, w' = w.drewN m := by
  obtain ⟨b, b1, o1, b2, o2, t, i, n, c, A, rfl, c1, c2, c3, c4, hc1, hc2, hA0, t0, i0, n2, hs⟩ := h
  have t1 : t < 2 ^ 64 := by omega
  have i1 : i < 2 ^ 64 := by omega
  have n1 : n < 2 ^ 64 := by omega
  have v1 := vsz_le (k := 0) (x := t) (by omega) (by omega)
  have v2 := vsz_le (k := 0) (x := i) (by omega) (by omega)
  have v3 := vsz_le (k := 0) (x := n) (by omega) (by omega)
  have HS := Lib.hid hs
  clear hs t0 i0
  rcases A with _ | A
  · obtain ⟨rfl, rfl⟩ := hA0 rfl
    clear hA0
    go_enter Tryz.func288, Tryz.ntmps288
    go_wp2_with (first | (go_at_call 354; (with_reducible refine Calls.mono (varint_any t _ t1) ?_); rintro e w' ⟨rfl, rfl⟩) | (go_at_call 354; (with_reducible refine Calls.mono (varint_any i _ i1) ?_); rintro e w' ⟨rfl, rfl⟩))
    go_ret
    refine ⟨?_, 0, rfl⟩
    show Ending.returned (.int .i64 _) = _
    rw [HS.out]
    simp [esz]
  · clear hA0
    go_enter Tryz.func288, Tryz.ntmps288
    go_wp2_with (first | (go_at_call 354; (with_reducible refine Calls.mono (varint_any t _ t1) ?_); rintro e w' ⟨rfl, rfl⟩) | (go_at_call 354; (with_reducible refine Calls.mono (varint_any i _ i1) ?_); rintro e w' ⟨rfl, rfl⟩))
    go_quiet ((go_at_call 354; exact varint_q n _ _ n1))
    go_wp2
    go_ret
    refine ⟨?_, _, rfl⟩
    rw [HS.out]
    simp [esz]
theorem entSize_nxt {W w : World} {v : Value} {s : Nat} (h : EntSz W v s) (hc : Chg [] W w) : Calls Tryz.prog 288 #[v] w fun y w' => y = .returned (.int .i64 s) ∧ Chg [] W w' := by
  refine (entSize_any (h.chg0 hc)).mono ?_
  rintro y w' ⟨rfl, m, rfl⟩
  exact ⟨rfl, hc.drewN _⟩
/-- The entries of a row have sizes. -/
def Szs (w : World) (ps : List Value) (ss : List Nat) : Prop := ps.length = ss.length ∧ ∀ (j : Nat) p s, ps[j]? = some p → ss[j]? = some s → EntSz w p s
theorem Szs.chg0 {w w' : World} {ps : List Value} {ss : List Nat} (h : Szs w ps ss) (hc : Chg [] w w') : Szs w' ps ss := ⟨h.1, fun j p s h1 h2 => (h.2 j p s h1 h2).chg0 hc⟩
theorem Ents.szs {M : List Nat} {w : World} {ps : List Value} {l : List Ent} (h : Ents M w ps l) (hf : ∀ e ∈ l, e.fits) {D : Nat} (hD : ∀ e ∈ l, e.d.size ≤ D) : ∃ ss, Szs w ps ss ∧ ss.sum ≤ l.length * (D + 40) ∧ ∀ x ∈ ss, x ≤ D + 40 := by
  induction l generalizing ps with
  | nil =>
    have : ps = [] := List.eq_nil_of_length_eq_zero h.1
    subst this
    exact ⟨[], ⟨rfl, fun j p s h => by simp at h⟩, by simp, by simp⟩
  | cons e l ih =>
    obtain ⟨hl, hk⟩ := h
    rcases ps with _ | ⟨p, ps⟩
    · simp at hl
    · obtain ⟨q, hq, he⟩ := hk 0 e rfl
      simp only [List.getElem?_cons_zero, Option.some.injEq] at hq
      subst hq
      obtain ⟨s, hs, hb⟩ := he.sz (hf e (by simp))
      obtain ⟨ss, h1, h2, h3⟩ := ih (ps := ps) ⟨by simpa using hl, fun j e' hj => hk (j + 1) e' (by simpa using hj)⟩ (fun x hx => hf x (by simp [hx])) (fun x hx => hD x (by simp [hx]))
      have hd := hD e (by simp)
      refine ⟨s :: ss, ⟨by simp [h1.1], fun j q s' hj hs' => ?_⟩, ?_, ?_⟩
      · rcases j with _ | j
        · simp at hj hs'; subst hj; subst hs'; exact hs
        · exact h1.2 j q s' (by simpa using hj) (by simpa using hs')
      · simp only [List.sum_cons, List.length_cons, Nat.add_mul]; omega
      · intro x hx
        rcases List.mem_cons.1 hx with rfl | hx
        · omega
        · exact h3 x hx
theorem take_sum {ss : List Nat} {k : Nat} (h : k < ss.length) : (ss.take (k + 1)).sum = (ss.take k).sum + ss[k] := by
  rw [List.take_succ_eq_append_getElem h, List.sum_append]; simp
theorem take_le (ss : List Nat) (k : Nat) : (ss.take k).sum ≤ ss.sum := by
  have := congrArg List.sum (List.take_append_drop k ss)
  rw [List.sum_append] at this
  omega
theorem sl_at {M : List Nat} {w : World} {A : Option Addr} {n c : Nat} {xs : List Value} (h : Sl M w (.slice A n c) xs) {k : Nat} (hk : k < n) : ∃ b o p, A = some ⟨b, o, none⟩ ∧ xs[k]? = some p ∧ w.cell? ⟨b, o + k, none⟩ = some p ∧ b < w.heap.size := by
  obtain ⟨A', n', c', he, hl, hc, h0, ha⟩ := h
  injection he with h1 h2 h3
  subst h1; subst h2; subst h3
  rcases A with _ | ⟨b, o, s⟩
  · have := h0 rfl
    omega
  · obtain ⟨rfl, _, hlt, hx⟩ := ha b o s rfl
    have hg : xs[k]? = some xs[k] := List.getElem?_eq_getElem (by omega)
    exact ⟨b, o, xs[k], rfl, hg, hx k _ hg, hlt⟩
theorem sl_len {M : List Nat} {w : World} {A : Option Addr} {n c : Nat} {xs : List Value} (h : Sl M w (.slice A n c) xs) : xs.length = n ∧ n ≤ c ∧ (A = none → c = 0) := by
  obtain ⟨A', n', c', he, hl, hc, h0, ha⟩ := h
  injection he with h1 h2 h3
  subst h1; subst h2; subst h3
  exact ⟨hl, hc, h0⟩
set_option maxRecDepth 100000 in
set_option maxHeartbeats 1000000 in
theorem entsSize_any {M : List Nat} {w : World} {v : Value} {ps : List Value} {ss : List Nat} (h : Sl M w v ps) (hz : Szs w ps ss) (hb : ss.sum < 2 ^ 62) (hl : ps.length < 2 ^ 62) : Calls Tryz.prog 226 #[v] w fun y w' => y = .returned (.int .u64 ss.sum) ∧ Nxt w w' := by
  obtain ⟨A, n, c, rfl⟩ := h.form
  obtain ⟨g1, g2, g3⟩ := sl_len h
  have g4 := hz.1
  have HS := Lib.hid h
  have HZ := Lib.hid hz
  have HG := Lib.hid (show ss.length = n by omega)
  have n1 : n < 2 ^ 62 := by omega
  clear h hz g1 g3 g4 hl
  go_enter Tryz.func226, Tryz.ntmps226
  go_wp2
  go_loopw [3, 8] (fun s i wr => ∃ k : Nat, k ≤ n ∧ i = .int .i64 k ∧ s = .int .u64 ((ss.take k).sum : Nat) ∧ Chg [] w wr) (fun _ i _ => n - (intOf i).toNat)
  case atStart => exact ⟨0, by omega, rfl, by simp, Chg.refl _ _⟩
  case round =>
    obtain ⟨k, hk, rfl, rfl, hcw⟩ := hrel
    have ht := take_le ss k
    by_cases hlt : k < n
    · obtain ⟨b, o, p, rfl, hp, hcell, _⟩ := sl_at HS.out hlt
      have hks : k < ss.length := by have := HG.out; omega
      have hE := HZ.out.2 k p ss[k] hp (List.getElem?_eq_getElem hks)
      have d1 := hcw.at0 hcell
      have i1 : (0 : Int) ≤ k ∧ (k : Int) < n := by omega
      have hts := take_sum hks
      have htl := take_le ss (k + 1)
      rw [hts] at htl
      obtain ⟨sk, hsk⟩ : ∃ sk, sk = ss[k] := ⟨_, rfl⟩
      rw [← hsk] at hE htl hts
      obtain ⟨T, hT⟩ : ∃ T, T = (ss.take k).sum := ⟨_, rfl⟩
      rw [← hT] at ht htl hts ⊢
      have HT := Lib.hid hts
      have HCW := Lib.hid hcw
      have HE := Lib.hid hE
      clear hp hts hsk hT hcell hcw hE
      go_wp2_with (first | (go_at_call 288; (with_reducible refine Calls.mono (entSize_nxt HE.out HCW.out) ?_); rintro e w' ⟨rfl, hc2⟩; have HC2 := Lib.hid hc2; clear hc2))
      exact ⟨⟨k + 1, by omega, by simp, by rw [HT.out]; simp, HC2.out⟩, by simp [intOf]; omega⟩
    · have hkn : k = n := by omega
      subst hkn
      go_wp2
      go_ret
      refine ⟨?_, ⟨hcw⟩⟩
      show Ending.returned (.int .u64 _) = _
      rw [List.take_of_length_le (by have := HG.out; omega)]
set_option maxRecDepth 100000 in
set_option maxHeartbeats 1000000 in
/-- limitSize where all fits. -/
theorem limit_any {M : List Nat} {w : World} {A : Option Addr} {n c : Nat} {ps : List Value} {ss : List Nat} {mx : Int} (h : Sl M w (.slice A n c) ps) (hz : Szs w ps ss) (hb : (ss.sum : Int) ≤ mx) (hm : mx < 2 ^ 64) (hs62 : ss.sum < 2 ^ 62) (hl : ps.length < 2 ^ 62) : Calls Tryz.prog 320 #[.slice A n c, .int .u64 mx] w fun y w' => y = .returned (.slice A n c) ∧ Nxt w w' := by
  obtain ⟨g1, g2, g3⟩ := sl_len h
  have g4 := hz.1
  have HS := Lib.hid h
  have HZ := Lib.hid hz
  have HG := Lib.hid (show ss.length = n by omega)
  have n1 : n < 2 ^ 62 := by omega
  clear h hz g1 g3 g4 hl
  by_cases hn0 : n = 0
  · subst hn0
    go_enter Tryz.func320, Tryz.ntmps320
    go_wp2
    go_ret
    exact ⟨rfl, ⟨Chg.refl _ _⟩⟩
  · have i0 : (0 : Int) < n := by omega
    have hn0' : ¬ (n : Int) = 0 := by omega
    obtain ⟨b, o, p, rfl, hp, hcell, _⟩ := sl_at HS.out (show 0 < n by omega)
    have hks : 0 < ss.length := by have := HG.out; omega
    have hE := HZ.out.2 0 p ss[0] hp (List.getElem?_eq_getElem hks)
    have hts := take_sum hks
    have htl := take_le ss (0 + 1)
    rw [hts] at htl
    simp at hts htl
    obtain ⟨sk, hsk⟩ : ∃ sk, sk = ss[0] := ⟨_, rfl⟩
    rw [← hsk] at hE htl hts
    have HT := Lib.hid hts
    have HE := Lib.hid hE
    rw [Nat.add_zero] at hcell
    clear hts hE hsk hp hks
    go_enter Tryz.func320, Tryz.ntmps320
    go_wp2_with (first | (go_at_call 288; (with_reducible refine Calls.mono (entSize_nxt HE.out (Chg.refl _ _)) ?_); rintro e w' ⟨rfl, hc2⟩; have HC2 := Lib.hid hc2; clear hc2))
    go_loopw [5, 6] (fun s i wr => ∃ k : Nat, 1 ≤ k ∧ k ≤ n ∧ i = .int .i64 k ∧ s = .int .u64 ((ss.take k).sum : Nat) ∧ Chg [] w wr) (fun _ i _ => n - (intOf i).toNat)
    case atStart => exact ⟨1, by omega, by omega, rfl, by rw [HT.out], HC2.out⟩
    case round =>
      obtain ⟨k, hk1, hk, rfl, rfl, hcw⟩ := hrel
      have ht := take_le ss k
      clear HE HT HC2 htl hcell
      by_cases hlt : k < n
      · obtain ⟨b', o', p, hAe, hp, hcell, _⟩ := sl_at HS.out hlt
        simp only [Option.some.injEq, Addr.mk.injEq] at hAe
        obtain ⟨rfl, rfl, _⟩ := hAe
        have hks : k < ss.length := by have := HG.out; omega
        have hE := HZ.out.2 k p ss[k] hp (List.getElem?_eq_getElem hks)
        have d1 := hcw.at0 hcell
        have i1 : (0 : Int) ≤ k ∧ (k : Int) < n := by omega
        have hts := take_sum hks
        have htl := take_le ss (k + 1)
        rw [hts] at htl
        obtain ⟨sk, hsk⟩ : ∃ sk, sk = ss[k] := ⟨_, rfl⟩
        rw [← hsk] at hE htl hts
        obtain ⟨T, hT⟩ : ∃ T, T = (ss.take k).sum := ⟨_, rfl⟩
        rw [← hT] at ht htl hts ⊢
        have hmx : ¬ mx < (T : Int) + sk := by omega
        have HT := Lib.hid hts
        have HCW := Lib.hid hcw
        have HE := Lib.hid hE
        clear hp hts hsk hT hcell hcw hE
        go_wp2_with (first | (go_at_call 288; (with_reducible refine Calls.mono (entSize_nxt HE.out HCW.out) ?_); rintro e w' ⟨rfl, hc2⟩; have HC2 := Lib.hid hc2; clear hc2))
        exact ⟨⟨k + 1, by omega, by omega, by simp, by rw [HT.out]; simp, HC2.out⟩, by simp [intOf]; omega⟩
      · have hkn : k = n := by omega
        subst hkn
        go_wp2
        go_ret
        exact ⟨rfl, ⟨hcw⟩⟩
set_option maxRecDepth 100000 in
set_option maxHeartbeats 1000000 in
theorem paySize_any {M : List Nat} {w : World} {v : Value} {i t : Int} {d : ByteArray} (h : EntAt M w v t i d) (hd : d.size ≤ 1000000) : Calls Tryz.prog 289 #[v] w fun y w' => y = .returned (.int .u64 d.size) ∧ w = w' := by
  have H := Lib.hid h
  obtain ⟨b, hb⟩ : ∃ b, v = .pointer (some ⟨b, 0, none⟩) := by obtain ⟨b, _, _, _, rfl, _⟩ := h; exact ⟨b, rfl⟩
  subst hb
  clear h
  go_enter Tryz.func289, Tryz.ntmps289
  go_wp2_with (first | (go_at_call 243; (with_reducible refine Calls.mono (entData_any H.out) ?_); rintro e w' ⟨A, n, c, rfl, hs, rfl⟩; obtain ⟨g1, g2, g3⟩ := sl_len hs; have hn' : n = d.size := by rw [← g1]; unfold Bs; rw [List.length_map, Array.length_toList]; rfl); obtain rfl := hn'; clear g1 g3 hs)
  go_ret
  exact ⟨rfl, rfl⟩
theorem pays_le {l : List Ent} {D : Nat} (hD : ∀ e ∈ l, e.d.size ≤ D) (k : Nat) : ((l.take k).map (·.d.size)).sum ≤ k * D := by
  induction l generalizing k with
  | nil => simp
  | cons e l ih =>
    rcases k with _ | k
    · simp
    · have h1 := hD e (by simp)
      have h2 := ih (fun x hx => hD x (by simp [hx])) k
      simp only [List.take_succ_cons, List.map_cons, List.sum_cons, Nat.add_mul]; omega
theorem pays_step {l : List Ent} {k : Nat} {e : Ent} (h : l[k]? = some e) : ((l.take (k + 1)).map (·.d.size)).sum = ((l.take k).map (·.d.size)).sum + e.d.size := by
  have hk : k < l.length := by
    rcases Nat.lt_or_ge k l.length with h1 | h1
    · exact h1
    · rw [List.getElem?_eq_none h1] at h; cases h
  rw [List.getElem?_eq_getElem hk] at h
  injection h with h
  rw [List.take_succ_eq_append_getElem hk, List.map_append, List.sum_append, h]; simp
set_option maxRecDepth 100000 in
set_option maxHeartbeats 1000000 in
theorem paysSize_any {M : List Nat} {w : World} {v : Value} {l : List Ent} (h : EntsAt M w v l) (hD : ∀ e ∈ l, e.d.size ≤ 1000000) (hl : l.length ≤ 1000000) : Calls Tryz.prog 228 #[v] w fun y w' => y = .returned (.int .u64 ((l.map (·.d.size)).sum : Nat)) ∧ Nxt w w' := by
  obtain ⟨ps, hs, hz⟩ := h
  obtain ⟨A, n, c, rfl⟩ := hs.form
  obtain ⟨g1, g2, g3⟩ := sl_len hs
  have g4 := hz.1
  have HS := Lib.hid hs
  have HZ := Lib.hid hz
  have HG := Lib.hid (show l.length = n by omega)
  have n1 : n ≤ 1000000 := by omega
  clear hs hz g1 g3 g4 hl
  go_enter Tryz.func228, Tryz.ntmps228
  go_wp2
  go_loopw [3, 8] (fun s i wr => ∃ k : Nat, k ≤ n ∧ i = .int .i64 k ∧ s = .int .u64 (((l.take k).map (·.d.size)).sum : Nat) ∧ Chg [] w wr) (fun _ i _ => n - (intOf i).toNat)
  case atStart => exact ⟨0, by omega, rfl, by simp, Chg.refl _ _⟩
  case round =>
    obtain ⟨k, hk, rfl, rfl, hcw⟩ := hrel
    have ht := pays_le hD k
    by_cases hlt : k < n
    · obtain ⟨b, o, p, rfl, hp, hcell, _⟩ := sl_at HS.out hlt
      have hks : k < l.length := by have := HG.out; omega
      obtain ⟨q, hq, hE⟩ := HZ.out.2 k l[k] (List.getElem?_eq_getElem hks)
      rw [hp] at hq
      injection hq with hq
      subst hq
      have d1 := hcw.at0 hcell
      have i1 : (0 : Int) ≤ k ∧ (k : Int) < n := by omega
      have hts := pays_step (List.getElem?_eq_getElem hks)
      have hd := hD l[k] (List.getElem_mem hks)
      obtain ⟨x, hx⟩ : ∃ x, x = l[k] := ⟨_, rfl⟩
      rw [← hx] at hE hts hd
      obtain ⟨T, hT⟩ : ∃ T, T = ((l.take k).map (·.d.size)).sum := ⟨_, rfl⟩
      rw [← hT] at ht hts ⊢
      have hE2 := EntAt.chg (L := []) hE hcw (by simp)
      have ht2 : T + x.d.size ≤ 2000000000000 := by have : k * 1000000 ≤ 1000000 * 1000000 := Nat.mul_le_mul (by omega) (Nat.le_refl _); omega
      obtain ⟨z, hz⟩ : ∃ z, z = x.d.size := ⟨_, rfl⟩
      rw [← hz] at hts ht2
      have HT := Lib.hid hts
      have HCW := Lib.hid hcw
      have HE := Lib.hid hE2
      have HD := Lib.hid hd
      have HZZ := Lib.hid hz
      clear hp hts hT hcell hcw hE hE2 hd hz hx ht
      go_wp2_with (first | (go_at_call 289; (with_reducible refine Calls.mono (paySize_any HE.out HD.out) ?_); rw [← HZZ.out]; rintro e w' ⟨rfl, rfl⟩))
      exact ⟨⟨k + 1, by omega, by simp, by rw [HT.out]; simp, HCW.out⟩, by simp [intOf]; omega⟩
    · have hkn : k = n := by omega
      subst hkn
      go_wp2
      go_ret
      refine ⟨?_, ⟨hcw⟩⟩
      show Ending.returned (.int .u64 _) = _
      rw [List.take_of_length_le (by have := HG.out; omega)]
end Go.Proofs.YtalhhplphlobbaaGreat
namespace Go.Proofs.YtalhhplphlobbaaGreat
open Go.RowKit

/-- A storage whole: its first entry (the snapshot's place) and those behind it. -/
structure StAt (M : List Nat) (w : World) (ms : Nat) (hv sv ev : Value) (e : Ent) (r : List Ent) : Prop where
  at_ : MsAt w ms hv sv ev
  mem : ms ∈ M
  ents : EntsAt M w ev (e :: r)
  i0 : 0 ≤ e.i
  i1 : e.i < 4611686018427387904
  len : r.length < 1000000
section
variable {M L : List Nat} {w w' : World} {ms : Nat} {hv sv ev : Value} {e : Ent} {r : List Ent}
theorem StAt.chg (h : StAt M w ms hv sv ev e r) (hc : Chg L w w') (hL : ∀ x ∈ L, x ∈ M) (hn : ms ∉ L) : StAt M w' ms hv sv ev e r :=
  ⟨h.at_.chg hc hn, h.mem, h.ents.chg hc hL, h.i0, h.i1, h.len⟩
theorem StAt.nxt (h : StAt M w ms hv sv ev e r) (hc : Nxt w w') : StAt M w' ms hv sv ev e r := h.chg hc.out (by simp) (by simp)
/-- Behind a call that turned nothing but the counters. -/
theorem StAt.ms_ (h : StAt M w ms hv sv ev e r) (ha : MsAt w' ms hv sv ev) (hc : Chg [ms] w w') : StAt M w' ms hv sv ev e r :=
  ⟨ha, h.mem, h.ents.chg hc (by simpa using h.mem), h.i0, h.i1, h.len⟩
theorem StAt.lt (h : StAt M w ms hv sv ev e r) : ms < w.heap.size := h.at_.lt
end

/-- The fields of a raftLog but the storage. -/
structure RLog where
  snap : Value
  ents : Value
  off : Int
  sip : Bool
  oip : Int
  com : Int
  apg : Int
  apd : Int
  mx : Int
  asz : Int
  ps : Bool
def RlAt (w : World) (rl ms : Nat) (l : RLog) : Prop :=
  Blk w rl 355 #[.iface 137 (.pointer (some ⟨ms, 0, none⟩)), l.snap, l.ents, .int .u64 l.off, .bool l.sip, .int .u64 l.oip, .int .u64 l.com, .int .u64 l.apg, .int .u64 l.apd, .int .u64 l.mx, .int .u64 l.asz, .bool l.ps]
/-- Nothing unstable. -/
def RLog.calm (l : RLog) : Prop := l.snap = .pointer none ∧ l.ents = .slice none 0 0

section
variable {M : List Nat} {w : World} {ms rl : Nat} {hv sv ev : Value} {e : Ent} {r : List Ent} {l : RLog}
set_option maxRecDepth 100000 in
set_option maxHeartbeats 1000000 in
theorem newLog_any (mx : Int) (h : StAt M w ms hv sv ev e r) :
    Calls Tryz.prog 270 #[.iface 137 (.pointer (some ⟨ms, 0, none⟩)), .int .u64 mx] w fun x w' => ∃ rl, x = .returned (.pointer (some ⟨rl, 0, none⟩)) ∧ w.heap.size ≤ rl ∧ RlAt w' rl ms ⟨.pointer none, .slice none 0 0, e.i + r.length + 1, false, e.i + r.length + 1, e.i, e.i, e.i, mx, 0, false⟩ ∧ StAt M w' ms hv sv ev e r ∧ Chg [ms] w w' := by
  have h0 := h.i0
  have h1 := h.i1
  have h2 := h.len
  have H := Lib.hid h
  clear h
  go_enter Tryz.func270, Tryz.ntmps270
  go_wp2_with (first | (go_at_call 250; (with_reducible refine Calls.mono (msFirstIndex_any H.out.at_ H.out.mem H.out.ents H.out.i0 H.out.i1) ?_); rintro e w1 ⟨rfl, ha1, hc1⟩) | (go_at_call 251; (with_reducible refine Calls.mono (msLastIndex_any (H.out.ms_ ha1 hc1).at_ H.out.mem (H.out.ms_ ha1 hc1).ents H.out.i0 H.out.i1 (by have := H.out.len; omega)) ?_); rintro e w2 ⟨rfl, ha2, hc2⟩))
  go_ret
  have hc3 : Chg [ms] w w2 := hc1.trans hc2
  have hS := (H.out.ms_ ha1 hc1).ms_ ha2 hc2
  exact ⟨w2.heap.size, rfl, hc3.size, Blk.new _ _ _, hS.chg (L := []) ((Chg.refl _ _).alloc _) (by simp) (by simp), hc3.alloc _⟩

/-- What a walk over the log's fields needs of the block. -/
theorem RlAt.cells {w : World} {rl ms : Nat} {l : RLog} (h : RlAt w rl ms l) : w.cell? ⟨rl, 0, none⟩ = some (.iface 137 (.pointer (some ⟨ms, 0, none⟩))) ∧ w.cell? ⟨rl, 1, none⟩ = some l.snap ∧ w.cell? ⟨rl, 2, none⟩ = some l.ents ∧
    w.cell? ⟨rl, 3, none⟩ = some (.int .u64 l.off) ∧ w.cell? ⟨rl, 4, none⟩ = some (.bool l.sip) ∧ w.cell? ⟨rl, 5, none⟩ = some (.int .u64 l.oip) ∧ w.cell? ⟨rl, 6, none⟩ = some (.int .u64 l.com) ∧ w.cell? ⟨rl, 7, none⟩ = some (.int .u64 l.apg) ∧
    w.cell? ⟨rl, 8, none⟩ = some (.int .u64 l.apd) ∧ w.cell? ⟨rl, 9, none⟩ = some (.int .u64 l.mx) ∧ w.cell? ⟨rl, 10, none⟩ = some (.int .u64 l.asz) ∧ w.cell? ⟨rl, 11, none⟩ = some (.bool l.ps) := by
  refine ⟨?_, ?_, ?_, ?_, ?_, ?_, ?_, ?_, ?_, ?_, ?_, ?_⟩
  all_goals (rw [Blk.cell h]; rfl)
theorem RlAt.chg {L : List Nat} {w w' : World} {rl ms : Nat} {l : RLog} (h : RlAt w rl ms l) (hc : Chg L w w') (hg : rl ∉ L) : RlAt w' rl ms l := Blk.chg h hc hg

set_option maxRecDepth 100000 in
set_option maxHeartbeats 400000 in
theorem unFirst_any (hl : RlAt w rl ms l) (hcalm : l.calm) :
    Calls Tryz.prog 410 #[.pointer (some ⟨rl, 1, none⟩)] w fun x w' => x = .returned (.tuple #[.int .u64 0, .bool false]) ∧ w = w' := by
  obtain ⟨k0, k1, k2, k3, _⟩ := hl.cells
  rw [hcalm.1] at k1
  rw [hcalm.2] at k2
  clear hl hcalm
  go_enter Tryz.func410, Tryz.ntmps410
  go_wp2
  go_ret2
  exact ⟨rfl, rfl⟩

set_option maxRecDepth 100000 in
set_option maxHeartbeats 400000 in
theorem unLast_any (hl : RlAt w rl ms l) (hcalm : l.calm) :
    Calls Tryz.prog 360 #[.pointer (some ⟨rl, 1, none⟩)] w fun x w' => x = .returned (.tuple #[.int .u64 0, .bool false]) ∧ w = w' := by
  obtain ⟨k0, k1, k2, k3, _⟩ := hl.cells
  rw [hcalm.1] at k1
  rw [hcalm.2] at k2
  clear hl hcalm
  go_enter Tryz.func360, Tryz.ntmps360
  go_wp2
  go_ret2
  exact ⟨rfl, rfl⟩

set_option maxRecDepth 100000 in
set_option maxHeartbeats 400000 in
theorem unTerm_any (hl : RlAt w rl ms l) (hcalm : l.calm) (a : Int) (ha : a < l.off) :
    Calls Tryz.prog 352 #[.pointer (some ⟨rl, 1, none⟩), .int .u64 a] w fun x w' => x = .returned (.tuple #[.int .u64 0, .bool false]) ∧ w = w' := by
  obtain ⟨k0, k1, k2, k3, _⟩ := hl.cells
  rw [hcalm.1] at k1
  rw [hcalm.2] at k2
  clear hl hcalm
  go_enter Tryz.func352, Tryz.ntmps352
  go_wp2
  go_ret2
  exact ⟨rfl, rfl⟩

set_option maxRecDepth 100000 in
set_option maxHeartbeats 400000 in
theorem rlFirst_any (h : StAt M w ms hv sv ev e r) (hl : RlAt w rl ms l) (hcalm : l.calm) (hne : rl ≠ ms) :
    Calls Tryz.prog 376 #[.pointer (some ⟨rl, 0, none⟩)] w fun x w' => x = .returned (.int .u64 (e.i + 1)) ∧ RlAt w' rl ms l ∧ StAt M w' ms hv sv ev e r ∧ Chg [ms] w w' := by
  have H := Lib.hid h
  have HL := Lib.hid hl
  have HC := Lib.hid hcalm
  obtain ⟨k0, k1, k2, _⟩ := hl.cells
  rw [hcalm.1] at k1
  rw [hcalm.2] at k2
  clear h hl hcalm
  go_enter Tryz.func376, Tryz.ntmps376
  go_wp2_with (first | (go_at_call 410; (with_reducible refine Calls.mono (unFirst_any HL.out HC.out) ?_); rintro e w' ⟨rfl, rfl⟩) | (go_at_call 250; (with_reducible refine Calls.mono (msFirstIndex_any H.out.at_ H.out.mem H.out.ents H.out.i0 H.out.i1) ?_); rintro e w1 ⟨rfl, ha1, hc1⟩))
  go_ret
  exact ⟨rfl, HL.out.chg hc1 (by simpa using hne), H.out.ms_ ha1 hc1, hc1⟩

set_option maxRecDepth 100000 in
set_option maxHeartbeats 400000 in
theorem rlLast_any (h : StAt M w ms hv sv ev e r) (hl : RlAt w rl ms l) (hcalm : l.calm) (hne : rl ≠ ms) :
    Calls Tryz.prog 314 #[.pointer (some ⟨rl, 0, none⟩)] w fun x w' => x = .returned (.int .u64 (e.i + r.length)) ∧ RlAt w' rl ms l ∧ StAt M w' ms hv sv ev e r ∧ Chg [ms] w w' := by
  have H := Lib.hid h
  have HL := Lib.hid hl
  have HC := Lib.hid hcalm
  obtain ⟨k0, k1, k2, _⟩ := hl.cells
  rw [hcalm.1] at k1
  rw [hcalm.2] at k2
  clear h hl hcalm
  go_enter Tryz.func314, Tryz.ntmps314
  go_wp2_with (first | (go_at_call 360; (with_reducible refine Calls.mono (unLast_any HL.out HC.out) ?_); rintro e w' ⟨rfl, rfl⟩) | (go_at_call 251; (with_reducible refine Calls.mono (msLastIndex_any H.out.at_ H.out.mem H.out.ents H.out.i0 H.out.i1 (by have := H.out.len; omega)) ?_); rintro e w1 ⟨rfl, ha1, hc1⟩))
  go_ret
  exact ⟨rfl, HL.out.chg hc1 (by simpa using hne), H.out.ms_ ha1 hc1, hc1⟩

set_option maxRecDepth 100000 in
set_option maxHeartbeats 1000000 in
theorem rlTerm_any (a : Int) (x : Ent) (h : StAt M w ms hv sv ev e r) (hl : RlAt w rl ms l) (hcalm : l.calm) (hne : rl ≠ ms) (ha : e.i ≤ a) (ha2 : a ≤ e.i + r.length) (ho : a < l.off) (hx : (e :: r)[(a - e.i).toNat]? = some x) :
    Calls Tryz.prog 323 #[.pointer (some ⟨rl, 0, none⟩), .int .u64 a] w fun y w' => y = .returned (.tuple #[.int .u64 x.t, .nilIface]) ∧ RlAt w' rl ms l ∧ StAt M w' ms hv sv ev e r ∧ Chg [ms] w w' := by
  have H := Lib.hid h
  have HL := Lib.hid hl
  have HC := Lib.hid hcalm
  have HX := Lib.hid hx
  have h0 := h.i0
  have h1 := h.i1
  have h2 := h.len
  have a0 : 0 ≤ a := by omega
  have a1 : a ≤ 4611686018428387904 := by omega
  have a2 : ¬ a + 1 < e.i + 1 := by omega
  have a3 : ¬ e.i + (r.length : Int) < a := by omega
  obtain ⟨k0, k1, k2, k3, _⟩ := hl.cells
  rw [hcalm.1] at k1
  rw [hcalm.2] at k2
  clear h hl hcalm hx
  go_enter Tryz.func323, Tryz.ntmps323
  go_wp2_with (first | (go_at_call 352; (with_reducible refine Calls.mono (unTerm_any HL.out HC.out a ho) ?_); rintro e w' ⟨rfl, rfl⟩) | (go_at_call 376; (with_reducible refine Calls.mono (rlFirst_any H.out HL.out HC.out hne) ?_); rintro e w1 ⟨rfl, hl1, hs1, hc1⟩) | (go_at_call 314; (with_reducible refine Calls.mono (rlLast_any hs1 hl1 HC.out hne) ?_); rintro e w2 ⟨rfl, hl2, hs2, hc2⟩; obtain ⟨j0, _⟩ := hl2.cells) | (go_at_call 503; (with_reducible refine Calls.mono (msTerm_any a x hs2.at_ hs2.mem hs2.ents hs2.i0 hs2.i1 (by have := hs2.len; omega) ha ha2 HX.out) ?_); rintro e w3 ⟨rfl, ha3, hc3⟩))
  go_ret2
  exact ⟨rfl, hl2.chg hc3 (by simpa using hne), hs2.ms_ ha3 hc3, (hc1.trans hc2).trans hc3⟩
end
end Go.Proofs.YtalhhplphlobbaaGreat
