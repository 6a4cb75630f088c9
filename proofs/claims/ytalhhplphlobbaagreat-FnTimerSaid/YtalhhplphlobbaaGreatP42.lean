/- FnTimer's script: ready, then ticks. Conditions: what a setup must be. Does a setup fit: the law's first guard. Conditions: none but the shapes. What the laws' walks share: the argument's struct, the call ready. Conditions: none. Members: known, Has, Once, members. Conditions: none but the shapes. -/
import Derived.Deep.DeepCutAuto
import Derived.BigRegion
import Derived.Test.YtalhhplphlobbaaGreatP26
import Derived.Test.YtalhhplphlobbaaGreatP27
import Derived.Test.YtalhhplphlobbaaGreatP39
import Derived.Test.YtalhhplphlobbaaGreatP40
import Derived.Test.YtalhhplphlobbaaGreatP41
set_option linter.unusedVariables false
set_option linter.unusedSimpArgs false
namespace Go.Proofs.YtalhhplphlobbaaGreat
open Go.RowKit
/-- An answer of a node that does not campaign. -/
def plainS (s : SetS) (A : SaidS) : Prop := A.pan = false ∧ A.role = 0 ∧ A.h1 = s.hT ∧ A.h2 = s.hV ∧ A.h3 = s.hC ∧ A.ok
/-- The answer of a node that has begun to campaign. -/
def campS (s : SetS) (A : SaidS) : Prop := A.pan = false ∧ A.role ≠ 0 ∧ ((s.pv = true → A.h1 = s.hT ∧ A.h2 = s.hV ∧ A.h3 = s.hC) ∧ (s.pv = false → A.h1 ≠ s.hT)) ∧ A.ok
def TSt (nb : Nat) (s : SetS) (V L : List Int) (l : List Ent) (D : List Int) (n : Nat) (As : List SaidS) (M O : List Nat) (w : World) : Prop :=
  ∃ Xb wB ms cfp cb rn ss hs rb rl bt x0 x2 bv ro mo bi f p hv sv ev, BegTo Xb nb s V L l D wB ms cfp cb rn ss hs rb rl bt x0 x2 bv ro mo bi f p hv sv ev ∧ O = ownO nb rn rb rl ms V L p ∧ (∀ x ∈ O, x ∈ M) ∧ (∀ x ∈ M, x < w.heap.size) ∧
    ((As.length = 1 ∧ (∀ A ∈ As, plainS s A) ∧ Chg [] wB w ∧ ∀ x ∈ M, x ∈ O ∨ wB.heap.size ≤ x)
    ∨ (2 ≤ As.length ∧ (s.id ∈ V → As.length < n + 1) ∧ (∀ A ∈ As, plainS s A) ∧ TickT nb s V L l D ms cfp rn ss hs rb rl bt x0 x2 bv ro mo f p hv sv ev ((As.length : Int) - 2) M w)
    ∨ (As.length = n + 1 ∧ s.id ∈ V ∧ ∃ Bs B, As = Bs ++ [B] ∧ (∀ A ∈ Bs, plainS s A) ∧ campS s B))
section
variable {W Xb wB w w' : World} {nb : Nat} {s : SetS} {V L : List Int} {l : List Ent} {D : List Int} {ms cfp cb rn ss hs rb rl bt x0 : Nat} {x2 : Option Nat} {bv ro mo : Nat} {bi : Int → Nat} {f : Int → Option PrS} {p : Int → Nat} {hv sv ev : Value} {M : List Nat}
theorem camp_of (hi : Inp W s V L l D) (hT1 : s.hT + 2 < 18446744073709551615) (hV : s.id ∈ V) (k : Int) : CampC rb rl bt x0 ro (rlogT s l) ⟨s.bt, s.bi, ByteArray.empty⟩ l V L D (zstep D 0) s.rd { raftB s ms rb rl x0 x2 bt bv ro L D with ee := k } :=
  { hrl := rfl, hpr := rfl, cal := ⟨rfl, rfl⟩, cap := Int.le_refl _, off := rfl, idV := hV, idr := ⟨hi.id0, by have := hi.id1; show s.id < 2 ^ 64; omega⟩, st := rfl, nd := hi.nd, hzd := rfl, hzn := rfl,
    hzk := by unfold zstep; split <;> omega, dl := hi.Dl, dn := hi.Dn, et := ⟨by have := hi.ht0; have := hi.het; show 0 < s.et; omega, hi.et1⟩, hro := rfl, lK := by have := hi.lV; have := hi.lL; rw [List.length_append]; omega, lV := by have := hi.lV; omega,
    rng := fun k hk => hi.rng k (List.mem_append_left _ hk), tm := ⟨hi.hT0, hT1⟩, m1 := rfl, m2 := rfl, v0 := rfl, v1 := rfl }
theorem camp_said {k : Int} {s2 : RaftS} {v1 v2 v3 v4 : Value} (hok : (said0.add s2 (rlogT s l) v1 v2 v3 v4 false).ok) (hc : CampR { raftB s ms rb rl x0 x2 bt bv ro L D with ee := k } s2) : campS s (said0.add s2 (rlogT s l) v1 v2 v3 v4 false) := by
  have hp : ({ raftB s ms rb rl x0 x2 bt bv ro L D with ee := k } : RaftS).pv = s.pv := rfl
  have ht : ({ raftB s ms rb rl x0 x2 bt bv ro L D with ee := k } : RaftS).term = s.hT := rfl
  have hv : ({ raftB s ms rb rl x0 x2 bt bv ro L D with ee := k } : RaftS).vote = s.hV := rfl
  unfold CampR at hc
  rw [hp, ht, hv] at hc
  refine ⟨rfl, ?_, ?_, hok⟩
  · show s2.state ≠ 0
    split at hc <;> omega
  · show (_ → s2.term = s.hT ∧ s2.vote = s.hV ∧ s.hC = s.hC) ∧ (_ → s2.term ≠ s.hT)
    cases hpv : s.pv with
    | true =>
      rw [hpv] at hc
      have hc : s2.state = 3 ∧ s2.term = s.hT ∧ s2.vote = s.hV := by simpa using hc
      exact ⟨fun _ => ⟨hc.2.1, hc.2.2, rfl⟩, fun h => by cases h⟩
    | false =>
      rw [hpv] at hc
      have hc : s2.term = s.hT + 1 := (show s2.state = 1 ∧ s2.term = s.hT + 1 ∧ _ by simpa using hc).2.1
      exact ⟨fun h => by (cases h), fun _ => by omega⟩
theorem timer_begin {n : Nat} {X1 w1 : World} (hi : Inp W s V L l D) (hbg : Begun X1 nb s V L l D w1) :
    Calls Tryz.prog 64 #[.pointer (some ⟨nb, 0, none⟩), .agg said0.list.toArray] w1 fun y w' => ∃ A : SaidS, A.ok ∧ y = .returned (.agg A.list.toArray) ∧ Nxt w1 w' ∧ ∃ M O, TSt nb s V L l D n [A] M O w' ∧ ∀ x ∈ O, x = nb ∨ X1.heap.size ≤ x := by
  obtain ⟨_, X, ms, cfp, cb, rn, ss, hs, rb, rl, bt, x0, x2, bv, ro, mo, bi, f, p, hv, sv, ev, hX, hB⟩ := hbg
  obtain ⟨B, b0, b1, bO, bl, _⟩ := hB.keys
  have hm := hB.nw
  have hXz := hX.out.size
  have hsn := hB.sn
  refine (saidB_any (lg := rlogB s l) hi hsn hB.rw_ hB.run.ra rfl rfl hB.run.la hB.cf (fun x hx => bl x ?_) said0_ok).mono ?_
  · simp only [ownO, List.mem_cons, List.not_mem_nil, or_false] at hx ⊢
    rcases hx with h | h | h | h | h
    · exact .inl h
    · exact .inr (.inl h)
    · exact .inr (.inr (.inl h))
    · exact .inr (.inr (.inr (.inl h)))
    · exact .inr (.inr (.inr (.inr (.inl h))))
  · rintro y w' ⟨v1, v2, v3, v4, hok, rfl, hn⟩
    refine ⟨_, hok, rfl, hn, ownO nb rn rb rl ms V L p, _, ⟨X, w1, ms, cfp, cb, rn, ss, hs, rb, rl, bt, x0, x2, bv, ro, mo, bi, f, p, hv, sv, ev, hB, rfl, fun _ h => h, fun x hx => Nat.lt_of_lt_of_le (bl x hx) hn.out.size, .inl ⟨rfl, fun A hA => ?_, hn.out, fun _ h => .inl h⟩⟩, fun x hx => ?_⟩
    · simp only [List.mem_singleton] at hA
      subst hA
      exact ⟨rfl, rfl, rfl, rfl, rfl, hok⟩
    · rcases bO x hx with h | h
      · simp only [List.mem_cons, List.not_mem_nil, or_false] at h
        rcases h with rfl | rfl
        · exact .inl rfl
        · exact .inr (by omega)
      · exact .inr (by omega)
theorem timer_script {n : Nat} {CL : Nat → List Value} (hi : Inp W s V L l D) (hT1 : s.hT + 2 < 18446744073709551615) (hn : (n : Int) = s.et + zdraw D 0 + 1) (h0 : (CL 0)[0]? = some (.int .i64 5)) (h1 : ∀ i, 0 < i → i < n → (CL i)[0]? = some (.int .i64 1)) : Script n nb CL (TSt nb s V L l D n) where
  mono := by
    rintro As M M' O Lx w w' ⟨Xb, wB, ms, cfp, cb, rn, ss, hs, rb, rl, bt, x0, x2, bv, ro, mo, bi, f, p, hv, sv, ev, hB, rfl, hOM, hlt, hst⟩ hc hLx hL48 hMM hM'
    have hlt' : ∀ x ∈ M', x < w'.heap.size := fun x hx => (hM' x hx).elim (fun h => Nat.lt_of_lt_of_le (hlt x h) hc.size) (fun h => h.2)
    refine ⟨Xb, wB, ms, cfp, cb, rn, ss, hs, rb, rl, bt, x0, x2, bv, ro, mo, bi, f, p, hv, sv, ev, hB, rfl, fun x hx => hMM x (hOM x hx), hlt', ?_⟩
    rcases hst with ⟨e1, e2, e3, e4⟩ | ⟨e1, e2, e3, e4⟩ | h
    · have hz := e3.size
      refine .inl ⟨e1, e2, e3.then hc (fun x hx hl => ?_), fun x hx => ?_⟩
      · obtain ⟨g1, g2⟩ := hLx x hx
        rcases e4 x g1 with g | g
        · exact absurd g g2
        · omega
      · rcases hM' x hx with g | g
        · exact e4 x g
        · exact .inr (by omega)
    · exact .inr (.inl ⟨e1, e2, e3, e4.mono hc (fun x hx => (hLx x hx).1) hL48 hMM hM'⟩)
    · exact .inr (.inr h)
  osub := by
    rintro As M O w ⟨Xb, wB, ms, cfp, cb, rn, ss, hs, rb, rl, bt, x0, x2, bv, ro, mo, bi, f, p, hv, sv, ev, hB, rfl, hOM, hlt, hst⟩
    exact hOM
  lt := by
    rintro As M O w ⟨Xb, wB, ms, cfp, cb, rn, ss, hs, rb, rl, bt, x0, x2, bv, ro, mo, bi, f, p, hv, sv, ev, hB, rfl, hOM, hlt, hst⟩
    exact hlt
  step := by
    rintro As M O w i ⟨Xb, wB, ms, cfp, cb, rn, ss, hs, rb, rl, bt, x0, x2, bv, ro, mo, bi, f, p, hv, sv, ev, hB, rfl, hOM, hlt, hst⟩ hl hin
    have hz0 : 0 ≤ zdraw D 0 := by
      unfold zdraw
      split
      · omega
      · rename_i hD
        obtain ⟨d, D', rfl⟩ := List.exists_cons_of_ne_nil hD
        have := hi.Dn d (by simp)
        simp
        exact this.1
    have het := hi.ht0
    have het2 := hi.het
    have hn9 : (n : Int) < 2 ^ 61 := by
      have := hi.et1
      have : zdraw D 0 < s.et := by
        unfold zdraw
        split
        · omega
        · rename_i hD
          obtain ⟨d, D', rfl⟩ := List.exists_cons_of_ne_nil hD
          have := hi.Dn d (by simp)
          simp
          exact this.2
      omega
    rcases hst with ⟨e1, e2, e3, e4⟩ | ⟨e1, e2, e3, e4⟩ | ⟨e1, _⟩
    · have hi0 : i = 0 := by omega
      subst hi0
      refine (ready_step hi hB e3 hOM e4 hlt h0).mono ?_
      rintro y w1 ⟨A, hok, rfl, hc1, hS⟩
      refine ⟨A, hok, rfl, hc1, hS.mono ?_⟩
      rintro y w2 ⟨A', hok', rfl, hc2, ⟨a, v1, v2, v3, v4, hp, rfl⟩, M', hJ, hMM⟩
      obtain ⟨q4, hJ'⟩ := id hJ
      refine ⟨_, hok', rfl, hc2, M', _, ⟨Xb, wB, ms, cfp, cb, rn, ss, hs, rb, rl, bt, x0, x2, bv, ro, mo, bi, f, p, hv, sv, ev, hB, rfl, hJ'.om, hJ'.lt, .inr (.inl ⟨by simp [hl], fun _ => by simp only [List.length_append, hl, List.length_singleton]; omega, ?_, ?_⟩)⟩, hMM, fun x hx => .inl hx⟩
      · intro B hB
        rcases List.mem_append.1 hB with h | h
        · exact e2 B h
        · simp only [List.mem_singleton] at h
          subst h
          exact ⟨hp, rfl, rfl, rfl, rfl, hok'⟩
      · have : (((As ++ [a.add (raftB s ms rb rl x0 x2 bt bv ro L D) (rlogT s l) v1 v2 v3 v4 false]).length : Nat) : Int) - 2 = 0 := by simp [hl]
        rw [this]
        exact hJ
    · obtain ⟨q4, hJ⟩ := e4
      have hC := h1 i (by omega) hin
      have hk : -2 ^ 62 ≤ (As.length : Int) - 2 ∧ (As.length : Int) - 2 < 2 ^ 62 := by omega
      by_cases hcp : s.id ∈ V ∧ s.et + zdraw D 0 ≤ ((As.length : Int) - 2) + 1
      · have hin' : i + 1 = n := by omega
        refine (camp_step (s := { raftB s ms rb rl x0 x2 bt bv ro L D with ee := (As.length : Int) - 2 }) hJ hC rfl rfl rfl (camp_of hi hT1 hcp.1 _) hk hcp.2).mono ?_
        rintro y w1 ⟨A, hok, rfl, hc1, hS⟩
        refine ⟨A, hok, rfl, hc1, hS.mono ?_⟩
        rintro y w2 ⟨A', hok', rfl, hc2, ⟨s2, v1, v2, v3, v4, rfl, hcr⟩, _⟩
        exact ⟨_, hok', rfl, hc2, M, _, ⟨Xb, wB, ms, cfp, cb, rn, ss, hs, rb, rl, bt, x0, x2, bv, ro, mo, bi, f, p, hv, sv, ev, hB, rfl, hOM, fun x hx => Nat.lt_of_lt_of_le (hlt x hx) (Nat.le_trans hc1.size hc2.size), .inr (.inr ⟨by simp [hl]; omega, hcp.1, As, _, rfl, e3, camp_said hok' hcr⟩)⟩, fun _ h => h, fun x hx => .inl hx⟩
      · have hb : (decide (s.id ∈ V) && decide (s.et + zdraw D 0 ≤ ((As.length : Int) - 2) + 1)) = false := by
          rw [← Bool.not_eq_true, Bool.and_eq_true, decide_eq_true_eq, decide_eq_true_eq]
          exact hcp
        refine (tick_step (s := { raftB s ms rb rl x0 x2 bt bv ro L D with ee := (As.length : Int) - 2 }) hJ hC rfl rfl rfl rfl rfl ⟨Int.le_of_lt hi.id0, by have := hi.id1; show s.id < 2 ^ 64; omega⟩ ⟨rfl, rfl⟩ (by have := hi.lV; omega) (by have := hi.lL; omega) ⟨Int.le_refl 0, by show (0 : Int) < 1000; omega⟩ hk hb).mono ?_
        rintro y w1 ⟨A, hok, rfl, hc1, hS⟩
        refine ⟨A, hok, rfl, hc1, hS.mono ?_⟩
        rintro y w2 ⟨A', hok', rfl, hc2, ⟨v1, v2, v3, v4, rfl⟩, M', hJ', hMM⟩
        refine ⟨_, hok', rfl, hc2, M', _, ⟨Xb, wB, ms, cfp, cb, rn, ss, hs, rb, rl, bt, x0, x2, bv, ro, mo, bi, f, p, hv, sv, ev, hB, rfl, hJ'.om, hJ'.lt, .inr (.inl ⟨by simp; omega, fun hV => ?_, ?_, ?_⟩)⟩, hMM, fun x hx => .inl hx⟩
        · have : ¬ s.et + zdraw D 0 ≤ ((As.length : Int) - 2) + 1 := fun h => hcp ⟨hV, h⟩
          simp only [List.length_append, List.length_singleton]
          omega
        · intro B hB
          rcases List.mem_append.1 hB with h | h
          · exact e3 B h
          · simp only [List.mem_singleton] at h
            subst h
            exact ⟨rfl, rfl, rfl, rfl, rfl, hok'⟩
        · refine ⟨q4, ?_⟩
          rw [List.length_append, List.length_singleton]
          have e : (((As.length + 1 : Nat) : Int) - 2) = (As.length : Int) - 2 + 1 := by omega
          rw [e]
          exact hJ'
    · omega
end
end Go.Proofs.YtalhhplphlobbaaGreat
namespace Go.Proofs.YtalhhplphlobbaaGreat
open Go.RowKit
/-- An entry as the caller gives it: its kind is open. -/
structure EntK where
  t : Int
  i : Int
  k : Int
  d : ByteArray
def LogK (w : World) (v : Value) (l : List EntK) : Prop :=
  ∃ A n c, v = .slice A n c ∧ l.length = n ∧ n ≤ c ∧ (A = none → c = 0) ∧
    (∀ b o s, A = some ⟨b, o, s⟩ → s = none ∧ b < w.heap.size ∧ ∀ j e, l[j]? = some e → w.cell? ⟨b, o + j * 4, none⟩ = some (.int .u64 e.t) ∧ w.cell? ⟨b, o + j * 4 + 1, none⟩ = some (.int .u64 e.i) ∧
      w.cell? ⟨b, o + j * 4 + 2, none⟩ = some (.int .i64 e.k) ∧ w.cell? ⟨b, o + j * 4 + 3, none⟩ = some (.string e.d))
theorem LogK.nxt {w w' : World} {v : Value} {l : List EntK} (h : LogK w v l) (hn : Chg [] w w') : LogK w' v l := by
  obtain ⟨A, n, c, rfl, hl, hc, h0, ha⟩ := h
  refine ⟨A, n, c, rfl, hl, hc, h0, fun b o s e => ?_⟩
  obtain ⟨h1, h2, h3⟩ := ha b o s e
  exact ⟨h1, Nat.lt_of_lt_of_le h2 hn.size, fun j x hx => by
    obtain ⟨k1, k2, k3, k4⟩ := h3 j x hx
    exact ⟨hn.at0 k1, hn.at0 k2, hn.at0 k3, hn.at0 k4⟩⟩
theorem LogK.form {w : World} {v : Value} {l : List EntK} (h : LogK w v l) : ∃ A c, v = .slice A l.length c := by
  obtain ⟨A, n, c, rfl, rfl, _⟩ := h
  exact ⟨A, c, rfl⟩
theorem LogK.at_ {w : World} {A : Option Addr} {n c k : Nat} {l : List EntK} (h : LogK w (.slice A n c) l) (hk : k < n) : ∃ b o e, A = some ⟨b, o, none⟩ ∧ l[k]? = some e ∧ b < w.heap.size ∧
    w.cell? ⟨b, o + k * 4, none⟩ = some (.int .u64 e.t) ∧ w.cell? ⟨b, o + k * 4 + 1, none⟩ = some (.int .u64 e.i) ∧ w.cell? ⟨b, o + k * 4 + 2, none⟩ = some (.int .i64 e.k) ∧ w.cell? ⟨b, o + k * 4 + 3, none⟩ = some (.string e.d) := by
  obtain ⟨A', n', c', hv, hl, hc, h0, ha⟩ := h
  injection hv with e1 e2 e3
  subst e1 e2 e3
  rcases A with _ | ⟨b, o, s⟩
  · have := h0 rfl
    omega
  · obtain ⟨rfl, h2, h3⟩ := ha b o s rfl
    obtain ⟨k1, k2, k3, k4⟩ := h3 k l[k] (List.getElem?_eq_getElem (by omega))
    exact ⟨b, o, l[k], rfl, List.getElem?_eq_getElem (by omega), h2, k1, k2, k3, k4⟩
/-- A log whose kinds are all that of data. -/
theorem LogK.log {w : World} {v : Value} {l : List EntK} (h : LogK w v l) (hk : ∀ e ∈ l, e.k = 0) : LogAt w v (l.map fun e => ⟨e.t, e.i, e.d⟩) := by
  obtain ⟨A, n, c, rfl, hl, hc, h0, ha⟩ := h
  refine ⟨A, n, c, rfl, by simpa using hl, hc, h0, fun b o s e => ?_⟩
  obtain ⟨h1, h2, h3⟩ := ha b o s e
  refine ⟨h1, h2, fun j x hx => ?_⟩
  rw [List.getElem?_map] at hx
  cases hj : l[j]? with
  | none => rw [hj] at hx; cases hx
  | some e =>
    rw [hj] at hx
    injection hx with hx
    subst hx
    obtain ⟨k1, k2, k3, k4⟩ := h3 j e hj
    rw [hk e (List.mem_of_getElem? hj)] at k3
    exact ⟨k1, k2, k3, k4⟩
set_option maxRecDepth 100000 in
set_option maxHeartbeats 400000 in
theorem fits5_any (w : World) (t i k : Int) (d : ByteArray) : Calls Tryz.prog 94 #[.agg #[.int .u64 t, .int .u64 i, .int .i64 k, .string d]] w fun y w' => ∃ b, y = .returned (.bool b) ∧ Nxt w w' := by
  go_enter Tryz.func94, Tryz.ntmps94
  go_wp2
  all_goals (go_ret; exact ⟨_, rfl, ⟨(Chg.refl _ _).alloc _⟩⟩)
set_option maxRecDepth 100000 in
set_option maxHeartbeats 400000 in
theorem fits3_any (w : World) (A1 A2 A3 A4 : Option Addr) (n1 c1 n2 c2 n3 c3 n4 c4 : Nat) (b : Bool) : Calls Tryz.prog 68 #[.agg #[.slice A1 n1 c1, .slice A2 n2 c2, .slice A3 n3 c3, .slice A4 n4 c4, .bool b]] w fun y w' => ∃ b, y = .returned (.bool b) ∧ Nxt w w' := by
  go_enter Tryz.func68, Tryz.ntmps68
  go_wp2
  all_goals (go_ret; exact ⟨_, rfl, ⟨(Chg.refl _ _).alloc _⟩⟩)
set_option maxRecDepth 100000 in
set_option maxHeartbeats 400000 in
theorem fits2_any (w : World) (d : ByteArray) (i t : Int) (A1 A2 A3 A4 : Option Addr) (n1 c1 n2 c2 n3 c3 n4 c4 : Nat) (b : Bool) : Calls Tryz.prog 28 #[.agg #[.string d, .int .u64 i, .int .u64 t, .slice A1 n1 c1, .slice A2 n2 c2, .slice A3 n3 c3, .slice A4 n4 c4, .bool b]] w fun y w' => ∃ b, y = .returned (.bool b) ∧ Nxt w w' := by
  go_enter Tryz.func28, Tryz.ntmps28
  go_wp2_with (first | (go_at_call 68; (with_reducible refine Calls.mono (fits3_any _ _ _ _ _ _ _ _ _ _ _ _ _ _) ?_); rintro e w1 ⟨b1, rfl, hn1⟩; rcases b1))
  all_goals (go_ret; first | exact ⟨_, rfl, ⟨((Chg.refl _ _).alloc _).trans (Nxt.out (by assumption))⟩⟩ | exact ⟨_, rfl, ⟨(Chg.refl _ _).alloc _⟩⟩)
set_option maxRecDepth 100000 in
set_option maxHeartbeats 800000 in
theorem fits4_any (w : World) (v : Value) (l : List EntK) (h : LogK w v l) (hn : l.length < 2 ^ 62) : Calls Tryz.prog 59 #[v] w fun y w' => ∃ b, y = .returned (.bool b) ∧ Nxt w w' := by
  obtain ⟨A, c, rfl⟩ := h.form
  obtain ⟨n, hnn⟩ : ∃ n, n = l.length := ⟨_, rfl⟩
  rw [← hnn] at h hn ⊢
  have HS := Lib.hid h
  have HN := Lib.hid hnn
  clear h hnn
  go_enter Tryz.func59, Tryz.ntmps59
  go_wp2
  · go_ret
    exact ⟨_, rfl, ⟨Chg.refl _ _⟩⟩
  · go_loopw [10] (fun i wr => ∃ k : Nat, k ≤ n ∧ i = .int .i64 k ∧ Chg [] w wr) (fun i _ => n - (intOf i).toNat)
    case atStart => exact ⟨0, by omega, rfl, Chg.refl _ _⟩
    case round =>
      obtain ⟨k, hk, rfl, hcw⟩ := hrel
      by_cases hlt : k < n
      · obtain ⟨b, o, e, rfl, hp, hb, k1, k2, k3, k4⟩ := HS.out.at_ hlt
        have d1 := hcw.at0 k1
        have d2 := hcw.at0 k2
        have d3 := hcw.at0 k3
        have d4 := hcw.at0 k4
        have HCW := Lib.hid hcw
        clear k1 k2 k3 k4 hcw hp
        go_wp2_with (first | (go_at_call 94; (with_reducible refine Calls.mono (fits5_any _ _ _ _ _) ?_); rintro e w1 ⟨b1, rfl, hn1⟩; rcases b1))
        · go_ret
          exact ⟨_, rfl, ⟨(HCW.out.alloc _).trans hn1.out⟩⟩
        · exact ⟨⟨k + 1, by omega, by simp, (HCW.out.alloc _).trans hn1.out⟩, by simp [intOf]; omega⟩
      · go_wp2
        go_ret
        exact ⟨_, rfl, ⟨hcw⟩⟩
/-- What is known of any argument of the laws: the shapes, and the ranges of the numbers. -/
structure Arg (W : World) (s : SetS) (V L V2 L2 D : List Int) (l : List EntK) : Prop where
  rd : Sl [] W s.rd (I64s D)
  b1 : Sl [] W s.b1 (U64s V)
  b2 : Sl [] W s.b2 (U64s L)
  b3 : Sl [] W s.b3 (U64s V2)
  b4 : Sl [] W s.b4 (U64s L2)
  lg : LogK W s.lg l
  ll : l.length < 2 ^ 62
  id : 0 ≤ s.id ∧ s.id < 2 ^ 64
  et : -2 ^ 63 ≤ s.et ∧ s.et < 2 ^ 63
  ht : -2 ^ 63 ≤ s.ht ∧ s.ht < 2 ^ 63
  msz : 0 ≤ s.msz ∧ s.msz < 2 ^ 64
  mco : 0 ≤ s.mco ∧ s.mco < 2 ^ 64
  mun : 0 ≤ s.mun ∧ s.mun < 2 ^ 64
  inf : -2 ^ 63 ≤ s.inf ∧ s.inf < 2 ^ 63
  bi : 0 ≤ s.bi ∧ s.bi < 2 ^ 64
  bt : 0 ≤ s.bt ∧ s.bt < 2 ^ 64
  hT : 0 ≤ s.hT ∧ s.hT < 2 ^ 64
  hV : 0 ≤ s.hV ∧ s.hV < 2 ^ 64
  hC : 0 ≤ s.hC ∧ s.hC < 2 ^ 64
  apd : 0 ≤ s.apd ∧ s.apd < 2 ^ 64
  Dr : ∀ x ∈ D, -2 ^ 63 ≤ x ∧ x < 2 ^ 63
  Mr : ∀ x ∈ V ++ L ++ V2 ++ L2, 0 ≤ x ∧ x < 2 ^ 64
  lr : ∀ e ∈ l, (0 ≤ e.t ∧ e.t < 2 ^ 64) ∧ (0 ≤ e.i ∧ e.i < 2 ^ 64) ∧ (-2 ^ 63 ≤ e.k ∧ e.k < 2 ^ 63)
set_option maxRecDepth 100000 in
set_option maxHeartbeats 2000000 in
theorem fits_any {W w : World} {s : SetS} {V L V2 L2 D : List Int} {l : List EntK} (h : Arg W s V L V2 L2 D l) (hn : Chg [] W w) : Calls Tryz.prog 15 #[.agg s.list.toArray] w fun y w' => ∃ b, y = .returned (.bool b) ∧ Nxt w w' := by
  obtain ⟨A0, m0, k0, e0⟩ := h.rd.form
  obtain ⟨A1, m1, k1, e1⟩ := h.b1.form
  obtain ⟨A2, m2, k2, e2⟩ := h.b2.form
  obtain ⟨A3, m3, k3, e3⟩ := h.b3.form
  obtain ⟨A4, m4, k4, e4⟩ := h.b4.form
  obtain ⟨A5, k5, e5⟩ := h.lg.form
  have hl := h.ll
  have HL := Lib.hid (h.lg.nxt hn)
  clear h hn
  obtain ⟨id, et, ht, rd, pv, cq, le, nf, sd, msz, mco, mun, inf, bd, bi, bt, b1, b2, b3, b4, bal, lg, hT, hV, hC, apd⟩ := s
  simp only at e0 e1 e2 e3 e4 e5 HL
  subst e0 e1 e2 e3 e4 e5
  obtain ⟨n, hnn⟩ : ∃ n, n = l.length := ⟨_, rfl⟩
  rw [← hnn] at HL ⊢
  have HN := Lib.hid hnn
  clear hnn
  obtain ⟨SL, hSL⟩ : ∃ SL, SL = SetS.list ⟨id, et, ht, .slice A0 m0 k0, pv, cq, le, nf, sd, msz, mco, mun, inf, bd, bi, bt, .slice A1 m1 k1, .slice A2 m2 k2, .slice A3 m3 k3, .slice A4 m4 k4, bal, .slice A5 n k5, hT, hV, hC, apd⟩ := ⟨_, rfl⟩
  rw [← hSL]
  have HSL := Lib.hid hSL
  clear hSL
  have hb0 := Blk.new w 33 SL.toArray
  go_enter Tryz.func15, Tryz.ntmps15
  go_upto_region 1 with fail
  have hX : Chg [] w (w.alloc (.cells SL.toArray 33)) := (Chg.refl _ _).alloc _
  generalize w.alloc (.cells SL.toArray 33) = X at hb0 hX ⊢
  obtain ⟨b, hb⟩ : ∃ b, b = w.heap.size := ⟨_, rfl⟩
  rw [← hb] at hb0 ⊢
  rw [HSL.out] at hb0
  clear hb
  have c3 : X.cell? ⟨b, 3, none⟩ = some (.slice A0 m0 k0) := hb0.cell 3
  have c13 : X.cell? ⟨b, 13, none⟩ = some (.string bd) := hb0.cell 13
  have c14 : X.cell? ⟨b, 14, none⟩ = some (.int .u64 bi) := hb0.cell 14
  have c15 : X.cell? ⟨b, 15, none⟩ = some (.int .u64 bt) := hb0.cell 15
  have c16 : X.cell? ⟨b, 16, none⟩ = some (.slice A1 m1 k1) := hb0.cell 16
  have c17 : X.cell? ⟨b, 17, none⟩ = some (.slice A2 m2 k2) := hb0.cell 17
  have c18 : X.cell? ⟨b, 18, none⟩ = some (.slice A3 m3 k3) := hb0.cell 18
  have c19 : X.cell? ⟨b, 19, none⟩ = some (.slice A4 m4 k4) := hb0.cell 19
  have c20 : X.cell? ⟨b, 20, none⟩ = some (.bool bal) := hb0.cell 20
  have c21 : X.cell? ⟨b, 21, none⟩ = some (.slice A5 n k5) := hb0.cell 21
  have HX := Lib.hid hX
  clear hb0 hX
  go_wp2_with (first | (go_at_call 28; (with_reducible refine Calls.mono (fits2_any _ _ _ _ _ _ _ _ _ _ _ _ _ _ _ _ _) ?_); rintro e w1 ⟨b1, rfl, hn1⟩; have c21' := hn1.out.at0 c21; rcases b1) | (go_at_call 59; (with_reducible refine Calls.mono (fits4_any _ _ l (HL.out.nxt (HX.out.trans (Nxt.out (by assumption)))) (by have := HN.out; omega)) ?_); rintro e w2 ⟨b2, rfl, hn2⟩; rcases b2))
  · go_ret
    exact ⟨_, rfl, ⟨HX.out⟩⟩
  · go_ret
    exact ⟨_, rfl, ⟨HX.out.trans hn1.out⟩⟩
  all_goals (go_ret; exact ⟨_, rfl, ⟨(HX.out.trans (Nxt.out (by assumption))).trans hn2.out⟩⟩)
end Go.Proofs.YtalhhplphlobbaaGreat
namespace Go.Proofs.YtalhhplphlobbaaGreat
open Go.RowKit
theorem rng_nxt {w w' : World} {b o : Nat} {CL : List Value} (h : w.rangeAt b o CL) (hc : Chg [] w w') : w'.rangeAt b o CL := fun j v hj => hc.at0 (h j v hj)
/-- 44: the one call. -/
def ready44 : List Value := [.int .i64 5, .int .u64 0, .string ⟨#[]⟩, .int .i64 0, .int .u64 0, .int .u64 0, .int .u64 0, .int .u64 0, .int .u64 0, .int .u64 0, .int .u64 0, .int .u64 0, .slice none 0 0, .string ⟨#[]⟩, .int .u64 0, .int .u64 0, .slice none 0 0, .slice none 0 0, .slice none 0 0, .slice none 0 0, .bool false, .bool false, .string ⟨#[]⟩, .slice none 0 0, .int .i64 0, .slice none 0 0, .string ⟨#[]⟩, .bool false]
def bld44 (parts : Array (Nat × Value)) : Sem Value := Instr.build 44 parts
theorem bld44_eq (parts : Array (Nat × Value)) : Instr.build 44 parts = bld44 parts := rfl
theorem ready44_build (w : World) : (bld44 #[(0, .int .i64 5)]).run Tryz.prog w = .ok (.agg ready44.toArray) w := by kernel_rfl
def zero44 : List Value := [.int .i64 0, .int .u64 0, .string ⟨#[]⟩, .int .i64 0, .int .u64 0, .int .u64 0, .int .u64 0, .int .u64 0, .int .u64 0, .int .u64 0, .int .u64 0, .int .u64 0, .slice none 0 0, .string ⟨#[]⟩, .int .u64 0, .int .u64 0, .slice none 0 0, .slice none 0 0, .slice none 0 0, .slice none 0 0, .bool false, .bool false, .string ⟨#[]⟩, .slice none 0 0, .int .i64 0, .slice none 0 0, .string ⟨#[]⟩, .bool false]
theorem fold44 (F : List Value) (h : F.length = 28) : List.foldl (fun (cs : Array Value) (x : Value × Nat) => cs.setIfInBounds x.snd x.fst) #[.int .i64 0, .int .u64 0, .string ⟨#[]⟩, .int .i64 0, .int .u64 0, .int .u64 0, .int .u64 0, .int .u64 0, .int .u64 0, .int .u64 0, .int .u64 0, .int .u64 0, .slice none 0 0, .string ⟨#[]⟩, .int .u64 0, .int .u64 0, .slice none 0 0, .slice none 0 0, .slice none 0 0, .slice none 0 0, .bool false, .bool false, .string ⟨#[]⟩, .slice none 0 0, .int .i64 0, .slice none 0 0, .string ⟨#[]⟩, .bool false] F.zipIdx = F.toArray := by
  have := fold_set F 0 #[.int .i64 0, .int .u64 0, .string ⟨#[]⟩, .int .i64 0, .int .u64 0, .int .u64 0, .int .u64 0, .int .u64 0, .int .u64 0, .int .u64 0, .int .u64 0, .int .u64 0, .slice none 0 0, .string ⟨#[]⟩, .int .u64 0, .int .u64 0, .slice none 0 0, .slice none 0 0, .slice none 0 0, .slice none 0 0, .bool false, .bool false, .string ⟨#[]⟩, .slice none 0 0, .int .i64 0, .slice none 0 0, .string ⟨#[]⟩, .bool false] (by rw [h]; rfl)
  simpa using this
theorem ready44_len : ready44.length = 28 := rfl
theorem ready44_one : ∀ v ∈ ready44, v.oneCell' = true := by
  intro v hv
  simp only [ready44, List.mem_cons, List.not_mem_nil, or_false] at hv
  rcases hv with rfl | rfl | rfl | rfl | rfl | rfl | rfl | rfl | rfl | rfl | rfl | rfl | rfl | rfl | rfl | rfl | rfl | rfl | rfl | rfl | rfl | rfl | rfl | rfl | rfl | rfl | rfl | rfl <;> rfl
theorem Inp.nxt {W X : World} {s : SetS} {V L : List Int} {l : List Ent} {D : List Int} (h : Inp W s V L l D) (hc : Chg [] W X) : Inp X s V L l D :=
  ⟨h.id0, h.id1, h.ht0, h.het, h.et1, h.mco0, h.mco1, h.inf0, h.msz1, h.lec, h.b1.chg0 hc, h.b2.chg0 hc, h.b3.chg0 hc, h.b4.chg0 hc, h.bal, h.bd1, h.lg.nxt' ⟨hc⟩, h.ll, h.row, h.fit, h.small, h.bi0, h.bi1, h.hT0, h.hc0, h.hc1, h.apd, h.nd, h.V0, h.rng, h.lV, h.lL, h.rd.chg0 hc, h.Dl, h.Dn⟩
theorem arg_one {W : World} {s : SetS} {V L V2 L2 D : List Int} {l : List EntK} (h : Arg W s V L V2 L2 D l) : ∀ v ∈ s.list, v.oneCell' = true := by
  obtain ⟨A0, m0, k0, e0⟩ := h.rd.form
  obtain ⟨A1, m1, k1, e1⟩ := h.b1.form
  obtain ⟨A2, m2, k2, e2⟩ := h.b2.form
  obtain ⟨A3, m3, k3, e3⟩ := h.b3.form
  obtain ⟨A4, m4, k4, e4⟩ := h.b4.form
  obtain ⟨A5, k5, e5⟩ := h.lg.form
  intro u hu
  simp only [SetS.list, e0, e1, e2, e3, e4, e5, List.mem_cons, List.not_mem_nil, or_false] at hu
  rcases hu with rfl | rfl | rfl | rfl | rfl | rfl | rfl | rfl | rfl | rfl | rfl | rfl | rfl | rfl | rfl | rfl | rfl | rfl | rfl | rfl | rfl | rfl | rfl | rfl | rfl | rfl <;> rfl
theorem arg_bld {W : World} {s : SetS} {V L V2 L2 D : List Int} {l : List EntK} (h : Arg W s V L V2 L2 D l) : ∀ w, (bld140 #[(0, .agg s.list.toArray)]).run Tryz.prog w = .ok (.agg (single0 s).cells) w := by
  obtain ⟨A0, m0, k0, e0⟩ := h.rd.form
  obtain ⟨A1, m1, k1, e1⟩ := h.b1.form
  obtain ⟨A2, m2, k2, e2⟩ := h.b2.form
  obtain ⟨A3, m3, k3, e3⟩ := h.b3.form
  obtain ⟨A4, m4, k4, e4⟩ := h.b4.form
  obtain ⟨A5, k5, e5⟩ := h.lg.form
  clear h
  obtain ⟨id, et, ht, rd, pv, cq, le, nf, sd, msz, mco, mun, inf, bd, bi, bt, b1, b2, b3, b4, bal, lg, hT, hV, hC, apd⟩ := s
  simp only at e0 e1 e2 e3 e4 e5
  subst e0 e1 e2 e3 e4 e5
  intro w
  exact singleBuild w id et ht msz mco mun inf bi bt hT hV hC apd pv cq le nf sd bal bd A0 A1 A2 A3 A4 A5 m0 k0 m1 k1 m2 k2 m3 k3 m4 k4 _ k5
end Go.Proofs.YtalhhplphlobbaaGreat
namespace Go.Proofs.YtalhhplphlobbaaGreat
open Go.RowKit
/-- A call that answers a bool and changes nothing. -/
def BoolP (P : Bool → Prop) (w : World) (y : Ending) (w' : World) : Prop := ∃ b, y = .returned (.bool b) ∧ P b ∧ Nxt w w'
set_option maxRecDepth 100000 in
set_option maxHeartbeats 400000 in
theorem known_any (w : World) (x : Int) : Calls Tryz.prog 27 #[.int .u64 x] w fun y w' => y = .returned (.bool (decide (0 < x ∧ x < 1099511627776))) ∧ Nxt w w' := by
  go_enter Tryz.func27, Tryz.ntmps27
  go_wp2
  all_goals (go_ret; refine ⟨?_, ⟨Chg.refl _ _⟩⟩; show Ending.returned (.bool _) = _; congr 2; simp; try omega)
theorem u64_at {M : List Nat} {w : World} {A : Option Addr} {n c : Nat} {V : List Int} (h : Sl M w (.slice A n c) (U64s V)) {k : Nat} (hk : k < n) : ∃ b o x, A = some ⟨b, o, none⟩ ∧ V[k]? = some x ∧ w.cell? ⟨b, o + k, none⟩ = some (.int .u64 x) ∧ b < w.heap.size := by
  obtain ⟨b, o, p, rfl, hp, hc, hb⟩ := sl_at h hk
  simp only [U64s, List.getElem?_map] at hp
  cases hj : V[k]? with
  | none => rw [hj] at hp; cases hp
  | some x =>
    rw [hj] at hp
    injection hp with hp
    subst hp
    exact ⟨b, o, x, rfl, rfl, hc, hb⟩
theorem u64_len {M : List Nat} {w : World} {A : Option Addr} {n c : Nat} {V : List Int} (h : Sl M w (.slice A n c) (U64s V)) : V.length = n ∧ n ≤ c := by
  obtain ⟨A', n', c', he, hl, hc, _⟩ := h
  injection he with h1 h2 h3
  subst h1; subst h2; subst h3
  exact ⟨by simpa [U64s] using hl, hc⟩
set_option maxRecDepth 100000 in
set_option maxHeartbeats 800000 in
theorem has_any {M : List Nat} {w : World} {A : Option Addr} {n c : Nat} {V : List Int} (x : Int) (h : Sl M w (.slice A n c) (U64s V)) (hn : n < 2 ^ 62) : Calls Tryz.prog 21 #[.slice A n c, .int .u64 x] w (BoolP (fun b => b = false → x ∉ V) w) := by
  have HS := Lib.hid h
  have HG := Lib.hid (u64_len h).1
  clear h
  go_enter Tryz.func21, Tryz.ntmps21
  go_wp2
  go_loopw [9] (fun i wr => ∃ k : Nat, k ≤ n ∧ i = .int .i64 k ∧ (∀ j y, j < k → V[j]? = some y → x ≠ y) ∧ Chg [] w wr) (fun i _ => n - (intOf i).toNat)
  case atStart => exact ⟨0, by omega, rfl, fun j y hj => by omega, Chg.refl _ _⟩
  case round =>
    obtain ⟨k, hk, rfl, hno, hcw⟩ := hrel
    have HNO := Lib.hid hno
    clear hno
    by_cases hlt : k < n
    · obtain ⟨b, o, z, rfl, hp, hcell, _⟩ := u64_at HS.out hlt
      have d1 := hcw.at0 hcell
      have HP := Lib.hid hp
      have HCW := Lib.hid hcw
      clear hcell hp hcw
      have hcmp : z = x ∨ ¬ z = x := Classical.em _
      by_cases hzx : z = x
      · subst hzx
        go_wp2
        go_ret
        exact ⟨true, rfl, by simp, ⟨HCW.out⟩⟩
      · have hzx' : (z == x) = false := by simp [hzx]
        go_wp2
        exact ⟨⟨k + 1, by omega, by simp, fun j y hj hy => by
          rcases Nat.lt_or_ge j k with h1 | h1
          · exact HNO.out j y h1 hy
          · have : j = k := by omega
            subst this
            rw [HP.out] at hy
            injection hy with hy
            subst hy
            exact fun e => hzx e.symm, HCW.out⟩, by simp [intOf]; omega⟩
    · have hkn : k = n := by omega
      subst hkn
      go_wp2
      go_ret
      refine ⟨false, rfl, fun _ hx => ?_, ⟨hcw⟩⟩
      obtain ⟨j, hj⟩ := List.mem_iff_getElem?.1 hx
      have hjl := (List.getElem?_eq_some_iff.1 hj).1
      exact HNO.out j x (by have := HG.out; omega) hj rfl
theorem u64_take {M : List Nat} {w : World} {A : Option Addr} {n c k : Nat} {V : List Int} (h : Sl M w (.slice A n c) (U64s V)) (hk : k ≤ n) : Sl M w (.slice A k c) (U64s (V.take k)) := by
  obtain ⟨A', n', c', he, hl, hc, h0, ha⟩ := h
  injection he with h1 h2 h3
  subst h1; subst h2; subst h3
  have hVl : V.length = n := by simpa [U64s] using hl
  refine ⟨_, _, _, rfl, by simp [U64s]; omega, by omega, h0, fun b o s e => ?_⟩
  obtain ⟨g1, g2, g3, g4⟩ := ha b o s e
  refine ⟨g1, g2, g3, fun j u hu => g4 j u ?_⟩
  simp only [U64s, List.map_take, List.getElem?_take] at hu ⊢
  split at hu
  · exact hu
  · cases hu
theorem nodup_take {V : List Int} (h : ∀ j y, V[j]? = some y → y ∉ V.take j) : V.Nodup := by
  show List.Pairwise (· ≠ ·) V
  rw [List.pairwise_iff_getElem]
  intro i j hi hj hij hEq
  refine h j V[j] (List.getElem?_eq_getElem hj) ?_
  have : (V.take j)[i]? = some V[j] := by rw [List.getElem?_take, if_pos hij, List.getElem?_eq_getElem hi, hEq]
  exact List.mem_of_getElem? this
set_option maxRecDepth 100000 in
set_option maxHeartbeats 800000 in
theorem once_any {M : List Nat} {w : World} {A : Option Addr} {n c : Nat} {V : List Int} (h : Sl M w (.slice A n c) (U64s V)) (hn : n < 2 ^ 62) : Calls Tryz.prog 69 #[.slice A n c] w (BoolP (fun b => b = true → V.Nodup) w) := by
  have HS := Lib.hid h
  have HG := Lib.hid (u64_len h)
  clear h
  go_enter Tryz.func69, Tryz.ntmps69
  go_wp2
  go_loopw [3, 4, 7] (fun _ _ i wr => ∃ k : Nat, k ≤ n ∧ i = .int .i64 k ∧ (∀ j y, j < k → V[j]? = some y → y ∉ V.take j) ∧ Chg [] w wr) (fun _ _ i _ => n - (intOf i).toNat)
  case atStart => exact ⟨0, by omega, rfl, fun j y hj => by omega, Chg.refl _ _⟩
  case round =>
    obtain ⟨k, hk, rfl, hno, hcw⟩ := hrel
    have HNO := Lib.hid hno
    clear hno
    by_cases hlt : k < n
    · obtain ⟨b, o, z, rfl, hp, hcell, _⟩ := u64_at HS.out hlt
      have d1 := hcw.at0 hcell
      have HP := Lib.hid hp
      have HCW := Lib.hid hcw
      have HT := Lib.hid (has_any z ((u64_take HS.out hk).chg0 hcw) (by omega))
      have hkc : k ≤ c := by have := HG.out; omega
      clear hcell hp hcw
      go_wp2_with (first | (go_at_call 21; (with_reducible refine Calls.mono HT.out ?_); rintro e w1 ⟨b1, rfl, hb1, hn1⟩; have HB1 := Lib.hid hb1; clear hb1; rcases b1))
      · exact ⟨⟨k + 1, by omega, by simp, fun j y hj hy => by
          rcases Nat.lt_or_ge j k with h1 | h1
          · exact HNO.out j y h1 hy
          · have : j = k := by omega
            subst this
            rw [HP.out] at hy
            injection hy with hy
            subst hy
            exact HB1.out trivial, HCW.out.trans hn1.out⟩, by simp [intOf]; omega⟩
      · go_ret
        exact ⟨false, rfl, by simp, ⟨HCW.out.trans hn1.out⟩⟩
    · have hkn : k = n := by omega
      subst hkn
      go_wp2
      go_ret
      refine ⟨true, rfl, fun _ => nodup_take fun j y hy => ?_, ⟨hcw⟩⟩
      have hjl := (List.getElem?_eq_some_iff.1 hy).1
      exact HNO.out j y (by have := HG.out.1; omega) hy
end Go.Proofs.YtalhhplphlobbaaGreat
