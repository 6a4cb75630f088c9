/- Node with one call, that to be ready. Conditions: what a setup must be. -/
import Derived.Test.YtalhhplphlobbaaGreatP39
set_option linter.unusedVariables false
set_option linter.unusedSimpArgs false
namespace Go.Proofs.YtalhhplphlobbaaGreat
open Go.RowKit
attribute [local go_sem ↓] bld140_eq bld48_eq
/-- What Node says: two answers. -/
def NodePost (W : World) (s : SetS) (l : List Ent) (y : Ending) (w' : World) : Prop :=
  ∃ g k h c n1 k1 g2 n2 k2 v1 v2 v3 v4 u1 u2 u3 u4 r lg lg2, y = .returned (.slice (some ⟨g, 0, none⟩) 2 k) ∧
    w'.ownsRow W.heap.size 48 33 (.slice (some ⟨g, 0, none⟩) 2 k) 2 ((said0.add r lg v1 v2 v3 v4 false).list ++ (SaidS.add { said0 with has := h, com := .slice c n1 k1, log := .slice g2 n2 k2 } r lg2 u1 u2 u3 u4 false).list) ∧
    r.state = 0 ∧ r.lead = 0 ∧ r.term = s.hT ∧ r.vote = s.hV ∧ lg.com = s.hC ∧ lg.apd = apd0 s ∧ lg2.com = s.hC ∧ lg2.apd = s.hC ∧
    w'.ownsRow W.heap.size 65 4 (.slice c n1 k1) ((s.hC - s.bi).toNat - (apd0 s - s.bi).toNat) (ECells ((l.take (s.hC - s.bi).toNat).drop (apd0 s - s.bi).toNat)) ∧ (h = true → w'.ownsRow W.heap.size 65 4 (.slice g2 n2 k2) l.length (ECells l)) ∧ Nxt W w'
theorem fold_set : ∀ (F : List Value) (k : Nat) (cs : Array Value), k + F.length = cs.size → List.foldl (fun (cs : Array Value) (x : Value × Nat) => cs.setIfInBounds x.snd x.fst) cs (F.zipIdx k) = (cs.toList.take k ++ F).toArray
  | [], k, cs, h => by
    have hk : k = cs.size := by simpa using h
    subst hk
    simp only [List.zipIdx_nil, List.foldl_nil, List.append_nil]
    rw [List.take_of_length_le (by simp)]
  | v :: F, k, cs, h => by
    rw [List.zipIdx_cons, List.foldl_cons, fold_set F (k + 1) _ (by simp at h ⊢; omega)]
    have hk : k < cs.toList.length := by simp at h ⊢; omega
    simp only [Array.toList_setIfInBounds]
    rw [List.take_succ_eq_append_getElem (by simpa using hk)]
    simp [List.take_set]
    rw [List.set_eq_of_length_le (by rw [List.length_take]; exact Nat.min_le_left _ _)]
theorem fold48 (F : List Value) (h : F.length = 33) : List.foldl (fun (cs : Array Value) (x : Value × Nat) => cs.setIfInBounds x.snd x.fst) #[Value.int .i64 0, .bool false, .int .i64 0, .int .u64 0, .int .u64 0, .int .u64 0, .int .u64 0, .int .u64 0, .int .u64 0, .slice none 0 0, .slice none 0 0, .slice none 0 0, .slice none 0 0, .bool false, .bool false, .bool false, .int .u64 0, .int .u64 0, .int .u64 0, .slice none 0 0, .string ⟨#[]⟩, .int .u64 0, .int .u64 0, .slice none 0 0, .slice none 0 0, .slice none 0 0, .slice none 0 0, .bool false, .slice none 0 0, .slice none 0 0, .slice none 0 0, .bool false, .slice none 0 0] F.zipIdx = F.toArray := by
  have := fold_set F 0 #[Value.int .i64 0, .bool false, .int .i64 0, .int .u64 0, .int .u64 0, .int .u64 0, .int .u64 0, .int .u64 0, .int .u64 0, .slice none 0 0, .slice none 0 0, .slice none 0 0, .slice none 0 0, .bool false, .bool false, .bool false, .int .u64 0, .int .u64 0, .int .u64 0, .slice none 0 0, .string ⟨#[]⟩, .int .u64 0, .int .u64 0, .slice none 0 0, .slice none 0 0, .slice none 0 0, .slice none 0 0, .bool false, .slice none 0 0, .slice none 0 0, .slice none 0 0, .bool false, .slice none 0 0] (by rw [h]; rfl)
  simpa using this
/-- Behind begin, called from a closure. -/
def Begun (X0 : World) (nb : Nat) (s : SetS) (V L : List Int) (l : List Ent) (D : List Int) (w : World) : Prop :=
  Chg [nb] X0 w ∧ ∃ X ms cfp cb rn ss hs rb rl bt x0 x2 bv ro mo bi f p hv sv ev, Nxt X0 X ∧ BegTo X nb s V L l D w ms cfp cb rn ss hs rb rl bt x0 x2 bv ro mo bi f p hv sv ev
theorem guardBegin {W X1 : World} {nb t6 : Nat} {s : SetS} {V L : List Int} {l : List Ent} {D : List Int} (hi : Inp W s V L l D) (hn : Nxt W X1) (hnb : W.heap.size ≤ nb) (hs : SinAt X1 nb (single0 s)) (h6 : X1.cell? ⟨t6, 0, none⟩ = some (.pointer (some ⟨nb, 0, none⟩))) (h6n : t6 ≠ nb) :
    Calls Tryz.prog 61 #[.func (.func 62) #[] #[.pointer (some ⟨t6, 0, none⟩)]] X1 fun y w' => y = .returned (.bool false) ∧ Begun X1 nb s V L l D w' := by
  have hX2 : Nxt X1 (X1.alloc (.cells #[.bool false] 4)) := ⟨(Chg.refl _ _).alloc _⟩
  have hb := Blk.new X1 4 #[.bool false]
  have nbl := Blk.lt hs
  refine guarded_62 (R := fun w' => Begun X1 nb s V L l D w') ?_
  refine (node1_any (R := fun w' => Begun (X1.alloc (.cells #[.bool false] 4)) nb s V L l D w') (hX2.out.at0 h6) ?_).mono ?_
  · intro X hX
    have hWX : Nxt W X := ⟨(hn.out.trans hX2.out).trans hX.out⟩
    refine (begin_of hi hWX hnb ((hs.nxt hX2).nxt hX)).mono ?_
    rintro y w' ⟨rfl, ms, cfp, cb, rn, ss, hs', rb, rl, bt, x0, x2, bv, ro, mo, bi, f, p, hv, sv, ev, hB⟩
    refine ⟨rfl, ⟨(hX.out.mono (by simp)).trans hB.ca, X, ms, cfp, cb, rn, ss, hs', rb, rl, bt, x0, x2, bv, ro, mo, bi, f, p, hv, sv, ev, hX, hB⟩, SinAt.cell hB.sn 26 _ rfl, Blk.frozen hB.sn, hB.ca.at_ (hX.out.at0 (hX2.out.at0 h6)) (by simpa using h6n)⟩
  · rintro y w' ⟨rfl, hc, X, ms, cfp, cb, rn, ss, hs', rb, rl, bt, x0, x2, bv, ro, mo, bi, f, p, hv, sv, ev, hX, hB⟩
    refine ⟨rfl, hb.chg hc (by simp; omega), (hX2.out.mono (by simp)).trans hc, X, ms, cfp, cb, rn, ss, hs', rb, rl, bt, x0, x2, bv, ro, mo, bi, f, p, hv, sv, ev, ⟨hX2.out.trans hX.out⟩, hB⟩
/-- Behind ready, called from do. -/
def Done1 (w : World) (nb : Nat) (s : SetS) (l : List Ent) (ms cfp rn rb rl ss hs : Nat) (r : RaftS) (hv sv ev : Value) (A : SaidS) (w' : World) : Prop :=
  ∃ X w1 z, Nxt w X ∧ w.heap.size ≤ z ∧ z < X.heap.size ∧ RdDone X nb s l ms cfp rn rb rl ss hs r hv sv ev A w1 ∧ Chg [z] w1 w' ∧ Chg [nb, rn, rb, rl, ms] w w'
/-- Behind said, too. -/
def Done2 (w : World) (s : SetS) (l : List Ent) (r : RaftS) (A : SaidS) (w' : World) : Prop :=
  ∃ h c n1 k1 g n2 k2 u1 u2 u3 u4 lg2, A = SaidS.add { said0 with has := h, com := .slice c n1 k1, log := .slice g n2 k2 } r lg2 u1 u2 u3 u4 false ∧ lg2.com = s.hC ∧ lg2.apd = s.hC ∧
    w'.ownsRow w.heap.size 65 4 (.slice c n1 k1) ((s.hC - s.bi).toNat - (apd0 s - s.bi).toNat) (ECells ((l.take (s.hC - s.bi).toNat).drop (apd0 s - s.bi).toNat)) ∧ (h = true → w'.ownsRow w.heap.size 65 4 (.slice g n2 k2) l.length (ECells l))
theorem guardReady {W X0 w1 Y : World} {nb t6 c8 c9 : Nat} {s : SetS} {V L : List Int} {l : List Ent} {D : List Int} {CL : List Value} {ms cfp cb rn ss hs rb rl bt x0 : Nat} {x2 : Option Nat} {bv ro mo : Nat} {bi : Int → Nat} {f : Int → Option PrS} {p : Int → Nat} {hv sv ev : Value} (hi : Inp W s V L l D) (hB : BegTo X0 nb s V L l D w1 ms cfp cb rn ss hs rb rl bt x0 x2 bv ro mo bi f p hv sv ev) (hn : Nxt w1 Y)
    (h6 : Y.cell? ⟨t6, 0, none⟩ = some (.pointer (some ⟨nb, 0, none⟩))) (h8 : Y.rangeAt c8 0 CL) (h9 : Y.there c9 0 33) (hll : CL.length = 28) (hc5 : CL[0]? = some (.int .i64 5)) (m6 : t6 ∉ [nb, rn, rb, rl, ms]) (m8 : w1.heap.size ≤ c8) (m9 : w1.heap.size ≤ c9) (n69 : t6 ≠ c9) (n89 : c8 ≠ c9) (l9 : c9 < Y.heap.size) :
    Calls Tryz.prog 61 #[.func (.func 65) #[] #[.pointer (some ⟨t6, 0, none⟩), .pointer (some ⟨c8, 0, none⟩), .pointer (some ⟨c9, 0, none⟩)]] Y fun y w' => y = .returned (.bool false) ∧ ∃ A w2, A.ok ∧ Done2 Y s l (raftB s ms rb rl x0 x2 bt bv ro L D) A w2 ∧ Chg [nb, rn, rb, rl, ms] Y w2 ∧ w' = w2.setCells c9 0 A.list := by
  have hCm := calm_of hi hB
  have hlt := hCm.lt
  have hYz := hn.out.size
  have hb := Blk.new Y 4 #[.bool false]
  have hX2 : Nxt Y (Y.alloc (.cells #[.bool false] 4)) := ⟨(Chg.refl _ _).alloc _⟩
  have hz2 : (Y.alloc (.cells #[.bool false] 4)).heap.size = Y.heap.size + 1 := by simp
  have hnm : ∀ x, w1.heap.size ≤ x → x ∉ [nb, rn, rb, rl, ms] := fun x hx hm => by have := hlt x hm; omega
  refine guarded_65 ?_
  have hN2 : N2S t6 nb c8 c9 CL (Y.alloc (.cells #[.bool false] 4)) := N2S.chg (L := []) ⟨h6, h8, h9⟩ hX2.out (by simp) (by simp) (by simp)
  refine (node2_any (R1 := Done1 (Y.alloc (.cells #[.bool false] 4)) nb s l ms cfp rn rb rl ss hs (raftB s ms rb rl x0 x2 bt bv ro L D) hv sv ev) (R2 := fun A w' => Done2 Y s l (raftB s ms rb rl x0 x2 bt bv ro L D) A w' ∧ Chg [nb, rn, rb, rl, ms] (Y.alloc (.cells #[.bool false] 4)) w') (L := [nb, rn, rb, rl, ms]) hN2 hll m6 (hnm _ m8) (hnm _ m9) n69 n89 ?_ ?_).mono ?_
  · intro X hX
    have hwX : Chg [] w1 X := (hn.out.trans hX2.out).trans hX.out
    refine (do_ready (R := fun A w' => ∃ X', Nxt X X' ∧ X.heap.size + 1 < X'.heap.size ∧ RdDone X' nb s l ms cfp rn rb rl ss hs (raftB s ms rb rl x0 x2 bt bv ro L D) hv sv ev A w') (L := [nb, rn, rb, rl, ms]) (by simpa using hc5) (fun x hx => Nat.lt_of_lt_of_le (hlt x hx) hwX.size) (fun X' hX' hz => ?_)).mono ?_
    · refine (readyB_any hi hB (hwX.trans hX'.out)).mono ?_
      rintro y w' ⟨A, hok, rfl, hr, hc⟩
      exact ⟨A, hok, rfl, ⟨X', hX', hz, hr⟩, hc⟩
    · rintro y w' ⟨A, hok, rfl, w1', ⟨X', hX', hz, hr⟩, hc1, hcL⟩
      exact ⟨A, hok, rfl, ⟨X', w1', X.heap.size + 1, ⟨hX.out.trans hX'.out⟩, by have := hX.out.size; omega, hz, hr, hc1, (hX.out.mono (by simp)).trans hcL⟩, hcL⟩
  · rintro A wA hok ⟨X, w1', z, hX, hz1, hz2', hr, hcz, hcL⟩
    obtain ⟨h, c, n1, k1, g, n2, k2, v4, hA, hoc, hog, hrn⟩ := hr.ex
    have hzn : ∀ x ∈ [nb, rn, rb, rl, ms], x ≠ z := fun x hx => by have := hlt x hx; omega
    have hcf := (ConfAt.chg0 hB.cf (hn.out.trans hX2.out)).chg hcL (by simp)
    have hM9 : ∀ x ∈ [nb, rn, rb, rl, ms], x < wA.heap.size := fun x hx => Nat.lt_of_lt_of_le (hlt x hx) (Nat.le_trans (Nat.le_trans hYz hX2.out.size) hcL.size)
    refine (saidB_any (rl := rl) hi (SinAt.chg hr.sn hcz (by simpa using hzn nb (by simp))) (hrn.chg hcz (by simpa using hzn rn (by simp))) (RaftAt.chg hr.ra hcz (by simpa using hzn rb (by simp))) rfl rfl (RlAt.chg hr.la hcz (by simpa using hzn rl (by simp))) hcf hM9 hok).mono ?_
    rintro y w' ⟨u1, u2, u3, u4, hok2, rfl, hn2⟩
    refine ⟨_, hok2, rfl, ⟨⟨h, c, n1, k1, g, n2, k2, u1, u2, u3, u4, _, by rw [hA], rfl, rfl, ?_, fun hh => ?_⟩, ?_⟩, hn2.out.mono (by simp)⟩
    · exact own_base (own_chg0 (own_chg hoc hcz (by simpa using hz2')) hn2.out) (Nat.le_trans hX2.out.size hX.out.size)
    · exact own_base (own_chg0 (own_chg (hog hh) hcz (by simpa using hz2')) hn2.out) (Nat.le_trans hX2.out.size hX.out.size)
    · exact hcL.nxt hn2
  · rintro y w' ⟨rfl, A, w2, hok, ⟨hd, hc2'⟩, hc2, rfl⟩
    refine ⟨rfl, ?_, A, w2, hok, hd, (hX2.out.mono (by simp)).trans hc2, rfl⟩
    exact (hb.chg hc2 (hnm _ hYz)).chg (chg_setCells c9 A.list 0 w2) (by simp; omega)
end Go.Proofs.YtalhhplphlobbaaGreat
