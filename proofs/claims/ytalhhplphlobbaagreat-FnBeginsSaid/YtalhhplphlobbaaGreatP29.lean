/- A node that has begun, at its ready and its said. Conditions: what a setup must be. Node with one call, that to be ready. Conditions: what a setup must be. Node with one call, that to be ready: the walk. FnBegins: what is held while its answers are looked at. Conditions: none. -/
import Derived.Test.YtalhhplphlobbaaGreatP28
set_option linter.unusedVariables false
set_option linter.unusedSimpArgs false
namespace Go.Proofs.YtalhhplphlobbaaGreat
open Go.RowKit
/-- What was applied when a node begins. -/
def apd0 (s : SetS) : Int := if s.apd = 0 then s.bi else s.apd
/-- The raft and the log of a node that has begun. -/
def raftB (s : SetS) (ms rb rl x0 : Nat) (x2 : Option Nat) (bt bv ro : Nat) (L D : List Int) : RaftS := newS (s.cfg ms s.apd).valid rb rl x0 x2 bt bv ro L s.hT s.hV D
def rlogB (s : SetS) (l : List Ent) : RLog := ⟨.pointer none, .slice none 0 0, s.bi + l.length + 1, false, s.bi + l.length + 1, s.hC, apd0 s, apd0 s, s.mco, 0, false⟩
theorem apd0_in {W : World} {s : SetS} {V L : List Int} {l : List Ent} {D : List Int} (h : Inp W s V L l D) : s.bi ≤ apd0 s ∧ apd0 s ≤ s.hC := by
  have h1 := h.apd
  have h2 := h.bi0
  have h3 := h.hc0
  unfold apd0
  split <;> omega
theorem apd0_max {W : World} {s : SetS} {V L : List Int} {l : List Ent} {D : List Int} (h : Inp W s V L l D) : max s.apd s.bi = apd0 s := by
  have h1 := h.apd
  have h2 := h.bi0
  unfold apd0
  split <;> omega
section
variable {W w w' X : World} {nb : Nat} {s : SetS} {V L : List Int} {l : List Ent} {D : List Int} {ms cfp cb rn ss hs rb rl bt x0 : Nat} {x2 : Option Nat} {bv ro mo : Nat} {bi : Int → Nat} {f : Int → Option PrS} {p : Int → Nat} {hv sv ev : Value}
theorem calm_of (h : Inp W s V L l D) (hB : BegTo w nb s V L l D w' ms cfp cb rn ss hs rb rl bt x0 x2 bv ro mo bi f p hv sv ev) : Calm [nb, rn, rb, rl, ms] w' rn rb rl ms ss hs (raftB s ms rb rl x0 x2 bt bv ro L D) (rlogB s l) hv sv ev ⟨s.bt, s.bi, ByteArray.empty⟩ l := by
  have ha := apd0_in h
  exact { rw_ := hB.rw_, ra := hB.run.ra, hrl := rfl, la := hB.run.la, sa := hB.sa, ha := hB.ha, st := hB.st, lt := by
            intro x hx
            have h1 := Blk.lt hB.sn
            have h2 := hB.rw_.lt
            have h3 := Blk.lt hB.run.ra
            have h4 := Blk.lt hB.run.la
            have h5 := hB.st.lt
            simp only [List.mem_cons, List.not_mem_nil, or_false] at hx
            omega
          calm := ⟨rfl, rfl⟩, oip := rfl, off := rfl, ps := rfl, m1 := rfl, m2 := rfl, m3 := rfl, tm := h.hT0, ce := ⟨ha.1, ha.2, h.hc1⟩ }
/-- What is left of a ready. -/
structure RdDone (X : World) (nb : Nat) (s : SetS) (l : List Ent) (ms cfp rn rb rl ss hs : Nat) (r : RaftS) (hv sv ev : Value) (A : SaidS) (w : World) : Prop where
  ex : ∃ h c n1 k1 g n2 k2 v4, A = { said0 with has := h, com := .slice c n1 k1, log := .slice g n2 k2 } ∧ w.ownsRow X.heap.size 65 4 (.slice c n1 k1) ((s.hC - s.bi).toNat - (apd0 s - s.bi).toNat) (ECells ((l.take (s.hC - s.bi).toNat).drop (apd0 s - s.bi).toNat)) ∧ (h = true → w.ownsRow X.heap.size 65 4 (.slice g n2 k2) l.length (ECells l)) ∧
    Blk w rn 276 #[.pointer (some ⟨rb, 0, none⟩), .bool false, .pointer (some ⟨ss, 0, none⟩), .pointer (some ⟨hs, 0, none⟩), v4]
  sn : SinAt w nb ⟨s, false, .pointer (some ⟨rn, 0, none⟩), .pointer (some ⟨ms, 0, none⟩), s.hC, .pointer (some ⟨cfp, 0, none⟩)⟩
  ra : RaftAt w rb r
  la : RlAt w rl ms { rlogB s l with apd := s.hC, apg := s.hC, asz := 0, ps := false }
  ma : MsAt w ms hv sv ev
  cg : Chg [nb, rn, rb, rl, ms] X w
theorem readyB_any (h : Inp W s V L l D) (hB : BegTo w nb s V L l D w' ms cfp cb rn ss hs rb rl bt x0 x2 bv ro mo bi f p hv sv ev) (hc : Chg [] w' X) :
    Calls Tryz.prog 114 #[.pointer (some ⟨nb, 0, none⟩)] X fun y w9 => ∃ A : SaidS, A.ok ∧ y = .returned (.agg A.list.toArray) ∧ RdDone X nb s l ms cfp rn rb rl ss hs (raftB s ms rb rl x0 x2 bt bv ro L D) hv sv ev A w9 ∧ Chg [nb, rn, rb, rl, ms] X w9 := by
  have ha := apd0_in h
  have hm := apd0_max h
  have hC := (calm_of h hB).chg (hc.mono (by simp)) (hB.st.at_.chg hc (by simp))
  have hS := SinAt.nxt hB.sn ⟨hc⟩
  rw [hm] at hS
  have i1 := h.bi1
  have i0 := h.bi0
  have i2 := h.ll
  have i3 := h.hc1
  have i4 := h.mco0
  have i5 := h.mco1
  by_cases hlt : apd0 s < s.hC
  · obtain ⟨a, ha'⟩ := Int.eq_ofNat_of_zero_le (show 0 ≤ apd0 s - s.bi by omega)
    obtain ⟨c, hc'⟩ := Int.eq_ofNat_of_zero_le (show 0 ≤ s.hC - s.bi by omega)
    refine (ready1_any hS rfl rfl hC a c (show apd0 s = s.bi + a by omega) (show s.hC = s.bi + c by omega) rfl (Int.le_of_lt hlt) (by omega) (by omega) (by omega) h.fit h.small rfl (show 2000 * (l.length : Int) < s.mco by omega) i5 h.row rfl rfl (by simp) (by simp) (by simp) (by simp)).mono ?_
    rintro y w9 ⟨A1, n1, c1, A2, n2, c2, sb, k, rfl, ho1, ho2, hs9, hr9, hra, hla, hma, hcg⟩
    refine ⟨saidR (.slice A1 n1 c1) (.slice A2 n2 c2), saidR_ok _ _ _ _ _ _, rfl, ⟨⟨true, A1, n1, c1, A2, n2, c2, _, rfl, ?_, fun _ => ho2, hr9⟩, hs9, hra, hla, hma, hcg⟩, hcg⟩
    rw [ha', hc']
    simpa using ho1
  · have he : apd0 s = s.hC := by omega
    refine (ready0_any hS rfl hC (show ¬ apd0 s < s.hC from hlt) (show apd0 s + 1 < 18446744073709551615 by omega) (show s.hC + 1 < 18446744073709551615 by omega)).mono ?_
    rintro y w9 ⟨rfl, hn⟩
    have hcg : Chg [nb, rn, rb, rl, ms] X w9 := hn.out.mono (by simp)
    refine ⟨said0, said0_ok, rfl, ⟨⟨false, none, 0, 0, none, 0, 0, _, rfl, ?_, by simp, hC.rw_.nxt hn⟩, ?_, hC.ra.nxt hn, ?_, hC.st.at_.chg hn.out (by simp), hcg⟩, hcg⟩
    · rw [he]
      have : (l.take (s.hC - s.bi).toNat).drop (s.hC - s.bi).toNat = [] := List.drop_eq_nil_of_le (by rw [List.length_take]; omega)
      rw [this, Nat.sub_self]
      exact own_nil _ _ _ _
    · have := hS.nxt hn
      rw [he] at this
      exact this
    · have := RlAt.nxt hC.la hn
      unfold rlogB at this ⊢
      rw [he] at this
      exact this
/-- said of a node whose log is known. -/
theorem saidB_any {u1 u2 u3 u4 : Value} {ap : Int} {lg : RLog} {r : RaftS} (hi : Inp W s V L l D) (hS : SinAt w nb ⟨s, false, .pointer (some ⟨rn, 0, none⟩), .pointer (some ⟨ms, 0, none⟩), ap, .pointer (some ⟨cfp, 0, none⟩)⟩) (hrn : Blk w rn 276 #[.pointer (some ⟨rb, 0, none⟩), u1, u2, u3, u4])
    (h : RaftAt w rb r) (hrl : r.rl = rl) (hst : r.state = 0) (hl : RlAt w rl ms lg) (hcf : ConfAt [nb, rn, rb, rl, ms] w (.pointer (some ⟨cfp, 0, none⟩)) V L [] [] false) (hM : ∀ x ∈ [nb, rn, rb, rl, ms], x < w.heap.size) {a : SaidS} (ha : a.ok) :
    Calls Tryz.prog 64 #[.pointer (some ⟨nb, 0, none⟩), .agg a.list.toArray] w fun y w' => ∃ v1 v2 v3 v4, (a.add r lg v1 v2 v3 v4 false).ok ∧ y = .returned (.agg (a.add r lg v1 v2 v3 v4 false).list.toArray) ∧ Nxt w w' := by
  refine (said_any hS rfl rfl hrn h hrl hl hcf hM (by have := hi.lV; omega) (by have := hi.lL; omega) (by simp) (by simp) (by omega) ha).mono ?_
  rintro y w' ⟨A1, n1, k1, A2, n2, k2, A3, n3, k3, A4, n4, k4, rfl, _, _, _, _, hn⟩
  exact ⟨_, _, _, _, SaidS.add_ok ha r lg A1 A2 A3 A4 n1 n2 n3 n4 k1 k2 k3 k4 false, rfl, hn⟩
end
end Go.Proofs.YtalhhplphlobbaaGreat
namespace Go.Proofs.YtalhhplphlobbaaGreat
open Go.RowKit
attribute [local go_sem ↓] bld140_eq bld48_eq
/-- What Node says: two answers. -/
def NodePost (W : World) (s : SetS) (l : List Ent) (y : Ending) (w' : World) : Prop :=
  ∃ g k h c n1 k1 g2 n2 k2 v1 v2 v3 v4 u1 u2 u3 u4 r lg lg2, y = .returned (.slice (some ⟨g, 0, none⟩) 2 k) ∧
    w'.ownsRow W.heap.size 48 33 (.slice (some ⟨g, 0, none⟩) 2 k) 2 ((said0.add r lg v1 v2 v3 v4 false).list ++ (SaidS.add { said0 with has := h, com := .slice c n1 k1, log := .slice g2 n2 k2 } r lg2 u1 u2 u3 u4 false).list) ∧
    r.state = 0 ∧ r.lead = 0 ∧ r.term = s.hT ∧ r.vote = s.hV ∧ lg.com = s.hC ∧ lg.apd = apd0 s ∧ lg2.com = s.hC ∧ lg2.apd = s.hC ∧
    w'.ownsRow W.heap.size 65 4 (.slice c n1 k1) ((s.hC - s.bi).toNat - (apd0 s - s.bi).toNat) (ECells ((l.take (s.hC - s.bi).toNat).drop (apd0 s - s.bi).toNat)) ∧ (h = true → w'.ownsRow W.heap.size 65 4 (.slice g2 n2 k2) l.length (ECells l)) ∧ Nxt W w'
theorem fold_set : ∀ (F : List Value) (k : Nat) (cs : Array Value), k + F.length = cs.size → List.foldl (fun (cs : Array Value) (x : Value × Nat) => cs.setIfInBounds x.snd x.fst) cs (F.zipIdx k) = (cs.toList.take k ++ F).toArray
  | [], k, cs, h => by
    have hk : k = cs.size := by simpa using h
    subst hk
    simp only [List.zipIdx_nil, List.foldl_nil, List.append_nil]
    rw [List.take_of_length_le (by simp)]
  | v :: F, k, cs, h => by
    rw [List.zipIdx_cons, List.foldl_cons, fold_set F (k + 1) _ (by simp at h ⊢; omega)]
    have hk : k < cs.toList.length := by simp at h ⊢; omega
    simp only [Array.toList_setIfInBounds]
    rw [List.take_succ_eq_append_getElem (by simpa using hk)]
    simp [List.take_set]
    rw [List.set_eq_of_length_le (by rw [List.length_take]; exact Nat.min_le_left _ _)]
theorem fold48 (F : List Value) (h : F.length = 33) : List.foldl (fun (cs : Array Value) (x : Value × Nat) => cs.setIfInBounds x.snd x.fst) #[Value.int .i64 0, .bool false, .int .i64 0, .int .u64 0, .int .u64 0, .int .u64 0, .int .u64 0, .int .u64 0, .int .u64 0, .slice none 0 0, .slice none 0 0, .slice none 0 0, .slice none 0 0, .bool false, .bool false, .bool false, .int .u64 0, .int .u64 0, .int .u64 0, .slice none 0 0, .string ⟨#[]⟩, .int .u64 0, .int .u64 0, .slice none 0 0, .slice none 0 0, .slice none 0 0, .slice none 0 0, .bool false, .slice none 0 0, .slice none 0 0, .slice none 0 0, .bool false, .slice none 0 0] F.zipIdx = F.toArray := by
  have := fold_set F 0 #[Value.int .i64 0, .bool false, .int .i64 0, .int .u64 0, .int .u64 0, .int .u64 0, .int .u64 0, .int .u64 0, .int .u64 0, .slice none 0 0, .slice none 0 0, .slice none 0 0, .slice none 0 0, .bool false, .bool false, .bool false, .int .u64 0, .int .u64 0, .int .u64 0, .slice none 0 0, .string ⟨#[]⟩, .int .u64 0, .int .u64 0, .slice none 0 0, .slice none 0 0, .slice none 0 0, .slice none 0 0, .bool false, .slice none 0 0, .slice none 0 0, .slice none 0 0, .bool false, .slice none 0 0] (by rw [h]; rfl)
  simpa using this
/-- Behind begin, called from a closure. -/
def Begun (X0 : World) (nb : Nat) (s : SetS) (V L : List Int) (l : List Ent) (D : List Int) (w : World) : Prop :=
  Chg [nb] X0 w ∧ ∃ X ms cfp cb rn ss hs rb rl bt x0 x2 bv ro mo bi f p hv sv ev, Nxt X0 X ∧ BegTo X nb s V L l D w ms cfp cb rn ss hs rb rl bt x0 x2 bv ro mo bi f p hv sv ev
theorem guardBegin {W X1 : World} {nb t6 : Nat} {s : SetS} {V L : List Int} {l : List Ent} {D : List Int} (hi : Inp W s V L l D) (hn : Nxt W X1) (hnb : W.heap.size ≤ nb) (hs : SinAt X1 nb (single0 s)) (h6 : X1.cell? ⟨t6, 0, none⟩ = some (.pointer (some ⟨nb, 0, none⟩))) (h6n : t6 ≠ nb) :
    Calls Tryz.prog 61 #[.func (.func 62) #[] #[.pointer (some ⟨t6, 0, none⟩)]] X1 fun y w' => y = .returned (.bool false) ∧ Begun X1 nb s V L l D w' := by
  have hX2 : Nxt X1 (X1.alloc (.cells #[.bool false] 4)) := ⟨(Chg.refl _ _).alloc _⟩
  have hb := Blk.new X1 4 #[.bool false]
  have nbl := Blk.lt hs
  refine guarded_62 (R := fun w' => Begun X1 nb s V L l D w') ?_
  refine (node1_any (R := fun w' => Begun (X1.alloc (.cells #[.bool false] 4)) nb s V L l D w') (hX2.out.at0 h6) ?_).mono ?_
  · intro X hX
    have hWX : Nxt W X := ⟨(hn.out.trans hX2.out).trans hX.out⟩
    refine (begin_of hi hWX hnb ((hs.nxt hX2).nxt hX)).mono ?_
    rintro y w' ⟨rfl, ms, cfp, cb, rn, ss, hs', rb, rl, bt, x0, x2, bv, ro, mo, bi, f, p, hv, sv, ev, hB⟩
    refine ⟨rfl, ⟨(hX.out.mono (by simp)).trans hB.ca, X, ms, cfp, cb, rn, ss, hs', rb, rl, bt, x0, x2, bv, ro, mo, bi, f, p, hv, sv, ev, hX, hB⟩, SinAt.cell hB.sn 26 _ rfl, Blk.frozen hB.sn, hB.ca.at_ (hX.out.at0 (hX2.out.at0 h6)) (by simpa using h6n)⟩
  · rintro y w' ⟨rfl, hc, X, ms, cfp, cb, rn, ss, hs', rb, rl, bt, x0, x2, bv, ro, mo, bi, f, p, hv, sv, ev, hX, hB⟩
    refine ⟨rfl, hb.chg hc (by simp; omega), (hX2.out.mono (by simp)).trans hc, X, ms, cfp, cb, rn, ss, hs', rb, rl, bt, x0, x2, bv, ro, mo, bi, f, p, hv, sv, ev, ⟨hX2.out.trans hX.out⟩, hB⟩
/-- Behind ready, called from do. -/
def Done1 (w : World) (nb : Nat) (s : SetS) (l : List Ent) (ms cfp rn rb rl ss hs : Nat) (r : RaftS) (hv sv ev : Value) (A : SaidS) (w' : World) : Prop :=
  ∃ X w1 z, Nxt w X ∧ w.heap.size ≤ z ∧ z < X.heap.size ∧ RdDone X nb s l ms cfp rn rb rl ss hs r hv sv ev A w1 ∧ Chg [z] w1 w' ∧ Chg [nb, rn, rb, rl, ms] w w'
/-- Behind said, too. -/
def Done2 (w : World) (s : SetS) (l : List Ent) (r : RaftS) (A : SaidS) (w' : World) : Prop :=
  ∃ h c n1 k1 g n2 k2 u1 u2 u3 u4 lg2, A = SaidS.add { said0 with has := h, com := .slice c n1 k1, log := .slice g n2 k2 } r lg2 u1 u2 u3 u4 false ∧ lg2.com = s.hC ∧ lg2.apd = s.hC ∧
    w'.ownsRow w.heap.size 65 4 (.slice c n1 k1) ((s.hC - s.bi).toNat - (apd0 s - s.bi).toNat) (ECells ((l.take (s.hC - s.bi).toNat).drop (apd0 s - s.bi).toNat)) ∧ (h = true → w'.ownsRow w.heap.size 65 4 (.slice g n2 k2) l.length (ECells l))
theorem guardReady {W X0 w1 Y : World} {nb t6 c8 c9 : Nat} {s : SetS} {V L : List Int} {l : List Ent} {D : List Int} {CL : List Value} {ms cfp cb rn ss hs rb rl bt x0 : Nat} {x2 : Option Nat} {bv ro mo : Nat} {bi : Int → Nat} {f : Int → Option PrS} {p : Int → Nat} {hv sv ev : Value} (hi : Inp W s V L l D) (hB : BegTo X0 nb s V L l D w1 ms cfp cb rn ss hs rb rl bt x0 x2 bv ro mo bi f p hv sv ev) (hn : Nxt w1 Y)
    (h6 : Y.cell? ⟨t6, 0, none⟩ = some (.pointer (some ⟨nb, 0, none⟩))) (h8 : Y.rangeAt c8 0 CL) (h9 : Y.there c9 0 33) (hll : CL.length = 28) (hc5 : CL[0]? = some (.int .i64 5)) (m6 : t6 ∉ [nb, rn, rb, rl, ms]) (m8 : w1.heap.size ≤ c8) (m9 : w1.heap.size ≤ c9) (n69 : t6 ≠ c9) (n89 : c8 ≠ c9) (l9 : c9 < Y.heap.size) :
    Calls Tryz.prog 61 #[.func (.func 65) #[] #[.pointer (some ⟨t6, 0, none⟩), .pointer (some ⟨c8, 0, none⟩), .pointer (some ⟨c9, 0, none⟩)]] Y fun y w' => y = .returned (.bool false) ∧ ∃ A w2, A.ok ∧ Done2 Y s l (raftB s ms rb rl x0 x2 bt bv ro L D) A w2 ∧ Chg [nb, rn, rb, rl, ms] Y w2 ∧ w' = w2.setCells c9 0 A.list := by
  have hCm := calm_of hi hB
  have hlt := hCm.lt
  have hYz := hn.out.size
  have hb := Blk.new Y 4 #[.bool false]
  have hX2 : Nxt Y (Y.alloc (.cells #[.bool false] 4)) := ⟨(Chg.refl _ _).alloc _⟩
  have hz2 : (Y.alloc (.cells #[.bool false] 4)).heap.size = Y.heap.size + 1 := by simp
  have hnm : ∀ x, w1.heap.size ≤ x → x ∉ [nb, rn, rb, rl, ms] := fun x hx hm => by have := hlt x hm; omega
  refine guarded_65 ?_
  have hN2 : N2S t6 nb c8 c9 CL (Y.alloc (.cells #[.bool false] 4)) := N2S.chg (L := []) ⟨h6, h8, h9⟩ hX2.out (by simp) (by simp) (by simp)
  refine (node2_any (R1 := Done1 (Y.alloc (.cells #[.bool false] 4)) nb s l ms cfp rn rb rl ss hs (raftB s ms rb rl x0 x2 bt bv ro L D) hv sv ev) (R2 := fun A w' => Done2 Y s l (raftB s ms rb rl x0 x2 bt bv ro L D) A w' ∧ Chg [nb, rn, rb, rl, ms] (Y.alloc (.cells #[.bool false] 4)) w') (L := [nb, rn, rb, rl, ms]) hN2 hll m6 (hnm _ m8) (hnm _ m9) n69 n89 ?_ ?_).mono ?_
  · intro X hX
    have hwX : Chg [] w1 X := (hn.out.trans hX2.out).trans hX.out
    refine (do_ready (R := fun A w' => ∃ X', Nxt X X' ∧ X.heap.size + 1 < X'.heap.size ∧ RdDone X' nb s l ms cfp rn rb rl ss hs (raftB s ms rb rl x0 x2 bt bv ro L D) hv sv ev A w') (L := [nb, rn, rb, rl, ms]) (by simpa using hc5) (fun x hx => Nat.lt_of_lt_of_le (hlt x hx) hwX.size) (fun X' hX' hz => ?_)).mono ?_
    · refine (readyB_any hi hB (hwX.trans hX'.out)).mono ?_
      rintro y w' ⟨A, hok, rfl, hr, hc⟩
      exact ⟨A, hok, rfl, ⟨X', hX', hz, hr⟩, hc⟩
    · rintro y w' ⟨A, hok, rfl, w1', ⟨X', hX', hz, hr⟩, hc1, hcL⟩
      exact ⟨A, hok, rfl, ⟨X', w1', X.heap.size + 1, ⟨hX.out.trans hX'.out⟩, by have := hX.out.size; omega, hz, hr, hc1, (hX.out.mono (by simp)).trans hcL⟩, hcL⟩
  · rintro A wA hok ⟨X, w1', z, hX, hz1, hz2', hr, hcz, hcL⟩
    obtain ⟨h, c, n1, k1, g, n2, k2, v4, hA, hoc, hog, hrn⟩ := hr.ex
    have hzn : ∀ x ∈ [nb, rn, rb, rl, ms], x ≠ z := fun x hx => by have := hlt x hx; omega
    have hcf := (ConfAt.chg0 hB.cf (hn.out.trans hX2.out)).chg hcL (by simp)
    have hM9 : ∀ x ∈ [nb, rn, rb, rl, ms], x < wA.heap.size := fun x hx => Nat.lt_of_lt_of_le (hlt x hx) (Nat.le_trans (Nat.le_trans hYz hX2.out.size) hcL.size)
    refine (saidB_any (rl := rl) hi (SinAt.chg hr.sn hcz (by simpa using hzn nb (by simp))) (hrn.chg hcz (by simpa using hzn rn (by simp))) (RaftAt.chg hr.ra hcz (by simpa using hzn rb (by simp))) rfl rfl (RlAt.chg hr.la hcz (by simpa using hzn rl (by simp))) hcf hM9 hok).mono ?_
    rintro y w' ⟨u1, u2, u3, u4, hok2, rfl, hn2⟩
    refine ⟨_, hok2, rfl, ⟨⟨h, c, n1, k1, g, n2, k2, u1, u2, u3, u4, _, by rw [hA], rfl, rfl, ?_, fun hh => ?_⟩, ?_⟩, hn2.out.mono (by simp)⟩
    · exact own_base (own_chg0 (own_chg hoc hcz (by simpa using hz2')) hn2.out) (Nat.le_trans hX2.out.size hX.out.size)
    · exact own_base (own_chg0 (own_chg (hog hh) hcz (by simpa using hz2')) hn2.out) (Nat.le_trans hX2.out.size hX.out.size)
    · exact hcL.nxt hn2
  · rintro y w' ⟨rfl, A, w2, hok, ⟨hd, hc2'⟩, hc2, rfl⟩
    refine ⟨rfl, ?_, A, w2, hok, hd, (hX2.out.mono (by simp)).trans hc2, rfl⟩
    exact (hb.chg hc2 (hnm _ hYz)).chg (chg_setCells c9 A.list 0 w2) (by simp; omega)
end Go.Proofs.YtalhhplphlobbaaGreat
namespace Go.Proofs.YtalhhplphlobbaaGreat
open Go.RowKit
attribute [local go_sem ↓] bld140_eq bld48_eq
/-- The cells of a block of type 48 before its first store. -/
def zero48 : List Value := [Value.int .i64 0, .bool false, .int .i64 0, .int .u64 0, .int .u64 0, .int .u64 0, .int .u64 0, .int .u64 0, .int .u64 0, .slice none 0 0, .slice none 0 0, .slice none 0 0, .slice none 0 0, .bool false, .bool false, .bool false, .int .u64 0, .int .u64 0, .int .u64 0, .slice none 0 0, .string ⟨#[]⟩, .int .u64 0, .int .u64 0, .slice none 0 0, .slice none 0 0, .slice none 0 0, .slice none 0 0, .bool false, .slice none 0 0, .slice none 0 0, .slice none 0 0, .bool false, .slice none 0 0]
/-- The two answers, behind the walk. -/
theorem node_post {W Y2 w4 w5 : World} {b1 : Nat} {s : SetS} {l : List Ent} {ms rb rl x0 bt bv ro : Nat} {x2 : Option Nat} {L D : List Int} {v' : Value} {v1 v2 v3 v4 : Value} {A : SaidS} (hn5 : Nxt W w5) (hb1 : W.heap.size ≤ b1) (hY : W.heap.size ≤ Y2.heap.size)
    (hown : w5.ownsRow b1 48 33 v' 2 ((said0.add (raftB s ms rb rl x0 x2 bt bv ro L D) (rlogB s l) v1 v2 v3 v4 false).list ++ A.list)) (hd : Done2 Y2 s l (raftB s ms rb rl x0 x2 bt bv ro L D) A w4) {Lx : List Nat} (h45 : Chg Lx w4 w5) (hLx : ∀ g ∈ Lx, g < Y2.heap.size) : NodePost W s l (.returned v') w5 := by
  obtain ⟨h, c, n1, k1, g, n2, k2, u1, u2, u3, u4, lg2, rfl, hl1, hl2, ho1, ho2⟩ := hd
  obtain ⟨q1, q2⟩ := id hown
  rcases q2 with ⟨rfl, h0⟩ | ⟨g3, cap3, cur3, rfl, hg3, hrest⟩
  · cases h0
  exact ⟨g3, cap3, h, c, n1, k1, g, n2, k2, v1, v2, v3, v4, u1, u2, u3, u4, _, rlogB s l, lg2, rfl, own_base hown hb1, rfl, rfl, rfl, rfl, rfl, rfl, hl1, hl2, own_base (own_chg ho1 h45 hLx) hY, fun hh => own_base (own_chg (ho2 hh) h45 hLx) hY, hn5⟩
set_option maxRecDepth 100000 in
set_option maxHeartbeats 8000000 in
theorem node_any {W : World} {s : SetS} {V L : List Int} {l : List Ent} {D : List Int} {lb : Nat} {CL : List Value} (hi : Inp W s V L l D) (hbld : ∀ w, (bld140 #[(0, .agg s.list.toArray)]).run Tryz.prog w = .ok (.agg (single0 s).cells) w) (hone : ∀ v ∈ s.list, v.oneCell' = true) (hcl : W.rangeAt lb 0 CL) (hll : CL.length = 28) (hc5 : CL[0]? = some (.int .i64 5)) (hco : ∀ v ∈ CL, v.oneCell' = true) :
    Calls Tryz.prog 17 #[.agg s.list.toArray, .slice (some ⟨lb, 0, none⟩) 1 1] W (NodePost W s l) := by
  obtain ⟨SL, hSL⟩ : ∃ SL, SL = s.list := ⟨_, rfl⟩
  obtain ⟨NB, hNB⟩ : ∃ NB, NB = (single0 s).cells := ⟨_, rfl⟩
  obtain ⟨ZL, hZL⟩ : ∃ ZL, ZL = said0.list := ⟨_, rfl⟩
  rw [← hSL] at hbld hone ⊢
  rw [← hNB] at hbld
  have hb48 : ∀ w, (bld48 #[]).run Tryz.prog w = .ok (.agg ZL.toArray) w := fun w => by rw [hZL]; exact saidBuild w
  have hSLl : SL.length = 26 := by rw [hSL]; rfl
  have HI := Lib.hid hi
  have HZ33 := Lib.hid (show (Tryz.prog.info? 33).map (·.size) = some SL.length by rw [hSLl]; exact size33)
  have HCL := Lib.hid hcl
  have hlb : lb < W.heap.size := World.block_lt_of_cell? W _ (hcl 0 _ hc5)
  have HSL := Lib.hid hSL
  have HNB := Lib.hid hNB
  have HZL := Lib.hid hZL
  clear hi hcl hSL hNB hZL hSLl
  have hb0 := Blk.new W 33 SL.toArray
  go_enter Tryz.func17, Tryz.ntmps17
  go_upto_region 3 with (first | (refine wpList_load_mid rfl 33 _ rfl W.heap.size 0 rfl SL _ (ld48 hb0) Tryz.underlying33 rfl HZ33.out ?_))
  have hX1 : Nxt W (((W.alloc (.cells SL.toArray 33)).alloc (.cells NB 140)).alloc (.cells #[.pointer (some ⟨W.heap.size + 1, 0, none⟩)] 135)) := ⟨(((Chg.refl _ _).alloc _).alloc _).alloc _⟩
  have hs1 : SinAt (((W.alloc (.cells SL.toArray 33)).alloc (.cells NB 140)).alloc (.cells #[.pointer (some ⟨W.heap.size + 1, 0, none⟩)] 135)) (W.heap.size + 1) (single0 s) := by
    have z : Blk ((W.alloc (.cells SL.toArray 33)).alloc (.cells NB 140)) (W.heap.size + 1) 140 NB := Blk.newAt (by simp)
    rw [HNB.out] at z
    have z2 := z.alloc (.cells #[.pointer (some ⟨W.heap.size + 1, 0, none⟩)] 135)
    rw [HNB.out]
    exact z2
  have h6 : (((W.alloc (.cells SL.toArray 33)).alloc (.cells NB 140)).alloc (.cells #[.pointer (some ⟨W.heap.size + 1, 0, none⟩)] 135)).cell? ⟨W.heap.size + 2, 0, none⟩ = some (.pointer (some ⟨W.heap.size + 1, 0, none⟩)) := by
    have z : Blk (((W.alloc (.cells SL.toArray 33)).alloc (.cells NB 140)).alloc (.cells #[.pointer (some ⟨W.heap.size + 1, 0, none⟩)] 135)) (W.heap.size + 2) 135 #[.pointer (some ⟨W.heap.size + 1, 0, none⟩)] := Blk.newAt (by simp)
    exact z.cell 0
  have b6 : Blk (((W.alloc (.cells SL.toArray 33)).alloc (.cells NB 140)).alloc (.cells #[.pointer (some ⟨W.heap.size + 1, 0, none⟩)] 135)) (W.heap.size + 2) 135 #[.pointer (some ⟨W.heap.size + 1, 0, none⟩)] := Blk.newAt (by simp)
  have hz1 : (((W.alloc (.cells SL.toArray 33)).alloc (.cells NB 140)).alloc (.cells #[.pointer (some ⟨W.heap.size + 1, 0, none⟩)] 135)).heap.size = W.heap.size + 3 := by simp
  obtain ⟨nb, hnb⟩ : ∃ nb, nb = W.heap.size + 1 := ⟨_, rfl⟩
  obtain ⟨t6, ht6⟩ : ∃ t6, t6 = W.heap.size + 1 + 1 := ⟨_, rfl⟩
  have h26 : W.heap.size + 2 = W.heap.size + 1 + 1 := rfl
  rw [h26] at h6 b6
  rw [← ht6] at h6 b6 ⊢
  rw [← hnb] at hX1 hs1 h6 b6 hz1 ⊢
  generalize hXe : (((W.alloc (.cells SL.toArray 33)).alloc (.cells NB 140)).alloc (.cells #[.pointer (some ⟨nb, 0, none⟩)] 135)) = X1 at hX1 hs1 h6 b6 hz1 ⊢
  clear hXe h26 hb0 hbld
  have HB6 := Lib.hid b6
  have HT := Lib.hid (show nb = W.heap.size + 1 ∧ t6 = W.heap.size + 2 ∧ X1.heap.size = W.heap.size + 3 by omega)
  have HGB := Lib.hid (guardBegin HI.out hX1 (by omega) hs1 h6 (by omega))
  have HX1 := Lib.hid hX1
  have HS1 := Lib.hid hs1
  have l6 := World.block_lt_of_cell? X1 _ h6
  have hmf : ∀ (fn : Fn) (first cap : Array Value) (w : World), (Instr.makeFunc fn first cap).run Tryz.prog w = .ok (.func fn first cap) w := fun _ _ _ _ => rfl
  clear hX1 hs1 hz1 hnb ht6 b6
  go_upto_region 5 with (first | (go_at_call 61; (with_reducible refine Calls.mono HGB.out ?_); rintro y1 w1 ⟨rfl, hc1, X2, ms, cfp, cb, rn, ss, hs, rb, rl, bt, x0, x2, bv, ro, mo, bi, f, p, hv, sv, ev, hX2, hB⟩; have k6 := hc1.at_ h6 (by have := HT.out; simp; omega); have k26 : w1.cell? ⟨nb, 26, none⟩ = some (.bool false) := SinAt.cell hB.sn 26 _ rfl; have HB := Lib.hid hB; have HC1 := Lib.hid hc1; have HX2 := Lib.hid hX2; clear hB hc1 hX2))
  have hCm := calm_of HI.out HB.out
  have HSA := Lib.hid (show Calls Tryz.prog 64 #[.pointer (some ⟨nb, 0, none⟩), .agg ZL.toArray] w1 fun y w' => ∃ v1 v2 v3 v4, (said0.add (raftB s ms rb rl x0 x2 bt bv ro L D) (rlogB s l) v1 v2 v3 v4 false).ok ∧ y = .returned (.agg (said0.add (raftB s ms rb rl x0 x2 bt bv ro L D) (rlogB s l) v1 v2 v3 v4 false).list.toArray) ∧ Nxt w1 w' by
    rw [HZL.out]
    exact saidB_any HI.out HB.out.sn HB.out.rw_ HB.out.run.ra rfl rfl HB.out.run.la HB.out.cf hCm.lt said0_ok)
  have HCM := Lib.hid hCm
  obtain ⟨i0, hi0, hz0, hz1, hz2⟩ := info_parts info48
  have hzc : (Value.agg said0.list.toArray).cells.size = 33 := rfl
  obtain ⟨zv, hzv⟩ : ∃ zv, zv = Value.agg said0.list.toArray := ⟨_, rfl⟩
  rw [← hzv] at hz0 hzc
  have HZV := Lib.hid hzv
  have HINF := Lib.hid (show Tryz.prog.info? 48 = some i0 ∧ i0.zero = some zv ∧ i0.size = 33 ∧ i0.bytes = 472 ∧ zv.cells.size = 33 from ⟨hi0, hz0, hz1, hz2, hzc⟩)
  have HC5 := Lib.hid hc5
  clear hCm hzv
  go_upto_region 6 with (first | (go_at_call 64; (with_reducible refine Calls.mono HSA.out ?_); rintro y2 w2 ⟨v1, v2, v3, v4, hok, rfl, hn2⟩; obtain ⟨FY, hFY⟩ : ∃ FY, FY = (said0.add (raftB s ms rb rl x0 x2 bt bv ro L D) (rlogB s l) v1 v2 v3 v4 false).list := ⟨_, rfl⟩; rw [← hFY]; have HOK := Lib.hid (show ∀ v ∈ FY, v.oneCell' = true by rw [hFY]; exact hok); have hFl : FY.length = 33 := (by rw [hFY]; rfl); have hfold := fold48 FY hFl; have HFY := Lib.hid hFY; have HN2 := Lib.hid hn2; clear hFY hok hn2) | (at_builtin; refine wpList_append_own_at _ rfl _ _ 35 rfl w1.heap.size 48 i0 zv 33 472 Tryz.underlying35 hi0 hz0 hz1 hz2 hzc (by decide) _ 0 [] rfl (own_nil _ _ _ _) ⟨w2.heap.size, 0, none⟩ 1 1 FY rfl (by rw [hFl]) ?c1 HOK.out ?c3 ?c4 ?c5 ?_))
  case c1 =>
    intro j u hu
    have z := (Blk.new w2 48 FY.toArray).cell j
    rw [Addr.add_mid, Nat.zero_add]
    exact z.trans (by simpa using hu)
  case c3 => simp only [maxLen]; omega
  case c4 => omega
  case c5 => have := HN2.out.out.size; simp; omega
  intro v' w3 hown3 hg3 hnl3 hat3
  have hc3 : Chg [] w1 w3 := ((HN2.out.out.alloc _).trans (Chg.of_grown hg3 (by intro k hk; cases hk)))
  obtain ⟨ho1, ho2⟩ := id hown3
  rcases ho2 with ⟨rfl, h0⟩ | ⟨g3, cap3, cur3, rfl, hg3b, hrest⟩
  · cases h0
  have HO3 := Lib.hid hown3
  have HC3 := Lib.hid hc3
  clear hown3 ho1 hrest hg3 hnl3 hat3 hc3 hfold hzc hz0 hz1 hz2 hi0 HSA hb48
  have p6 := HC3.out.at0 k6
  have hcw3 : Chg [nb] X1 w3 := HC1.out.trans (HC3.out.mono (by simp))
  have hcl3 : w3.rangeAt lb 0 CL := rng_chg HCL.out (((HX1.out.out.mono (by simp)).trans hcw3 : Chg [nb] W w3)) (by have := HT.out; simp; omega)
  have HCL3 := Lib.hid hcl3
  have HI44 := Lib.hid (show (Tryz.prog.info? 44).map (·.size) = some CL.length by rw [hll]; exact size44)
  have HI44A := Lib.hid (show (Tryz.prog.info? 44).map (·.size) = some CL.toArray.size by rw [List.size_toArray, hll]; exact size44)
  have HCO := Lib.hid (all_oneCell_toArray hco)
  have HLL := Lib.hid hll
  clear hcl3 hll
  go_wp2_with fail
  refine wp_loop_rounds 2 ?_
  rw [rounds_succ]
  go_upto_region 9 with (first | (refine wpList_load_mid rfl 44 _ rfl lb 0 rfl CL _ HCL3.out Tryz.underlying44 rfl HI44.out ?_) | (refine wpList_store_mid rfl 44 _ _ rfl w3.heap.size 0 CL.toArray rfl rfl ?st HI44A.out HCO.out ?_))
  case st =>
    have z := st48 (FX := CL) (FY := #[Value.int .i64 0, .int .u64 0, .string ⟨#[]⟩, .int .i64 0, .int .u64 0, .int .u64 0, .int .u64 0, .int .u64 0, .int .u64 0, .int .u64 0, .int .u64 0, .int .u64 0, .slice none 0 0, .string ⟨#[]⟩, .int .u64 0, .int .u64 0, .slice none 0 0, .slice none 0 0, .slice none 0 0, .slice none 0 0, .bool false, .bool false, .string ⟨#[]⟩, .slice none 0 0, .int .i64 0, .slice none 0 0, .string ⟨#[]⟩, .bool false].toList) (ty := 44) (Blk.new w3 44 #[Value.int .i64 0, .int .u64 0, .string ⟨#[]⟩, .int .i64 0, .int .u64 0, .int .u64 0, .int .u64 0, .int .u64 0, .int .u64 0, .int .u64 0, .int .u64 0, .int .u64 0, .slice none 0 0, .string ⟨#[]⟩, .int .u64 0, .int .u64 0, .slice none 0 0, .slice none 0 0, .slice none 0 0, .slice none 0 0, .bool false, .bool false, .string ⟨#[]⟩, .slice none 0 0, .int .i64 0, .slice none 0 0, .string ⟨#[]⟩, .bool false]) (by rw [HLL.out]; rfl)
    exact z
  have hb8 := bs48 (FX := CL) (FY := #[Value.int .i64 0, .int .u64 0, .string ⟨#[]⟩, .int .i64 0, .int .u64 0, .int .u64 0, .int .u64 0, .int .u64 0, .int .u64 0, .int .u64 0, .int .u64 0, .int .u64 0, .slice none 0 0, .string ⟨#[]⟩, .int .u64 0, .int .u64 0, .slice none 0 0, .slice none 0 0, .slice none 0 0, .slice none 0 0, .bool false, .bool false, .string ⟨#[]⟩, .slice none 0 0, .int .i64 0, .slice none 0 0, .string ⟨#[]⟩, .bool false].toList) (ty := 44) (Blk.new w3 44 #[Value.int .i64 0, .int .u64 0, .string ⟨#[]⟩, .int .i64 0, .int .u64 0, .int .u64 0, .int .u64 0, .int .u64 0, .int .u64 0, .int .u64 0, .int .u64 0, .int .u64 0, .slice none 0 0, .string ⟨#[]⟩, .int .u64 0, .int .u64 0, .slice none 0 0, .slice none 0 0, .slice none 0 0, .slice none 0 0, .bool false, .bool false, .string ⟨#[]⟩, .slice none 0 0, .int .i64 0, .slice none 0 0, .string ⟨#[]⟩, .bool false]) (by rw [HLL.out]; rfl)
  have hc34 : Chg [] w3 ((w3.alloc (.cells #[Value.int .i64 0, .int .u64 0, .string ⟨#[]⟩, .int .i64 0, .int .u64 0, .int .u64 0, .int .u64 0, .int .u64 0, .int .u64 0, .int .u64 0, .int .u64 0, .int .u64 0, .slice none 0 0, .string ⟨#[]⟩, .int .u64 0, .int .u64 0, .slice none 0 0, .slice none 0 0, .slice none 0 0, .slice none 0 0, .bool false, .bool false, .string ⟨#[]⟩, .slice none 0 0, .int .i64 0, .slice none 0 0, .string ⟨#[]⟩, .bool false] 44)).setCells w3.heap.size 0 CL) := ((Chg.refl _ _).alloc _).then (chg_setCells _ _ _ _) (by simp)
  obtain ⟨c8, hc8⟩ : ∃ c8, c8 = w3.heap.size := ⟨_, rfl⟩
  rw [← hc8] at hb8 hc34 ⊢
  generalize hYe : (w3.alloc (.cells #[Value.int .i64 0, .int .u64 0, .string ⟨#[]⟩, .int .i64 0, .int .u64 0, .int .u64 0, .int .u64 0, .int .u64 0, .int .u64 0, .int .u64 0, .int .u64 0, .int .u64 0, .slice none 0 0, .string ⟨#[]⟩, .int .u64 0, .int .u64 0, .slice none 0 0, .slice none 0 0, .slice none 0 0, .slice none 0 0, .bool false, .bool false, .string ⟨#[]⟩, .slice none 0 0, .int .i64 0, .slice none 0 0, .string ⟨#[]⟩, .bool false] 44)).setCells c8 0 CL = Y1 at hb8 hc34 ⊢
  clear hYe
  have HC8 := Lib.hid hc8
  have HB8 := Lib.hid hb8
  have HC34 := Lib.hid hc34
  clear hc8 hb8 hc34 hc5 hco
  clear p6
  simp only [Act.put]
  go_upto_region 10 with fail
  have hb9 := Blk.new Y1 48 #[Value.int .i64 0, .bool false, .int .i64 0, .int .u64 0, .int .u64 0, .int .u64 0, .int .u64 0, .int .u64 0, .int .u64 0, .slice none 0 0, .slice none 0 0, .slice none 0 0, .slice none 0 0, .bool false, .bool false, .bool false, .int .u64 0, .int .u64 0, .int .u64 0, .slice none 0 0, .string ⟨#[]⟩, .int .u64 0, .int .u64 0, .slice none 0 0, .slice none 0 0, .slice none 0 0, .slice none 0 0, .bool false, .slice none 0 0, .slice none 0 0, .slice none 0 0, .bool false, .slice none 0 0]
  have hYn : Chg [] w3 (Y1.alloc (.cells #[Value.int .i64 0, .bool false, .int .i64 0, .int .u64 0, .int .u64 0, .int .u64 0, .int .u64 0, .int .u64 0, .int .u64 0, .slice none 0 0, .slice none 0 0, .slice none 0 0, .slice none 0 0, .bool false, .bool false, .bool false, .int .u64 0, .int .u64 0, .int .u64 0, .slice none 0 0, .string ⟨#[]⟩, .int .u64 0, .int .u64 0, .slice none 0 0, .slice none 0 0, .slice none 0 0, .slice none 0 0, .bool false, .slice none 0 0, .slice none 0 0, .slice none 0 0, .bool false, .slice none 0 0] 48)) := HC34.out.alloc _
  have h9 : (Y1.alloc (.cells #[Value.int .i64 0, .bool false, .int .i64 0, .int .u64 0, .int .u64 0, .int .u64 0, .int .u64 0, .int .u64 0, .int .u64 0, .slice none 0 0, .slice none 0 0, .slice none 0 0, .slice none 0 0, .bool false, .bool false, .bool false, .int .u64 0, .int .u64 0, .int .u64 0, .slice none 0 0, .string ⟨#[]⟩, .int .u64 0, .int .u64 0, .slice none 0 0, .slice none 0 0, .slice none 0 0, .slice none 0 0, .bool false, .slice none 0 0, .slice none 0 0, .slice none 0 0, .bool false, .slice none 0 0] 48)).there Y1.heap.size 0 33 := there_blk (CL := #[Value.int .i64 0, .bool false, .int .i64 0, .int .u64 0, .int .u64 0, .int .u64 0, .int .u64 0, .int .u64 0, .int .u64 0, .slice none 0 0, .slice none 0 0, .slice none 0 0, .slice none 0 0, .bool false, .bool false, .bool false, .int .u64 0, .int .u64 0, .int .u64 0, .slice none 0 0, .string ⟨#[]⟩, .int .u64 0, .int .u64 0, .slice none 0 0, .slice none 0 0, .slice none 0 0, .slice none 0 0, .bool false, .slice none 0 0, .slice none 0 0, .slice none 0 0, .bool false, .slice none 0 0].toList) hb9
  obtain ⟨c9, hc9⟩ : ∃ c9, c9 = Y1.heap.size := ⟨_, rfl⟩
  have hb8' := HB8.out.alloc (.cells #[Value.int .i64 0, .bool false, .int .i64 0, .int .u64 0, .int .u64 0, .int .u64 0, .int .u64 0, .int .u64 0, .int .u64 0, .slice none 0 0, .slice none 0 0, .slice none 0 0, .slice none 0 0, .bool false, .bool false, .bool false, .int .u64 0, .int .u64 0, .int .u64 0, .slice none 0 0, .string ⟨#[]⟩, .int .u64 0, .int .u64 0, .slice none 0 0, .slice none 0 0, .slice none 0 0, .slice none 0 0, .bool false, .slice none 0 0, .slice none 0 0, .slice none 0 0, .bool false, .slice none 0 0] 48)
  rw [← hc9] at h9 hb9 ⊢
  have l9 := hb9.lt
  generalize hYe : Y1.alloc (.cells #[Value.int .i64 0, .bool false, .int .i64 0, .int .u64 0, .int .u64 0, .int .u64 0, .int .u64 0, .int .u64 0, .int .u64 0, .slice none 0 0, .slice none 0 0, .slice none 0 0, .slice none 0 0, .bool false, .bool false, .bool false, .int .u64 0, .int .u64 0, .int .u64 0, .slice none 0 0, .string ⟨#[]⟩, .int .u64 0, .int .u64 0, .slice none 0 0, .slice none 0 0, .slice none 0 0, .slice none 0 0, .bool false, .slice none 0 0, .slice none 0 0, .slice none 0 0, .bool false, .slice none 0 0] 48) = Y2 at h9 hYn l9 hb8' ⊢
  clear hYe hb9
  have h6Y := hYn.at0 (HC3.out.at0 k6)
  have HYN := Lib.hid hYn
  have m6 : t6 ∉ [nb, rn, rb, rl, ms] := by
    have z : Blk w1 t6 135 #[.pointer (some ⟨nb, 0, none⟩)] := HB6.out.chg HC1.out (by have := HT.out; simp; omega)
    obtain ⟨_, _, _, _, _, _, hm⟩ := HB.out.st.at_
    have q1 := Blk.ne z HB.out.sn (by decide)
    have q2 := Blk.ne z HB.out.rw_ (by decide)
    have q3 := Blk.ne z HB.out.run.ra (by decide)
    have q4 := Blk.ne z HB.out.run.la (by decide)
    have q5 := Blk.ne z hm (by decide)
    simp only [List.mem_cons, List.not_mem_nil, or_false, not_or]
    exact ⟨q1, q2, q3, q4, q5⟩
  have s13 := HC3.out.size
  have s34 := HC34.out.size
  have s01 := HC1.out.size
  have HGR := Lib.hid (guardReady HI.out HB.out ⟨HC3.out.trans hYn⟩ h6Y (rng_blk hb8') h9 HLL.out HC5.out m6 (by rw [HC8.out]; exact s13) (by rw [hc9]; exact Nat.le_trans s13 s34) (by rw [hc9]; omega) (by have := HB8.out.lt; omega) l9)
  have HC9 := Lib.hid hc9
  have H9 := Lib.hid h9
  have hLlt : ∀ x ∈ [nb, rn, rb, rl, ms], x < w1.heap.size := HCM.out.lt
  have HLT := Lib.hid hLlt
  clear hc9 h9 hb8' l9 hYn m6 hLlt
  go_upto_region 12 with (first | (go_at_call 61; (with_reducible refine Calls.mono HGR.out ?_); rintro y4 w5 ⟨rfl, A, w4, hokA, hd, hc4, rfl⟩; have HD := Lib.hid hd; have HC4 := Lib.hid hc4; have HOKA := Lib.hid hokA; clear hd hc4 hokA))
  have hs9 : w1.heap.size ≤ c9 := by rw [HC9.out]; exact Nat.le_trans s13 s34
  have h94 : w4.there c9 0 33 := there_chg H9.out HC4.out (fun hx => by have := HLT.out _ hx; omega)
  obtain ⟨AL, hAL⟩ : ∃ AL, AL = A.list := ⟨_, rfl⟩
  have hAl : AL.length = 33 := (by rw [hAL]; rfl)
  have hokA : ∀ v ∈ AL, v.oneCell' = true := (by rw [hAL]; exact HOKA.out)
  rw [← hAL]
  have hr5 : (w4.setCells c9 0 AL).rangeAt c9 0 AL := World.rangeAt_setCells_same _ c9 0 AL (by rw [hAl]; exact h94)
  have hc5' : Chg [nb, rn, rb, rl, ms] w3 (w4.setCells c9 0 AL) := ((HYN.out.mono (by simp)).trans HC4.out : Chg [nb, rn, rb, rl, ms] w3 w4).then (chg_setCells c9 AL 0 w4) (by intro x hx hl; simp only [List.mem_cons, List.not_mem_nil, or_false] at hx; subst hx; exact absurd hl (Nat.not_lt.2 (by rw [HC9.out]; exact s34)))
  have hc45 : Chg [c9] w4 (w4.setCells c9 0 AL) := chg_setCells c9 AL 0 w4
  generalize hY5 : w4.setCells c9 0 AL = w5 at hr5 hc5' hc45 ⊢
  clear hY5
  have ho5 := own_chg HO3.out hc5' HLT.out
  have HR5 := Lib.hid hr5
  have HC5' := Lib.hid hc5'
  have HC45 := Lib.hid hc45
  have HO5 := Lib.hid ho5
  have HAL := Lib.hid hAL
  have HOKL := Lib.hid hokA
  have HI48 := Lib.hid (show (Tryz.prog.info? 48).map (·.size) = some AL.length by rw [hAl]; rw [HINF.out.1]; exact congrArg some HINF.out.2.2.1)
  have hfold2 := fold48 AL hAl
  clear hr5 hc5' hc45 ho5 hAL hokA h94
  go_upto_region 13 with (first | (refine wpList_load_mid rfl 48 _ rfl c9 0 rfl AL _ HR5.out Tryz.underlying48 rfl HI48.out ?_) | (at_builtin; refine wpList_append_own_at _ rfl _ _ 35 rfl w1.heap.size 48 i0 zv 33 472 Tryz.underlying35 HINF.out.1 HINF.out.2.1 HINF.out.2.2.1 HINF.out.2.2.2.1 HINF.out.2.2.2.2 (by decide) _ 1 FY rfl (own_chg0 HO5.out ((Chg.refl _ _).alloc _)) ⟨w5.heap.size, 0, none⟩ 1 1 AL rfl (by rw [hAl]) ?c1 HOKL.out ?c3 ?c4 ?c5 ?_))
  case c3 => simp only [maxLen]; omega
  case c5 => have := HC5'.out.size; omega
  intro v' w6 hown6 hg6 hnl6 hat6
  have hc56 : Chg [g3] w5 w6 := (((Chg.refl _ _).alloc _).trans (Chg.of_grown hg6 (by intro g hg; injection hg with hg; have hg : g3 = g := hg; exact .inr (by rw [← hg]; simp))))
  have HO6 := Lib.hid hown6
  have HC56 := Lib.hid hc56
  clear hown6 hg6 hnl6 hat6 hc56 hfold2
  have hsx : W.heap.size ≤ X2.heap.size := Nat.le_trans HX1.out.out.size HX2.out.out.size
  have hnew : ∀ x ∈ [nb, rn, rb, rl, ms], W.heap.size ≤ x := by
    obtain ⟨z1, z2, z3, z4⟩ := HB.out.nw
    have := HT.out
    intro x hx
    simp only [List.mem_cons, List.not_mem_nil, or_false] at hx
    omega
  have hWs : W.heap.size ≤ w1.heap.size := Nat.le_trans HX1.out.out.size HC1.out.size
  have hW3 : Chg [] W w3 := (HX1.out.out.then HC1.out (fun x hx hl => absurd hl (Nat.not_lt.2 (hnew x (by simp at hx; simp [hx]))))).trans HC3.out
  have hW6 : Chg [] W w6 := (hW3.then HC5'.out (fun x hx hl => absurd hl (Nat.not_lt.2 (hnew x hx)))).then HC56.out (fun x hx hl => absurd hl (Nat.not_lt.2 (by simp at hx; omega)))
  have hgL : g3 < Y2.heap.size := Nat.lt_of_lt_of_le (own_some HO3.out).2 HYN.out.size
  have h9L : c9 < Y2.heap.size := by
    have := (H9.out 0 (by omega)).1
    obtain ⟨v, hv⟩ := Option.isSome_iff_exists.1 this
    exact World.block_lt_of_cell? Y2 _ hv
  have HPOST := Lib.hid (show NodePost W s l (.returned v') w6 from node_post (Lx := [c9, g3]) ⟨hW6⟩ hWs (Nat.le_trans hW3.size HYN.out.size) (by have z := HO6.out; rw [HFY.out, HAL.out] at z; exact z) HD.out ((HC45.out.mono (by simp)).trans (HC56.out.mono (by simp))) (by intro g hg; simp only [List.mem_cons, List.not_mem_nil, or_false] at hg; rcases hg with rfl | rfl; exact h9L; exact hgL))
  go_wp2_with fail
  rw [rounds_succ]
  go_wp2_with fail
  go_ret
  exact HPOST.out
end Go.Proofs.YtalhhplphlobbaaGreat
namespace Go.Proofs.YtalhhplphlobbaaGreat
open Go.RowKit
structure BegS (w0 : World) (t1 g : Nat) (SL L0 L1 : List Value) (s : SetS) (l lc : List Ent) (h : Bool) (vlog vcom : Value) (X : World) : Prop where
  b1 : Blk X t1 33 SL.toArray
  r0 : X.rangeAt g 0 L0
  r1 : X.rangeAt g 33 L1
  lg : LogAt X s.lg l
  la : h = true → LogAt X vlog l
  lc : LogAt X vcom lc
  ch : Chg [] w0 X
theorem rng_nxt {w w' : World} {b o : Nat} {CL : List Value} (h : w.rangeAt b o CL) (hc : Chg [] w w') : w'.rangeAt b o CL := fun j v hj => hc.at0 (h j v hj)
theorem BegS.nxt {w0 X Y : World} {t1 g : Nat} {SL L0 L1 : List Value} {s : SetS} {l lc : List Ent} {h : Bool} {vlog vcom : Value} (hb : BegS w0 t1 g SL L0 L1 s l lc h vlog vcom X) (hc : Chg [] X Y) : BegS w0 t1 g SL L0 L1 s l lc h vlog vcom Y :=
  ⟨hb.b1.chg hc (by simp), rng_nxt hb.r0 hc, rng_nxt hb.r1 hc, hb.lg.nxt0 hc, fun e => (hb.la e).nxt0 hc, hb.lc.nxt0 hc, hb.ch.trans hc⟩
/-- The two answers as ranges. -/
theorem two_rng {w : World} {base g k : Nat} {L0 L1 : List Value} (h : w.ownsRow base 48 33 (.slice (some ⟨g, 0, none⟩) 2 k) 2 (L0 ++ L1)) (h0 : L0.length = 33) : w.rangeAt g 0 L0 ∧ w.rangeAt g 33 L1 := by
  have hc := h.cells (g := g) rfl
  constructor
  · intro j v hj
    have hl := (List.getElem?_eq_some_iff.1 hj).1
    have z := hc j v (by rw [List.getElem?_append_left hl]; exact hj)
    rw [Addr.add_mid] at z
    exact z
  · intro j v hj
    have z := hc (33 + j) v (by rw [List.getElem?_append_right (by omega), h0, Nat.add_sub_cancel_left]; exact hj)
    rw [Addr.add_mid] at z
    rw [Nat.zero_add] at z
    exact z
/-- A piece of a log. -/
theorem LogAt.sub {w : World} {b o n c i j c' : Nat} {l : List Ent} (h : LogAt w (.slice (some ⟨b, o, none⟩) n c) l) (hij : i ≤ j) (hj : j ≤ n) (hc : j - i ≤ c') : LogAt w (.slice (some ⟨b, o + i * 4, none⟩) (j - i) c') ((l.take j).drop i) := by
  obtain ⟨A, n', c'', he, hl, hc', h0, ha⟩ := h
  injection he with h1 h2 h3
  subst h1; subst h2; subst h3
  obtain ⟨_, hb, hcell⟩ := ha b o none rfl
  refine ⟨_, _, _, rfl, by simp [hl]; omega, hc, by simp, fun b' o' s' e => ?_⟩
  injection e with e
  injection e with e1 e2 e3
  subst e1 e2 e3
  refine ⟨rfl, hb, fun q x hx => ?_⟩
  rw [List.getElem?_drop, List.getElem?_take] at hx
  split at hx
  · obtain ⟨k1, k2, k3, k4⟩ := hcell (i + q) x hx
    have e : o + (i + q) * 4 = o + i * 4 + q * 4 := by omega
    rw [e] at k1 k2 k3 k4
    exact ⟨k1, k2, k3, k4⟩
  · cases hx
/-- 44: the one call. -/
def ready44 : List Value := [.int .i64 5, .int .u64 0, .string ⟨#[]⟩, .int .i64 0, .int .u64 0, .int .u64 0, .int .u64 0, .int .u64 0, .int .u64 0, .int .u64 0, .int .u64 0, .int .u64 0, .slice none 0 0, .string ⟨#[]⟩, .int .u64 0, .int .u64 0, .slice none 0 0, .slice none 0 0, .slice none 0 0, .slice none 0 0, .bool false, .bool false, .string ⟨#[]⟩, .slice none 0 0, .int .i64 0, .slice none 0 0, .string ⟨#[]⟩, .bool false]
def bld44 (parts : Array (Nat × Value)) : Sem Value := Instr.build 44 parts
theorem bld44_eq (parts : Array (Nat × Value)) : Instr.build 44 parts = bld44 parts := rfl
theorem ready44_build (w : World) : (bld44 #[(0, .int .i64 5)]).run Tryz.prog w = .ok (.agg ready44.toArray) w := by kernel_rfl
def zero44 : List Value := [.int .i64 0, .int .u64 0, .string ⟨#[]⟩, .int .i64 0, .int .u64 0, .int .u64 0, .int .u64 0, .int .u64 0, .int .u64 0, .int .u64 0, .int .u64 0, .int .u64 0, .slice none 0 0, .string ⟨#[]⟩, .int .u64 0, .int .u64 0, .slice none 0 0, .slice none 0 0, .slice none 0 0, .slice none 0 0, .bool false, .bool false, .string ⟨#[]⟩, .slice none 0 0, .int .i64 0, .slice none 0 0, .string ⟨#[]⟩, .bool false]
theorem fold44 (F : List Value) (h : F.length = 28) : List.foldl (fun (cs : Array Value) (x : Value × Nat) => cs.setIfInBounds x.snd x.fst) #[.int .i64 0, .int .u64 0, .string ⟨#[]⟩, .int .i64 0, .int .u64 0, .int .u64 0, .int .u64 0, .int .u64 0, .int .u64 0, .int .u64 0, .int .u64 0, .int .u64 0, .slice none 0 0, .string ⟨#[]⟩, .int .u64 0, .int .u64 0, .slice none 0 0, .slice none 0 0, .slice none 0 0, .slice none 0 0, .bool false, .bool false, .string ⟨#[]⟩, .slice none 0 0, .int .i64 0, .slice none 0 0, .string ⟨#[]⟩, .bool false] F.zipIdx = F.toArray := by
  have := fold_set F 0 #[.int .i64 0, .int .u64 0, .string ⟨#[]⟩, .int .i64 0, .int .u64 0, .int .u64 0, .int .u64 0, .int .u64 0, .int .u64 0, .int .u64 0, .int .u64 0, .int .u64 0, .slice none 0 0, .string ⟨#[]⟩, .int .u64 0, .int .u64 0, .slice none 0 0, .slice none 0 0, .slice none 0 0, .slice none 0 0, .bool false, .bool false, .string ⟨#[]⟩, .slice none 0 0, .int .i64 0, .slice none 0 0, .string ⟨#[]⟩, .bool false] (by rw [h]; rfl)
  simpa using this
theorem ready44_len : ready44.length = 28 := rfl
theorem ready44_one : ∀ v ∈ ready44, v.oneCell' = true := by
  intro v hv
  simp only [ready44, List.mem_cons, List.not_mem_nil, or_false] at hv
  rcases hv with rfl | rfl | rfl | rfl | rfl | rfl | rfl | rfl | rfl | rfl | rfl | rfl | rfl | rfl | rfl | rfl | rfl | rfl | rfl | rfl | rfl | rfl | rfl | rfl | rfl | rfl | rfl | rfl <;> rfl
end Go.Proofs.YtalhhplphlobbaaGreat
