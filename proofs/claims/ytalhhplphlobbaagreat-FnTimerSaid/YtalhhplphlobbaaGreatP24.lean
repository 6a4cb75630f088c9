/- A node of the thin package in memory; start. Conditions: sizes. -/
import Derived.Deep.MidRow
import Derived.Test.YtalhhplphlobbaaGreatP23
set_option linter.unusedVariables false
set_option linter.unusedSimpArgs false
namespace Go.Proofs.YtalhhplphlobbaaGreat
open Go.RowKit
/-- The fields of an impl.Setup, slices as values. -/
structure SetS where
  id : Int
  et : Int
  ht : Int
  rd : Value
  pv : Bool
  cq : Bool
  le : Bool
  nf : Bool
  sd : Bool
  msz : Int
  mco : Int
  mun : Int
  inf : Int
  bd : ByteArray
  bi : Int
  bt : Int
  b1 : Value
  b2 : Value
  b3 : Value
  b4 : Value
  bal : Bool
  lg : Value
  hT : Int
  hV : Int
  hC : Int
  apd : Int
def SetS.list (s : SetS) : List Value := [.int .u64 s.id, .int .i64 s.et, .int .i64 s.ht, s.rd, .bool s.pv, .bool s.cq, .bool s.le, .bool s.nf, .bool s.sd, .int .u64 s.msz, .int .u64 s.mco, .int .u64 s.mun, .int .i64 s.inf, .string s.bd, .int .u64 s.bi, .int .u64 s.bt, s.b1, s.b2, s.b3, s.b4, .bool s.bal, s.lg, .int .u64 s.hT, .int .u64 s.hV, .int .u64 s.hC, .int .u64 s.apd]
/-- The fields of an impl.single. -/
structure SinS where
  set : SetS
  ref : Bool
  rn : Value
  st : Value
  ap : Int
  cf : Value
def SinS.cells (s : SinS) : Array Value := (s.set.list ++ [.bool s.ref, s.rn, s.st, .int .u64 s.ap, s.cf]).toArray
def SinAt (w : World) (b : Nat) (s : SinS) : Prop := Blk w b 140 s.cells
theorem SinAt.cell {w : World} {b : Nat} {s : SinS} (h : SinAt w b s) (k : Nat) (u : Value) (he : s.cells[k]? = some u) : w.cell? ⟨b, k, none⟩ = some u := (Blk.cell h k).trans he
theorem SinAt.set_ {w : World} {b : Nat} {s : SinS} (h : SinAt w b s) (k : Nat) (u : Value) (s' : SinS) (he : s.cells.setIfInBounds k u = s'.cells) : SinAt (w.setCell ⟨b, k, none⟩ u) b s' := by
  have := Blk.set_ h k u
  rw [he] at this
  exact this
theorem SinAt.nxt {w w' : World} {b : Nat} {s : SinS} (h : SinAt w b s) (hn : Nxt w w') : SinAt w' b s := Blk.nxt h hn
theorem SinAt.chg {L : List Nat} {w w' : World} {b : Nat} {s : SinS} (h : SinAt w b s) (hc : Chg L w w') (hg : b ∉ L) : SinAt w' b s := Blk.chg h hc hg
/-- A raft that runs: its blocks (as newRaft leaves it). -/
structure RunAt (w : World) (cb : Nat) (c : CfgS) (hv sv ev : Value) (e : Ent) (r : List Ent) (V L : List Int) (t vo cm : Int) (D : List Int) (rb rl bt x0 : Nat) (x2 : Option Nat) (bv ro mo : Nat) (bi : Int → Nat) (f : Int → Option PrS) (p : Int → Nat) : Prop where
  ra : RaftAt w rb (newS c rb rl x0 x2 bt bv ro L t vo D)
  la : RlAt w rl c.ms ⟨.pointer none, .slice none 0 0, e.i + r.length + 1, false, e.i + r.length + 1, cm, apOf e c, apOf e c, c.mco, 0, false⟩
  ma : MsAt w c.ms hv sv ev
  oa : Blk w ro 449 #[.int .i64 c.opt, .map (some mo), .slice none 0 0, .int .u64 0]
  va : MapAt w bv (.map [])
  ta : TrkAt w (some x0) x2 bt V L f p
  fa : ∀ k ∈ V ++ L, f k = some ⟨if k = c.id then e.i + r.length else 0, e.i + r.length + 1, 0, 0, 0, false, false, bi k, decide (k ∈ L)⟩
  ia : ∀ k ∈ V ++ L, Blk w (bi k) 509 #[.int .i64 0, .int .i64 0, .int .u64 0, .int .i64 c.inf, .int .u64 c.mib, .slice none 0 0]
  ja : ∀ k ∈ V ++ L, ∀ k' ∈ V ++ L, bi k = bi k' → k = k'
  cfg : CfgAt w cb c
section
variable {w w' w'' : World} {cb : Nat} {c : CfgS} {hv sv ev : Value} {e : Ent} {r : List Ent} {V L : List Int} {t vo cm : Int} {D : List Int} {rb rl bt x0 : Nat} {x2 : Option Nat} {bv ro mo : Nat} {bi : Int → Nat} {f : Int → Option PrS} {p : Int → Nat}
theorem NewTo.run (h : NewTo w cb c hv sv ev e r V L t vo cm D w' rb rl bt x0 x2 bv ro mo bi f p) : RunAt w' cb c hv sv ev e r V L t vo cm D rb rl bt x0 x2 bv ro mo bi f p :=
  ⟨h.ra, h.la, h.ma, h.oa, h.va, h.ta, h.fa, fun k hk => (h.ia k hk).2, h.ja, h.cfg⟩
theorem RunAt.far {b ty : Nat} {cs : Array Value} (h : RunAt w cb c hv sv ev e r V L t vo cm D rb rl bt x0 x2 bv ro mo bi f p) (hb : Blk w b ty cs) (ht : ty ≠ 296 ∧ ty ≠ 355 ∧ ty ≠ 246 ∧ ty ≠ 449 ∧ ty ≠ 461 ∧ ty ≠ 509 ∧ ty ≠ 268) (hc : Chg [b] w w') : RunAt w' cb c hv sv ev e r V L t vo cm D rb rl bt x0 x2 bv ro mo bi f p := by
  obtain ⟨t1, t2, t3, t4, t5, t6, t7⟩ := ht
  have nb : ∀ {x tx : Nat} {cx : Array Value}, Blk w x tx cx → ty ≠ tx → x ∉ [b] := fun hx hn => by
    have z := Blk.ne hx hb (Ne.symm hn)
    simpa using z
  obtain ⟨_, _, _, _, _, _, hm⟩ := id h.ma
  exact ⟨h.ra.chg hc (nb h.ra t1), h.la.chg hc (nb h.la t2), h.ma.chg hc (nb hm t3), h.oa.chg hc (nb h.oa t4), h.va.chg hc (by simpa using h.va.ne_blk hb), h.ta.chgBs hc (by intro x hx; simp at hx; subst hx; exact ⟨_, _, hb, t5⟩),
    h.fa, fun k hk => (h.ia k hk).chg hc (nb (h.ia k hk) t6), h.ja, h.cfg.chg hc (nb h.cfg t7)⟩
end
theorem size33 : (Tryz.prog.info? 33).map (·.size) = some 26 := by kernel_rfl
/-- A block made and filled at once. -/
theorem chg_setCells (b : Nat) : ∀ (vs : List Value) (o : Nat) (w : World), Chg [b] w (w.setCells b o vs)
  | [], _, _ => Chg.refl _ _
  | v :: vs, o, w => ((Chg.refl [b] w).setCell (.inr (by simp)) v).trans (chg_setCells b vs (o + 1) _)
theorem blk_setCells {w : World} {b t : Nat} : ∀ (vs : List Value) (o : Nat) (w : World) (pre old : List Value), pre.length = o → old.length = vs.length → Blk w b t (pre ++ old).toArray → Blk (w.setCells b o vs) b t (pre ++ vs).toArray
  | [], _, _, pre, old, _, h2, hb => by
    have : old = [] := List.eq_nil_of_length_eq_zero h2
    subst this
    exact hb
  | v :: vs, o, w, pre, old, h1, h2, hb => by
    obtain ⟨u, old', rfl⟩ : ∃ u old', old = u :: old' := by cases old with | nil => simp at h2 | cons a b => exact ⟨a, b, rfl⟩
    have z := hb.set_ o v
    have e : ((pre ++ u :: old').toArray).setIfInBounds o v = ((pre ++ [v]) ++ old').toArray := by
      rw [List.setIfInBounds_toArray, List.set_append_right _ _ (by omega)]
      simp [h1]
    rw [e] at z
    have := blk_setCells (w := w) vs (o + 1) _ (pre ++ [v]) old' (by simp [h1]) (by simpa using h2) z
    rw [List.append_assoc, List.singleton_append] at this
    exact this
theorem MetaAt.more {M M' : List Nat} {w : World} {v : Value} {i t : Int} {c : Cf} (h : MetaAt M w v i t c) (hM : ∀ x ∈ M', x ∈ M ∨ w.heap.size ≤ x) : MetaAt M' w v i t c := by
  obtain ⟨b, pc, p1, p2, rfl, hb, hl, c1, c2, c3, hcf, h1, h2⟩ := h
  exact ⟨b, pc, p1, p2, rfl, fun hx => by rcases hM b hx with h | h; exact hb h; omega, hl, c1, c2, c3, ConfAt.more hcf hM, h1.more hM, h2.more hM⟩
theorem SnapAt.more {M M' : List Nat} {w : World} {v : Value} {d : ByteArray} {i t : Int} {c : Cf} (h : SnapAt M w v d i t c) (hM : ∀ x ∈ M', x ∈ M ∨ w.heap.size ≤ x) : SnapAt M' w v d i t c := by
  obtain ⟨b, sd, pm, rfl, hb, hl, c1, c2, h1, h2⟩ := h
  exact ⟨b, sd, pm, rfl, fun hx => by rcases hM b hx with h | h; exact hb h; omega, hl, c1, c2, h1.more hM, h2.more hM⟩
/-- The configuration that start hands on. -/
def SetS.cfg (s : SetS) (ms : Nat) (apd : Int) : CfgS := ⟨s.id, s.et, s.ht, ms, apd, false, s.msz, s.mco, s.mun, s.inf, 0, s.cq, s.pv, if s.le then 1 else 0, s.nf, false, s.sd, s.rd⟩
def StartPost (w : World) (nb ms : Nat) (s : SinS) (c : CfgS) (hv sv ev : Value) (e : Ent) (r : List Ent) (V L : List Int) (t vo cm : Int) (D : List Int) (y : Ending) (w' : World) : Prop :=
  y = .returned .nilIface ∧ ∃ cb rn ss hs rb rl bt x0 x2 bv ro mo bi f p, RunAt w' cb c hv sv ev e r V L t vo cm D rb rl bt x0 x2 bv ro mo bi f p ∧ SinAt w' nb { s with rn := .pointer (some ⟨rn, 0, none⟩) } ∧
    Blk w' rn 276 #[.pointer (some ⟨rb, 0, none⟩), .bool false, .pointer (some ⟨ss, 0, none⟩), .pointer (some ⟨hs, 0, none⟩), .slice none 0 0] ∧ Blk w' ss 189 #[.int .u64 0, .int .u64 0] ∧ HardAt (nb :: rn :: rb :: rl :: ms :: []) w' (.pointer (some ⟨hs, 0, none⟩)) t vo cm ∧
    w.heap.size ≤ rn ∧ w.heap.size ≤ ss ∧ w.heap.size ≤ rb ∧ w.heap.size ≤ rl ∧ w.heap.size ≤ cb ∧ Chg [nb, ms] w w' ∧ Fr w.heap.size f p ∧
    ∃ n, w.heap.size ≤ n ∧ (∀ k st, f k = some st → p k < n) ∧ rn < n ∧ rb < n ∧ rl < n ∧ HardAt (List.range n) w' (.pointer (some ⟨hs, 0, none⟩)) t vo cm
set_option maxRecDepth 100000 in
set_option maxHeartbeats 8000000 in
theorem start_any {M : List Nat} {w : World} {nb ms : Nat} {s : SinS} {ap : Int} {hv sv ev : Value} {e : Ent} {r : List Ent} {V L : List Int} {t vo cm : Int} {d : ByteArray} {D : List Int}
    (h : SinAt w nb s) (hst : s.st = .pointer (some ⟨ms, 0, none⟩)) (h0 : 0 < s.set.id) (h1 : s.set.id < 4611686018427387904) (h2 : 0 < s.set.ht) (h3 : s.set.ht < s.set.et) (h3b : s.set.et < 1000000000) (h4 : 0 < s.set.mco) (h5 : 0 < s.set.inf) (h7 : s.set.msz ≤ 18446744073709551615) (h8 : s.set.le = true → s.set.cq = true)
    (hs : StAt M w ms hv sv ev e r) (mnb : nb ∈ M) (hM : ∀ x ∈ M, x < w.heap.size) (hsn : SnapAt M w sv d e.i e.t ⟨V, L, [], [], false⟩) (hh : HardAt M w hv t vo cm) (ht : 0 < t) (hc0 : e.i ≤ cm) (hc1 : cm ≤ e.i + r.length)
    (ha : ap = 0 ∨ e.i ≤ ap ∧ ap ≤ cm) (hn : (V ++ L).Nodup) (hV : V ≠ []) (hr : ∀ k ∈ V ++ L, 0 < k ∧ k < 2 ^ 64) (lV : V.length ≤ 12) (lL : L.length ≤ 12) (lK : (V ++ L).length ≤ 13)
    (hzd : Sl M w s.set.rd (I64s D)) (hDl : D.length ≤ 1000) (hDn : ∀ x ∈ D, 0 ≤ x ∧ x < s.set.et) (hor : ∃ q, s.rn = .pointer q)
    (g1 : ∃ A n c, s.set.b1 = .slice A n c) (g2 : ∃ A n c, s.set.b2 = .slice A n c) (g3 : ∃ A n c, s.set.b3 = .slice A n c) (g4 : ∃ A n c, s.set.b4 = .slice A n c) (g5 : ∃ A n c, s.set.lg = .slice A n c) :
    Calls Tryz.prog 104 #[.pointer (some ⟨nb, 0, none⟩), .int .u64 ap] w (StartPost w nb ms s (s.set.cfg ms ap).valid hv sv ev e r V L t vo cm D) := by
  obtain ⟨⟨id, et, ht', rd, pv, cq, le, nf, sd, msz, mco, mun, inf, bd, bi, bt, b1, b2, b3, b4, bal, lg, hT, hV', hC, apd⟩, ref, rn0, st, ap0, cf⟩ := s
  simp only at hst h0 h1 h2 h3 h3b h4 h5 h7 h8 hzd hDn hor g1 g2 g3 g4 g5
  subst hst
  obtain ⟨zA, zn, zc, rfl⟩ := hzd.form
  obtain ⟨A1, m1, k1, rfl⟩ := g1
  obtain ⟨A2, m2, k2, rfl⟩ := g2
  obtain ⟨A3, m3, k3, rfl⟩ := g3
  obtain ⟨A4, m4, k4, rfl⟩ := g4
  obtain ⟨A5, m5, k5, rfl⟩ := g5
  obtain ⟨q0, rfl⟩ := hor
  have H := Lib.hid h
  obtain ⟨SL, hSL⟩ : ∃ SL, SL = SetS.list ⟨id, et, ht', .slice zA zn zc, pv, cq, le, nf, sd, msz, mco, mun, inf, bd, bi, bt, .slice A1 m1 k1, .slice A2 m2 k2, .slice A3 m3 k3, .slice A4 m4 k4, bal, .slice A5 m5 k5, hT, hV', hC, apd⟩ := ⟨_, rfl⟩
  have hlen : SL.length = 26 := by rw [hSL]; rfl
  have hone : ∀ v ∈ SL, v.oneCell' = true := by
    rw [hSL]
    intro v hv
    simp only [SetS.list, List.mem_cons, List.not_mem_nil, or_false] at hv
    rcases hv with rfl | rfl | rfl | rfl | rfl | rfl | rfl | rfl | rfl | rfl | rfl | rfl | rfl | rfl | rfl | rfl | rfl | rfl | rfl | rfl | rfl | rfl | rfl | rfl | rfl | rfl <;> rfl
  have hrng : w.rangeAt nb 0 SL := by
    intro j v hj
    rw [Nat.zero_add, Blk.cell h j]
    simp only [SinS.cells, List.getElem?_toArray]
    rw [List.getElem?_append_left (by rw [← hSL]; exact (List.getElem?_eq_some_iff.1 hj).1), ← hSL]
    exact hj
  have hz33 : (Tryz.prog.info? 33).map (·.size) = some SL.length := by rw [hlen]; exact size33
  have hz33a : (Tryz.prog.info? 33).map (·.size) = some SL.toArray.size := by rw [List.size_toArray, hlen]; exact size33
  have n28 : w.cell? ⟨nb, 28, none⟩ = some (.pointer (some ⟨ms, 0, none⟩)) := SinAt.cell h 28 _ rfl
  have nlt := Blk.lt h
  have HRNG := Lib.hid hrng
  have HONE := Lib.hid hone
  have HLEN := Lib.hid hlen
  have HZ := Lib.hid hz33
  have HZA := Lib.hid hz33a
  have HSL := Lib.hid hSL
  clear h hSL hlen hone hrng hz33 hz33a
  go_enter Tryz.func104, Tryz.ntmps104
  go_wp2_with (first | (refine wpList_load_mid rfl 33 _ rfl nb 0 rfl SL _ HRNG.out Tryz.underlying33 rfl HZ.out ?_) | (refine wpList_store_mid rfl 33 _ _ rfl w.heap.size 0 SL.toArray rfl rfl ?_ HZA.out (all_oneCell_toArray HONE.out) ?_))
  · have hb := Blk.new w 33 #[.int .u64 0, .int .i64 0, .int .i64 0, .slice none 0 0, .bool false, .bool false, .bool false, .bool false, .bool false, .int .u64 0, .int .u64 0, .int .u64 0, .int .i64 0, .string ⟨#[]⟩, .int .u64 0, .int .u64 0, .slice none 0 0, .slice none 0 0, .slice none 0 0, .slice none 0 0, .bool false, .slice none 0 0, .int .u64 0, .int .u64 0, .int .u64 0, .int .u64 0]
    intro j hj
    rw [List.size_toArray, HLEN.out] at hj
    rw [Nat.zero_add]
    exact ⟨by rw [hb.cell j]; rw [Array.getElem?_eq_getElem (by simpa using hj)]; rfl, hb.frozen j⟩
  have hbL : Blk ((w.alloc (.cells #[.int .u64 0, .int .i64 0, .int .i64 0, .slice none 0 0, .bool false, .bool false, .bool false, .bool false, .bool false, .int .u64 0, .int .u64 0, .int .u64 0, .int .i64 0, .string ⟨#[]⟩, .int .u64 0, .int .u64 0, .slice none 0 0, .slice none 0 0, .slice none 0 0, .slice none 0 0, .bool false, .slice none 0 0, .int .u64 0, .int .u64 0, .int .u64 0, .int .u64 0] 33)).setCells w.heap.size 0 SL.toArray.toList) w.heap.size 33 SL.toArray := by
    have z := blk_setCells (w := w) (t := 33) SL.toArray.toList 0 (w.alloc (.cells #[.int .u64 0, .int .i64 0, .int .i64 0, .slice none 0 0, .bool false, .bool false, .bool false, .bool false, .bool false, .int .u64 0, .int .u64 0, .int .u64 0, .int .i64 0, .string ⟨#[]⟩, .int .u64 0, .int .u64 0, .slice none 0 0, .slice none 0 0, .slice none 0 0, .slice none 0 0, .bool false, .slice none 0 0, .int .u64 0, .int .u64 0, .int .u64 0, .int .u64 0] 33)) [] [.int .u64 0, .int .i64 0, .int .i64 0, .slice none 0 0, .bool false, .bool false, .bool false, .bool false, .bool false, .int .u64 0, .int .u64 0, .int .u64 0, .int .i64 0, .string ⟨#[]⟩, .int .u64 0, .int .u64 0, .slice none 0 0, .slice none 0 0, .slice none 0 0, .slice none 0 0, .bool false, .slice none 0 0, .int .u64 0, .int .u64 0, .int .u64 0, .int .u64 0] rfl (by rw [List.toList_toArray, HLEN.out]; rfl) (Blk.new w 33 _)
    simpa using z
  have hnL : Nxt w ((w.alloc (.cells #[.int .u64 0, .int .i64 0, .int .i64 0, .slice none 0 0, .bool false, .bool false, .bool false, .bool false, .bool false, .int .u64 0, .int .u64 0, .int .u64 0, .int .i64 0, .string ⟨#[]⟩, .int .u64 0, .int .u64 0, .slice none 0 0, .slice none 0 0, .slice none 0 0, .slice none 0 0, .bool false, .slice none 0 0, .int .u64 0, .int .u64 0, .int .u64 0, .int .u64 0] 33)).setCells w.heap.size 0 SL.toArray.toList) := ⟨((Chg.refl [] w).alloc _).then (chg_setCells _ _ _ _) (by simp)⟩
  obtain ⟨lc, hlc⟩ : ∃ lc, lc = w.heap.size := ⟨_, rfl⟩
  generalize (w.alloc (.cells #[.int .u64 0, .int .i64 0, .int .i64 0, .slice none 0 0, .bool false, .bool false, .bool false, .bool false, .bool false, .int .u64 0, .int .u64 0, .int .u64 0, .int .i64 0, .string ⟨#[]⟩, .int .u64 0, .int .u64 0, .slice none 0 0, .slice none 0 0, .slice none 0 0, .slice none 0 0, .bool false, .slice none 0 0, .int .u64 0, .int .u64 0, .int .u64 0, .int .u64 0] 33)).setCells w.heap.size 0 SL.toArray.toList = W1 at hbL hnL ⊢
  rw [← hlc] at hbL ⊢
  have zlc : w.heap.size ≤ lc := by omega
  clear hlc
  have l0 : W1.cell? ⟨lc, 0, none⟩ = some (.int .u64 id) := by rw [hbL.cell 0, HSL.out]; rfl
  have l1 : W1.cell? ⟨lc, 1, none⟩ = some (.int .i64 et) := by rw [hbL.cell 1, HSL.out]; rfl
  have l2 : W1.cell? ⟨lc, 2, none⟩ = some (.int .i64 ht') := by rw [hbL.cell 2, HSL.out]; rfl
  have l3 : W1.cell? ⟨lc, 3, none⟩ = some (.slice zA zn zc) := by rw [hbL.cell 3, HSL.out]; rfl
  have l4 : W1.cell? ⟨lc, 4, none⟩ = some (.bool pv) := by rw [hbL.cell 4, HSL.out]; rfl
  have l5 : W1.cell? ⟨lc, 5, none⟩ = some (.bool cq) := by rw [hbL.cell 5, HSL.out]; rfl
  have l6 : W1.cell? ⟨lc, 6, none⟩ = some (.bool le) := by rw [hbL.cell 6, HSL.out]; rfl
  have l7 : W1.cell? ⟨lc, 7, none⟩ = some (.bool nf) := by rw [hbL.cell 7, HSL.out]; rfl
  have l8 : W1.cell? ⟨lc, 8, none⟩ = some (.bool sd) := by rw [hbL.cell 8, HSL.out]; rfl
  have l9 : W1.cell? ⟨lc, 9, none⟩ = some (.int .u64 msz) := by rw [hbL.cell 9, HSL.out]; rfl
  have l10 : W1.cell? ⟨lc, 10, none⟩ = some (.int .u64 mco) := by rw [hbL.cell 10, HSL.out]; rfl
  have l11 : W1.cell? ⟨lc, 11, none⟩ = some (.int .u64 mun) := by rw [hbL.cell 11, HSL.out]; rfl
  have l12 : W1.cell? ⟨lc, 12, none⟩ = some (.int .i64 inf) := by rw [hbL.cell 12, HSL.out]; rfl
  have m28 := hnL.out.at0 n28
  go_frame
  go_region_held3 (fun wx => wx.cell? ⟨lc, 0, none⟩ = some (.int .u64 id) ∧ wx.cell? ⟨lc, 1, none⟩ = some (.int .i64 et) ∧ wx.cell? ⟨lc, 2, none⟩ = some (.int .i64 ht') ∧ wx.cell? ⟨lc, 3, none⟩ = some (.slice zA zn zc) ∧ wx.cell? ⟨lc, 4, none⟩ = some (.bool pv) ∧ wx.cell? ⟨lc, 5, none⟩ = some (.bool cq) ∧ wx.cell? ⟨lc, 7, none⟩ = some (.bool nf) ∧ wx.cell? ⟨lc, 8, none⟩ = some (.bool sd) ∧ wx.cell? ⟨lc, 9, none⟩ = some (.int .u64 msz) ∧ wx.cell? ⟨lc, 10, none⟩ = some (.int .u64 mco) ∧ wx.cell? ⟨lc, 11, none⟩ = some (.int .u64 mun) ∧ wx.cell? ⟨lc, 12, none⟩ = some (.int .i64 inf) ∧ wx.cell? ⟨nb, 28, none⟩ = some (.pointer (some ⟨ms, 0, none⟩)))
    (first | ((repeat' apply And.intro) <;> (first | with_reducible assumption | (simp; done) | ((repeat (refine cell_alloc ?_ _)); (first | with_reducible assumption | (refine Chg.at0 (Nxt.out (by assumption)) ?_; first | with_reducible assumption | (simp; done) | (simp [*]; done)) | (refine Chg.at0 (by assumption) ?_; first | with_reducible assumption | (simp; done) | (simp [*]; done)) | (simp [*]; done))) | ((repeat (first | with_reducible exact Chg.refl _ _ | with_reducible assumption | refine Chg.drew ?_ | refine Chg.alloc ?_ _)); done)))) (fail)
  have hb2 : Blk (W1.alloc (.cells #[.int .u64 id, .int .i64 et, .int .i64 ht', .iface 137 (.pointer (some ⟨ms, 0, none⟩)), .int .u64 ap, .bool false, .int .u64 msz, .int .u64 mco, .int .u64 mun, .int .i64 inf, .int .u64 0, .bool cq, .bool pv, .int .i64 0, .bool nf, .bool false, .bool sd, .slice zA zn zc] 268)).drew W1.heap.size 268 #[.int .u64 id, .int .i64 et, .int .i64 ht', .iface 137 (.pointer (some ⟨ms, 0, none⟩)), .int .u64 ap, .bool false, .int .u64 msz, .int .u64 mco, .int .u64 mun, .int .i64 inf, .int .u64 0, .bool cq, .bool pv, .int .i64 0, .bool nf, .bool false, .bool sd, .slice zA zn zc] := Blk.drew (Blk.new W1 268 _)
  have hn2 : Nxt W1 (W1.alloc (.cells #[.int .u64 id, .int .i64 et, .int .i64 ht', .iface 137 (.pointer (some ⟨ms, 0, none⟩)), .int .u64 ap, .bool false, .int .u64 msz, .int .u64 mco, .int .u64 mun, .int .i64 inf, .int .u64 0, .bool cq, .bool pv, .int .i64 0, .bool nf, .bool false, .bool sd, .slice zA zn zc] 268)).drew := ⟨((Chg.refl _ _).alloc _).drew⟩
  obtain ⟨cb, hcb⟩ : ∃ cb, cb = W1.heap.size := ⟨_, rfl⟩
  have llc := hbL.lt
  generalize (W1.alloc (.cells #[.int .u64 id, .int .i64 et, .int .i64 ht', .iface 137 (.pointer (some ⟨ms, 0, none⟩)), .int .u64 ap, .bool false, .int .u64 msz, .int .u64 mco, .int .u64 mun, .int .i64 inf, .int .u64 0, .bool cq, .bool pv, .int .i64 0, .bool nf, .bool false, .bool sd, .slice zA zn zc] 268)).drew = W2 at hb2 hn2 ⊢
  rw [← hcb] at hb2 ⊢
  have zc1 : W1.heap.size ≤ cb := by omega
  clear hcb
  have k6 := hn2.out.at0 l6
  cases le
  · go_wp2_with fail
    obtain ⟨W3, hW3⟩ : ∃ W3, W3 = W2 := ⟨_, rfl⟩
    subst hW3
    have hcfg : CfgAt W3 cb (SetS.cfg ⟨id, et, ht', .slice zA zn zc, pv, cq, false, nf, sd, msz, mco, mun, inf, bd, bi, bt, .slice A1 m1 k1, .slice A2 m2 k2, .slice A3 m3 k3, .slice A4 m4 k4, bal, .slice A5 m5 k5, hT, hV', hC, apd⟩ ms ap) := hb2
    have hn23 := hn2
    clear hb2 hn2 k6
    have hx3 : Nxt w W3 := ⟨hnL.out.trans (hn23.out)⟩
    have zcb : w.heap.size ≤ cb := by have := hnL.out.size; omega
    have hM1 : ∀ x ∈ cb :: M, x ∈ M ∨ w.heap.size ≤ x := by
      intro x hx
      simp only [List.mem_cons] at hx
      rcases hx with rfl | hx
      · exact .inr zcb
      · exact .inl hx
    have hs3 : StAt (cb :: M) W3 ms hv sv ev e r := hs.grow hM1 (List.mem_cons_of_mem _ hs.mem) (hs.at_.chg hx3.out (by simp)) hx3.out (by simp)
    have hN := newRaw_any (M := cb :: M) hcfg h0 h1 h2 h3 h3b h4 h5 rfl h7 (by intro h; simp [SetS.cfg] at h) hs3 (by simp) (by intro x hx; have z := hx3.out.size; simp only [List.mem_cons] at hx; rcases hx with rfl | hx; exact Blk.lt hcfg; have := hM x hx; omega) ((hsn.more hM1).chg hx3.out (by simp)) ((hh.more hM1).chg hx3.out (by simp)) ht hc0 hc1 ha hn hV hr lV lL lK ((hzd.more hM1).chg hx3.out (by simp)) hDl hDn
    have HN := Lib.hid hN
    have HX3 := Lib.hid hx3
    have hH3 := H.out.nxt hx3
    have HH3 := Lib.hid hH3
    have lnb3 := Blk.lt hH3
    have z3 := hx3.out.size
    clear hN hx3 hcfg hs3 hM1 hH3 hnL hn23 l0 l1 l2 l3 l4 l5 l6 l7 l8 l9 l10 l11 l12 m28 hbL llc
    (first | (go_at_call 157; (with_reducible refine Calls.mono HN.out ?_); rintro e1 W4 ⟨rn, ss, hs', n, rb, rl, bt', x0, x2, bv, ro, mo, bi', f, p, rfl, hT', hRn, hSs, hHs, z4, z5, z6, z7, z8, z9, z10, z11, z12⟩))
    have hS4 : SinAt W4 nb _ := HH3.out.chg hT'.ca (by
      have q2 := hs.at_.ne H.out (by decide)
      have q3 : nb ≠ cb := by omega
      intro hx
      simp only [List.mem_cons, List.not_mem_nil, or_false] at hx
      rcases hx with h | h
      · exact q3 h
      · exact q2 h)
    have k27 : W4.cell? ⟨nb, 27, none⟩ = some (.pointer q0) := SinAt.cell hS4 27 _ rfl
    have kf := Blk.frozen hS4
    have HS4 := Lib.hid hS4
    have HT4 := Lib.hid hT'
    have HRN := Lib.hid hRn
    have HSS := Lib.hid hSs
    have HHS := Lib.hid hHs
    clear hS4 hT' hRn hSs hHs
    go_wp2_with fail
    go_ret
    have hq : Chg [nb] W4 (W4.setCell ⟨nb, 27, none⟩ (.pointer (some ⟨rn, 0, none⟩))) := (Chg.refl _ _).setCell (.inr (by simp)) _
    have hS5 := SinAt.set_ HS4.out 27 (.pointer (some ⟨rn, 0, none⟩)) ⟨⟨id, et, ht', .slice zA zn zc, pv, cq, false, nf, sd, msz, mco, mun, inf, bd, bi, bt, .slice A1 m1 k1, .slice A2 m2 k2, .slice A3 m3 k3, .slice A4 m4 k4, bal, .slice A5 m5 k5, hT, hV', hC, apd⟩, ref, .pointer (some ⟨rn, 0, none⟩), .pointer (some ⟨ms, 0, none⟩), ap0, cf⟩ rfl
    refine ⟨rfl, cb, rn, ss, hs', rb, rl, bt', x0, x2, bv, ro, mo, bi', f, p, HT4.out.run.far HS4.out (by decide) hq, hS5, HRN.out.chg hq (by simpa using Blk.ne HRN.out HS4.out (by decide)), HSS.out.chg hq (by simpa using Blk.ne HSS.out HS4.out (by decide)), ?_, by omega, by omega, by have := HT4.out.lo.1; omega, by have := HT4.out.lo.2.1; omega, zcb, ?_, fun k st hk => by have := HT4.out.lo.2.2.2.2 k st hk; omega, n, by omega, z12, z7, z9, z10, HHS.out.chg hq (by simp; omega)⟩
    · refine (HHS.out.chg hq (by simp; omega)).more ?_
      intro x hx
      refine .inl (List.mem_range.2 ?_)
      simp only [List.mem_cons, List.not_mem_nil, or_false] at hx
      rcases hx with rfl | rfl | rfl | rfl | rfl
      · omega
      · exact z7
      · exact z9
      · exact z10
      · exact z11
    · have e1 : Chg [cb, ms] W3 W4 := HT4.out.ca
      have e2 : Chg [nb, ms] w W4 := ((HX3.out.out.mono (L' := [nb, ms, cb]) (by simp)).trans (e1.mono (by simp))) |>.fresh (by
        intro x hx hl
        simp only [List.mem_cons, List.not_mem_nil, or_false] at hx ⊢
        rcases hx with h | h | h
        · exact .inl h
        · exact .inr h
        · omega)
      exact e2.trans (hq.mono (by simp))

  · have hcq1 : cq = true := by simpa using h8
    have c13 : W2.cell? ⟨cb, 13, none⟩ = some (.int .i64 0) := by rw [hb2.cell 13]; rfl
    have cfz := hb2.frozen
    go_wp2_with fail
    have hcfg : CfgAt (W2.setCell ⟨cb, 13, none⟩ (.int .i64 1)) cb (SetS.cfg ⟨id, et, ht', .slice zA zn zc, pv, cq, true, nf, sd, msz, mco, mun, inf, bd, bi, bt, .slice A1 m1 k1, .slice A2 m2 k2, .slice A3 m3 k3, .slice A4 m4 k4, bal, .slice A5 m5 k5, hT, hV', hC, apd⟩ ms ap) := by
      have z := hb2.set_ 13 (.int .i64 1)
      exact z
    have hn23 : Nxt W1 (W2.setCell ⟨cb, 13, none⟩ (.int .i64 1)) := ⟨hn2.out.then ((Chg.refl [cb] W2).setCell (.inr (by simp)) _) (by simp; omega)⟩
    generalize W2.setCell ⟨cb, 13, none⟩ (.int .i64 1) = W3 at hcfg hn23 ⊢
    clear hb2 hn2 k6 c13 cfz
    have hx3 : Nxt w W3 := ⟨hnL.out.trans (hn23.out)⟩
    have zcb : w.heap.size ≤ cb := by have := hnL.out.size; omega
    have hM1 : ∀ x ∈ cb :: M, x ∈ M ∨ w.heap.size ≤ x := by
      intro x hx
      simp only [List.mem_cons] at hx
      rcases hx with rfl | hx
      · exact .inr zcb
      · exact .inl hx
    have hs3 : StAt (cb :: M) W3 ms hv sv ev e r := hs.grow hM1 (List.mem_cons_of_mem _ hs.mem) (hs.at_.chg hx3.out (by simp)) hx3.out (by simp)
    have hN := newRaw_any (M := cb :: M) hcfg h0 h1 h2 h3 h3b h4 h5 rfl h7 (fun _ => hcq1) hs3 (by simp) (by intro x hx; have z := hx3.out.size; simp only [List.mem_cons] at hx; rcases hx with rfl | hx; exact Blk.lt hcfg; have := hM x hx; omega) ((hsn.more hM1).chg hx3.out (by simp)) ((hh.more hM1).chg hx3.out (by simp)) ht hc0 hc1 ha hn hV hr lV lL lK ((hzd.more hM1).chg hx3.out (by simp)) hDl hDn
    have HN := Lib.hid hN
    have HX3 := Lib.hid hx3
    have hH3 := H.out.nxt hx3
    have HH3 := Lib.hid hH3
    have lnb3 := Blk.lt hH3
    have z3 := hx3.out.size
    clear hN hx3 hcfg hs3 hM1 hH3 hnL hn23 l0 l1 l2 l3 l4 l5 l6 l7 l8 l9 l10 l11 l12 m28 hbL llc
    (first | (go_at_call 157; (with_reducible refine Calls.mono HN.out ?_); rintro e1 W4 ⟨rn, ss, hs', n, rb, rl, bt', x0, x2, bv, ro, mo, bi', f, p, rfl, hT', hRn, hSs, hHs, z4, z5, z6, z7, z8, z9, z10, z11, z12⟩))
    have hS4 : SinAt W4 nb _ := HH3.out.chg hT'.ca (by
      have q2 := hs.at_.ne H.out (by decide)
      have q3 : nb ≠ cb := by omega
      intro hx
      simp only [List.mem_cons, List.not_mem_nil, or_false] at hx
      rcases hx with h | h
      · exact q3 h
      · exact q2 h)
    have k27 : W4.cell? ⟨nb, 27, none⟩ = some (.pointer q0) := SinAt.cell hS4 27 _ rfl
    have kf := Blk.frozen hS4
    have HS4 := Lib.hid hS4
    have HT4 := Lib.hid hT'
    have HRN := Lib.hid hRn
    have HSS := Lib.hid hSs
    have HHS := Lib.hid hHs
    clear hS4 hT' hRn hSs hHs
    go_wp2_with fail
    go_ret
    have hq : Chg [nb] W4 (W4.setCell ⟨nb, 27, none⟩ (.pointer (some ⟨rn, 0, none⟩))) := (Chg.refl _ _).setCell (.inr (by simp)) _
    have hS5 := SinAt.set_ HS4.out 27 (.pointer (some ⟨rn, 0, none⟩)) ⟨⟨id, et, ht', .slice zA zn zc, pv, cq, true, nf, sd, msz, mco, mun, inf, bd, bi, bt, .slice A1 m1 k1, .slice A2 m2 k2, .slice A3 m3 k3, .slice A4 m4 k4, bal, .slice A5 m5 k5, hT, hV', hC, apd⟩, ref, .pointer (some ⟨rn, 0, none⟩), .pointer (some ⟨ms, 0, none⟩), ap0, cf⟩ rfl
    refine ⟨rfl, cb, rn, ss, hs', rb, rl, bt', x0, x2, bv, ro, mo, bi', f, p, HT4.out.run.far HS4.out (by decide) hq, hS5, HRN.out.chg hq (by simpa using Blk.ne HRN.out HS4.out (by decide)), HSS.out.chg hq (by simpa using Blk.ne HSS.out HS4.out (by decide)), ?_, by omega, by omega, by have := HT4.out.lo.1; omega, by have := HT4.out.lo.2.1; omega, zcb, ?_, fun k st hk => by have := HT4.out.lo.2.2.2.2 k st hk; omega, n, by omega, z12, z7, z9, z10, HHS.out.chg hq (by simp; omega)⟩
    · refine (HHS.out.chg hq (by simp; omega)).more ?_
      intro x hx
      refine .inl (List.mem_range.2 ?_)
      simp only [List.mem_cons, List.not_mem_nil, or_false] at hx
      rcases hx with rfl | rfl | rfl | rfl | rfl
      · omega
      · exact z7
      · exact z9
      · exact z10
      · exact z11
    · have e1 : Chg [cb, ms] W3 W4 := HT4.out.ca
      have e2 : Chg [nb, ms] w W4 := ((HX3.out.out.mono (L' := [nb, ms, cb]) (by simp)).trans (e1.mono (by simp))) |>.fresh (by
        intro x hx hl
        simp only [List.mem_cons, List.not_mem_nil, or_false] at hx ⊢
        rcases hx with h | h | h
        · exact .inl h
        · exact .inr h
        · omega)
      exact e2.trans (hq.mono (by simp))

end Go.Proofs.YtalhhplphlobbaaGreat
