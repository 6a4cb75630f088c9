/- The tick at which a node campaigns. Conditions: sizes. The tick at which a node campaigns, as a call of a script. Conditions: sizes. Node with one call, that to be ready. Conditions: the contracts of begin, do and said. A node that has begun, at its ready and its said. Conditions: what a setup must be. The first call of FnTimer's script, ready, behind it a node that ticks. Conditions: what a setup must be. -/
import Derived.Test.YtalhhplphlobbaaGreatP33
import Derived.Test.YtalhhplphlobbaaGreatP34
import Derived.Test.YtalhhplphlobbaaGreatP36
import Derived.Test.YtalhhplphlobbaaGreatP37
import Derived.Test.YtalhhplphlobbaaGreatP38
set_option linter.unusedVariables false
set_option linter.unusedSimpArgs false
namespace Go.Proofs.YtalhhplphlobbaaGreat
open Go.RowKit
/-- What is asked of a raft that may campaign. -/
structure CampC (rb rl bt x0 rob : Nat) (l : RLog) (e : Ent) (r : List Ent) (V L D : List Int) (zk : Nat) (zd : Value) (s : RaftS) : Prop where
  hrl : s.rl = rl
  hpr : s.prog = .map (some bt)
  cal : l.calm
  cap : l.com ≤ l.apd
  off : l.off = e.i + r.length + 1
  idV : s.id ∈ V
  idr : 0 < s.id ∧ s.id < 2 ^ 64
  st : s.state = 0
  nd : (V ++ L).Nodup
  hzd : s.zd = zd
  hzn : s.zn = zk
  hzk : zk < 1000000000
  dl : D.length ≤ 1000
  dn : ∀ x ∈ D, 0 ≤ x ∧ x < s.et
  et : 0 < s.et ∧ s.et < 1000000000
  hro : s.ro = .pointer (some ⟨rob, 0, none⟩)
  lK : (V ++ L).length ≤ 13
  lV : V.length ≤ 12
  rng : ∀ k ∈ V, 0 < k ∧ k < 2 ^ 64
  tm : 0 < s.term ∧ s.term + 2 < 18446744073709551615
  m1 : s.msgs = .slice none 0 0
  m2 : s.msga = .slice none 0 0
  v0 : s.v0 = .map (some x0)
  v1 : s.v1 = .map none
section
variable {nb rn rb rl ms cfp bt x0 rob zk : Nat} {x2 : Option Nat} {sn : SinS} {u1 u2 u3 u4 mp sl cn : Value} {opt : Int} {l : RLog} {hv sv ev : Value} {e : Ent} {r : List Ent} {V L D : List Int} {f : Int → Option PrS} {p : Int → Nat} {zd : Value} {s s' : RaftS} {M M' O Lx : List Nat} {w w' : World}
theorem hup_el (h : TickJ nb rn rb rl ms cfp bt x0 rob x2 sn u1 u2 u3 u4 mp sl cn opt l hv sv ev e r V L D f p zd s M O w) (c : CampC rb rl bt x0 rob l e r V L D zk zd s) :
    Calls Tryz.prog 221 #[.pointer (some ⟨rb, 0, none⟩), .string tEl] w fun y w' => y = .returned (.tuple #[]) ∧ ∃ s2 : RaftS, s2.state = 1 ∧ s2.term = s.term + 1 ∧ s2.vote = s.id ∧ s2.rl = rl ∧ RaftAt w' rb s2 ∧ RlAt w' rl ms l ∧ Chg (ms :: rb :: (V ++ L).map p) w w' := by
  have hpM : ∀ k st, f k = some st → p k ∈ M := fun k st hk => h.om _ (by
    rw [h.ho]
    have hd := (h.ta.dom k).1 (by rw [hk]; rfl)
    simp only [List.mem_cons, List.mem_map, List.mem_append]
    exact .inr (.inr (.inr (.inr (.inr ⟨k, hd, rfl⟩)))))
  have hrm : rb ∈ M := h.om _ (by rw [h.ho]; simp)
  have hX : ∀ X, Nxt w X → TickJ nb rn rb rl ms cfp bt x0 rob x2 sn u1 u2 u3 u4 mp sl cn opt l hv sv ev e r V L D f p zd s M O X := fun X hX => h.mono hX.out (by simp) (by simp) (fun _ h => h) (fun _ h => .inl h)
  have hP : ∀ X, Nxt w X → Calls Tryz.prog 284 #[.pointer (some ⟨rb, 0, none⟩)] X fun y w' => y = .returned (.bool true) ∧ Nxt X w' := fun X hn => by
    have z := promotable_any (hX X hn).ra c.hrl (hX X hn).la c.cal (hX X hn).ta c.hpr ⟨Int.le_of_lt c.idr.1, c.idr.2⟩
    rw [decide_eq_true c.idV] at z
    exact z
  obtain ⟨x, hx⟩ : ∃ x, (e :: r)[r.length]? = some x := ⟨_, List.getElem?_eq_getElem (by simp)⟩
  refine hup_any h.ra (by rw [c.st]; decide) hP (fun X hn => unapplied_no (hX X hn).ra c.hrl (hX X hn).la c.cap) (fun X hn => ?_)
  have hj := hX X hn
  have hC := campaign_el (M := M) (W := X) (rb := rb) (rl := rl) (ms := ms) (x0 := x0) (l := l) (hv := hv) (sv := sv) (ev := ev) (e := e) (r := r) (V := V)
    (B := fun s2 w2 => s2.state = 1 ∧ s2.term = s.term + 1 ∧ s2.vote = s.id ∧ s2.rl = rl ∧ Chg (ms :: rb :: (V ++ L).map p) X w2)
    (fun Y hY => (hP Y ⟨hn.out.trans hY.out⟩)) (fun Y hY => ?_) x hx
  · refine hC.mono ?_
    rintro y w' ⟨rfl, s2, w1, ids, g, CS, ⟨b1, b2, b3, b4, b5⟩, _, hA⟩
    obtain ⟨v1, v2, M', Lm, La, hra, _⟩ := hA.ex
    exact ⟨rfl, { s2 with msgs := v1, msga := v2 }, b1, b2, b3, b4, hra, hA.la, (hn.out.mono (by simp)).trans (b5.trans (hA.ch.mono (by simp)))⟩
  · have hy := hX Y ⟨hn.out.trans hY.out⟩
    refine (candidate_any (D := D) (zk := zk) hy.ra c.hrl hy.la c.cal hy.st hy.ta c.nd c.hpr (by rw [c.hzd]; exact hy.zd) c.hzn c.hzk c.dl c.dn c.et.1 c.et.2 c.hro hy.oa hrm hpM c.lK (by rw [c.st]; decide) (Int.le_of_lt c.tm.1) (by have := c.tm; omega)).mono ?_
    rintro y w2 ⟨rfl, bv, ro', mo, bi, hr⟩
    refine ⟨rfl, s.cand rb D zk bv ro', ⟨rfl, rfl, rfl, c.hrl, (hY.out.mono (by simp)).trans hr.ca⟩, ?_⟩
    have hlt : ∀ x ∈ M, x < w2.heap.size := fun x hx => Nat.lt_of_lt_of_le (hy.lt x hx) hr.ca.size
    exact ⟨hr.ra, hr.la, hr.sa, hr.ta.sv, hlt, hrm, c.hrl, c.cal, c.off, c.m1, c.m2, c.v0, c.v1, ⟨by show 0 < s.term + 1; have := c.tm; omega, by show s.term + 1 + 1 < _; have := c.tm; omega⟩, c.idr, c.lV, c.rng, fun h => by have := c.idV; rw [h] at this; cases this⟩
theorem hup_pre (h : TickJ nb rn rb rl ms cfp bt x0 rob x2 sn u1 u2 u3 u4 mp sl cn opt l hv sv ev e r V L D f p zd s M O w) (c : CampC rb rl bt x0 rob l e r V L D zk zd s) :
    Calls Tryz.prog 221 #[.pointer (some ⟨rb, 0, none⟩), .string tPre] w fun y w' => y = .returned (.tuple #[]) ∧ ∃ s2 : RaftS, s2.state = 3 ∧ s2.term = s.term ∧ s2.vote = s.vote ∧ s2.rl = rl ∧ RaftAt w' rb s2 ∧ RlAt w' rl ms l ∧ Chg (ms :: rb :: (V ++ L).map p) w w' := by
  have hrm : rb ∈ M := h.om _ (by rw [h.ho]; simp)
  have hX : ∀ X, Nxt w X → TickJ nb rn rb rl ms cfp bt x0 rob x2 sn u1 u2 u3 u4 mp sl cn opt l hv sv ev e r V L D f p zd s M O X := fun X hX => h.mono hX.out (by simp) (by simp) (fun _ h => h) (fun _ h => .inl h)
  have hP : ∀ X, Nxt w X → Calls Tryz.prog 284 #[.pointer (some ⟨rb, 0, none⟩)] X fun y w' => y = .returned (.bool true) ∧ Nxt X w' := fun X hn => by
    have z := promotable_any (hX X hn).ra c.hrl (hX X hn).la c.cal (hX X hn).ta c.hpr ⟨Int.le_of_lt c.idr.1, c.idr.2⟩
    rw [decide_eq_true c.idV] at z
    exact z
  obtain ⟨x, hx⟩ : ∃ x, (e :: r)[r.length]? = some x := ⟨_, List.getElem?_eq_getElem (by simp)⟩
  refine hup_any h.ra (by rw [c.st]; decide) hP (fun X hn => unapplied_no (hX X hn).ra c.hrl (hX X hn).la c.cap) (fun X hn => ?_)
  have hC := campaign_pre (M := M) (W := X) (rb := rb) (rl := rl) (ms := ms) (x0 := x0) (l := l) (hv := hv) (sv := sv) (ev := ev) (e := e) (r := r) (V := V)
    (B := fun s2 w2 => s2.state = 3 ∧ s2.term = s.term ∧ s2.vote = s.vote ∧ s2.rl = rl ∧ Chg (ms :: rb :: (V ++ L).map p) X w2)
    (fun Y hY => (hP Y ⟨hn.out.trans hY.out⟩)) (fun Y hY => ?_) x hx
  · refine hC.mono ?_
    rintro y w' ⟨rfl, s2, w1, ids, g, CS, ⟨b1, b2, b3, b4, b5⟩, _, hA⟩
    obtain ⟨v1, v2, M', Lm, La, hra, _⟩ := hA.ex
    exact ⟨rfl, { s2 with msgs := v1, msga := v2 }, b1, b2, b3, b4, hra, hA.la, (hn.out.mono (by simp)).trans (b5.trans (hA.ch.mono (by simp)))⟩
  · have hy := hX Y ⟨hn.out.trans hY.out⟩
    refine (preCandidate_any hy.ra (by rw [c.st]; decide)).mono ?_
    rintro y w2 ⟨rfl, bv, _, _, hr, hc2⟩
    have hy2 := hy.raft hc2 hr
    refine ⟨rfl, s.pre rb bv, ⟨rfl, rfl, rfl, c.hrl, (hY.out.mono (by simp)).trans (hc2.mono (by simp))⟩, ?_⟩
    exact ⟨hr, hy2.la, hy2.st, hy2.ta.sv, hy2.lt, hrm, c.hrl, c.cal, c.off, c.m1, c.m2, c.v0, c.v1, ⟨c.tm.1, by show s.term + 1 < _; have := c.tm; omega⟩, c.idr, c.lV, c.rng, fun h => by have := c.idV; rw [h] at this; cases this⟩
theorem CampC.ee (c : CampC rb rl bt x0 rob l e r V L D zk zd s) (k : Int) : CampC rb rl bt x0 rob l e r V L D zk zd { s with ee := k } :=
  ⟨c.hrl, c.hpr, c.cal, c.cap, c.off, c.idV, c.idr, c.st, c.nd, c.hzd, c.hzn, c.hzk, c.dl, c.dn, c.et, c.hro, c.lK, c.lV, c.rng, c.tm, c.m1, c.m2, c.v0, c.v1⟩
end
end Go.Proofs.YtalhhplphlobbaaGreat
namespace Go.Proofs.YtalhhplphlobbaaGreat
open Go.RowKit
/-- Role, term and vote of a node that campaigns. -/
def CampR (s s2 : RaftS) : Prop := if s.pv then s2.state = 3 ∧ s2.term = s.term ∧ s2.vote = s.vote else s2.state = 1 ∧ s2.term = s.term + 1 ∧ s2.vote = s.id
section
variable {nb rn rb rl ms cfp bt x0 rob zk : Nat} {x2 : Option Nat} {sn : SinS} {u1 u2 u3 u4 mp sl cn : Value} {opt : Int} {l : RLog} {hv sv ev : Value} {e : Ent} {r : List Ent} {V L D : List Int} {f : Int → Option PrS} {p : Int → Nat} {zd : Value} {s s' : RaftS} {M M' O Lx : List Nat} {w w' : World}
theorem hup_both (h : TickJ nb rn rb rl ms cfp bt x0 rob x2 sn u1 u2 u3 u4 mp sl cn opt l hv sv ev e r V L D f p zd s M O w) (c : CampC rb rl bt x0 rob l e r V L D zk zd s) :
    Calls Tryz.prog 221 #[.pointer (some ⟨rb, 0, none⟩), .string (if s.pv then tPre else tEl)] w fun y w' => y = .returned (.tuple #[]) ∧ ∃ s2 : RaftS, CampR s s2 ∧ s2.rl = rl ∧ RaftAt w' rb s2 ∧ RlAt w' rl ms l ∧ Chg (ms :: rb :: (V ++ L).map p) w w' := by
  unfold CampR
  cases s.pv with
  | true =>
    refine (hup_pre h c).mono ?_
    rintro y w' ⟨rfl, s2, a1, a2, a3, a4, a5, a6, a7⟩
    exact ⟨rfl, s2, by simpa using ⟨a1, a2, a3⟩, a4, a5, a6, a7⟩
  | false =>
    refine (hup_el h c).mono ?_
    rintro y w' ⟨rfl, s2, a1, a2, a3, a4, a5, a6, a7⟩
    exact ⟨rfl, s2, by simpa using ⟨a1, a2, a3⟩, a4, a5, a6, a7⟩
theorem camp_step {C : List Value} (h : TickJ nb rn rb rl ms cfp bt x0 rob x2 sn u1 u2 u3 u4 mp sl cn opt l hv sv ev e r V L D f p zd s M O w) (hc : C[0]? = some (.int .i64 1)) (hsr : sn.rn = .pointer (some ⟨rn, 0, none⟩)) (hsc : sn.cf = .pointer (some ⟨cfp, 0, none⟩)) (htk : s.tick = .func (.func 281) #[.pointer (some ⟨rb, 0, none⟩)] #[]) (c : CampC rb rl bt x0 rob l e r V L D zk zd s)
    (hee : -2 ^ 62 ≤ s.ee ∧ s.ee < 2 ^ 62) (hb : s.ret ≤ s.ee + 1) :
    Calls Tryz.prog 66 #[.pointer (some ⟨nb, 0, none⟩), .agg C.toArray] w fun y w1 => ∃ A : SaidS, A.ok ∧ y = .returned (.agg A.list.toArray) ∧ Chg O w w1 ∧
      Calls Tryz.prog 64 #[.pointer (some ⟨nb, 0, none⟩), .agg A.list.toArray] w1 fun y w2 => ∃ A' : SaidS, A'.ok ∧ y = .returned (.agg A'.list.toArray) ∧ Chg O w1 w2 ∧ (∃ s2 v1 v2 v3 v4, A' = said0.add s2 l v1 v2 v3 v4 false ∧ CampR s s2) ∧ (∀ x ∈ O, x < w2.heap.size) := by
  have mO : ∀ x ∈ ms :: rb :: (V ++ L).map p, x ∈ O := fun x hx => by
    rw [h.ho]
    simp only [List.mem_cons] at hx ⊢
    rcases hx with rfl | rfl | hx
    · simp
    · simp
    · exact .inr (.inr (.inr (.inr (.inr hx))))
  have hrn : w.cell? ⟨nb, 27, none⟩ = some (.pointer (some ⟨rn, 0, none⟩)) := (SinAt.cell h.sn 27 sn.rn rfl).trans (by rw [hsr])
  have hOl : ∀ x ∈ O, x < w.heap.size := fun x hx => h.lt x (h.om x hx)
  refine (do_tick (L := O) (R := fun w1 => ∃ s2, CampR s s2 ∧ s2.rl = rl ∧ RaftAt w1 rb s2 ∧ RlAt w1 rl ms l ∧ SinAt w1 nb sn ∧ Blk w1 rn 276 #[.pointer (some ⟨rb, 0, none⟩), u1, u2, u3, u4] ∧ ConfAt ((w.heap.size + 1) :: M) w1 (.pointer (some ⟨cfp, 0, none⟩)) V L [] [] false ∧ ∀ x ∈ (w.heap.size + 1) :: M, x < w1.heap.size) (by simpa using hc) hOl hrn (fun X hX hz => ?_)).mono ?_
  · have hXJ : TickJ nb rn rb rl ms cfp bt x0 rob x2 sn u1 u2 u3 u4 mp sl cn opt l hv sv ev e r V L D f p zd s ((w.heap.size + 1) :: M) O X := h.mono hX.out (by simp) (by simp) (fun x hx => List.mem_cons_of_mem _ hx) (fun x hx => by
      rcases List.mem_cons.1 hx with rfl | hx
      · exact .inr ⟨by omega, by omega⟩
      · exact .inl hx)
    refine (rawTick_any (R := fun w1 => ∃ s2, CampR s s2 ∧ s2.rl = rl ∧ RaftAt w1 rb s2 ∧ RlAt w1 rl ms l ∧ Chg (ms :: rb :: (V ++ L).map p) X w1) hXJ.rw_ rfl hXJ.ra htk (tick_yes (M := []) hXJ.ra (by simp) hee hb (fun Y hY hR => ?_) (fun Y mb m hY hR hm hty hte => ?_))).mono ?_
    · have hYJ := hXJ.raft hY hR
      have z := promotable_any hR c.hrl hYJ.la c.cal hYJ.ta c.hpr ⟨Int.le_of_lt c.idr.1, c.idr.2⟩
      rw [decide_eq_true c.idV] at z
      exact z
    · have hYJ := hXJ.raft hY hR
      have z := stepHup_any (s := { s with ee := 0 }) hm hty hte hR (hup_both hYJ (c.ee 0))
      refine z.mono ?_
      rintro y w' ⟨rfl, s2, a1, a2, a3, a4, a5⟩
      exact ⟨rfl, s2, a1, a2, a3, a4, (hY.mono (by simp)).trans a5⟩
    · rintro y w1 ⟨rfl, s2, a1, a2, a3, a4, a5⟩
      have hfar : ∀ {b t : Nat} {cs : Array Value}, Blk X b t cs → t ≠ 246 → t ≠ 296 → t ≠ 461 → b ∉ ms :: rb :: (V ++ L).map p := fun hb t1 t2 t3 hx => by
        simp only [List.mem_cons, List.mem_map] at hx
        rcases hx with e1 | e1 | ⟨k, hk, e1⟩
        · obtain ⟨_, _, _, _, _, _, hmb⟩ := id hXJ.st.at_
          exact Blk.ne hb hmb t1 e1
        · exact Blk.ne hb hXJ.ra t2 e1
        · obtain ⟨st, hst⟩ := Option.isSome_iff_exists.1 ((hXJ.ta.dom k).2 (List.mem_append.1 hk))
          exact Blk.ne hb (hXJ.ta.prg.blk k st hst) t3 e1.symm
      refine ⟨rfl, ⟨s2, a1, a2, a3, a4, hXJ.sn.chg a5 (hfar hXJ.sn (by decide) (by decide) (by decide)), hXJ.rw_.chg a5 (hfar hXJ.rw_ (by decide) (by decide) (by decide)), hXJ.cf.chg a5 (fun x hx => hXJ.om x (mO x hx)), fun x hx => Nat.lt_of_lt_of_le (hXJ.lt x hx) a5.size⟩, a5.mono mO⟩
  · rintro y w' ⟨rfl, w1, ⟨s2, a1, a2, a3, a4, a5, a6, a7, a8⟩, ⟨cs, hbz⟩, hcz, hcO⟩
    have far : ∀ {b t : Nat} {cs : Array Value}, Blk w1 b t cs → t ≠ 48 → b ∉ [w.heap.size + 1] := fun hb ht => by
      have := Blk.ne hb hbz ht
      simpa using this
    have hs2 : 0 ≤ s2.state ∧ s2.state < 1000 := by
      unfold CampR at a1
      split at a1 <;> omega
    refine ⟨said0, said0_ok, rfl, hcO, (said_any (a5.chg hcz (far a5 (by decide))) hsr hsc (a6.chg hcz (far a6 (by decide))) (a3.chg hcz (far a3 (by decide))) a2 (a4.chg hcz (far a4 (by decide))) (a7.chg hcz (by simp)) (fun x hx => Nat.lt_of_lt_of_le (a8 x hx) hcz.size) (by have := c.lV; omega) (by have := c.lK; simp at this; omega) (by simp) (by simp) hs2 said0_ok).mono ?_⟩
    rintro y w2 ⟨A1, n1, k1, A2, n2, k2, A3, n3, k3, A4, n4, k4, rfl, _, _, _, _, hn⟩
    exact ⟨_, SaidS.add_ok said0_ok s2 l A1 A2 A3 A4 n1 n2 n3 n4 k1 k2 k3 k4 false, rfl, hn.out.mono (by simp), ⟨s2, _, _, _, _, rfl, a1⟩, fun x hx => Nat.lt_of_lt_of_le (hOl x hx) (Nat.le_trans hcO.size hn.out.size)⟩
end
end Go.Proofs.YtalhhplphlobbaaGreat
namespace Go.Proofs.YtalhhplphlobbaaGreat
open Go.RowKit
theorem info48 : (Tryz.prog.info? 48).map (fun i => (i.zero, i.size, i.bytes)) = some (some (.agg said0.list.toArray), 33, 472) := by kernel_rfl
/-- The build of a single, of a Said, under names that the walk does not unfold. -/
def bld140 (parts : Array (Nat × Value)) : Sem Value := Instr.build 140 parts
theorem bld140_eq (parts : Array (Nat × Value)) : Instr.build 140 parts = bld140 parts := rfl
def bld48 (parts : Array (Nat × Value)) : Sem Value := Instr.build 48 parts
theorem bld48_eq (parts : Array (Nat × Value)) : Instr.build 48 parts = bld48 parts := rfl
/-- A node that has not begun. -/
def single0 (s : SetS) : SinS := ⟨s, false, .pointer none, .pointer none, 0, .pointer none⟩
theorem singleBuild (w : World) (id et ht msz mco mun inf bi bt hT hV hC apd : Int) (pv cq le nf sd bal : Bool) (bd : ByteArray) (A0 A1 A2 A3 A4 A5 : Option Addr) (n0 k0 n1 k1 n2 k2 n3 k3 n4 k4 n5 k5 : Nat) :
    (bld140 #[(0, .agg (SetS.list ⟨id, et, ht, .slice A0 n0 k0, pv, cq, le, nf, sd, msz, mco, mun, inf, bd, bi, bt, .slice A1 n1 k1, .slice A2 n2 k2, .slice A3 n3 k3, .slice A4 n4 k4, bal, .slice A5 n5 k5, hT, hV, hC, apd⟩).toArray)]).run Tryz.prog w = .ok (.agg (single0 ⟨id, et, ht, .slice A0 n0 k0, pv, cq, le, nf, sd, msz, mco, mun, inf, bd, bi, bt, .slice A1 n1 k1, .slice A2 n2 k2, .slice A3 n3 k3, .slice A4 n4 k4, bal, .slice A5 n5 k5, hT, hV, hC, apd⟩).cells) w := by
  kernel_rfl
theorem saidBuild (w : World) : (bld48 #[]).run Tryz.prog w = .ok (.agg said0.list.toArray) w := by kernel_rfl
/-- What a setup must be, that a node begins by it. -/
structure Inp (W : World) (s : SetS) (V L : List Int) (l : List Ent) (D : List Int) : Prop where
  id0 : 0 < s.id
  id1 : s.id < 4611686018427387904
  ht0 : 0 < s.ht
  het : s.ht < s.et
  et1 : s.et < 1000000000
  mco0 : 1000000 ≤ s.mco
  mco1 : s.mco < 2 ^ 64
  inf0 : 0 < s.inf
  msz1 : s.msz ≤ 18446744073709551615
  lec : s.le = true → s.cq = true
  b1 : Sl [] W s.b1 (U64s V)
  b2 : Sl [] W s.b2 (U64s L)
  b3 : Sl [] W s.b3 (U64s [])
  b4 : Sl [] W s.b4 (U64s [])
  bal : s.bal = false
  bd1 : s.bd.data.size ≤ 1000000000
  lg : LogAt W s.lg l
  ll : l.length ≤ 30
  row : ∀ (j : Nat) x, l[j]? = some x → x.i = s.bi + j + 1
  fit : ∀ x ∈ l, x.fits
  small : ∀ x ∈ l, x.d.size ≤ 1000
  bi0 : 0 < s.bi
  bi1 : s.bi < 4000000000000000000
  hT0 : 0 < s.hT
  hc0 : s.bi ≤ s.hC
  hc1 : s.hC ≤ s.bi + l.length
  apd : s.apd = 0 ∨ s.bi ≤ s.apd ∧ s.apd ≤ s.hC
  nd : (V ++ L).Nodup
  V0 : V ≠ []
  rng : ∀ k ∈ V ++ L, 0 < k ∧ k < 2 ^ 64
  lV : V.length ≤ 9
  lL : L.length ≤ 4
  rd : Sl [] W s.rd (I64s D)
  Dl : D.length ≤ 1000
  Dn : ∀ x ∈ D, 0 ≤ x ∧ x < s.et
theorem LogAt.nxt' {w w' : World} {v : Value} {l : List Ent} (h : LogAt w v l) (hn : Nxt w w') : LogAt w' v l := by
  obtain ⟨A, n, c, rfl, hl, hc, h0, ha⟩ := h
  refine ⟨A, n, c, rfl, hl, hc, h0, fun b o s e => ?_⟩
  obtain ⟨h1, h2, h3⟩ := ha b o s e
  exact ⟨h1, Nat.lt_of_lt_of_le h2 hn.out.size, fun j x hx => by
    obtain ⟨k1, k2, k3, k4⟩ := h3 j x hx
    exact ⟨hn.out.at0 k1, hn.out.at0 k2, hn.out.at0 k3, hn.out.at0 k4⟩⟩
theorem Sl.toNew {W X : World} {v : Value} {xs : List Value} {nb : Nat} (h : Sl [] W v xs) (hn : Nxt W X) (hb : W.heap.size ≤ nb) : Sl [nb] X v xs :=
  (h.more (M' := [nb]) (fun x hx => .inr (by simp at hx; omega))).chg0 hn.out
theorem begin_of {W X : World} {s : SetS} {V L : List Int} {l : List Ent} {D : List Int} {nb : Nat} (h : Inp W s V L l D) (hn : Nxt W X) (hb : W.heap.size ≤ nb) (hs : SinAt X nb (single0 s)) : Calls Tryz.prog 63 #[.pointer (some ⟨nb, 0, none⟩)] X (BegPost X nb s V L l D) := by
  obtain ⟨id, et, ht, rd, pv, cq, le, nf, sd, msz, mco, mun, inf, bd, bi, bt, b1, b2, b3, b4, bal, lg, hT, hV, hC, apd⟩ := s
  obtain ⟨z1, z2, z3, z4, z5, z6, z7, z8, z9, z10, z11, z12, z13, z14, z15, z16, z17, z18, z19, z20, z21, z22, z23, z24, z25, z26, z27, z28, z29, z30, z31, z32, z33, z34, z35⟩ := h
  simp only at z1 z2 z3 z4 z5 z6 z7 z8 z9 z10 z11 z12 z13 z14 z15 z16 z17 z19 z22 z23 z24 z25 z26 z27 z33 z34 z35
  subst z15
  obtain ⟨A1, m1, k1, rfl⟩ := z11.form
  obtain ⟨A2, m2, k2, rfl⟩ := z12.form
  obtain ⟨A3, m3, k3, rfl⟩ := z13.form
  obtain ⟨A4, m4, k4, rfl⟩ := z14.form
  have hlg := z17.nxt' hn
  obtain ⟨A5, m5, k5, rfl, _, _, _, hA5⟩ := z17
  refine begin_any (ap0 := 0) (rnv := .nilIface) (cfv := .nilIface) (ref := false) (V := V) (L := L) (l := l) (D := D) hs z1 z2 z3 z4 z5 (by omega) z8 z9 z10 (z11.toNew hn hb) (z12.toNew hn hb) (z13.toNew hn hb) (z14.toNew hn hb) z16 hlg ?_ (by omega) ?_ z22 (by omega) z24 z25 z26 z27 z28 z29 z30 (by omega) (by omega) (by simp; omega) (z33.toNew hn hb) z34 z35
  · rintro ⟨b, o, sp⟩ rfl
    obtain ⟨_, hlt, _⟩ := hA5 b o sp rfl
    show b ≠ nb
    omega
  · rcases l with _ | ⟨x, l⟩
    · trivial
    · have := z19 0 x rfl
      show x.i = bi + 1
      omega
end Go.Proofs.YtalhhplphlobbaaGreat
namespace Go.Proofs.YtalhhplphlobbaaGreat
open Go.RowKit
/-- What was applied when a node begins. -/
def apd0 (s : SetS) : Int := if s.apd = 0 then s.bi else s.apd
/-- The raft and the log of a node that has begun. -/
def raftB (s : SetS) (ms rb rl x0 : Nat) (x2 : Option Nat) (bt bv ro : Nat) (L D : List Int) : RaftS := newS (s.cfg ms s.apd).valid rb rl x0 x2 bt bv ro L s.hT s.hV D
def rlogB (s : SetS) (l : List Ent) : RLog := ⟨.pointer none, .slice none 0 0, s.bi + l.length + 1, false, s.bi + l.length + 1, s.hC, apd0 s, apd0 s, s.mco, 0, false⟩
theorem apd0_in {W : World} {s : SetS} {V L : List Int} {l : List Ent} {D : List Int} (h : Inp W s V L l D) : s.bi ≤ apd0 s ∧ apd0 s ≤ s.hC := by
  have h1 := h.apd
  have h2 := h.bi0
  have h3 := h.hc0
  unfold apd0
  split <;> omega
theorem apd0_max {W : World} {s : SetS} {V L : List Int} {l : List Ent} {D : List Int} (h : Inp W s V L l D) : max s.apd s.bi = apd0 s := by
  have h1 := h.apd
  have h2 := h.bi0
  unfold apd0
  split <;> omega
section
variable {W w w' X : World} {nb : Nat} {s : SetS} {V L : List Int} {l : List Ent} {D : List Int} {ms cfp cb rn ss hs rb rl bt x0 : Nat} {x2 : Option Nat} {bv ro mo : Nat} {bi : Int → Nat} {f : Int → Option PrS} {p : Int → Nat} {hv sv ev : Value}
theorem calm_of (h : Inp W s V L l D) (hB : BegTo w nb s V L l D w' ms cfp cb rn ss hs rb rl bt x0 x2 bv ro mo bi f p hv sv ev) : Calm [nb, rn, rb, rl, ms] w' rn rb rl ms ss hs (raftB s ms rb rl x0 x2 bt bv ro L D) (rlogB s l) hv sv ev ⟨s.bt, s.bi, ByteArray.empty⟩ l := by
  have ha := apd0_in h
  exact { rw_ := hB.rw_, ra := hB.run.ra, hrl := rfl, la := hB.run.la, sa := hB.sa, ha := hB.ha, st := hB.st, lt := by
            intro x hx
            have h1 := Blk.lt hB.sn
            have h2 := hB.rw_.lt
            have h3 := Blk.lt hB.run.ra
            have h4 := Blk.lt hB.run.la
            have h5 := hB.st.lt
            simp only [List.mem_cons, List.not_mem_nil, or_false] at hx
            omega
          calm := ⟨rfl, rfl⟩, oip := rfl, off := rfl, ps := rfl, m1 := rfl, m2 := rfl, m3 := rfl, tm := h.hT0, ce := ⟨ha.1, ha.2, h.hc1⟩ }
/-- What is left of a ready. -/
structure RdDone (X : World) (nb : Nat) (s : SetS) (l : List Ent) (ms cfp rn rb rl ss hs : Nat) (r : RaftS) (hv sv ev : Value) (A : SaidS) (w : World) : Prop where
  ex : ∃ h c n1 k1 g n2 k2 v4, A = { said0 with has := h, com := .slice c n1 k1, log := .slice g n2 k2 } ∧ w.ownsRow X.heap.size 65 4 (.slice c n1 k1) ((s.hC - s.bi).toNat - (apd0 s - s.bi).toNat) (ECells ((l.take (s.hC - s.bi).toNat).drop (apd0 s - s.bi).toNat)) ∧ (h = true → w.ownsRow X.heap.size 65 4 (.slice g n2 k2) l.length (ECells l)) ∧
    Blk w rn 276 #[.pointer (some ⟨rb, 0, none⟩), .bool false, .pointer (some ⟨ss, 0, none⟩), .pointer (some ⟨hs, 0, none⟩), v4]
  sn : SinAt w nb ⟨s, false, .pointer (some ⟨rn, 0, none⟩), .pointer (some ⟨ms, 0, none⟩), s.hC, .pointer (some ⟨cfp, 0, none⟩)⟩
  ra : RaftAt w rb r
  la : RlAt w rl ms { rlogB s l with apd := s.hC, apg := s.hC, asz := 0, ps := false }
  ma : MsAt w ms hv sv ev
  cg : Chg [nb, rn, rb, rl, ms] X w
theorem readyB_any (h : Inp W s V L l D) (hB : BegTo w nb s V L l D w' ms cfp cb rn ss hs rb rl bt x0 x2 bv ro mo bi f p hv sv ev) (hc : Chg [] w' X) :
    Calls Tryz.prog 114 #[.pointer (some ⟨nb, 0, none⟩)] X fun y w9 => ∃ A : SaidS, A.ok ∧ y = .returned (.agg A.list.toArray) ∧ RdDone X nb s l ms cfp rn rb rl ss hs (raftB s ms rb rl x0 x2 bt bv ro L D) hv sv ev A w9 ∧ Chg [nb, rn, rb, rl, ms] X w9 := by
  have ha := apd0_in h
  have hm := apd0_max h
  have hC := (calm_of h hB).chg (hc.mono (by simp)) (hB.st.at_.chg hc (by simp))
  have hS := SinAt.nxt hB.sn ⟨hc⟩
  rw [hm] at hS
  have i1 := h.bi1
  have i0 := h.bi0
  have i2 := h.ll
  have i3 := h.hc1
  have i4 := h.mco0
  have i5 := h.mco1
  by_cases hlt : apd0 s < s.hC
  · obtain ⟨a, ha'⟩ := Int.eq_ofNat_of_zero_le (show 0 ≤ apd0 s - s.bi by omega)
    obtain ⟨c, hc'⟩ := Int.eq_ofNat_of_zero_le (show 0 ≤ s.hC - s.bi by omega)
    refine (ready1_any hS rfl rfl hC a c (show apd0 s = s.bi + a by omega) (show s.hC = s.bi + c by omega) rfl (Int.le_of_lt hlt) (by omega) (by omega) (by omega) h.fit h.small rfl (show 2000 * (l.length : Int) < s.mco by omega) i5 h.row rfl rfl (by simp) (by simp) (by simp) (by simp)).mono ?_
    rintro y w9 ⟨A1, n1, c1, A2, n2, c2, sb, k, rfl, ho1, ho2, hs9, hr9, hra, hla, hma, hcg⟩
    refine ⟨saidR (.slice A1 n1 c1) (.slice A2 n2 c2), saidR_ok _ _ _ _ _ _, rfl, ⟨⟨true, A1, n1, c1, A2, n2, c2, _, rfl, ?_, fun _ => ho2, hr9⟩, hs9, hra, hla, hma, hcg⟩, hcg⟩
    rw [ha', hc']
    simpa using ho1
  · have he : apd0 s = s.hC := by omega
    refine (ready0_any hS rfl hC (show ¬ apd0 s < s.hC from hlt) (show apd0 s + 1 < 18446744073709551615 by omega) (show s.hC + 1 < 18446744073709551615 by omega)).mono ?_
    rintro y w9 ⟨rfl, hn⟩
    have hcg : Chg [nb, rn, rb, rl, ms] X w9 := hn.out.mono (by simp)
    refine ⟨said0, said0_ok, rfl, ⟨⟨false, none, 0, 0, none, 0, 0, _, rfl, ?_, by simp, hC.rw_.nxt hn⟩, ?_, hC.ra.nxt hn, ?_, hC.st.at_.chg hn.out (by simp), hcg⟩, hcg⟩
    · rw [he]
      have : (l.take (s.hC - s.bi).toNat).drop (s.hC - s.bi).toNat = [] := List.drop_eq_nil_of_le (by rw [List.length_take]; omega)
      rw [this, Nat.sub_self]
      exact own_nil _ _ _ _
    · have := hS.nxt hn
      rw [he] at this
      exact this
    · have := RlAt.nxt hC.la hn
      unfold rlogB at this ⊢
      rw [he] at this
      exact this
/-- said of a node whose log is known. -/
theorem saidB_any {u1 u2 u3 u4 : Value} {ap : Int} {lg : RLog} {r : RaftS} (hi : Inp W s V L l D) (hS : SinAt w nb ⟨s, false, .pointer (some ⟨rn, 0, none⟩), .pointer (some ⟨ms, 0, none⟩), ap, .pointer (some ⟨cfp, 0, none⟩)⟩) (hrn : Blk w rn 276 #[.pointer (some ⟨rb, 0, none⟩), u1, u2, u3, u4])
    (h : RaftAt w rb r) (hrl : r.rl = rl) (hst : r.state = 0) (hl : RlAt w rl ms lg) (hcf : ConfAt [nb, rn, rb, rl, ms] w (.pointer (some ⟨cfp, 0, none⟩)) V L [] [] false) (hM : ∀ x ∈ [nb, rn, rb, rl, ms], x < w.heap.size) {a : SaidS} (ha : a.ok) :
    Calls Tryz.prog 64 #[.pointer (some ⟨nb, 0, none⟩), .agg a.list.toArray] w fun y w' => ∃ v1 v2 v3 v4, (a.add r lg v1 v2 v3 v4 false).ok ∧ y = .returned (.agg (a.add r lg v1 v2 v3 v4 false).list.toArray) ∧ Nxt w w' := by
  refine (said_any hS rfl rfl hrn h hrl hl hcf hM (by have := hi.lV; omega) (by have := hi.lL; omega) (by simp) (by simp) (by omega) ha).mono ?_
  rintro y w' ⟨A1, n1, k1, A2, n2, k2, A3, n3, k3, A4, n4, k4, rfl, _, _, _, _, hn⟩
  exact ⟨_, _, _, _, SaidS.add_ok ha r lg A1 A2 A3 A4 n1 n2 n3 n4 k1 k2 k3 k4 false, rfl, hn⟩
end
end Go.Proofs.YtalhhplphlobbaaGreat
namespace Go.Proofs.YtalhhplphlobbaaGreat
open Go.RowKit
/-- The node behind ready. -/
def sinT (s : SetS) (rn ms cfp : Nat) : SinS := ⟨s, false, .pointer (some ⟨rn, 0, none⟩), .pointer (some ⟨ms, 0, none⟩), s.hC, .pointer (some ⟨cfp, 0, none⟩)⟩
def rlogT (s : SetS) (l : List Ent) : RLog := { rlogB s l with apd := s.hC, apg := s.hC, asz := 0, ps := false }
/-- The blocks that a call of the node may turn. -/
def ownO (nb rn rb rl ms : Nat) (V L : List Int) (p : Int → Nat) : List Nat := nb :: rn :: rb :: rl :: ms :: (V ++ L).map p
def TickT (nb : Nat) (s : SetS) (V L : List Int) (l : List Ent) (D : List Int) (ms cfp rn ss hs rb rl bt x0 : Nat) (x2 : Option Nat) (bv ro mo : Nat) (f : Int → Option PrS) (p : Int → Nat) (hv sv ev : Value) (k : Int) (M : List Nat) (w : World) : Prop :=
  ∃ v4, TickJ nb rn rb rl ms cfp bt x0 ro x2 (sinT s rn ms cfp) (.bool false) (.pointer (some ⟨ss, 0, none⟩)) (.pointer (some ⟨hs, 0, none⟩)) v4 (.map (some mo)) (.slice none 0 0) (.int .u64 0) (s.cfg ms s.apd).valid.opt (rlogT s l) hv sv ev ⟨s.bt, s.bi, ByteArray.empty⟩ l V L D f p s.rd { raftB s ms rb rl x0 x2 bt bv ro L D with ee := k } M (ownO nb rn rb rl ms V L p) w
section
variable {W Xb wB w w' : World} {nb : Nat} {s : SetS} {V L : List Int} {l : List Ent} {D : List Int} {ms cfp cb rn ss hs rb rl bt x0 : Nat} {x2 : Option Nat} {bv ro mo : Nat} {bi : Int → Nat} {f : Int → Option PrS} {p : Int → Nat} {hv sv ev : Value} {M : List Nat}
theorem TickT.mono {k : Int} {M' Lx : List Nat} (h : TickT nb s V L l D ms cfp rn ss hs rb rl bt x0 x2 bv ro mo f p hv sv ev k M w) (hc : Chg Lx w w') (h1 : ∀ x ∈ Lx, x ∈ M) (h2 : ∀ x ∈ Lx, ∃ cs, Blk w x 48 cs) (h3 : ∀ x ∈ M, x ∈ M') (h4 : ∀ x ∈ M', x ∈ M ∨ w.heap.size ≤ x ∧ x < w'.heap.size) : TickT nb s V L l D ms cfp rn ss hs rb rl bt x0 x2 bv ro mo f p hv sv ev k M' w' := by
  obtain ⟨v4, h⟩ := h
  exact ⟨v4, h.mono hc h1 h2 h3 h4⟩
theorem BegTo.keys (hB : BegTo Xb nb s V L l D wB ms cfp cb rn ss hs rb rl bt x0 x2 bv ro mo bi f p hv sv ev) : ∃ B, Xb.heap.size ≤ B ∧ B ≤ wB.heap.size ∧ (∀ x ∈ ownO nb rn rb rl ms V L p, x ∈ [nb, ms] ∨ B ≤ x) ∧ (∀ x ∈ ownO nb rn rb rl ms V L p, x < wB.heap.size) ∧ ∀ M' : List Nat, (∀ x ∈ M', x ∈ [nb, ms] ∨ B ≤ x) → nb ∈ M' → ms ∈ M' → StAt M' wB ms hv sv ev ⟨s.bt, s.bi, ByteArray.empty⟩ l ∧ ConfAt M' wB (.pointer (some ⟨cfp, 0, none⟩)) V L [] [] false ∧ Sl M' wB s.rd (I64s D) := by
  obtain ⟨B, n, hg⟩ := hB.big
  have h2 := hB.rw_.lt
  have hk : ∀ k ∈ V ++ L, B ≤ p k ∧ p k < wB.heap.size := fun k hk => by
    have hf := hB.run.fa k hk
    exact ⟨(hg.fr k _ hf).1, (hB.run.ta.prg.blk k _ hf).lt⟩
  refine ⟨B, hg.b0, ?_, ?_, ?_, fun M' h1 h2 h3 => ?_⟩
  · have := hg.b2
    omega
  · intro x hx
    have := hg.b2
    have := hg.b3
    have := hg.b4
    simp only [ownO, List.mem_cons, List.mem_map] at hx
    rcases hx with rfl | rfl | rfl | rfl | rfl | ⟨k, hk', rfl⟩
    · simp
    · exact .inr (by omega)
    · exact .inr (by omega)
    · exact .inr (by omega)
    · simp
    · exact .inr (hk k hk').1
  · intro x hx
    have h1 := Blk.lt hB.sn
    have h3 := Blk.lt hB.run.ra
    have h4 := Blk.lt hB.run.la
    have h5 := hB.st.lt
    simp only [ownO, List.mem_cons, List.mem_map] at hx
    rcases hx with rfl | rfl | rfl | rfl | rfl | ⟨k, hk', rfl⟩
    · exact h1
    · exact h2
    · exact h3
    · exact h4
    · exact h5
    · exact (hk k hk').2
  · obtain ⟨a1, _, _, a4, a5⟩ := hg.big M' h1 h2 h3
    exact ⟨a1, a4, a5⟩
theorem ready_step {C : List Value} (hi : Inp W s V L l D) (hB : BegTo Xb nb s V L l D wB ms cfp cb rn ss hs rb rl bt x0 x2 bv ro mo bi f p hv sv ev) (hc : Chg [] wB w) (hOM : ∀ x ∈ ownO nb rn rb rl ms V L p, x ∈ M) (hM : ∀ x ∈ M, x ∈ ownO nb rn rb rl ms V L p ∨ wB.heap.size ≤ x) (hlt : ∀ x ∈ M, x < w.heap.size) (hC : C[0]? = some (.int .i64 5)) :
    Calls Tryz.prog 66 #[.pointer (some ⟨nb, 0, none⟩), .agg C.toArray] w fun y w1 => ∃ A : SaidS, A.ok ∧ y = .returned (.agg A.list.toArray) ∧ Chg (ownO nb rn rb rl ms V L p) w w1 ∧
      Calls Tryz.prog 64 #[.pointer (some ⟨nb, 0, none⟩), .agg A.list.toArray] w1 fun y w2 => ∃ A' : SaidS, A'.ok ∧ y = .returned (.agg A'.list.toArray) ∧ Chg (ownO nb rn rb rl ms V L p) w1 w2 ∧ (∃ a v1 v2 v3 v4, SaidS.pan a = false ∧ A' = a.add (raftB s ms rb rl x0 x2 bt bv ro L D) (rlogT s l) v1 v2 v3 v4 false) ∧ ∃ M', TickT nb s V L l D ms cfp rn ss hs rb rl bt x0 x2 bv ro mo f p hv sv ev 0 M' w2 ∧ ∀ x ∈ M, x ∈ M' := by
  obtain ⟨B, b0, b1, bO, bl, big⟩ := hB.keys
  have hsub : ∀ x ∈ [nb, rn, rb, rl, ms], x ∈ ownO nb rn rb rl ms V L p := fun x hx => by
    simp only [ownO, List.mem_cons, List.not_mem_nil, or_false] at hx ⊢
    rcases hx with h | h | h | h | h
    · exact .inl h
    · exact .inr (.inl h)
    · exact .inr (.inr (.inl h))
    · exact .inr (.inr (.inr (.inl h)))
    · exact .inr (.inr (.inr (.inr (.inl h))))
  have hz := hc.size
  refine (do_ready2 (L := [nb, rn, rb, rl, ms]) (R := fun A w1 => ∃ X, Nxt w X ∧ RdDone X nb s l ms cfp rn rb rl ss hs (raftB s ms rb rl x0 x2 bt bv ro L D) hv sv ev A w1 ∧ w.heap.size + 1 < X.heap.size) (by simpa using hC) (fun x hx => hlt x (hOM x (hsub x hx))) (fun X hX hzX => ?_)).mono ?_
  · refine (readyB_any hi hB (hc.trans hX.out)).mono ?_
    rintro y w9 ⟨A, hok, rfl, hr, hcg⟩
    exact ⟨A, hok, rfl, ⟨X, hX, hr, hzX⟩, hcg⟩
  · rintro y w1 ⟨A, hok, rfl, w0, ⟨X, hX, hr, hzX⟩, ⟨cs, hbz⟩, hcz, hcL⟩
    obtain ⟨h, c, n1, k1, g, n2, k2, v4, hA, _, _, hrn⟩ := hr.ex
    have hM' : ∀ x ∈ (w.heap.size + 1) :: M, x ∈ [nb, ms] ∨ B ≤ x := fun x hx => by
      rcases List.mem_cons.1 hx with rfl | hx
      · exact .inr (by omega)
      · rcases hM x hx with h | h
        · exact bO x h
        · exact .inr (by omega)
    have mnb : nb ∈ (w.heap.size + 1) :: M := List.mem_cons_of_mem _ (hOM _ (hsub _ (by simp)))
    have mms : ms ∈ (w.heap.size + 1) :: M := List.mem_cons_of_mem _ (hOM _ (hsub _ (by simp)))
    obtain ⟨st0, cf0, zd0⟩ := big _ hM' mnb mms
    have hcB : Chg [nb, rn, rb, rl, ms] wB w0 := ((hc.trans hX.out).mono (by simp)).trans hr.cg
    have hsM : ∀ x ∈ [nb, rn, rb, rl, ms], x ∈ (w.heap.size + 1) :: M := fun x hx => List.mem_cons_of_mem _ (hOM _ (hsub x hx))
    obtain ⟨_, _, _, _, _, _, hmb⟩ := id hB.st.at_
    have hblk : ∀ x ∈ [nb, rn, rb, rl, ms], ∃ t cs, Blk wB x t cs ∧ t ≠ 461 ∧ t ≠ 449 := fun x hx => by
      simp only [List.mem_cons, List.not_mem_nil, or_false] at hx
      rcases hx with rfl | rfl | rfl | rfl | rfl
      · exact ⟨_, _, hB.sn, by decide, by decide⟩
      · exact ⟨_, _, hB.rw_, by decide, by decide⟩
      · exact ⟨_, _, hB.run.ra, by decide, by decide⟩
      · exact ⟨_, _, hB.run.la, by decide, by decide⟩
      · exact ⟨_, _, hmb, by decide, by decide⟩
    have hro : ro ∉ [nb, rn, rb, rl, ms] := fun hx => by
      obtain ⟨t, cs, hb, _, ht⟩ := hblk _ hx
      exact Blk.ne hB.run.oa hb (Ne.symm ht) rfl
    have hz0 := hr.cg.size
    have hJ : TickT nb s V L l D ms cfp rn ss hs rb rl bt x0 x2 bv ro mo f p hv sv ev 0 ((w.heap.size + 1) :: M) w0 :=
      ⟨v4, hr.sn, hrn, hr.ra, hr.la, st0.grow (fun x hx => .inl hx) mms hr.ma hcB hsM, hB.run.ta.chgBs hcB (fun x hx => by obtain ⟨t, cs, hb, h1, _⟩ := hblk x hx; exact ⟨t, cs, hb, h1⟩), hB.run.oa.chg hcB hro, cf0.chg hcB hsM, zd0.chg hcB hsM,
        fun x hx => by
          rcases List.mem_cons.1 hx with rfl | hx
          · omega
          · have := hlt x hx
            have := hX.out.size
            omega,
        fun x hx => List.mem_cons_of_mem _ (hOM x hx), rfl⟩
    have hJ1 := hJ.mono (M' := (w.heap.size + 1) :: M) hcz (fun x hx => by simp at hx; subst hx; simp) (fun x hx => by simp at hx; subst hx; exact ⟨_, hbz⟩) (fun _ h => h) (fun _ h => .inl h)
    refine ⟨A, hok, rfl, hcL.mono hsub, ?_⟩
    obtain ⟨v4', hJ2⟩ := hJ1
    refine (said_of hJ2 rfl rfl rfl (by have := hi.lV; omega) (by have := hi.lL; omega) ⟨Int.le_refl 0, by show (0 : Int) < 1000; omega⟩ hok).mono ?_
    rintro y w2 ⟨a1, a2, a3, a4, hok2, rfl, hn⟩
    exact ⟨_, hok2, rfl, hn.out.mono (by simp), ⟨A, a1, a2, a3, a4, by rw [hA]; rfl, rfl⟩, _, ⟨v4', hJ2.mono hn.out (by simp) (by simp) (fun _ h => h) (fun _ h => .inl h)⟩, fun x hx => List.mem_cons_of_mem _ hx⟩
end
end Go.Proofs.YtalhhplphlobbaaGreat
