/- The basic status of a raft. Conditions: sizes. A node's configuration: validate. Conditions: sizes. A copied slice of numbers is the call's own; GetAutoLeave. Conditions: sizes. The clone of a conf state: its slices are the call's own. Conditions: sizes. Equivalent$1: the sort behind a pointer. Conditions: sizes. zzSame over two slices that read the same. Conditions: sizes. -/
import Derived.BigRegion
import Derived.Test.YtalhhplphlobbaaGreatP01
import Derived.Test.YtalhhplphlobbaaGreatP02
import Derived.Test.YtalhhplphlobbaaGreatP03
import Derived.Test.YtalhhplphlobbaaGreatP15
import Derived.Test.YtalhhplphlobbaaGreatP16
import Derived.Test.YtalhhplphlobbaaGreatP19
set_option linter.unusedVariables false
set_option linter.unusedSimpArgs false
namespace Go.Proofs.YtalhhplphlobbaaGreat
open Go.RowKit
theorem blk6 {w : World} {g : Nat} {t : TypeId} {a0 a1 a2 a3 a4 a5 : Value} (h : Blk w g t #[a0, a1, a2, a3, a4, a5]) (u0 u1 u2 u3 u4 u5 : Value) :
    Blk ((((((w.setCell ⟨g, 0, none⟩ u0).setCell ⟨g, 1, none⟩ u1).setCell ⟨g, 2, none⟩ u2).setCell ⟨g, 3, none⟩ u3).setCell ⟨g, 4, none⟩ u4).setCell ⟨g, 5, none⟩ u5) g t #[u0, u1, u2, u3, u4, u5] ∧
    Chg [g] w ((((((w.setCell ⟨g, 0, none⟩ u0).setCell ⟨g, 1, none⟩ u1).setCell ⟨g, 2, none⟩ u2).setCell ⟨g, 3, none⟩ u3).setCell ⟨g, 4, none⟩ u4).setCell ⟨g, 5, none⟩ u5) := by
  refine ⟨?_, (by (focus (first | with_reducible assumption | ((repeat (first | with_reducible exact Chg.refl _ _ | with_reducible assumption | with_reducible refine Chg.drew ?_ | with_reducible refine Chg.alloc ?_ _ | with_reducible refine Chg.setCell ?_ (by simp) _ | with_reducible refine Chg.nxt ?_ (by assumption))); done))))⟩
  have := (((((h.set_ 0 u0).set_ 1 u1).set_ 2 u2).set_ 3 u3).set_ 4 u4).set_ 5 u5
  simpa using this
section
variable {M : List Nat} {w : World} {rb rl ms : Nat} {s : RaftS} {l : RLog}
set_option maxRecDepth 100000 in
set_option maxHeartbeats 4000000 in
theorem getBasic_any (h : RaftAt w rb s) (hrl : s.rl = rl) (hl : RlAt w rl ms l) (hM : ∀ x ∈ M, x < w.heap.size) :
    Calls Tryz.prog 158 #[.pointer (some ⟨rb, 0, none⟩)] w fun y w' => ∃ b, y = .returned (.agg #[.int .u64 s.id, .pointer (some ⟨b, 0, none⟩), .int .u64 s.lead, .int .u64 s.state, .int .u64 l.apd, .int .u64 s.ltr]) ∧ HardAt M w' (.pointer (some ⟨b, 0, none⟩)) s.term s.vote l.com ∧ Nxt w w' := by
  have hn0 : Nxt w (w.alloc (.cells #[.int .u64 0, .pointer none, .int .u64 0, .int .u64 0, .int .u64 0, .int .u64 0] 191)) := ⟨(Chg.refl [] w).alloc _⟩
  have hbk := Blk.new w 191 #[.int .u64 0, .pointer none, .int .u64 0, .int .u64 0, .int .u64 0, .int .u64 0]
  go_enter Tryz.func158, Tryz.ntmps158
  go_wp2_with fail
  obtain ⟨t2, ht2⟩ : ∃ t2, t2 = w.heap.size := ⟨_, rfl⟩
  have hz2 : w.heap.size ≤ t2 := by omega
  generalize w.alloc (.cells #[.int .u64 0, .pointer none, .int .u64 0, .int .u64 0, .int .u64 0, .int .u64 0] 191) = W0 at hn0 hbk ⊢
  rw [← ht2] at hbk ⊢
  clear ht2
  have hR := h.nxt hn0
  have c0 : W0.cell? ⟨rb, 0, none⟩ = some (.int .u64 s.id) := RaftAt.cell hR 0 _ rfl
  have c21 : W0.cell? ⟨rb, 21, none⟩ = some (.int .u64 s.ltr) := RaftAt.cell hR 21 _ rfl
  have crb := Blk.lt hR
  have HR := Lib.hid hR
  have HL := Lib.hid (hl.nxt hn0)
  have HRL := Lib.hid hrl
  have HB := Lib.hid hbk
  have HN0 := Lib.hid hn0
  have lt2 := hbk.lt
  clear h hl hrl hbk hn0 hR
  go_region_held3 (fun wx => wx.cell? ⟨rb, 0, none⟩ = some (.int .u64 s.id) ∧ wx.cell? ⟨rb, 21, none⟩ = some (.int .u64 s.ltr))
    (first | ((repeat' apply And.intro) <;> (first | with_reducible assumption | (simp; done) | ((repeat (refine cell_alloc ?_ _)); (first | with_reducible assumption | (refine Chg.at0 (Nxt.out (by assumption)) ?_; first | with_reducible assumption | (simp; done) | (simp [*]; done)) | (refine Chg.at0 (by assumption) ?_; first | with_reducible assumption | (simp; done) | (simp [*]; done)) | (simp [*]; done))) | ((repeat (first | with_reducible exact Chg.refl _ _ | with_reducible assumption | refine Chg.drew ?_ | refine Chg.alloc ?_ _)); done)))) (fail)
  have hb3 : Blk (W0.alloc (.cells #[.int .u64 s.id, .pointer none, .int .u64 0, .int .u64 0, .int .u64 0, .int .u64 s.ltr] 191)).drew W0.heap.size 191 #[.int .u64 s.id, .pointer none, .int .u64 0, .int .u64 0, .int .u64 0, .int .u64 s.ltr] := Blk.drew (Blk.new W0 191 _)
  have hn1 : Nxt W0 (W0.alloc (.cells #[.int .u64 s.id, .pointer none, .int .u64 0, .int .u64 0, .int .u64 0, .int .u64 s.ltr] 191)).drew := ⟨((Chg.refl _ _).alloc _).drew⟩
  obtain ⟨t3, ht3⟩ : ∃ t3, t3 = W0.heap.size := ⟨_, rfl⟩
  generalize (W0.alloc (.cells #[.int .u64 s.id, .pointer none, .int .u64 0, .int .u64 0, .int .u64 0, .int .u64 s.ltr] 191)).drew = W1 at hb3 hn1 ⊢
  rw [← ht3] at hb3 ⊢
  have hz3 : W0.heap.size ≤ t3 := by omega
  clear ht3 c0 c21
  have l3 := hb3.lt
  have z01 := hn1.out.size
  have hHS := hardState_any (M := t2 :: t3 :: M) (HR.out.nxt hn1) HRL.out (HL.out.nxt hn1) (by intro x hx; simp only [List.mem_cons] at hx; rcases hx with rfl | rfl | hx; omega; exact l3; have := hM x hx; have := HN0.out.out.size; omega)
  have HHS := Lib.hid hHS
  have HN1 := Lib.hid hn1
  have HB3 := Lib.hid hb3
  clear hHS hn1 hb3
  go_wp2_with (first | (go_at_call 210; (with_reducible refine Calls.mono HHS.out ?_); rintro e1 w2 ⟨b5, rfl, hh5, hb5, hn2⟩; have HH5 := Lib.hid hh5; have HN2 := Lib.hid hn2; have HB4 := Lib.hid (HB3.out.nxt hn2); clear hh5 hn2; have a0 := (HB4.out).cell 0; have a1 := (HB4.out).cell 1; have a2 := (HB4.out).cell 2; have a3 := (HB4.out).cell 3; have a4 := (HB4.out).cell 4; have a5 := (HB4.out).cell 5; simp at a0 a1 a2 a3 a4 a5; have af := (HB4.out).frozen; have al := (HB4.out).lt))
  have hb5' := HB4.out.set_ 1 (.pointer (some ⟨b5, 0, none⟩))
  simp only [List.setIfInBounds_toArray, List.set_cons_succ, List.set_cons_zero] at hb5'
  have hq : Chg [t3] w2 (w2.setCell ⟨t3, 1, none⟩ (.pointer (some ⟨b5, 0, none⟩))) := (Chg.refl _ _).setCell (.inr (by simp)) _
  have hn02 : Nxt W0 (w2.setCell ⟨t3, 1, none⟩ (.pointer (some ⟨b5, 0, none⟩))) := ⟨(HN1.out.out.trans HN2.out.out).then hq (by simp; omega)⟩
  have hh6 := HH5.out.chg hq (by simp)
  generalize w2.setCell ⟨t3, 1, none⟩ (.pointer (some ⟨b5, 0, none⟩)) = W3 at hb5' hq hn02 hh6 ⊢
  have HB5 := Lib.hid hb5'
  have HN02 := Lib.hid hn02
  have HH6 := Lib.hid hh6
  clear hb5' hq hn02 hh6 a0 a1 a2 a3 a4 a5 af al HB4 HH5
  (first | (go_at_call 209; (with_reducible refine Calls.mono (softState_any (HR.out.nxt HN02.out)) ?_); rintro e1 w4 ⟨rfl, hn4⟩))
  have hb6 := HB5.out.nxt hn4
  have hn04 : Nxt W0 w4 := ⟨HN02.out.out.trans hn4.out⟩
  have hR4 := HR.out.nxt hn04
  have hL4 := HL.out.nxt hn04
  have HB6 := Lib.hid hb6
  have a0 := (HB6.out).cell 0; have a1 := (HB6.out).cell 1; have a2 := (HB6.out).cell 2; have a3 := (HB6.out).cell 3; have a4 := (HB6.out).cell 4; have a5 := (HB6.out).cell 5; simp at a0 a1 a2 a3 a4 a5; have af := (HB6.out).frozen; have al := (HB6.out).lt
  have r4 : w4.cell? ⟨rb, 4, none⟩ = some (.pointer (some ⟨rl, 0, none⟩)) := by rw [← HRL.out]; exact RaftAt.cell hR4 4 _ rfl
  obtain ⟨_, _, _, _, _, _, _, _, k8, _⟩ := hL4.cells
  have nr3 : rb ≠ t3 := Blk.ne hR4 hb6 (by decide)
  have nl3 : rl ≠ t3 := Blk.ne hL4 hb6 (by decide)
  have hb2 := HB.out.nxt hn04
  have n23 : t2 ≠ t3 := by omega
  have HB2 := Lib.hid hb2
  have c0 := (HB2.out).cell 0; have c1 := (HB2.out).cell 1; have c2 := (HB2.out).cell 2; have c3 := (HB2.out).cell 3; have c4 := (HB2.out).cell 4; have c5 := (HB2.out).cell 5; simp at c0 c1 c2 c3 c4 c5; have cf := (HB2.out).frozen; have cl := (HB2.out).lt
  have HN04 := Lib.hid hn04
  have HH7 := Lib.hid (HH6.out.chg (L := []) hn4.out (by simp))
  clear hb6 hn04 hR4 hL4 hb2 hn4
  go_wp2_with fail
  have hF : Chg [t2, t3] w4 (((((((((w4.setCell ⟨t3, 2, none⟩ (.int .u64 s.lead)).setCell ⟨t3, 3, none⟩ (.int .u64 s.state)).setCell ⟨t3, 4, none⟩ (.int .u64 l.apd)).setCell ⟨t2, 0, none⟩ (.int .u64 s.id)).setCell ⟨t2, 1, none⟩ (.pointer (some ⟨b5, 0, none⟩))).setCell ⟨t2, 2, none⟩ (.int .u64 s.lead)).setCell ⟨t2, 3, none⟩ (.int .u64 s.state)).setCell ⟨t2, 4, none⟩ (.int .u64 l.apd)).setCell ⟨t2, 5, none⟩ (.int .u64 s.ltr)) := (by (focus (first | with_reducible assumption | ((repeat (first | with_reducible exact Chg.refl _ _ | with_reducible assumption | with_reducible refine Chg.drew ?_ | with_reducible refine Chg.alloc ?_ _ | with_reducible refine Chg.setCell ?_ (by simp) _ | with_reducible refine Chg.nxt ?_ (by assumption))); done))))
  have hN : Nxt w (((((((((w4.setCell ⟨t3, 2, none⟩ (.int .u64 s.lead)).setCell ⟨t3, 3, none⟩ (.int .u64 s.state)).setCell ⟨t3, 4, none⟩ (.int .u64 l.apd)).setCell ⟨t2, 0, none⟩ (.int .u64 s.id)).setCell ⟨t2, 1, none⟩ (.pointer (some ⟨b5, 0, none⟩))).setCell ⟨t2, 2, none⟩ (.int .u64 s.lead)).setCell ⟨t2, 3, none⟩ (.int .u64 s.state)).setCell ⟨t2, 4, none⟩ (.int .u64 l.apd)).setCell ⟨t2, 5, none⟩ (.int .u64 s.ltr)) := ⟨(HN0.out.out.trans HN04.out.out).then hF (by simp; omega)⟩
  have hH : HardAt M (((((((((w4.setCell ⟨t3, 2, none⟩ (.int .u64 s.lead)).setCell ⟨t3, 3, none⟩ (.int .u64 s.state)).setCell ⟨t3, 4, none⟩ (.int .u64 l.apd)).setCell ⟨t2, 0, none⟩ (.int .u64 s.id)).setCell ⟨t2, 1, none⟩ (.pointer (some ⟨b5, 0, none⟩))).setCell ⟨t2, 2, none⟩ (.int .u64 s.lead)).setCell ⟨t2, 3, none⟩ (.int .u64 s.state)).setCell ⟨t2, 4, none⟩ (.int .u64 l.apd)).setCell ⟨t2, 5, none⟩ (.int .u64 s.ltr)) (.pointer (some ⟨b5, 0, none⟩)) s.term s.vote l.com := (HH7.out.chg hF (by simp)).more (fun x hx => .inl (by simp [hx]))
  exact bodyPost_ret (v := .agg #[.int .u64 s.id, .pointer (some ⟨b5, 0, none⟩), .int .u64 s.lead, .int .u64 s.state, .int .u64 l.apd, .int .u64 s.ltr]) (by simp [results, Tryz.results158, go_sem, c0, c1, c2, c3, c4, c5, n23]) rfl ⟨b5, rfl, hH, hN⟩
set_option maxRecDepth 100000 in
set_option maxHeartbeats 4000000 in
theorem basic_any {rn : Nat} {u1 u2 u3 u4 : Value} (hrn : Blk w rn 276 #[.pointer (some ⟨rb, 0, none⟩), u1, u2, u3, u4]) (h : RaftAt w rb s) (hrl : s.rl = rl) (hl : RlAt w rl ms l) (hM : ∀ x ∈ M, x < w.heap.size) :
    Calls Tryz.prog 105 #[.pointer (some ⟨rn, 0, none⟩)] w fun y w' => ∃ b, y = .returned (.agg #[.int .u64 s.id, .pointer (some ⟨b, 0, none⟩), .int .u64 s.lead, .int .u64 s.state, .int .u64 l.apd, .int .u64 s.ltr]) ∧ HardAt M w' (.pointer (some ⟨b, 0, none⟩)) s.term s.vote l.com ∧ Nxt w w' := by
  have hn0 : Nxt w (w.alloc (.cells #[.int .u64 0, .pointer none, .int .u64 0, .int .u64 0, .int .u64 0, .int .u64 0] 191)) := ⟨(Chg.refl [] w).alloc _⟩
  have hbk := Blk.new w 191 #[.int .u64 0, .pointer none, .int .u64 0, .int .u64 0, .int .u64 0, .int .u64 0]
  have hz0 : (w.alloc (.cells #[.int .u64 0, .pointer none, .int .u64 0, .int .u64 0, .int .u64 0, .int .u64 0] 191)).heap.size = w.heap.size + 1 := by simp
  have k0 : w.cell? ⟨rn, 0, none⟩ = some (.pointer (some ⟨rb, 0, none⟩)) := by rw [hrn.cell 0]; rfl
  have lrn := hrn.lt
  have hG := getBasic_any (M := w.heap.size :: M) (h.nxt hn0) hrl (hl.nxt hn0) (by intro x hx; simp only [List.mem_cons] at hx; rcases hx with rfl | hx; omega; have := hM x hx; omega)
  have HG := Lib.hid hG
  have HN0 := Lib.hid hn0
  have HB := Lib.hid hbk
  clear h hrl hl hG hn0 hbk hz0 hrn
  go_enter Tryz.func105, Tryz.ntmps105
  go_wp2_with (first | (go_at_call 158; (with_reducible refine Calls.mono HG.out ?_); rintro e1 w2 ⟨hp, rfl, hh2, hn2⟩; have HB2 := Lib.hid (HB.out.nxt hn2); have HN2 := Lib.hid hn2; have HH2 := Lib.hid hh2; clear hh2 hn2; have c0 := (HB2.out).cell 0; have c1 := (HB2.out).cell 1; have c2 := (HB2.out).cell 2; have c3 := (HB2.out).cell 3; have c4 := (HB2.out).cell 4; have c5 := (HB2.out).cell 5; simp at c0 c1 c2 c3 c4 c5; have cf := (HB2.out).frozen; have cl := (HB2.out).lt))
  obtain ⟨t2, ht2⟩ : ∃ t2, t2 = w.heap.size := ⟨_, rfl⟩
  have HH3 := HH2.out
  rw [← ht2] at HH3 c0 c1 c2 c3 c4 c5
  (try rw [← ht2])
  have hF : Chg [t2] w2 ((((((w2.setCell ⟨t2, 0, none⟩ (.int .u64 s.id)).setCell ⟨t2, 1, none⟩ (.pointer (some ⟨hp, 0, none⟩))).setCell ⟨t2, 2, none⟩ (.int .u64 s.lead)).setCell ⟨t2, 3, none⟩ (.int .u64 s.state)).setCell ⟨t2, 4, none⟩ (.int .u64 l.apd)).setCell ⟨t2, 5, none⟩ (.int .u64 s.ltr)) := (by (focus (first | with_reducible assumption | ((repeat (first | with_reducible exact Chg.refl _ _ | with_reducible assumption | with_reducible refine Chg.drew ?_ | with_reducible refine Chg.alloc ?_ _ | with_reducible refine Chg.setCell ?_ (by simp) _ | with_reducible refine Chg.nxt ?_ (by assumption))); done))))
  have hN : Nxt w ((((((w2.setCell ⟨t2, 0, none⟩ (.int .u64 s.id)).setCell ⟨t2, 1, none⟩ (.pointer (some ⟨hp, 0, none⟩))).setCell ⟨t2, 2, none⟩ (.int .u64 s.lead)).setCell ⟨t2, 3, none⟩ (.int .u64 s.state)).setCell ⟨t2, 4, none⟩ (.int .u64 l.apd)).setCell ⟨t2, 5, none⟩ (.int .u64 s.ltr)) := ⟨(HN0.out.out.trans HN2.out.out).then hF (by simp; omega)⟩
  have hH : HardAt M ((((((w2.setCell ⟨t2, 0, none⟩ (.int .u64 s.id)).setCell ⟨t2, 1, none⟩ (.pointer (some ⟨hp, 0, none⟩))).setCell ⟨t2, 2, none⟩ (.int .u64 s.lead)).setCell ⟨t2, 3, none⟩ (.int .u64 s.state)).setCell ⟨t2, 4, none⟩ (.int .u64 l.apd)).setCell ⟨t2, 5, none⟩ (.int .u64 s.ltr)) (.pointer (some ⟨hp, 0, none⟩)) s.term s.vote l.com := (HH3.chg hF (by simp)).more (fun x hx => .inl (by simp [hx]))
  exact bodyPost_ret (v := .agg #[.int .u64 s.id, .pointer (some ⟨hp, 0, none⟩), .int .u64 s.lead, .int .u64 s.state, .int .u64 l.apd, .int .u64 s.ltr]) (by simp [results, Tryz.results105, go_sem, c0, c1, c2, c3, c4, c5]) rfl ⟨hp, rfl, hH, hN⟩
end
end Go.Proofs.YtalhhplphlobbaaGreat
namespace Go.Proofs.YtalhhplphlobbaaGreat
open Go.RowKit
/-- The fields of a raft.Config. -/
structure CfgS where
  id : Int
  et : Int
  ht : Int
  ms : Nat
  apd : Int
  asy : Bool
  msz : Int
  mco : Int
  mun : Int
  inf : Int
  mib : Int
  cq : Bool
  pv : Bool
  opt : Int
  dpf : Bool
  dcv : Bool
  sdr : Bool
  zd : Value
def CfgS.cells (c : CfgS) : Array Value := #[.int .u64 c.id, .int .i64 c.et, .int .i64 c.ht, .iface 137 (.pointer (some ⟨c.ms, 0, none⟩)), .int .u64 c.apd, .bool c.asy, .int .u64 c.msz, .int .u64 c.mco, .int .u64 c.mun, .int .i64 c.inf, .int .u64 c.mib, .bool c.cq, .bool c.pv, .int .i64 c.opt, .bool c.dpf, .bool c.dcv, .bool c.sdr, c.zd]
def CfgAt (w : World) (b : Nat) (c : CfgS) : Prop := Blk w b 268 c.cells
theorem CfgAt.cell {w : World} {b : Nat} {c : CfgS} (h : CfgAt w b c) (k : Nat) (u : Value) (he : c.cells[k]? = some u) : w.cell? ⟨b, k, none⟩ = some u := (Blk.cell h k).trans he
theorem CfgAt.set_ {w : World} {b : Nat} {c : CfgS} (h : CfgAt w b c) (k : Nat) (u : Value) (c' : CfgS) (he : c.cells.setIfInBounds k u = c'.cells) : CfgAt (w.setCell ⟨b, k, none⟩ u) b c' := by
  have := Blk.set_ h k u
  rw [he] at this
  exact this
theorem CfgAt.chg {L : List Nat} {w w' : World} {b : Nat} {c : CfgS} (h : CfgAt w b c) (hc : Chg L w w') (hg : b ∉ L) : CfgAt w' b c := Blk.chg h hc hg
set_option maxRecDepth 100000 in
set_option maxHeartbeats 400000 in
theorem local_no (w : World) (id : Int) (h0 : 0 ≤ id) (h1 : id < 4611686018427387904) : Calls Tryz.prog 171 #[.int .u64 id] w fun y w' => y = .returned (.bool false) ∧ w = w' := by
  have e1 : (id == 18446744073709551615) = false := by simp; omega
  have e2 : (id == 18446744073709551614) = false := by simp; omega
  go_enter Tryz.func171, Tryz.ntmps171
  go_wp2
  go_ret
  exact ⟨rfl, rfl⟩
/-- What validate makes of it. -/
def CfgS.valid (c : CfgS) : CfgS := { c with mun := if c.mun = 0 then 18446744073709551615 else c.mun, mib := 18446744073709551615 }
set_option maxRecDepth 100000 in
set_option maxHeartbeats 4000000 in
theorem validate_any {w : World} {b : Nat} {c : CfgS} (h : CfgAt w b c) (h0 : 0 < c.id) (h1 : c.id < 4611686018427387904) (h2 : 0 < c.ht) (h3 : c.ht < c.et) (h4 : 0 < c.mco) (h5 : 0 < c.inf) (h6 : c.mib = 0) (h7 : c.msz ≤ 18446744073709551615) (h8 : c.opt = 1 → c.cq = true) :
    Calls Tryz.prog 269 #[.pointer (some ⟨b, 0, none⟩)] w fun y w' => y = .returned .nilIface ∧ CfgAt w' b c.valid ∧ Chg [b] w w' := by
  obtain ⟨id, et, ht, ms, apd, asy, msz, mco, mun, inf, mib, cq, pv, opt, dpf, dcv, sdr, zd⟩ := c
  simp only at h0 h1 h2 h3 h4 h5 h6 h7 h8
  subst h6
  have c0 : w.cell? ⟨b, 0, none⟩ = some (.int .u64 id) := CfgAt.cell h 0 _ rfl
  have c1 : w.cell? ⟨b, 1, none⟩ = some (.int .i64 et) := CfgAt.cell h 1 _ rfl
  have c2 : w.cell? ⟨b, 2, none⟩ = some (.int .i64 ht) := CfgAt.cell h 2 _ rfl
  have c3 : w.cell? ⟨b, 3, none⟩ = some (.iface 137 (.pointer (some ⟨ms, 0, none⟩))) := CfgAt.cell h 3 _ rfl
  have c6 : w.cell? ⟨b, 6, none⟩ = some (.int .u64 msz) := CfgAt.cell h 6 _ rfl
  have c7 : w.cell? ⟨b, 7, none⟩ = some (.int .u64 mco) := CfgAt.cell h 7 _ rfl
  have c8 : w.cell? ⟨b, 8, none⟩ = some (.int .u64 mun) := CfgAt.cell h 8 _ rfl
  have c9 : w.cell? ⟨b, 9, none⟩ = some (.int .i64 inf) := CfgAt.cell h 9 _ rfl
  have c10 : w.cell? ⟨b, 10, none⟩ = some (.int .u64 0) := CfgAt.cell h 10 _ rfl
  have c11 : w.cell? ⟨b, 11, none⟩ = some (.bool cq) := CfgAt.cell h 11 _ rfl
  have c13 : w.cell? ⟨b, 13, none⟩ = some (.int .i64 opt) := CfgAt.cell h 13 _ rfl
  have cf := Blk.frozen h
  have e0 : (id == 0) = false := by simp; omega
  have e2 : ¬ ht ≤ 0 := by omega
  have e3 : ¬ et ≤ ht := by omega
  have e4 : (mco == 0) = false := by simp; omega
  have e5 : ¬ inf ≤ 0 := by omega
  have e7 : ¬ (18446744073709551615 : Int) < msz := by omega
  have H := Lib.hid h
  clear h
  by_cases hm : mun = 0
  · subst hm
    by_cases ho : opt = 1
    · subst ho
      have hcq := h8 rfl
      subst hcq
      clear h8
      go_enter Tryz.func269, Tryz.ntmps269
      go_wp2_with (first | (go_at_call 171; (with_reducible refine Calls.mono (local_no _ id (by omega) h1) ?_); rintro e w' ⟨rfl, rfl⟩))
      go_region
      go_wp2_with fail
      go_ret
      refine ⟨rfl, ?_, (by (focus (first | with_reducible assumption | ((repeat (first | with_reducible exact Chg.refl _ _ | with_reducible assumption | with_reducible refine Chg.drew ?_ | with_reducible refine Chg.alloc ?_ _ | with_reducible refine Chg.setCell ?_ (by simp) _ | with_reducible refine Chg.nxt ?_ (by assumption))); done))))⟩
      exact CfgAt.set_ (CfgAt.set_ H.out 8 _ ⟨id, et, ht, ms, apd, asy, msz, mco, 18446744073709551615, inf, 0, _, pv, _, dpf, dcv, sdr, zd⟩ rfl) 10 _ (CfgS.valid ⟨id, et, ht, ms, apd, asy, msz, mco, 0, inf, 0, _, pv, _, dpf, dcv, sdr, zd⟩) rfl
    · have ho2 : (opt == 1) = false := by simpa using ho
      clear h8
      go_enter Tryz.func269, Tryz.ntmps269
      go_wp2_with (first | (go_at_call 171; (with_reducible refine Calls.mono (local_no _ id (by omega) h1) ?_); rintro e w' ⟨rfl, rfl⟩))
      go_region
      go_wp2_with fail
      go_ret
      refine ⟨rfl, ?_, (by (focus (first | with_reducible assumption | ((repeat (first | with_reducible exact Chg.refl _ _ | with_reducible assumption | with_reducible refine Chg.drew ?_ | with_reducible refine Chg.alloc ?_ _ | with_reducible refine Chg.setCell ?_ (by simp) _ | with_reducible refine Chg.nxt ?_ (by assumption))); done))))⟩
      exact CfgAt.set_ (CfgAt.set_ H.out 8 _ ⟨id, et, ht, ms, apd, asy, msz, mco, 18446744073709551615, inf, 0, _, pv, _, dpf, dcv, sdr, zd⟩ rfl) 10 _ (CfgS.valid ⟨id, et, ht, ms, apd, asy, msz, mco, 0, inf, 0, _, pv, _, dpf, dcv, sdr, zd⟩) rfl
  · have hm2 : (mun == 0) = false := by simpa using hm
    by_cases ho : opt = 1
    · subst ho
      have hcq := h8 rfl
      subst hcq
      clear h8
      go_enter Tryz.func269, Tryz.ntmps269
      go_wp2_with (first | (go_at_call 171; (with_reducible refine Calls.mono (local_no _ id (by omega) h1) ?_); rintro e w' ⟨rfl, rfl⟩))
      go_region
      go_wp2_with fail
      go_ret
      refine ⟨rfl, ?_, (by (focus (first | with_reducible assumption | ((repeat (first | with_reducible exact Chg.refl _ _ | with_reducible assumption | with_reducible refine Chg.drew ?_ | with_reducible refine Chg.alloc ?_ _ | with_reducible refine Chg.setCell ?_ (by simp) _ | with_reducible refine Chg.nxt ?_ (by assumption))); done))))⟩
      have e9 : (CfgS.valid ⟨id, et, ht, ms, apd, asy, msz, mco, mun, inf, 0, true, pv, 1, dpf, dcv, sdr, zd⟩) = ⟨id, et, ht, ms, apd, asy, msz, mco, mun, inf, 18446744073709551615, true, pv, 1, dpf, dcv, sdr, zd⟩ := by simp [CfgS.valid, hm]
      rw [e9]
      exact CfgAt.set_ H.out 10 _ _ rfl
    · have ho2 : (opt == 1) = false := by simpa using ho
      clear h8
      go_enter Tryz.func269, Tryz.ntmps269
      go_wp2_with (first | (go_at_call 171; (with_reducible refine Calls.mono (local_no _ id (by omega) h1) ?_); rintro e w' ⟨rfl, rfl⟩))
      go_region
      go_wp2_with fail
      go_ret
      refine ⟨rfl, ?_, (by (focus (first | with_reducible assumption | ((repeat (first | with_reducible exact Chg.refl _ _ | with_reducible assumption | with_reducible refine Chg.drew ?_ | with_reducible refine Chg.alloc ?_ _ | with_reducible refine Chg.setCell ?_ (by simp) _ | with_reducible refine Chg.nxt ?_ (by assumption))); done))))⟩
      have e9 : (CfgS.valid ⟨id, et, ht, ms, apd, asy, msz, mco, mun, inf, 0, cq, pv, opt, dpf, dcv, sdr, zd⟩) = ⟨id, et, ht, ms, apd, asy, msz, mco, mun, inf, 18446744073709551615, cq, pv, opt, dpf, dcv, sdr, zd⟩ := by simp [CfgS.valid, hm]
      rw [e9]
      exact CfgAt.set_ H.out 10 _ _ rfl
end Go.Proofs.YtalhhplphlobbaaGreat
namespace Go.Proofs.YtalhhplphlobbaaGreat
open Go.RowKit
/-- A slice of numbers in a block of its own, from base on (or nil). -/
def OwnNum (w : World) (base : Nat) (v : Value) (l : List Int) : Prop := (v = .slice none 0 0 ∧ l = []) ∨ ∃ g c, v = .slice (some ⟨g, 0, none⟩) l.length c ∧ base ≤ g ∧ l.length ≤ c ∧ Rw w g 22 l.toArray []
set_option maxRecDepth 100000 in
set_option maxHeartbeats 1000000 in
theorem zzNumbersO_any (M : List Nat) (W w : World) (v : Value) (l : List Int) (h : Sl M W v (U64s l)) (hM : ∀ x ∈ M, x < W.heap.size) (hl : l.length ≤ 1000000000) (hW : Chg [] W w) :
    Calls Tryz.prog 256 #[v] w fun e w' => ∃ x, e = .returned x ∧ OwnNum w' w.heap.size x l ∧ Chg [] W w' ∧ Nxt w w' := by
  obtain ⟨i0, hi, hz0, hz1, hz2⟩ := info_parts info22
  obtain ⟨A, n, c, rfl, hn, hnc, hA, hcell⟩ := h
  have hz := hW.size
  rcases A with _ | ⟨b, o, s⟩
  · have := hA rfl
    subst this
    have : n = 0 := by omega
    subst this
    have hl0 : U64s l = [] := List.eq_nil_of_length_eq_zero hn
    have HL := Lib.hid hl0
    clear hl0 hcell
    have h1 := fun wx => Lib.run_eql_slice_nil (P := Tryz.prog) wx 24 22 none 0 0 0 0 Tryz.underlying24
    go_enter Tryz.func256, Tryz.ntmps256
    go_wp2
    go_ret
    have hl1 : l = [] := by have z := HL.out; simpa [U64s] using z
    exact ⟨_, rfl, .inl ⟨rfl, hl1⟩, hW, ⟨Chg.refl _ _⟩⟩
  · obtain ⟨rfl, hbM, hb, hcs⟩ := hcell b o s rfl
    have hlen : (U64s l).length = l.length := by simp [U64s]
    have h1 := fun wx => Lib.run_eql_slice_nil (P := Tryz.prog) wx 24 22 (some ⟨b, o, none⟩) n c 0 0 Tryz.underlying24
    have hmk := fun wx => run_make (P := Tryz.prog) wx 24 22 i0 (.int .u64 0) Tryz.underlying24 hi hz0 .i64 .i64 (n : Int) (n : Int) (by omega) (by omega) (by rw [hz2]; omega) (by omega)
    go_enter Tryz.func256, Tryz.ntmps256
    go_wp2_with (with_reducible refine wpList_copy_splice rfl (.tmp 9) (.tmp 10) 24 24 rfl 22 Tryz.underlying24 ?sz (some ⟨w.heap.size, 0, none⟩) (some ⟨b, o, none⟩) n n n c rfl rfl w.heap.size 0 (madeCells #[.int .u64 0] n).toList 22 ?hg (U64s l) ?hn ?hpos ?hfit ?h1 w.heap.size w ?hb (Nat.le_refl _) ?_)
    case sz => rw [hi]; simp [hz1]
    case hg => rw [Array.toArray_toList]; exact heap_alloc_new w _
    case hn => rw [hn]; exact (Nat.min_self n).symm
    case hpos => exact fun _ j u hu => cell_alloc (hW.at0 (hcs j u hu)) _
    case hfit => rw [hn]; simp [madeCells]
    case h1 => intro u hu; simp only [U64s, List.mem_map] at hu; obtain ⟨a, _, rfl⟩ := hu; rfl
    case hb => exact (Below.refl _ _).alloc (Nat.le_refl _) _
    intro w1 hg1 hb1
    go_wp2
    go_ret
    have hsp : splice (madeCells #[.int .u64 0] n).toList 0 (U64s l) = U64s l := by
      unfold splice
      rw [List.take_zero, List.nil_append, List.drop_of_length_le (by simp [madeCells]; omega), List.append_nil]
    have hg2 := hg1.out
    rw [hsp] at hg2
    have hc : Chg [] w w1 := Chg.of_below hb1
    rw [hlen] at hn
    subst hn
    exact ⟨_, rfl, .inr ⟨w.heap.size, _, rfl, Nat.le_refl _, Nat.le_refl _, by unfold Rw Blk; simpa [U64s] using hg2⟩, hW.trans hc, ⟨hc⟩⟩

set_option maxRecDepth 100000 in
set_option maxHeartbeats 1000000 in
theorem getAuto_any {w : World} {v : Value} {vs ls os ns : List Int} {al : Bool} (h : ConfAt [] w v vs ls os ns al) : Calls Tryz.prog 166 #[v] w fun y w' => y = .returned (.bool al) ∧ w = w' := by
  obtain ⟨b, s1, s2, s3, s4, p, rfl, _, hb, c0, c1, c2, c3, c4, _, _, _, _, b5, o5, rfl, _, _, c5⟩ := h
  go_enter Tryz.func166, Tryz.ntmps166
  go_wp2_with fail
  go_ret
  exact ⟨rfl, rfl⟩
end Go.Proofs.YtalhhplphlobbaaGreat
namespace Go.Proofs.YtalhhplphlobbaaGreat
open Go.RowKit
/-- As OwnNum, the block below a bound too. -/
def OwnIn (w : World) (lo hi : Nat) (v : Value) (l : List Int) : Prop := (v = .slice none 0 0 ∧ l = []) ∨ ∃ g c, v = .slice (some ⟨g, 0, none⟩) l.length c ∧ lo ≤ g ∧ g < hi ∧ l.length ≤ c ∧ Rw w g 22 l.toArray []
theorem OwnIn.chg {w w' : World} {lo hi : Nat} {v : Value} {l : List Int} {M : List Nat} (h : OwnIn w lo hi v l) (hc : Chg M w w') (hM : ∀ x ∈ M, x < lo ∨ hi ≤ x) : OwnIn w' lo hi v l := by
  rcases h with h | ⟨g, c, e, h1, h2, h3, h4⟩
  · exact .inl h
  · exact .inr ⟨g, c, e, h1, h2, h3, Blk.chg h4 hc (fun hm => by rcases hM g hm with h | h <;> omega)⟩
theorem zzNumbersI_any (W w : World) (v : Value) (l : List Int) (h : Sl [] W v (U64s l)) (hl : l.length ≤ 1000000000) (hW : Chg [] W w) :
    Calls Tryz.prog 256 #[v] w fun e w' => ∃ A n c, e = .returned (.slice A n c) ∧ OwnIn w' w.heap.size w'.heap.size (.slice A n c) l ∧ Chg [] W w' ∧ Nxt w w' := by
  refine (zzNumbersO_any [] W w v l h (by simp) hl hW).mono ?_
  rintro e w' ⟨x, rfl, ⟨rfl, h⟩ | ⟨g, c, rfl, h1, h2, h3⟩, hc, hn⟩
  · exact ⟨_, _, _, rfl, .inl ⟨rfl, h⟩, hc, hn⟩
  · exact ⟨_, _, _, rfl, .inr ⟨g, c, rfl, h1, Blk.lt h3, h2, h3⟩, hc, hn⟩
set_option maxRecDepth 100000 in
set_option maxHeartbeats 1000000 in
theorem confCloneO_any (W w : World) (v : Value) (c : Cf) (h : CfAt [] W v c)
    (l1 : c.vs.length ≤ 1000000000) (l2 : c.ls.length ≤ 1000000000) (l3 : c.os.length ≤ 1000000000) (l4 : c.ns.length ≤ 1000000000) (hW : Chg [] W w) :
    Calls Tryz.prog 192 #[v] w fun e w' => ∃ b x1 x2 x3 x4 pb m1 m2 m3 m4, e = .returned (.pointer (some ⟨b, 0, none⟩)) ∧ Blk w' b 262 #[x1, x2, x3, x4, .pointer (some ⟨pb, 0, none⟩)] ∧ Ptr1 [] w' (.pointer (some ⟨pb, 0, none⟩)) (.bool c.al) ∧
      OwnIn w' w.heap.size m1 x1 c.vs ∧ OwnIn w' m1 m2 x2 c.ls ∧ OwnIn w' m2 m3 x3 c.os ∧ OwnIn w' m3 m4 x4 c.ns ∧ w.heap.size ≤ m1 ∧ m1 ≤ m2 ∧ m2 ≤ m3 ∧ m3 ≤ m4 ∧ m4 ≤ b ∧ Chg [] W w' ∧ Nxt w w' := by
  obtain ⟨b, s1, s2, s3, s4, p, rfl, hbM, hb, k0, k1, k2, k3, k4, h1, h2, h3, h4, h5⟩ := h
  have hz := hW.size
  have k0' := hW.at0 k0
  have k1' := hW.at0 k1
  have k2' := hW.at0 k2
  have k3' := hW.at0 k3
  have k4' := hW.at0 k4
  clear k0 k1 k2 k3 k4
  go_enter Tryz.func192, Tryz.ntmps192
  go_wp2_with fail
  go_region_held3 (fun wx => wx.cell? ⟨b, 0, none⟩ = some s1 ∧ wx.cell? ⟨b, 1, none⟩ = some s2 ∧ wx.cell? ⟨b, 2, none⟩ = some s3 ∧ wx.cell? ⟨b, 3, none⟩ = some s4 ∧ wx.cell? ⟨b, 4, none⟩ = some p ∧ Chg [] W wx)
    (first | ((repeat' apply And.intro) <;> (first | with_reducible assumption | (simp; done) | ((repeat (refine cell_alloc ?_ _)); (first | with_reducible assumption | (refine Chg.at0 (Nxt.out (by assumption)) ?_; first | with_reducible assumption | (simp; done) | (simp [*]; done)) | (refine Chg.at0 (by assumption) ?_; first | with_reducible assumption | (simp; done) | (simp [*]; done)) | (simp [*]; done))) | ((repeat (first | with_reducible exact Chg.refl _ _ | with_reducible assumption | refine Chg.drew ?_ | refine Chg.alloc ?_ _)); done))))
    (first | (go_at_call 256; (with_reducible refine Calls.mono (zzNumbersI_any W _ s1 c.vs h1 l1 ?_) ?_); (focus (first | with_reducible assumption | ((repeat (first | with_reducible exact Chg.refl _ _ | with_reducible assumption | refine Chg.drew ?_ | refine Chg.alloc ?_ _)); done))); rintro e w1 ⟨A1, n1, c1, rfl, hs1, hc1, hn1⟩; obtain ⟨qc1, qf1, qz1⟩ := hn1.rules; (try simp at qz1)) | (go_at_call 256; (with_reducible refine Calls.mono (zzNumbersI_any W _ s2 c.ls h2 l2 ?_) ?_); (focus (first | with_reducible assumption | ((repeat (first | with_reducible exact Chg.refl _ _ | with_reducible assumption | refine Chg.drew ?_ | refine Chg.alloc ?_ _)); done))); rintro e w2 ⟨A2, n2, c2, rfl, hs2, hc2, hn2⟩; obtain ⟨qc2, qf2, qz2⟩ := hn2.rules; (try simp at qz2)) | (go_at_call 256; (with_reducible refine Calls.mono (zzNumbersI_any W _ s3 c.os h3 l3 ?_) ?_); (focus (first | with_reducible assumption | ((repeat (first | with_reducible exact Chg.refl _ _ | with_reducible assumption | refine Chg.drew ?_ | refine Chg.alloc ?_ _)); done))); rintro e w3 ⟨A3, n3, c3, rfl, hs3, hc3, hn3⟩; obtain ⟨qc3, qf3, qz3⟩ := hn3.rules; (try simp at qz3)) | (go_at_call 256; (with_reducible refine Calls.mono (zzNumbersI_any W _ s4 c.ns h4 l4 ?_) ?_); (focus (first | with_reducible assumption | ((repeat (first | with_reducible exact Chg.refl _ _ | with_reducible assumption | refine Chg.drew ?_ | refine Chg.alloc ?_ _)); done))); rintro e w4 ⟨A4, n4, c4, rfl, hs4, hc4, hn4⟩; obtain ⟨qc4, qf4, qz4⟩ := hn4.rules; (try simp at qz4)) | (go_at_call 257; (with_reducible refine Calls.mono (zzPtrBool_any [] W _ p c.al h5 (by simp) ?_) ?_); (focus (first | with_reducible assumption | ((repeat (first | with_reducible exact Chg.refl _ _ | with_reducible assumption | refine Chg.drew ?_ | refine Chg.alloc ?_ _)); done))); rintro e w5 ⟨b5, rfl, hs5, hc5, hn5⟩; obtain ⟨qc5, qf5, qz5⟩ := hn5.rules; (try simp at qz5)))
  have q1 : Chg [] w w1 := by
    have z : Chg [] w.drew w1 := hn1.out
    exact (Chg.refl _ _).drew.trans z
  have hB := Blk.new w5 262 #[.slice A1 n1 c1, .slice A2 n2 c2, .slice A3 n3 c3, .slice A4 n4 c4, .pointer (some ⟨b5, 0, none⟩)]
  have hf : Chg [] w5 (w5.alloc (.cells #[.slice A1 n1 c1, .slice A2 n2 c2, .slice A3 n3 c3, .slice A4 n4 c4, .pointer (some ⟨b5, 0, none⟩)] 262)) := (Chg.refl _ _).alloc _
  have e4 := hn5.out.trans hf
  have e3 := hn4.out.trans e4
  have e2 := hn3.out.trans e3
  have e1 := hn2.out.trans e2
  have ew := q1.trans e1
  have z1 := q1.size
  have z2 := hn2.out.size
  have z3 := hn3.out.size
  have z4 := hn4.out.size
  have z5 := hn5.out.size
  go_wp2
  go_ret
  exact ⟨_, _, _, _, _, _, w1.heap.size, w2.heap.size, w3.heap.size, w4.heap.size, rfl, hB, hs5.chg0 hf, hs1.chg e1 (by simp), hs2.chg e2 (by simp), hs3.chg e3 (by simp), hs4.chg e4 (by simp), z1, z2, z3, z4, z5, hW.trans ew, ⟨ew⟩⟩
end Go.Proofs.YtalhhplphlobbaaGreat
namespace Go.Proofs.YtalhhplphlobbaaGreat
open Go.RowKit
set_option maxRecDepth 100000 in
set_option maxHeartbeats 1000000 in
theorem sortAt_any {w : World} {b o lo hi : Nat} {x : Value} {l : List Int} (hc : w.cell? ⟨b, o, none⟩ = some x) (hx : OwnIn w lo hi x l) (hl : l.length ≤ 12) :
    Calls Tryz.prog 378 #[.pointer (some ⟨b, o, none⟩)] w fun y w' => ∃ l' M, y = .returned (.tuple #[]) ∧ OwnIn w' lo hi x l' ∧ l'.Perm l ∧ l'.Pairwise (· ≤ ·) ∧ (∀ k ∈ M, lo ≤ k ∧ k < hi ∧ ∃ cs, Blk w k 22 cs ∧ ∀ u ∈ cs.toList, ∃ i, u = .int .u64 i) ∧ Chg M w w' := by
  rcases hx with ⟨rfl, rfl⟩ | ⟨g, c, rfl, h1, h2, h3, h4⟩
  · go_enter Tryz.func378, Tryz.ntmps378
    go_wp2_with (first | (go_at_call 351; refine (sort_nil _).mono ?_; rintro e w5 ⟨rfl, rfl⟩))
    go_end0
    exact ⟨[], [], rfl, .inl ⟨rfl, rfl⟩, .refl _, .nil, by simp, Chg.refl _ _⟩
  · have HR := Lib.hid h4
    clear h4
    go_enter Tryz.func378, Tryz.ntmps378
    go_wp2_with (first | (go_at_call 351; refine (sort_any HR.out (by simp) (by omega)).mono ?_; rintro e w5 ⟨d', rfl, hd1, hd2, hd3, hd4, hd5⟩))
    go_end0
    have hlen : d'.toList.length = l.length := by simp [hd2]
    refine ⟨d'.toList, [g], rfl, .inr ⟨g, c, by rw [hlen], h1, h2, by omega, by simpa using hd1⟩, by simpa using hd3, sorted_list hd2 (hd4 (by omega)), ?_, hd5⟩
    intro k hk
    simp at hk
    subst hk
    refine ⟨h1, h2, _, HR.out, ?_⟩
    intro u hu
    simp at hu
    obtain ⟨a, _, rfl⟩ := hu
    exact ⟨a, rfl⟩
end Go.Proofs.YtalhhplphlobbaaGreat
namespace Go.Proofs.YtalhhplphlobbaaGreat
open Go.RowKit
set_option maxRecDepth 100000 in
set_option maxHeartbeats 2000000 in
theorem same_any {w : World} {v1 v2 : Value} {xs : List Int} (h1 : Sl [] w v1 (U64s xs)) (h2 : Sl [] w v2 (U64s xs)) (hl : xs.length ≤ 1000) :
    Calls Tryz.prog 411 #[v1, v2] w fun y w' => y = .returned (.bool true) ∧ Nxt w w' := by
  obtain ⟨A1, n1, k1, rfl, hn1, hc1, hz1, hA1⟩ := h1
  obtain ⟨A2, n2, k2, rfl, hn2, hc2, hz2, hA2⟩ := h2
  simp only [U64s, List.length_map] at hn1 hn2
  subst hn1
  subst hn2
  go_enter Tryz.func411, Tryz.ntmps411
  go_wp2_with fail
  go_loopw [13] (fun i wr => ∃ k : Nat, k ≤ xs.length ∧ i = .int .i64 k ∧ Chg [] w wr) (fun i _ => xs.length - (intOf i).toNat)
  case atStart => exact ⟨0, by omega, rfl, Chg.refl _ _⟩
  case round =>
    obtain ⟨k, hk, rfl, hcw⟩ := hrel
    by_cases hlt : k < xs.length
    · obtain ⟨x, hx⟩ : ∃ x, xs[k]? = some x := ⟨xs[k], List.getElem?_eq_getElem hlt⟩
      rcases A1 with _ | ⟨b1, o1, s1⟩
      · have := hz1 rfl
        omega
      rcases A2 with _ | ⟨b2, o2, s2⟩
      · have := hz2 rfl
        omega
      obtain ⟨rfl, _, _, q1⟩ := hA1 b1 o1 s1 rfl
      obtain ⟨rfl, _, _, q2⟩ := hA2 b2 o2 s2 rfl
      have d1 := hcw.at0 (q1 k (.int .u64 x) (by simp [U64s, hx]))
      have d2 := hcw.at0 (q2 k (.int .u64 x) (by simp [U64s, hx]))
      have i1 : (0 : Int) ≤ k ∧ (k : Int) < xs.length := by omega
      have HCW := Lib.hid hcw
      clear hx q1 q2 hcw hA1 hA2
      go_wp2_with fail
      go_region
      go_wp2_with fail
      exact ⟨⟨k + 1, by omega, by simp, HCW.out.drew⟩, by simp [intOf]; omega⟩
    · have hkn : k = xs.length := by omega
      subst hkn
      go_wp2_with fail
      go_ret
      exact ⟨rfl, ⟨hcw⟩⟩
end Go.Proofs.YtalhhplphlobbaaGreat
