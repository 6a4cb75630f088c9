/- newRaft. Conditions: sizes. -/
import Derived.Test.YtalhhplphlobbaaGreatP19
import Derived.Test.YtalhhplphlobbaaGreatP20
import Derived.Test.YtalhhplphlobbaaGreatP21
set_option linter.unusedVariables false
set_option linter.unusedSimpArgs false
namespace Go.Proofs.YtalhhplphlobbaaGreat
open Go.RowKit
theorem cfgHeld {w : World} {cb : Nat} {c : CfgS} {zA : Option Addr} {zn zc : Nat} (hz : c.zd = .slice zA zn zc) (h : CfgAt w cb c) : (w).cell? ⟨cb, 0, none⟩ = some (.int .u64 c.id) ∧ (w).cell? ⟨cb, 6, none⟩ = some (.int .u64 c.msz) ∧ (w).cell? ⟨cb, 8, none⟩ = some (.int .u64 c.mun) ∧ (w).cell? ⟨cb, 9, none⟩ = some (.int .i64 c.inf) ∧ (w).cell? ⟨cb, 10, none⟩ = some (.int .u64 c.mib) ∧ (w).cell? ⟨cb, 1, none⟩ = some (.int .i64 c.et) ∧ (w).cell? ⟨cb, 2, none⟩ = some (.int .i64 c.ht) ∧ (w).cell? ⟨cb, 17, none⟩ = some (.slice zA zn zc) ∧ (w).cell? ⟨cb, 11, none⟩ = some (.bool c.cq) ∧ (w).cell? ⟨cb, 12, none⟩ = some (.bool c.pv) ∧ (w).cell? ⟨cb, 13, none⟩ = some (.int .i64 c.opt) ∧ (w).cell? ⟨cb, 14, none⟩ = some (.bool c.dpf) ∧ (w).cell? ⟨cb, 15, none⟩ = some (.bool c.dcv) ∧ (w).cell? ⟨cb, 16, none⟩ = some (.bool c.sdr) :=
  ⟨CfgAt.cell h 0 _ rfl, CfgAt.cell h 6 _ rfl, CfgAt.cell h 8 _ rfl, CfgAt.cell h 9 _ rfl, CfgAt.cell h 10 _ rfl, CfgAt.cell h 1 _ rfl, CfgAt.cell h 2 _ rfl, by rw [← hz]; exact CfgAt.cell h 17 _ rfl, CfgAt.cell h 11 _ rfl, CfgAt.cell h 12 _ rfl, CfgAt.cell h 13 _ rfl, CfgAt.cell h 14 _ rfl, CfgAt.cell h 15 _ rfl, CfgAt.cell h 16 _ rfl⟩
theorem cfgHeld2 {w : World} {cb : Nat} {c : CfgS} (h : CfgAt w cb c) : (w).cell? ⟨cb, 3, none⟩ = some (.iface 137 (.pointer (some ⟨c.ms, 0, none⟩))) ∧ (w).cell? ⟨cb, 7, none⟩ = some (.int .u64 c.mco) := ⟨CfgAt.cell h 3 _ rfl, CfgAt.cell h 7 _ rfl⟩
/-- A raft as it is made, before it takes its configuration. -/
def raft0 (c : CfgS) (rl a b cc ro : Nat) : RaftS := { id := c.id, term := 0, vote := 0, rs := .slice none 0 0, rl := rl, mms := c.msz, mus := c.mun, v0 := .map (some a), v1 := .map none, auto := false, lrn := .map none, lnx := .map none, prog := .map (some b), votes := .map (some cc), mif := c.inf, mib := c.mib, state := 0, isL := false, msgs := .slice none 0 0, msga := .slice none 0 0, lead := 0, ltr := 0, pci := 0, dcv := c.dcv, unc := 0, ro := .pointer (some ⟨ro, 0, none⟩), ee := 0, he := 0, cq := c.cq, pv := c.pv, ht := c.ht, et := c.et, ret := 0, dpf := c.dpf, sdr := c.sdr, tick := .nilFunc, step := .nilFunc, pri := .slice none 0 0, zd := c.zd, zn := 0 }
theorem rbHeld {w : World} {rb lid rl ta tb tc rob : Nat} {c : CfgS} {t li : Int} (h : RaftAt w rb (raft0 c rl ta tb tc rob)) (hb : Blk w lid 365 #[.int .u64 t, .int .u64 li]) : (w).cell? ⟨rb, 7, none⟩ = some (.map (some ta)) ∧ (w).cell? ⟨rb, 8, none⟩ = some (.map none) ∧ (w).cell? ⟨rb, 9, none⟩ = some (.bool false) ∧ (w).cell? ⟨rb, 10, none⟩ = some (.map none) ∧ (w).cell? ⟨rb, 11, none⟩ = some (.map none) ∧ (w).cell? ⟨rb, 12, none⟩ = some (.map (some tb)) ∧ (w).cell? ⟨rb, 13, none⟩ = some (.map (some tc)) ∧ (w).cell? ⟨rb, 14, none⟩ = some (.int .i64 c.inf) ∧ (w).cell? ⟨rb, 15, none⟩ = some (.int .u64 c.mib) ∧ (w).cell? ⟨lid, 1, none⟩ = some (.int .u64 li) :=
  ⟨RaftAt.cell h 7 _ rfl, RaftAt.cell h 8 _ rfl, RaftAt.cell h 9 _ rfl, RaftAt.cell h 10 _ rfl, RaftAt.cell h 11 _ rfl, RaftAt.cell h 12 _ rfl, RaftAt.cell h 13 _ rfl, RaftAt.cell h 14 _ rfl, RaftAt.cell h 15 _ rfl, by rw [hb.cell 1]; rfl⟩
theorem chg5 (w : World) (b : Nat) (u0 u1 u2 u3 u4 : Value) : Chg [b] w (((((w.setCell ⟨b, 0, none⟩ u0).setCell ⟨b, 1, none⟩ u1).setCell ⟨b, 2, none⟩ u2).setCell ⟨b, 3, none⟩ u3).setCell ⟨b, 4, none⟩ u4) := (((((Chg.refl _ _).setCell (.inr (by simp)) _).setCell (.inr (by simp)) _).setCell (.inr (by simp)) _).setCell (.inr (by simp)) _).setCell (.inr (by simp)) _
theorem blk5 {w : World} {b : Nat} {t : TypeId} {a0 a1 a2 a3 a4 : Value} (h : Blk w b t #[a0, a1, a2, a3, a4]) (u0 u1 u2 u3 u4 : Value) : Blk (((((w.setCell ⟨b, 0, none⟩ u0).setCell ⟨b, 1, none⟩ u1).setCell ⟨b, 2, none⟩ u2).setCell ⟨b, 3, none⟩ u3).setCell ⟨b, 4, none⟩ u4) b t #[u0, u1, u2, u3, u4] := by
  have := ((((h.set_ 0 u0).set_ 1 u1).set_ 2 u2).set_ 3 u3).set_ 4 u4
  simpa using this
theorem rbHeld5 {w : World} {rb lid rl ta tb tc rob b : Nat} {c : CfgS} {t li : Int} {u0 u1 u2 u3 u4 : Value} (h : RaftAt w rb (raft0 c rl ta tb tc rob)) (hb : Blk w lid 365 #[.int .u64 t, .int .u64 li]) (h1 : rb ∉ [b]) (h2 : lid ∉ [b]) : ((((((w.setCell ⟨b, 0, none⟩ u0).setCell ⟨b, 1, none⟩ u1).setCell ⟨b, 2, none⟩ u2).setCell ⟨b, 3, none⟩ u3).setCell ⟨b, 4, none⟩ u4)).cell? ⟨rb, 7, none⟩ = some (.map (some ta)) ∧ ((((((w.setCell ⟨b, 0, none⟩ u0).setCell ⟨b, 1, none⟩ u1).setCell ⟨b, 2, none⟩ u2).setCell ⟨b, 3, none⟩ u3).setCell ⟨b, 4, none⟩ u4)).cell? ⟨rb, 8, none⟩ = some (.map none) ∧ ((((((w.setCell ⟨b, 0, none⟩ u0).setCell ⟨b, 1, none⟩ u1).setCell ⟨b, 2, none⟩ u2).setCell ⟨b, 3, none⟩ u3).setCell ⟨b, 4, none⟩ u4)).cell? ⟨rb, 9, none⟩ = some (.bool false) ∧ ((((((w.setCell ⟨b, 0, none⟩ u0).setCell ⟨b, 1, none⟩ u1).setCell ⟨b, 2, none⟩ u2).setCell ⟨b, 3, none⟩ u3).setCell ⟨b, 4, none⟩ u4)).cell? ⟨rb, 10, none⟩ = some (.map none) ∧ ((((((w.setCell ⟨b, 0, none⟩ u0).setCell ⟨b, 1, none⟩ u1).setCell ⟨b, 2, none⟩ u2).setCell ⟨b, 3, none⟩ u3).setCell ⟨b, 4, none⟩ u4)).cell? ⟨rb, 11, none⟩ = some (.map none) ∧ ((((((w.setCell ⟨b, 0, none⟩ u0).setCell ⟨b, 1, none⟩ u1).setCell ⟨b, 2, none⟩ u2).setCell ⟨b, 3, none⟩ u3).setCell ⟨b, 4, none⟩ u4)).cell? ⟨rb, 12, none⟩ = some (.map (some tb)) ∧ ((((((w.setCell ⟨b, 0, none⟩ u0).setCell ⟨b, 1, none⟩ u1).setCell ⟨b, 2, none⟩ u2).setCell ⟨b, 3, none⟩ u3).setCell ⟨b, 4, none⟩ u4)).cell? ⟨rb, 13, none⟩ = some (.map (some tc)) ∧ ((((((w.setCell ⟨b, 0, none⟩ u0).setCell ⟨b, 1, none⟩ u1).setCell ⟨b, 2, none⟩ u2).setCell ⟨b, 3, none⟩ u3).setCell ⟨b, 4, none⟩ u4)).cell? ⟨rb, 14, none⟩ = some (.int .i64 c.inf) ∧ ((((((w.setCell ⟨b, 0, none⟩ u0).setCell ⟨b, 1, none⟩ u1).setCell ⟨b, 2, none⟩ u2).setCell ⟨b, 3, none⟩ u3).setCell ⟨b, 4, none⟩ u4)).cell? ⟨rb, 15, none⟩ = some (.int .u64 c.mib) ∧ ((((((w.setCell ⟨b, 0, none⟩ u0).setCell ⟨b, 1, none⟩ u1).setCell ⟨b, 2, none⟩ u2).setCell ⟨b, 3, none⟩ u3).setCell ⟨b, 4, none⟩ u4)).cell? ⟨lid, 1, none⟩ = some (.int .u64 li) :=
  rbHeld (h.chg (chg5 w b u0 u1 u2 u3 u4) h1) (hb.chg (chg5 w b u0 u1 u2 u3 u4) h2)
/-- The build of a raft, under a name that the walk does not unfold. -/
def bld296 (parts : Array (Nat × Value)) : Sem Value := Instr.build 296 parts
theorem bld296_eq (parts : Array (Nat × Value)) : Instr.build 296 parts = bld296 parts := rfl
set_option maxRecDepth 100000 in
theorem raftBuild (w : World) (id et ht msz mun inf mib : Int) (rl ro a b c : Nat) (cq pv dpf dcv sdr : Bool) (A : Option Addr) (n m : Nat) :
  (bld296 #[(0, .int .u64 id), (12, .int .u64 0), (9, .bool false), (4, .pointer (some ⟨rl, 0, none⟩)), (5, .int .u64 msz), (6, .int .u64 mun), (7, .agg #[.map (some a), .map none, .bool false, .map none, .map none, .map (some b), .map (some c), .int .i64 inf, .int .u64 mib]), (23, .int .i64 et), (22, .int .i64 ht), (30, .slice A n m), (20, .bool cq), (21, .bool pv), (17, .pointer (some ⟨ro, 0, none⟩)), (25, .bool dpf), (15, .bool dcv), (26, .bool sdr)]).run Tryz.prog w =
   .ok (.agg #[.int .u64 id, .int .u64 0, .int .u64 0, .slice none 0 0, .pointer (some ⟨rl, 0, none⟩), .int .u64 msz, .int .u64 mun, .map (some a), .map none, .bool false, .map none, .map none, .map (some b), .map (some c), .int .i64 inf, .int .u64 mib, .int .u64 0, .bool false, .slice none 0 0, .slice none 0 0, .int .u64 0, .int .u64 0, .int .u64 0, .bool dcv, .int .u64 0, .pointer (some ⟨ro, 0, none⟩), .int .i64 0, .int .i64 0, .bool cq, .bool pv, .int .i64 ht, .int .i64 et, .int .i64 0, .bool dpf, .bool sdr, .nilFunc, .nilFunc, .slice none 0 0, .slice A n m, .int .i64 0]) w := by
  kernel_rfl
attribute [local go_sem ↓] bld296_eq
attribute [local go_sem] raftBuild

theorem TrkAt.chgBs {w w' : World} {r0 r2 : Option Nat} {bp : Nat} {V L : List Int} {f : Int → Option PrS} {p : Int → Nat} {M : List Nat} (h : TrkAt w r0 r2 bp V L f p) (hc : Chg M w w') (hM : ∀ x ∈ M, ∃ t cs, Blk w x t cs ∧ t ≠ 461) : TrkAt w' r0 r2 bp V L f p := by
  have nmap : ∀ {b : Nat} {DD : DataW Value}, MapAt w b DD → b ∉ M := fun hm hin => by
    obtain ⟨t, cs, hb, _⟩ := hM _ hin
    exact hm.ne_blk hb rfl
  have nset : ∀ {v : Value} {S : List Int}, SetAt w v S → ∀ b, v = .map (some b) → b ∉ M := fun hs b hb => by
    obtain ⟨_, ⟨rfl, _⟩ | ⟨b', DD, rfl, hm, _⟩⟩ := hs
    · cases hb
    · cases hb
      exact nmap hm
  obtain ⟨D, hD, _⟩ := h.prg.map
  refine h.chg hc (fun k hk => nset h.sv k (by rw [hk])) (fun k hk => nset h.sl k (by rw [hk])) (nmap hD) (fun k s hs hin => ?_)
  obtain ⟨t, cs, hb, ht⟩ := hM _ hin
  exact (h.prg.blk k s hs).ne hb (Ne.symm ht) rfl
/-- A raft as newRaft leaves it. -/
def newS (c : CfgS) (rb rl x0 : Nat) (x2 : Option Nat) (bt bv ro : Nat) (L : List Int) (t vo : Int) (D : List Int) : RaftS := { id := c.id, term := t, vote := vo, rs := .slice none 0 0, rl := rl, mms := c.msz, mus := c.mun, v0 := .map (some x0), v1 := .map none, auto := false, lrn := .map x2, lnx := .map none, prog := .map (some bt), votes := .map (some bv), mif := c.inf, mib := c.mib, state := 0, isL := decide (c.id ∈ L), msgs := .slice none 0 0, msga := .slice none 0 0, lead := 0, ltr := 0, pci := 0, dcv := c.dcv, unc := 0, ro := .pointer (some ⟨ro, 0, none⟩), ee := 0, he := 0, cq := c.cq, pv := c.pv, ht := c.ht, et := c.et, ret := c.et + zdraw D 0, dpf := c.dpf, sdr := c.sdr, tick := .func (.func 281) #[.pointer (some ⟨rb, 0, none⟩)] #[], step := .func (.func 279) #[] #[], pri := .slice none 0 0, zd := c.zd, zn := zstep D 0 }
/-- What was applied when a node begins. -/
def apOf (e : Ent) (c : CfgS) : Int := if c.apd = 0 then e.i else c.apd
structure NewTo (w : World) (cb : Nat) (c : CfgS) (hv sv ev : Value) (e : Ent) (r : List Ent) (V L : List Int) (t vo cm : Int) (D : List Int) (w' : World) (rb rl bt x0 : Nat) (x2 : Option Nat) (bv ro mo : Nat) (bi : Int → Nat) (f : Int → Option PrS) (p : Int → Nat) : Prop where
  ra : RaftAt w' rb (newS c rb rl x0 x2 bt bv ro L t vo D)
  la : RlAt w' rl c.ms ⟨.pointer none, .slice none 0 0, e.i + r.length + 1, false, e.i + r.length + 1, cm, apOf e c, apOf e c, c.mco, 0, false⟩
  ma : MsAt w' c.ms hv sv ev
  oa : Blk w' ro 449 #[.int .i64 c.opt, .map (some mo), .slice none 0 0, .int .u64 0]
  va : MapAt w' bv (.map [])
  ta : TrkAt w' (some x0) x2 bt V L f p
  fa : ∀ k ∈ V ++ L, f k = some ⟨if k = c.id then e.i + r.length else 0, e.i + r.length + 1, 0, 0, 0, false, false, bi k, decide (k ∈ L)⟩
  ia : ∀ k ∈ V ++ L, w.heap.size ≤ bi k ∧ Blk w' (bi k) 509 #[.int .i64 0, .int .i64 0, .int .u64 0, .int .i64 c.inf, .int .u64 c.mib, .slice none 0 0]
  ja : ∀ k ∈ V ++ L, ∀ k' ∈ V ++ L, bi k = bi k' → k = k'
  cfg : CfgAt w' cb c
  lo : w.heap.size ≤ rb ∧ w.heap.size ≤ rl ∧ w.heap.size ≤ ro ∧ w.heap.size ≤ bv ∧ Fr w.heap.size f p
  ca : Chg [cb, c.ms] w w'
def NewPost (w : World) (cb : Nat) (c : CfgS) (hv sv ev : Value) (e : Ent) (r : List Ent) (V L : List Int) (t vo cm : Int) (D : List Int) (y : Ending) (w' : World) : Prop :=
  ∃ rb rl bt x0 x2 bv ro mo bi f p, y = .returned (.pointer (some ⟨rb, 0, none⟩)) ∧ NewTo w cb c hv sv ev e r V L t vo cm D w' rb rl bt x0 x2 bv ro mo bi f p
set_option maxRecDepth 100000 in
set_option maxHeartbeats 8000000 in
theorem newRaft_any {M : List Nat} {w : World} {cb : Nat} {c0 : CfgS} {hv sv ev : Value} {e : Ent} {r : List Ent} {V L : List Int} {t vo cm : Int} {d : ByteArray} {D : List Int}
    (h : CfgAt w cb c0) (h0 : 0 < c0.id) (h1 : c0.id < 4611686018427387904) (h2 : 0 < c0.ht) (h3 : c0.ht < c0.et) (h3b : c0.et < 1000000000) (h4 : 0 < c0.mco) (h5 : 0 < c0.inf) (h6 : c0.mib = 0) (h7 : c0.msz ≤ 18446744073709551615) (h8 : c0.opt = 1 → c0.cq = true)
    (hs : StAt M w c0.ms hv sv ev e r) (mcb : cb ∈ M) (hM : ∀ x ∈ M, x < w.heap.size) (hsn : SnapAt M w sv d e.i e.t ⟨V, L, [], [], false⟩) (hh : HardAt M w hv t vo cm) (ht : 0 < t) (hc0 : e.i ≤ cm) (hc1 : cm ≤ e.i + r.length)
    (ha : c0.apd = 0 ∨ e.i ≤ c0.apd ∧ c0.apd ≤ cm) (hn : (V ++ L).Nodup) (hV : V ≠ []) (hr : ∀ k ∈ V ++ L, 0 < k ∧ k < 2 ^ 64) (lV : V.length ≤ 12) (lL : L.length ≤ 12) (lK : (V ++ L).length ≤ 13)
    (hzd : Sl M w c0.zd (I64s D)) (hDl : D.length ≤ 1000) (hDn : ∀ x ∈ D, 0 ≤ x ∧ x < c0.et) :
    Calls Tryz.prog 208 #[.pointer (some ⟨cb, 0, none⟩)] w (NewPost w cb c0.valid hv sv ev e r V L t vo cm D) := by
  obtain ⟨hb, rfl⟩ : ∃ a, hv = .pointer a := by obtain ⟨b, _, _, _, rfl, _⟩ := hh; exact ⟨_, rfl⟩
  have ncm := hs.at_.ne h (by decide)
  have lcb := Blk.lt h
  have hq := validate_any h h0 h1 h2 h3 h4 h5 h6 h7 h8
  obtain ⟨c, hcE⟩ : ∃ c, c = c0.valid := ⟨_, rfl⟩
  rw [← hcE] at hq
  have ems : c0.ms = c.ms := by rw [hcE]; rfl
  have HQ := Lib.hid hq
  have HS := Lib.hid hs
  have HCE := Lib.hid hcE
  have HM := Lib.hid hM
  have HSN := Lib.hid hsn
  have HH := Lib.hid hh
  have HA := Lib.hid ha
  have HND := Lib.hid hn
  have HR := Lib.hid hr
  have HZD := Lib.hid hzd
  have HDN := Lib.hid hDn
  obtain ⟨zA, zn, zc, hzf⟩ := hzd.form
  have hzf2 : c.zd = .slice zA zn zc := by rw [hcE]; exact hzf
  have HZ := Lib.hid hzf2
  clear hzf hzf2
  rw [ems] at HS ncm
  have HEMS := Lib.hid ems
  clear h hs hcE hM hsn hh ha hn hr hzd hDn hq ems h6 h8
  go_enter Tryz.func208, Tryz.ntmps208
  go_wp2_with (first | (go_at_call 269; (with_reducible refine Calls.mono HQ.out ?_); rintro e1 w1 ⟨rfl, hcf, hc1'⟩))
  have HCF := Lib.hid hcf
  have HC1 := Lib.hid hc1'
  have HS1 := Lib.hid (HS.out.chg hc1' (by simpa using mcb) (by simpa using Ne.symm ncm))
  have hSA0 : (w1.drew).cell? ⟨cb, 3, none⟩ = some (.iface 137 (.pointer (some ⟨c.ms, 0, none⟩))) ∧ (w1.drew).cell? ⟨cb, 7, none⟩ = some (.int .u64 c.mco) := cfgHeld2 (Blk.drew hcf)
  have HSA0 := Lib.hid hSA0
  have HS1d := Lib.hid (HS1.out.nxt ⟨(Chg.refl _ w1).drew⟩)
  clear hcf hc1' hSA0 HQ
  go_region_held3 (fun wx => (wx).cell? ⟨cb, 3, none⟩ = some (.iface 137 (.pointer (some ⟨c.ms, 0, none⟩))) ∧ (wx).cell? ⟨cb, 7, none⟩ = some (.int .u64 c.mco))
    (first | with_reducible exact HSA0.out | with_reducible assumption)
    (first | (go_at_call 270; (with_reducible refine Calls.mono (newLog_any c.mco HS1d.out) ?_); rintro e1 w2 ⟨rl, rfl, hrl0, hrl, hs2, hc2⟩; have hSA1 := cfgHeld2 (HCF.out.chg ((Chg.refl _ _).drew.trans hc2) (by simpa using ncm)); have HRL := Lib.hid hrl; have HS2 := Lib.hid hs2; have HC2 := Lib.hid ((Chg.refl _ _).drew.trans hc2); clear hrl hs2 hc2))
  have hCF2 := HCF.out.chg HC2.out (by simpa using ncm)
  have hw2 : Chg [cb, c.ms] w w2 := (HC1.out.mono (by simp)).trans (HC2.out.mono (by simp))
  have hsn2 : SnapAt M w2 sv d e.i e.t ⟨V, L, [], [], false⟩ := HSN.out.chg hw2 (by simp; exact ⟨mcb, HS.out.mem⟩)
  have hIn := msInitial_any HS2.out.at_ HS.out.mem hsn2
  have HIN := Lib.hid hIn
  have HCF2 := Lib.hid hCF2
  have HW2 := Lib.hid hw2
  have k3 := hSA1.1
  clear hCF2 hw2 hsn2 hIn hSA1
  go_wp2_with (first | (go_at_call 502; (with_reducible refine Calls.mono HIN.out ?_); rintro e1 w3 ⟨b3, rfl, hcf3, hma3, hc3⟩; have HCS3 := Lib.hid hcf3; have HMA3 := Lib.hid hma3; have HC3 := Lib.hid hc3; clear hcf3 hma3 hc3 k3))
  have hCF3 := HCF2.out.chg HC3.out (by simpa using ncm)
  have hSB0 : (w3.drew).cell? ⟨cb, 0, none⟩ = some (.int .u64 c.id) ∧ (w3.drew).cell? ⟨cb, 6, none⟩ = some (.int .u64 c.msz) ∧ (w3.drew).cell? ⟨cb, 8, none⟩ = some (.int .u64 c.mun) ∧ (w3.drew).cell? ⟨cb, 9, none⟩ = some (.int .i64 c.inf) ∧ (w3.drew).cell? ⟨cb, 10, none⟩ = some (.int .u64 c.mib) ∧ (w3.drew).cell? ⟨cb, 1, none⟩ = some (.int .i64 c.et) ∧ (w3.drew).cell? ⟨cb, 2, none⟩ = some (.int .i64 c.ht) ∧ (w3.drew).cell? ⟨cb, 17, none⟩ = some (.slice zA zn zc) ∧ (w3.drew).cell? ⟨cb, 11, none⟩ = some (.bool c.cq) ∧ (w3.drew).cell? ⟨cb, 12, none⟩ = some (.bool c.pv) ∧ (w3.drew).cell? ⟨cb, 13, none⟩ = some (.int .i64 c.opt) ∧ (w3.drew).cell? ⟨cb, 14, none⟩ = some (.bool c.dpf) ∧ (w3.drew).cell? ⟨cb, 15, none⟩ = some (.bool c.dcv) ∧ (w3.drew).cell? ⟨cb, 16, none⟩ = some (.bool c.sdr) := cfgHeld HZ.out (Blk.drew hCF3)
  have HSB0 := Lib.hid hSB0
  have HCF3 := Lib.hid hCF3
  clear hSB0 hCF3 HCF HIN HS1d HSA0
  go_region_held3 (fun wx => (wx).cell? ⟨cb, 0, none⟩ = some (.int .u64 c.id) ∧ (wx).cell? ⟨cb, 6, none⟩ = some (.int .u64 c.msz) ∧ (wx).cell? ⟨cb, 8, none⟩ = some (.int .u64 c.mun) ∧ (wx).cell? ⟨cb, 9, none⟩ = some (.int .i64 c.inf) ∧ (wx).cell? ⟨cb, 10, none⟩ = some (.int .u64 c.mib) ∧ (wx).cell? ⟨cb, 1, none⟩ = some (.int .i64 c.et) ∧ (wx).cell? ⟨cb, 2, none⟩ = some (.int .i64 c.ht) ∧ (wx).cell? ⟨cb, 17, none⟩ = some (.slice zA zn zc) ∧ (wx).cell? ⟨cb, 11, none⟩ = some (.bool c.cq) ∧ (wx).cell? ⟨cb, 12, none⟩ = some (.bool c.pv) ∧ (wx).cell? ⟨cb, 13, none⟩ = some (.int .i64 c.opt) ∧ (wx).cell? ⟨cb, 14, none⟩ = some (.bool c.dpf) ∧ (wx).cell? ⟨cb, 15, none⟩ = some (.bool c.dcv) ∧ (wx).cell? ⟨cb, 16, none⟩ = some (.bool c.sdr))
    (first | with_reducible exact HSB0.out | with_reducible assumption | with_reducible exact HSB4.out _)
    (first | (go_at_call 271; (with_reducible refine Calls.mono (mkTrk_maps _ _ _) ?_); rintro e1 w4 ⟨ta, tb, tc, rfl, hta, htb, htab, hn4⟩; have hSB1 := cfgHeld HZ.out (HCF3.out.chg ((Chg.refl [] w3).drew.trans hn4.out) (by simp)); have HTA := Lib.hid hta; have HTB := Lib.hid htb; have HN4 := Lib.hid ((Chg.refl [] w3).drew.trans hn4.out); clear hta htb hn4) | (go_at_call 272; (with_reducible refine Calls.mono (newRO_any w4 _) ?_); rintro e1 w5 ⟨rob, rfl, hrob0, hrob, hn5⟩; have hSB2 := cfgHeld HZ.out (HCF3.out.chg (HN4.out.trans hn5.out) (by simp)); have HSB4 := Lib.hid (fun o : Obj => cfgHeld HZ.out (w := w5.alloc o) (Blk.alloc (HCF3.out.chg (HN4.out.trans hn5.out) (by simp)) o)); have HROB := Lib.hid hrob; have HN5 := Lib.hid hn5; clear hrob hn5))
  have hR0 : RaftAt (w5.alloc (.cells (raft0 c rl ta tb tc rob).cells 296)) w5.heap.size (raft0 c rl ta tb tc rob) := Blk.new w5 296 _
  have e0 : (raft0 c rl ta tb tc rob).cells = #[.int .u64 c.id, .int .u64 0, .int .u64 0, .slice none 0 0, .pointer (some ⟨rl, 0, none⟩), .int .u64 c.msz, .int .u64 c.mun, .map (some ta), .map none, .bool false, .map none, .map none, .map (some tb), .map (some tc), .int .i64 c.inf, .int .u64 c.mib, .int .u64 0, .bool false, .slice none 0 0, .slice none 0 0, .int .u64 0, .int .u64 0, .int .u64 0, .bool c.dcv, .int .u64 0, .pointer (some ⟨rob, 0, none⟩), .int .i64 0, .int .i64 0, .bool c.cq, .bool c.pv, .int .i64 c.ht, .int .i64 c.et, .int .i64 0, .bool c.dpf, .bool c.sdr, .nilFunc, .nilFunc, .slice none 0 0, .slice zA zn zc, .int .i64 0] := by rw [← HZ.out]; rfl
  rw [e0] at hR0
  clear e0
  obtain ⟨rb, hrbE⟩ : ∃ rb, rb = w5.heap.size := ⟨_, rfl⟩
  have hn6 : Nxt w5 (w5.alloc (.cells #[.int .u64 c.id, .int .u64 0, .int .u64 0, .slice none 0 0, .pointer (some ⟨rl, 0, none⟩), .int .u64 c.msz, .int .u64 c.mun, .map (some ta), .map none, .bool false, .map none, .map none, .map (some tb), .map (some tc), .int .i64 c.inf, .int .u64 c.mib, .int .u64 0, .bool false, .slice none 0 0, .slice none 0 0, .int .u64 0, .int .u64 0, .int .u64 0, .bool c.dcv, .int .u64 0, .pointer (some ⟨rob, 0, none⟩), .int .i64 0, .int .i64 0, .bool c.cq, .bool c.pv, .int .i64 c.ht, .int .i64 c.et, .int .i64 0, .bool c.dpf, .bool c.sdr, .nilFunc, .nilFunc, .slice none 0 0, .slice zA zn zc, .int .i64 0] 296)) := ⟨(Chg.refl _ _).alloc _⟩
  rw [← hrbE] at hR0 ⊢
  generalize w5.alloc (.cells #[.int .u64 c.id, .int .u64 0, .int .u64 0, .slice none 0 0, .pointer (some ⟨rl, 0, none⟩), .int .u64 c.msz, .int .u64 c.mun, .map (some ta), .map none, .bool false, .map none, .map none, .map (some tb), .map (some tc), .int .i64 c.inf, .int .u64 c.mib, .int .u64 0, .bool false, .slice none 0 0, .slice none 0 0, .int .u64 0, .int .u64 0, .int .u64 0, .bool c.dcv, .int .u64 0, .pointer (some ⟨rob, 0, none⟩), .int .i64 0, .int .i64 0, .bool c.cq, .bool c.pv, .int .i64 c.ht, .int .i64 c.et, .int .i64 0, .bool c.dpf, .bool c.sdr, .nilFunc, .nilFunc, .slice none 0 0, .slice zA zn zc, .int .i64 0] 296) = w6 at hR0 hn6 ⊢
  have hc36 : Chg [] w3 w6 := (HN4.out.trans HN5.out.out).trans hn6.out
  have hro6 := HROB.out.nxt hn6
  have hta6 := (HTA.out.nxt HN5.out).nxt hn6
  have htb6 := (HTB.out.nxt HN5.out).nxt hn6
  have z36 := HN4.out.size
  have z56 := HN5.out.out.size
  have hrb3 : w3.heap.size ≤ rb := by omega
  have hc26 : Chg [c.ms] w2 w6 := HC3.out.trans (hc36.mono (by simp))
  have hrl6 := HRL.out.chg hc26 (by simpa using HS2.out.at_.ne HRL.out (by decide))
  have hs6 : StAt M w6 c.ms (.pointer hb) sv ev e r := HS2.out.ms_ (HMA3.out.chg hc36 (by simp)) hc26
  have HR6 := Lib.hid hR0
  have HRO6 := Lib.hid hro6
  have HTR6 := Lib.hid (TrkAt.new hta6 htb6 htab)
  have HC36 := Lib.hid hc36
  have HC26 := Lib.hid hc26
  have HRL6 := Lib.hid hrl6
  have HS6 := Lib.hid hs6
  have c4 : w6.cell? ⟨rb, 4, none⟩ = some (.pointer (some ⟨rl, 0, none⟩)) := RaftAt.cell HR6.out 4 _ rfl
  clear hR0 hn6 hc36 hro6 hta6 htb6 z36 z56 hc26 hrl6 hs6 HTA HTB HN4 HN5 HROB hrob0 HSB0 HRL HMA3 HCF3 hrbE
  obtain ⟨xl, hxl⟩ : ∃ x, (e :: r)[r.length]? = some x := ⟨(e :: r)[r.length], List.getElem?_eq_getElem (by simp)⟩
  have hne6 : rl ≠ c.ms := HS6.out.at_.ne HRL6.out (by decide)
  have hLI := rlLastID_any xl HS6.out HRL6.out ⟨rfl, rfl⟩ hne6 rfl hxl
  have HLI := Lib.hid hLI
  clear hLI hxl
  go_wp2_with (first | (go_at_call 273; (with_reducible refine Calls.mono HLI.out ?_); rintro e1 w7 ⟨rfl, hrl7, hs7, hc7⟩; have HRL7 := Lib.hid hrl7; have HS7 := Lib.hid hs7; have HC7 := Lib.hid hc7; clear hrl7 hs7 hc7))
  obtain ⟨lid, hlidE⟩ : ∃ lid, lid = w7.heap.size := ⟨_, rfl⟩
  have hb8 := Blk.new w7 365 #[.int .u64 xl.t, .int .u64 (e.i + r.length)]
  have hn8 : Nxt w7 (w7.alloc (.cells #[.int .u64 xl.t, .int .u64 (e.i + r.length)] 365)) := ⟨(Chg.refl _ _).alloc _⟩
  rw [← hlidE] at hb8 ⊢
  generalize w7.alloc (.cells #[.int .u64 xl.t, .int .u64 (e.i + r.length)] 365) = w8 at hb8 hn8 ⊢
  have nrm6 : rb ≠ c.ms := HS6.out.at_.ne HR6.out (by decide)
  have hR8 := (HR6.out.chg HC7.out (by simpa using nrm6)).nxt hn8
  obtain ⟨_, _, _, _, _, _, hmsb⟩ := HS6.out.at_
  have hT8 := (HTR6.out.chgB hmsb (by decide) HC7.out).nxt hn8
  have hRO8 := (HRO6.out.chg HC7.out (by simpa using HS6.out.at_.ne HRO6.out (by decide))).nxt hn8
  have hrl8 := HRL7.out.nxt hn8
  have hs8 := HS7.out.nxt hn8
  have hc38 : Chg [c.ms] w3 w8 := ((HC36.out.mono (by simp)).trans HC7.out).trans (hn8.out.mono (by simp))
  have hcs8 : ConfAt [] w8 (.pointer (some ⟨b3, 0, none⟩)) V L [] [] false := (ConfAt.chg HCS3.out hc38 (by simpa using HS.out.mem)).more (by simp)
  have hSD0 : (w8.drew).cell? ⟨rb, 7, none⟩ = some (.map (some ta)) ∧ (w8.drew).cell? ⟨rb, 8, none⟩ = some (.map none) ∧ (w8.drew).cell? ⟨rb, 9, none⟩ = some (.bool false) ∧ (w8.drew).cell? ⟨rb, 10, none⟩ = some (.map none) ∧ (w8.drew).cell? ⟨rb, 11, none⟩ = some (.map none) ∧ (w8.drew).cell? ⟨rb, 12, none⟩ = some (.map (some tb)) ∧ (w8.drew).cell? ⟨rb, 13, none⟩ = some (.map (some tc)) ∧ (w8.drew).cell? ⟨rb, 14, none⟩ = some (.int .i64 c.inf) ∧ (w8.drew).cell? ⟨rb, 15, none⟩ = some (.int .u64 c.mib) ∧ (w8.drew).cell? ⟨lid, 1, none⟩ = some (.int .u64 (e.i + r.length)) := ⟨RaftAt.cell (Blk.drew hR8) 7 _ rfl, RaftAt.cell (Blk.drew hR8) 8 _ rfl, RaftAt.cell (Blk.drew hR8) 9 _ rfl, RaftAt.cell (Blk.drew hR8) 10 _ rfl, RaftAt.cell (Blk.drew hR8) 11 _ rfl, RaftAt.cell (Blk.drew hR8) 12 _ rfl, RaftAt.cell (Blk.drew hR8) 13 _ rfl, RaftAt.cell (Blk.drew hR8) 14 _ rfl, RaftAt.cell (Blk.drew hR8) 15 _ rfl, by rw [(Blk.drew hb8).cell 1]; rfl⟩
  have hlt8 : lid < w8.heap.size := hb8.lt
  have lV1 : V.length < 100 := by omega
  have lL1 : L.length < 100 := by omega
  have HSD0 := Lib.hid hSD0
  have hal8 : Nxt w8 (w8.alloc (.cells #[.map none, .map none, .bool false, .map none, .map none] 286)).drew := ⟨((Chg.refl _ _).alloc _).drew⟩
  have HAL8 := Lib.hid hal8
  have HRa := Lib.hid (hR8.nxt hal8)
  have HBa := Lib.hid (hb8.nxt hal8)
  have HTa := Lib.hid (hT8.nxt hal8)
  have HXa : Hid (Blk (w8.alloc (.cells #[.map none, .map none, .bool false, .map none, .map none] 286)).drew w8.heap.size 286 #[.map none, .map none, .bool false, .map none, .map none]) := Lib.hid (Blk.drew (Blk.new w8 286 _))
  have HCSa : Hid (ConfAt [] (w8.alloc (.cells #[.map none, .map none, .bool false, .map none, .map none] 286)).drew (.pointer (some ⟨b3, 0, none⟩)) V L [] [] false) := Lib.hid (ConfAt.chg0 hcs8 hal8.out)
  have HSDa := Lib.hid (rbHeld HRa.out HBa.out)
  have n8r : rb ∉ [w8.heap.size] := by have := Blk.lt hR8; simp; omega
  have n8l : lid ∉ [w8.heap.size] := by simp; omega
  have HR8 := Lib.hid hR8
  have HT8 := Lib.hid hT8
  have HT8d := Lib.hid (hT8.nxt ⟨(Chg.refl _ w8).drew⟩)
  have HCS8d := Lib.hid (ConfAt.chg (L := []) hcs8 (Chg.refl _ _).drew (by simp))
  have HB8 := Lib.hid hb8
  have HRO8 := Lib.hid hRO8
  have HRL8 := Lib.hid hrl8
  have HS8 := Lib.hid hs8
  have HC38 := Lib.hid hc38
  clear hb8 hn8 hR8 hmsb hT8 hRO8 hrl8 hs8 hc38 hcs8 hSD0 hal8 HLI HRL7 HS7 HC7 c4 hlidE HR6 HRO6 HTR6 HRL6 HS6 HC36
  go_region_held3 (fun wx => (wx).cell? ⟨rb, 7, none⟩ = some (.map (some ta)) ∧ (wx).cell? ⟨rb, 8, none⟩ = some (.map none) ∧ (wx).cell? ⟨rb, 9, none⟩ = some (.bool false) ∧ (wx).cell? ⟨rb, 10, none⟩ = some (.map none) ∧ (wx).cell? ⟨rb, 11, none⟩ = some (.map none) ∧ (wx).cell? ⟨rb, 12, none⟩ = some (.map (some tb)) ∧ (wx).cell? ⟨rb, 13, none⟩ = some (.map (some tc)) ∧ (wx).cell? ⟨rb, 14, none⟩ = some (.int .i64 c.inf) ∧ (wx).cell? ⟨rb, 15, none⟩ = some (.int .u64 c.mib) ∧ (wx).cell? ⟨lid, 1, none⟩ = some (.int .u64 (e.i + r.length)))
    (first | with_reducible exact HSD0.out | with_reducible exact HSDa.out | with_reducible assumption | with_reducible exact HSD4.out _ | with_reducible exact rbHeld5 HR9.out HB9.out n8r n8l)
    (first | (go_at_call 274; (with_reducible refine Calls.mono (restore_any HT8d.out HND.out hV HR.out lV1 lL1 HCS8d.out) ?_); rintro e1 w9 ⟨q0, q2, bt, f, p, rfl, ⟨hT9, hfr9⟩, hn9⟩; have HFR9 := Lib.hid hfr9; clear hfr9; have hn89 : Nxt w8 w9 := ⟨(Chg.refl [] w8).drew.trans hn9.out⟩; have hR9 := HR8.out.nxt hn89; have hB9 := HB8.out.nxt hn89; have hSD1 := rbHeld hR9 hB9; have hal : ∀ o : Obj, Nxt w9 (w9.alloc o) := fun o => ⟨(Chg.refl _ _).alloc o⟩; have HSD4 := Lib.hid (fun o : Obj => rbHeld (hR9.nxt (hal o)) (hB9.nxt (hal o))); have HR9 := Lib.hid hR9; have HB9 := Lib.hid hB9; have HT9 := Lib.hid hT9; have HN9 := Lib.hid hn89; clear hal hR9 hB9 hT9 hn9 hn89) | (go_at_call 274; (with_reducible refine Calls.mono (restore_any HTa.out HND.out hV HR.out lV1 lL1 HCSa.out) ?_); rintro e1 w9 ⟨q0, q2, bt, f, p, rfl, ⟨hT9, hfr9⟩, hn9⟩; have HFR9 := Lib.hid hfr9; clear hfr9; have hn89 : Nxt w8 w9 := ⟨HAL8.out.out.trans hn9.out⟩; have hR9 := HRa.out.nxt hn9; have hB9 := HBa.out.nxt hn9; have hX9 := HXa.out.nxt hn9; have HX9 := Lib.hid hX9; have u0 := (HX9.out).cell 0; have u1 := (HX9.out).cell 1; have u2 := (HX9.out).cell 2; have u3 := (HX9.out).cell 3; have u4 := (HX9.out).cell 4; simp at u0 u1 u2 u3 u4; have uf := (HX9.out).frozen; have ul := (HX9.out).lt; clear hX9; have hSD1 := rbHeld hR9 hB9; have hal : ∀ o : Obj, Nxt w9 (w9.alloc o) := fun o => ⟨(Chg.refl _ _).alloc o⟩; have HSD4 := Lib.hid (fun o : Obj => rbHeld (hR9.nxt (hal o)) (hB9.nxt (hal o))); have HR9 := Lib.hid hR9; have HB9 := Lib.hid hB9; have HT9 := Lib.hid hT9; have HN9 := Lib.hid hn89; clear hal hR9 hB9 hT9 hn9 hn89))
  · have hX10 : Blk (w9.alloc (.cells #[.map (some q0), .map none, .bool false, .map q2, .map none] 286)) w9.heap.size 286 #[.map (some q0), .map none, .bool false, .map q2, .map none] := Blk.new w9 286 _
    have hn9a : Nxt w9 (w9.alloc (.cells #[.map (some q0), .map none, .bool false, .map q2, .map none] 286)) := ⟨(Chg.refl _ _).alloc _⟩
    have hn10 : Nxt w8 (w9.alloc (.cells #[.map (some q0), .map none, .bool false, .map q2, .map none] 286)) := ⟨HN9.out.out.trans hn9a.out⟩
    have hT10 := HT9.out.nxt hn9a
    have HFRw : Hid (Fr w8.heap.size f p) := Lib.hid (fun j s hs => HFR9.out j s hs)
    obtain ⟨bX, hbX⟩ : ∃ bX, bX = w9.heap.size := ⟨_, rfl⟩
    generalize (w9.alloc (.cells #[.map (some q0), .map none, .bool false, .map q2, .map none] 286)) = w10 at hX10 hn9a hn10 hT10 ⊢
    rw [← hbX] at hX10
    (try rw [← hbX])
    clear hbX hn9a
    have hR10 := HR8.out.nxt hn10
    have hRO10 := HRO8.out.nxt hn10
    have hRL10 := HRL8.out.nxt hn10
    have hS10 := HS8.out.nxt hn10
    have hfr10 : Fr w.heap.size f p := fun j s hs => Nat.le_trans (Nat.le_trans HW2.out.size (Nat.le_trans HC3.out.size HC38.out.size)) (HFRw.out j s hs)
    have hc310 : Chg [c.ms] w3 w10 := HC38.out.trans (hn10.out.mono (by simp))
    clear HR9 HB9 HT9 HN9 HFR9 HSD4 HFRw hn10
    have HX10 := Lib.hid hX10
    have HT10 := Lib.hid hT10
    have HR10 := Lib.hid hR10
    have HRO10 := Lib.hid hRO10
    have HRL10 := Lib.hid hRL10
    have HS10 := Lib.hid hS10
    have HFR10 := Lib.hid hfr10
    have HC310 := Lib.hid hc310
    clear hX10 hT10 hR10 hRO10 hRL10 hS10 hfr10 hc310
    have x0 := (HX10.out).cell 0; have x1 := (HX10.out).cell 1; have x2 := (HX10.out).cell 2; have x3 := (HX10.out).cell 3; have x4 := (HX10.out).cell 4; simp at x0 x1 x2 x3 x4; have xf := (HX10.out).frozen; have xl := (HX10.out).lt
    have hst0 : (raft0 c rl ta tb tc rob).state ≠ 2 := by simp [raft0]
    have hidr : 0 ≤ (raft0 c rl ta tb tc rob).id ∧ (raft0 c rl ta tb tc rob).id < 2 ^ 64 := by simp only [raft0]; rw [HCE.out]; simp only [CfgS.valid]; omega
    have hSW := switch_any HR10.out hst0 HT10.out lV lL hidr
    have HSW := Lib.hid hSW
    clear hSW hst0 hidr
    go_wp2_with (first | (go_at_call 276; (with_reducible refine Calls.mono HSW.out ?_); rintro e1 w11 ⟨g11, xs, ys, rfl, hcf11, pxs, pys, _, _, hR11, hT11, hc11⟩; have HCF11 := Lib.hid hcf11; have PXS := Lib.hid pxs; have PYS := Lib.hid pys; have HR11 := Lib.hid hR11; have HT11 := Lib.hid hT11; have HC11 := Lib.hid hc11; clear hcf11 pxs pys hR11 hT11 hc11))
    have hw311 : Chg [c.ms, rb] w3 w11 := (HC310.out.mono (by simp)).trans (HC11.out.mono (by simp))
    have hT11w : Chg [cb, c.ms, rb] w w11 := ((HW2.out.mono (by simp)).trans (HC3.out.mono (by simp))).trans (hw311.mono (by simp))
    have zw1 := HC1.out.size
    have zw2 := HW2.out.size
    have zw3 := HC3.out.size
    have zrl : w.heap.size ≤ rl := by
      have z : w1.drew.heap.size = w1.heap.size := rfl
      omega
    have zrb : w.heap.size ≤ rb := by omega
    have hM2 : ∀ x ∈ rb :: rl :: M, x ∈ M ∨ w.heap.size ≤ x := by
      intro x hx
      simp only [List.mem_cons] at hx
      rcases hx with rfl | rfl | hx
      · exact .inr zrb
      · exact .inr zrl
      · exact .inl hx
    have hcb2 : cb ∈ rb :: rl :: M := by simp [mcb]
    have hms2 : c.ms ∈ rb :: rl :: M := by simp [HS.out.mem]
    have nrl10 : rl ∉ [rb] := by simpa using (Blk.ne HRL10.out HR10.out (by decide))
    have nmr10 : c.ms ∉ [rb] := by simpa using (Ne.symm nrm6)
    have hrl11 := HRL10.out.chg HC11.out nrl10
    have hro11 := HRO10.out.chg HC11.out (by simpa using (Blk.ne HRO10.out HR10.out (by decide)))
    have hma11 := HS10.out.at_.chg HC11.out nmr10
    have hs11 : StAt (rb :: rl :: M) w11 c.ms (.pointer hb) sv ev e r := HS.out.grow hM2 hms2 hma11 hT11w (by
      intro x hx
      simp only [List.mem_cons, List.not_mem_nil, or_false] at hx
      rcases hx with rfl | rfl | rfl
      · exact hcb2
      · exact hms2
      · simp)
    have hcs11 : ConfAt [] w11 (.pointer (some ⟨b3, 0, none⟩)) V L [] [] false := (ConfAt.chg (ConfAt.more (M' := rb :: M) HCS3.out (by intro x hx; simp only [List.mem_cons] at hx; rcases hx with rfl | hx; exact .inr hrb3; exact .inl hx)) hw311 (by intro x hx; simp only [List.mem_cons, List.not_mem_nil, or_false] at hx; rcases hx with rfl | rfl; simp [HS.out.mem]; simp)).more (by simp)
    have hcf11 : ConfAt [] w11 (.pointer (some ⟨g11, 0, none⟩)) xs ys [] [] false := HCF11.out.more (by simp)
    have hAS := assertEq_any hcs11 hcf11 PXS.out PYS.out lV lL
    have HAS := Lib.hid hAS
    have HRL11 := Lib.hid hrl11
    have HRO11 := Lib.hid hro11
    have HS11 := Lib.hid hs11
    have HTW11 := Lib.hid hT11w
    have HCB2 := Lib.hid hcb2
    have HMS2 := Lib.hid hms2
    have HM2 := Lib.hid hM2
    clear hw311 hT11w zw1 zw2 zw3 hM2 hcb2 hms2 hrl11 hro11 hma11 hs11 hcs11 hcf11 hAS
    go_wp2_with (first | (go_at_call 275; (with_reducible refine Calls.mono HAS.out ?_); rintro e1 w12 ⟨rfl, hn12⟩; have HN12 := Lib.hid hn12; clear hn12; have hh12 : HardAt (rb :: rl :: M) w12 (.pointer hb) t vo cm := (HH.out.more HM2.out).chg (HTW11.out.trans (HN12.out.out.mono (by simp))) (by intro x hx; simp only [List.mem_cons, List.not_mem_nil, or_false] at hx; rcases hx with rfl | rfl | rfl; exact HCB2.out; exact HMS2.out; simp); have HH12 := Lib.hid hh12; clear hh12) | (go_at_call 180; (with_reducible refine Calls.mono (hardEmpty_no HH12.out ht) ?_); rintro e1 w13 ⟨rfl, hn13⟩; have HN13 := Lib.hid hn13; clear hn13))
    have hn1113 : Nxt w11 w13 := ⟨HN12.out.out.trans HN13.out.out⟩
    have nrrl : rb ≠ rl := Blk.ne HR11.out HRL11.out (by decide)
    have hLS := loadState_any (M := rb :: rl :: M) (rb := rb) (rl := rl) (HR11.out.nxt hn1113) rfl (HRL11.out.nxt hn1113) ⟨rfl, rfl⟩ (HS11.out.nxt hn1113) (HardAt.chg HH12.out HN13.out.out (by simp)) nrm6 hne6 nrrl (by simp) (by simp) hc0 hc1
    have HLS := Lib.hid hLS
    clear hLS hn1113
    (go_at_call 277; (with_reducible refine Calls.mono HLS.out ?_); rintro e1 w14 ⟨rfl, hR14, hl14, hm14, hc14⟩)
    have ecb : c.apd = c0.apd := by rw [HCE.out]; rfl
    have ECB := Lib.hid ecb
    clear ecb
    have hcb14 : CfgAt w14 cb c := HCF2.out.chg (((HC3.out.mono (by simp)).trans (HC310.out.mono (by simp))).trans (((HC11.out.mono (by simp)).trans ((HN12.out.out.trans HN13.out.out).mono (by simp))).trans hc14)) (by simp; exact ⟨ncm, by omega, by omega⟩)
    have k4 : w14.cell? ⟨cb, 4, none⟩ = some (.int .u64 c.apd) := CfgAt.cell hcb14 4 _ rfl
    have HR14 := Lib.hid hR14
    have HL14 := Lib.hid hl14
    have HM14 := Lib.hid hm14
    have HC14 := Lib.hid hc14
    have HCB14 := Lib.hid hcb14
    have HLM := Lib.hid h4
    clear hR14 hl14 hm14 hc14 hcb14 HLS
    by_cases hap : c.apd = 0
    · have hap2 : ¬ 0 < c.apd := by omega
      obtain ⟨w15, hw15⟩ : ∃ w15, w15 = w14 := ⟨_, rfl⟩
      subst hw15
      have HR15 := HR14
      have HL15 := HL14
      have HM15 := HM14
      have HC1315 := HC14
      have HCF15 := HCB14
      have HAP : Hid (e.i = apOf e c) := Lib.hid (by simp [apOf, hap])

      have hTw15 : Chg [cb, c.ms, rb, rl] w w15 := ((HTW11.out.mono (by simp)).trans ((HN12.out.out.trans HN13.out.out).mono (by simp))).trans (HC1315.out.mono (by simp))
      have hfr := HFR10.out
      have hfk : ∀ k ∈ V ++ L, ∃ st, f k = some st := fun k hk => Option.isSome_iff_exists.1 ((HT11.out.dom k).2 (by simpa using hk))
      have hM3 : ∀ x ∈ (rb :: rl :: M) ++ (V ++ L).map p, x ∈ M ∨ w.heap.size ≤ x := by
        intro x hx
        rcases List.mem_append.1 hx with hx | hx
        · exact HM2.out x hx
        · obtain ⟨k, hk, rfl⟩ := List.mem_map.1 hx
          obtain ⟨st, hst⟩ := hfk k hk
          exact .inr (hfr k st hst)
      have hsub : ∀ x ∈ ([cb, c.ms, rb, rl] : List Nat), x ∈ (rb :: rl :: M) ++ (V ++ L).map p := by
        intro x hx
        refine List.mem_append_left _ ?_
        simp only [List.mem_cons, List.not_mem_nil, or_false] at hx
        rcases hx with rfl | rfl | rfl | rfl
        · exact HCB2.out
        · exact HMS2.out
        · simp
        · simp
      have hs15 : StAt ((rb :: rl :: M) ++ (V ++ L).map p) w15 c.ms (.pointer hb) sv ev e r := HS.out.grow hM3 (List.mem_append_left _ HMS2.out) HM15.out hTw15 hsub
      have hzd15 : Sl ((rb :: rl :: M) ++ (V ++ L).map p) w15 c.zd (I64s D) := by
        have z := (HZD.out.more hM3).chg hTw15 hsub
        rw [HCE.out]
        exact z
      have hbs : ∀ x ∈ ([c.ms, rb, rl] : List Nat), ∃ t cs, Blk w11 x t cs ∧ t ≠ 461 := by
        intro x hx
        simp only [List.mem_cons, List.not_mem_nil, or_false] at hx
        rcases hx with rfl | rfl | rfl
        · obtain ⟨_, _, _, _, _, _, hm⟩ := HS11.out.at_
          exact ⟨_, _, hm, by decide⟩
        · exact ⟨_, _, HR11.out, by decide⟩
        · exact ⟨_, _, HRL11.out, by decide⟩
      have hc1115 : Chg [c.ms, rb, rl] w11 w15 := ((HN12.out.out.trans HN13.out.out).mono (by simp)).trans HC1315.out
      have hT15 := HT11.out.chgBs hc1115 hbs
      have hro15 := HRO11.out.chg hc1115 (by
        have q1 := HS11.out.at_.ne HRO11.out (by decide)
        have q2 := Blk.ne HRO11.out HR11.out (by decide)
        have q3 := Blk.ne HRO11.out HRL11.out (by decide)
        simp
        exact ⟨q1, q2, q3⟩)
      have z2 : c.et = c0.et := by rw [HCE.out]; rfl
      have hDn2 : ∀ x ∈ D, 0 ≤ x ∧ x < c.et := fun x hx => by rw [z2]; exact HDN.out x hx
      have het0 : 0 < c.et := by omega
      have het1 : c.et < 1000000000 := by omega
      have hpm : ∀ k st, f k = some st → p k ∈ (rb :: rl :: M) ++ (V ++ L).map p := fun k st hk => by
        refine List.mem_append_right _ (List.mem_map.2 ⟨k, ?_, rfl⟩)
        have z := (HT11.out.dom k).1 (by rw [hk]; rfl)
        simpa using z
      have hFW := follow_any (M := (rb :: rl :: M) ++ (V ++ L).map p) (term := t) (lead := 0) (D := D) (zk := 0) HR15.out rfl HL15.out ⟨rfl, rfl⟩ hs15 hT15 HND.out rfl hzd15 rfl (by omega) hDl hDn2 het0 het1 rfl hro15 (by simp) hpm lK
      clear z2 hDn2 het0 het1 hpm
      have HFW := Lib.hid hFW
      have HFK := Lib.hid hfk
      have HTW15 := Lib.hid hTw15
      have k1 : w15.cell? ⟨rb, 1, none⟩ = some (.int .u64 t) := RaftAt.cell HR15.out 1 _ rfl
      clear hTw15 hfr hfk hM3 hsub hs15 hzd15 hbs hc1115 hT15 hro15 hFW
      go_wp2_with (first | (go_at_call 216; (with_reducible refine Calls.mono HFW.out ?_); rintro e1 w16 ⟨rfl, bv, ro', mo, bi, hrt⟩; have HRT := Lib.hid hrt; clear hrt))
      go_ret
      have z15 := HTW15.out.size
      have hca : Chg [cb, c.ms] w w16 := ((HTW15.out.mono (L' := cb :: c.ms :: rb :: rl :: (V ++ L).map p) (by simp)).trans (HRT.out.ca.mono (by intro x hx; simp only [List.mem_cons] at hx ⊢; rcases hx with h | h | h; exact .inr (.inl h); exact .inr (.inr (.inl h)); exact .inr (.inr (.inr (.inr h)))))).fresh (by
        intro x hx hlt
        simp only [List.mem_cons] at hx ⊢
        rcases hx with h | h | h | h | h
        · exact .inl h
        · exact .inr (.inl h)
        · omega
        · omega
        · obtain ⟨k, hk, rfl⟩ := List.mem_map.1 h
          obtain ⟨st, hst⟩ := HFK.out k hk
          have := HFR10.out k st hst
          omega)
      have hcf16 : CfgAt w16 cb c := HCF15.out.chg HRT.out.ca (by
        intro hx
        simp only [List.mem_cons] at hx
        rcases hx with h | h | h
        · exact ncm h
        · omega
        · obtain ⟨k, hk, h⟩ := List.mem_map.1 h
          obtain ⟨st, hst⟩ := HFK.out k hk
          have := HFR10.out k st hst
          omega)
      rw [← HCE.out]
      have hra := HRT.out.ra
      refine ⟨rb, rl, bt, q0, q2, bv, ro', mo, bi, _, p, rfl, ?_, ?_, HRT.out.sa.at_, HRT.out.oa, HRT.out.va, HRT.out.ta, ?_, ?_, ?_, hcf16, ⟨zrb, zrl, Nat.le_trans z15 HRT.out.ol, Nat.le_trans z15 HRT.out.vl, ?_⟩, hca⟩
      · simp only [RaftS.fol, RaftS.res, RaftS.conf, raft0, if_true] at hra
        exact hra
      · have z := HRT.out.la
        rw [← HAP.out]
        exact z
      · intro k hk
        obtain ⟨st, hst⟩ := HFK.out k hk
        have hil := HT11.out.lrn k st hst
        simp only [hst, Option.map_some, PrS.fresh, hil]
        simp only [decide_eq_true_eq]
        rfl
      · intro k hk
        obtain ⟨st, hst⟩ := HFK.out k hk
        have z := HRT.out.ia k st hst
        exact ⟨Nat.le_trans z15 z.1, z.2⟩
      · intro k hk k' hk' he
        obtain ⟨st, hst⟩ := HFK.out k hk
        obtain ⟨st', hst'⟩ := HFK.out k' hk'
        exact HRT.out.ja k k' st st' hst hst' he
      · intro k s hs
        obtain ⟨st, hst, _⟩ := Option.map_eq_some_iff.1 hs
        exact HFR10.out k st hst

    · have hge : e.i ≤ c.apd ∧ c.apd ≤ cm := by
        rcases HA.out with h | h
        · exact absurd (ECB.out.trans h) hap
        · rw [ECB.out]; exact h
      have hi0 := HS.out.i0
      have hap2 : 0 < c.apd := by omega
      have hmc : c.mco = c0.mco := by rw [HCE.out]; rfl
      have hRA := rlApplied_any c.apd 0 HL14.out (by simp; omega) (by simp; omega) (by simp) (by simp; omega) (by simp; omega)
      have HRA := Lib.hid hRA
      clear hRA hmc hi0
      go_wp2_with (first | (go_at_call 278; (with_reducible refine Calls.mono HRA.out ?_); rintro e1 w15 ⟨rfl, hl15, hc15⟩; have HL15 := Lib.hid hl15; have HC15 := Lib.hid hc15; clear hl15 hc15; have k1x : w15.cell? ⟨rb, 1, none⟩ = some (.int .u64 t) := RaftAt.cell (RaftAt.chg HR14.out HC15.out (by simpa using nrrl)) 1 _ rfl))
      have HR15 := Lib.hid (HR14.out.chg HC15.out (by simpa using nrrl))
      have HM15 := Lib.hid (HM14.out.chg HC15.out (by simpa using Ne.symm hne6))
      have HC1315 : Hid (Chg [c.ms, rb, rl] w13 w15) := Lib.hid (HC14.out.trans (HC15.out.mono (by simp)))
      have HCF15 := Lib.hid (HCB14.out.chg HC15.out (by simp; omega))
      have HAP : Hid (c.apd = apOf e c) := Lib.hid (by simp [apOf, hap])

      have hTw15 : Chg [cb, c.ms, rb, rl] w w15 := ((HTW11.out.mono (by simp)).trans ((HN12.out.out.trans HN13.out.out).mono (by simp))).trans (HC1315.out.mono (by simp))
      have hfr := HFR10.out
      have hfk : ∀ k ∈ V ++ L, ∃ st, f k = some st := fun k hk => Option.isSome_iff_exists.1 ((HT11.out.dom k).2 (by simpa using hk))
      have hM3 : ∀ x ∈ (rb :: rl :: M) ++ (V ++ L).map p, x ∈ M ∨ w.heap.size ≤ x := by
        intro x hx
        rcases List.mem_append.1 hx with hx | hx
        · exact HM2.out x hx
        · obtain ⟨k, hk, rfl⟩ := List.mem_map.1 hx
          obtain ⟨st, hst⟩ := hfk k hk
          exact .inr (hfr k st hst)
      have hsub : ∀ x ∈ ([cb, c.ms, rb, rl] : List Nat), x ∈ (rb :: rl :: M) ++ (V ++ L).map p := by
        intro x hx
        refine List.mem_append_left _ ?_
        simp only [List.mem_cons, List.not_mem_nil, or_false] at hx
        rcases hx with rfl | rfl | rfl | rfl
        · exact HCB2.out
        · exact HMS2.out
        · simp
        · simp
      have hs15 : StAt ((rb :: rl :: M) ++ (V ++ L).map p) w15 c.ms (.pointer hb) sv ev e r := HS.out.grow hM3 (List.mem_append_left _ HMS2.out) HM15.out hTw15 hsub
      have hzd15 : Sl ((rb :: rl :: M) ++ (V ++ L).map p) w15 c.zd (I64s D) := by
        have z := (HZD.out.more hM3).chg hTw15 hsub
        rw [HCE.out]
        exact z
      have hbs : ∀ x ∈ ([c.ms, rb, rl] : List Nat), ∃ t cs, Blk w11 x t cs ∧ t ≠ 461 := by
        intro x hx
        simp only [List.mem_cons, List.not_mem_nil, or_false] at hx
        rcases hx with rfl | rfl | rfl
        · obtain ⟨_, _, _, _, _, _, hm⟩ := HS11.out.at_
          exact ⟨_, _, hm, by decide⟩
        · exact ⟨_, _, HR11.out, by decide⟩
        · exact ⟨_, _, HRL11.out, by decide⟩
      have hc1115 : Chg [c.ms, rb, rl] w11 w15 := ((HN12.out.out.trans HN13.out.out).mono (by simp)).trans HC1315.out
      have hT15 := HT11.out.chgBs hc1115 hbs
      have hro15 := HRO11.out.chg hc1115 (by
        have q1 := HS11.out.at_.ne HRO11.out (by decide)
        have q2 := Blk.ne HRO11.out HR11.out (by decide)
        have q3 := Blk.ne HRO11.out HRL11.out (by decide)
        simp
        exact ⟨q1, q2, q3⟩)
      have z2 : c.et = c0.et := by rw [HCE.out]; rfl
      have hDn2 : ∀ x ∈ D, 0 ≤ x ∧ x < c.et := fun x hx => by rw [z2]; exact HDN.out x hx
      have het0 : 0 < c.et := by omega
      have het1 : c.et < 1000000000 := by omega
      have hpm : ∀ k st, f k = some st → p k ∈ (rb :: rl :: M) ++ (V ++ L).map p := fun k st hk => by
        refine List.mem_append_right _ (List.mem_map.2 ⟨k, ?_, rfl⟩)
        have z := (HT11.out.dom k).1 (by rw [hk]; rfl)
        simpa using z
      have hFW := follow_any (M := (rb :: rl :: M) ++ (V ++ L).map p) (term := t) (lead := 0) (D := D) (zk := 0) HR15.out rfl HL15.out ⟨rfl, rfl⟩ hs15 hT15 HND.out rfl hzd15 rfl (by omega) hDl hDn2 het0 het1 rfl hro15 (by simp) hpm lK
      clear z2 hDn2 het0 het1 hpm
      have HFW := Lib.hid hFW
      have HFK := Lib.hid hfk
      have HTW15 := Lib.hid hTw15
      have k1 : w15.cell? ⟨rb, 1, none⟩ = some (.int .u64 t) := RaftAt.cell HR15.out 1 _ rfl
      clear hTw15 hfr hfk hM3 hsub hs15 hzd15 hbs hc1115 hT15 hro15 hFW
      (first | (go_at_call 216; (with_reducible refine Calls.mono HFW.out ?_); rintro e1 w16 ⟨rfl, bv, ro', mo, bi, hrt⟩; have HRT := Lib.hid hrt; clear hrt))
      go_wp2_with fail
      go_ret
      have z15 := HTW15.out.size
      have hca : Chg [cb, c.ms] w w16 := ((HTW15.out.mono (L' := cb :: c.ms :: rb :: rl :: (V ++ L).map p) (by simp)).trans (HRT.out.ca.mono (by intro x hx; simp only [List.mem_cons] at hx ⊢; rcases hx with h | h | h; exact .inr (.inl h); exact .inr (.inr (.inl h)); exact .inr (.inr (.inr (.inr h)))))).fresh (by
        intro x hx hlt
        simp only [List.mem_cons] at hx ⊢
        rcases hx with h | h | h | h | h
        · exact .inl h
        · exact .inr (.inl h)
        · omega
        · omega
        · obtain ⟨k, hk, rfl⟩ := List.mem_map.1 h
          obtain ⟨st, hst⟩ := HFK.out k hk
          have := HFR10.out k st hst
          omega)
      have hcf16 : CfgAt w16 cb c := HCF15.out.chg HRT.out.ca (by
        intro hx
        simp only [List.mem_cons] at hx
        rcases hx with h | h | h
        · exact ncm h
        · omega
        · obtain ⟨k, hk, h⟩ := List.mem_map.1 h
          obtain ⟨st, hst⟩ := HFK.out k hk
          have := HFR10.out k st hst
          omega)
      rw [← HCE.out]
      have hra := HRT.out.ra
      refine ⟨rb, rl, bt, q0, q2, bv, ro', mo, bi, _, p, rfl, ?_, ?_, HRT.out.sa.at_, HRT.out.oa, HRT.out.va, HRT.out.ta, ?_, ?_, ?_, hcf16, ⟨zrb, zrl, Nat.le_trans z15 HRT.out.ol, Nat.le_trans z15 HRT.out.vl, ?_⟩, hca⟩
      · simp only [RaftS.fol, RaftS.res, RaftS.conf, raft0, if_true] at hra
        exact hra
      · have z := HRT.out.la
        rw [← HAP.out]
        exact z
      · intro k hk
        obtain ⟨st, hst⟩ := HFK.out k hk
        have hil := HT11.out.lrn k st hst
        simp only [hst, Option.map_some, PrS.fresh, hil]
        simp only [decide_eq_true_eq]
        rfl
      · intro k hk
        obtain ⟨st, hst⟩ := HFK.out k hk
        have z := HRT.out.ia k st hst
        exact ⟨Nat.le_trans z15 z.1, z.2⟩
      · intro k hk k' hk' he
        obtain ⟨st, hst⟩ := HFK.out k hk
        obtain ⟨st', hst'⟩ := HFK.out k' hk'
        exact HRT.out.ja k k' st st' hst hst' he
      · intro k s hs
        obtain ⟨st, hst, _⟩ := Option.map_eq_some_iff.1 hs
        exact HFR10.out k st hst

  · have hX10 := blk5 HX9.out (.map (some q0)) (.map none) (.bool false) (.map q2) (.map none)
    have hc5 := chg5 w9 w8.heap.size (.map (some q0)) (.map none) (.bool false) (.map q2) (.map none)
    have hn10 : Nxt w8 (((((w9.setCell ⟨w8.heap.size, 0, none⟩ (.map (some q0))).setCell ⟨w8.heap.size, 1, none⟩ (.map none)).setCell ⟨w8.heap.size, 2, none⟩ (.bool false)).setCell ⟨w8.heap.size, 3, none⟩ (.map q2)).setCell ⟨w8.heap.size, 4, none⟩ (.map none)) := ⟨HN9.out.out.then hc5 (by simp)⟩
    have hT10 := HT9.out.chgB HX9.out (by decide) hc5
    have HFRw : Hid (Fr w8.heap.size f p) := Lib.hid (fun j s hs => Nat.le_trans HAL8.out.out.size (HFR9.out j s hs))
    obtain ⟨bX, hbX⟩ : ∃ bX, bX = w8.heap.size := ⟨_, rfl⟩
    generalize (((((w9.setCell ⟨w8.heap.size, 0, none⟩ (.map (some q0))).setCell ⟨w8.heap.size, 1, none⟩ (.map none)).setCell ⟨w8.heap.size, 2, none⟩ (.bool false)).setCell ⟨w8.heap.size, 3, none⟩ (.map q2)).setCell ⟨w8.heap.size, 4, none⟩ (.map none)) = w10 at hX10 hc5 hn10 hT10 ⊢
    rw [← hbX] at hX10
    (try rw [← hbX])
    clear hbX hc5 HX9 u0 u1 u2 u3 u4 uf ul
    have hR10 := HR8.out.nxt hn10
    have hRO10 := HRO8.out.nxt hn10
    have hRL10 := HRL8.out.nxt hn10
    have hS10 := HS8.out.nxt hn10
    have hfr10 : Fr w.heap.size f p := fun j s hs => Nat.le_trans (Nat.le_trans HW2.out.size (Nat.le_trans HC3.out.size HC38.out.size)) (HFRw.out j s hs)
    have hc310 : Chg [c.ms] w3 w10 := HC38.out.trans (hn10.out.mono (by simp))
    clear HR9 HB9 HT9 HN9 HFR9 HSD4 HFRw hn10
    have HX10 := Lib.hid hX10
    have HT10 := Lib.hid hT10
    have HR10 := Lib.hid hR10
    have HRO10 := Lib.hid hRO10
    have HRL10 := Lib.hid hRL10
    have HS10 := Lib.hid hS10
    have HFR10 := Lib.hid hfr10
    have HC310 := Lib.hid hc310
    clear hX10 hT10 hR10 hRO10 hRL10 hS10 hfr10 hc310
    have x0 := (HX10.out).cell 0; have x1 := (HX10.out).cell 1; have x2 := (HX10.out).cell 2; have x3 := (HX10.out).cell 3; have x4 := (HX10.out).cell 4; simp at x0 x1 x2 x3 x4; have xf := (HX10.out).frozen; have xl := (HX10.out).lt
    have hst0 : (raft0 c rl ta tb tc rob).state ≠ 2 := by simp [raft0]
    have hidr : 0 ≤ (raft0 c rl ta tb tc rob).id ∧ (raft0 c rl ta tb tc rob).id < 2 ^ 64 := by simp only [raft0]; rw [HCE.out]; simp only [CfgS.valid]; omega
    have hSW := switch_any HR10.out hst0 HT10.out lV lL hidr
    have HSW := Lib.hid hSW
    clear hSW hst0 hidr
    go_wp2_with (first | (go_at_call 276; (with_reducible refine Calls.mono HSW.out ?_); rintro e1 w11 ⟨g11, xs, ys, rfl, hcf11, pxs, pys, _, _, hR11, hT11, hc11⟩; have HCF11 := Lib.hid hcf11; have PXS := Lib.hid pxs; have PYS := Lib.hid pys; have HR11 := Lib.hid hR11; have HT11 := Lib.hid hT11; have HC11 := Lib.hid hc11; clear hcf11 pxs pys hR11 hT11 hc11))
    have hw311 : Chg [c.ms, rb] w3 w11 := (HC310.out.mono (by simp)).trans (HC11.out.mono (by simp))
    have hT11w : Chg [cb, c.ms, rb] w w11 := ((HW2.out.mono (by simp)).trans (HC3.out.mono (by simp))).trans (hw311.mono (by simp))
    have zw1 := HC1.out.size
    have zw2 := HW2.out.size
    have zw3 := HC3.out.size
    have zrl : w.heap.size ≤ rl := by
      have z : w1.drew.heap.size = w1.heap.size := rfl
      omega
    have zrb : w.heap.size ≤ rb := by omega
    have hM2 : ∀ x ∈ rb :: rl :: M, x ∈ M ∨ w.heap.size ≤ x := by
      intro x hx
      simp only [List.mem_cons] at hx
      rcases hx with rfl | rfl | hx
      · exact .inr zrb
      · exact .inr zrl
      · exact .inl hx
    have hcb2 : cb ∈ rb :: rl :: M := by simp [mcb]
    have hms2 : c.ms ∈ rb :: rl :: M := by simp [HS.out.mem]
    have nrl10 : rl ∉ [rb] := by simpa using (Blk.ne HRL10.out HR10.out (by decide))
    have nmr10 : c.ms ∉ [rb] := by simpa using (Ne.symm nrm6)
    have hrl11 := HRL10.out.chg HC11.out nrl10
    have hro11 := HRO10.out.chg HC11.out (by simpa using (Blk.ne HRO10.out HR10.out (by decide)))
    have hma11 := HS10.out.at_.chg HC11.out nmr10
    have hs11 : StAt (rb :: rl :: M) w11 c.ms (.pointer hb) sv ev e r := HS.out.grow hM2 hms2 hma11 hT11w (by
      intro x hx
      simp only [List.mem_cons, List.not_mem_nil, or_false] at hx
      rcases hx with rfl | rfl | rfl
      · exact hcb2
      · exact hms2
      · simp)
    have hcs11 : ConfAt [] w11 (.pointer (some ⟨b3, 0, none⟩)) V L [] [] false := (ConfAt.chg (ConfAt.more (M' := rb :: M) HCS3.out (by intro x hx; simp only [List.mem_cons] at hx; rcases hx with rfl | hx; exact .inr hrb3; exact .inl hx)) hw311 (by intro x hx; simp only [List.mem_cons, List.not_mem_nil, or_false] at hx; rcases hx with rfl | rfl; simp [HS.out.mem]; simp)).more (by simp)
    have hcf11 : ConfAt [] w11 (.pointer (some ⟨g11, 0, none⟩)) xs ys [] [] false := HCF11.out.more (by simp)
    have hAS := assertEq_any hcs11 hcf11 PXS.out PYS.out lV lL
    have HAS := Lib.hid hAS
    have HRL11 := Lib.hid hrl11
    have HRO11 := Lib.hid hro11
    have HS11 := Lib.hid hs11
    have HTW11 := Lib.hid hT11w
    have HCB2 := Lib.hid hcb2
    have HMS2 := Lib.hid hms2
    have HM2 := Lib.hid hM2
    clear hw311 hT11w zw1 zw2 zw3 hM2 hcb2 hms2 hrl11 hro11 hma11 hs11 hcs11 hcf11 hAS
    go_wp2_with (first | (go_at_call 275; (with_reducible refine Calls.mono HAS.out ?_); rintro e1 w12 ⟨rfl, hn12⟩; have HN12 := Lib.hid hn12; clear hn12; have hh12 : HardAt (rb :: rl :: M) w12 (.pointer hb) t vo cm := (HH.out.more HM2.out).chg (HTW11.out.trans (HN12.out.out.mono (by simp))) (by intro x hx; simp only [List.mem_cons, List.not_mem_nil, or_false] at hx; rcases hx with rfl | rfl | rfl; exact HCB2.out; exact HMS2.out; simp); have HH12 := Lib.hid hh12; clear hh12) | (go_at_call 180; (with_reducible refine Calls.mono (hardEmpty_no HH12.out ht) ?_); rintro e1 w13 ⟨rfl, hn13⟩; have HN13 := Lib.hid hn13; clear hn13))
    have hn1113 : Nxt w11 w13 := ⟨HN12.out.out.trans HN13.out.out⟩
    have nrrl : rb ≠ rl := Blk.ne HR11.out HRL11.out (by decide)
    have hLS := loadState_any (M := rb :: rl :: M) (rb := rb) (rl := rl) (HR11.out.nxt hn1113) rfl (HRL11.out.nxt hn1113) ⟨rfl, rfl⟩ (HS11.out.nxt hn1113) (HardAt.chg HH12.out HN13.out.out (by simp)) nrm6 hne6 nrrl (by simp) (by simp) hc0 hc1
    have HLS := Lib.hid hLS
    clear hLS hn1113
    (go_at_call 277; (with_reducible refine Calls.mono HLS.out ?_); rintro e1 w14 ⟨rfl, hR14, hl14, hm14, hc14⟩)
    have ecb : c.apd = c0.apd := by rw [HCE.out]; rfl
    have ECB := Lib.hid ecb
    clear ecb
    have hcb14 : CfgAt w14 cb c := HCF2.out.chg (((HC3.out.mono (by simp)).trans (HC310.out.mono (by simp))).trans (((HC11.out.mono (by simp)).trans ((HN12.out.out.trans HN13.out.out).mono (by simp))).trans hc14)) (by simp; exact ⟨ncm, by omega, by omega⟩)
    have k4 : w14.cell? ⟨cb, 4, none⟩ = some (.int .u64 c.apd) := CfgAt.cell hcb14 4 _ rfl
    have HR14 := Lib.hid hR14
    have HL14 := Lib.hid hl14
    have HM14 := Lib.hid hm14
    have HC14 := Lib.hid hc14
    have HCB14 := Lib.hid hcb14
    have HLM := Lib.hid h4
    clear hR14 hl14 hm14 hc14 hcb14 HLS
    by_cases hap : c.apd = 0
    · have hap2 : ¬ 0 < c.apd := by omega
      obtain ⟨w15, hw15⟩ : ∃ w15, w15 = w14 := ⟨_, rfl⟩
      subst hw15
      have HR15 := HR14
      have HL15 := HL14
      have HM15 := HM14
      have HC1315 := HC14
      have HCF15 := HCB14
      have HAP : Hid (e.i = apOf e c) := Lib.hid (by simp [apOf, hap])

      have hTw15 : Chg [cb, c.ms, rb, rl] w w15 := ((HTW11.out.mono (by simp)).trans ((HN12.out.out.trans HN13.out.out).mono (by simp))).trans (HC1315.out.mono (by simp))
      have hfr := HFR10.out
      have hfk : ∀ k ∈ V ++ L, ∃ st, f k = some st := fun k hk => Option.isSome_iff_exists.1 ((HT11.out.dom k).2 (by simpa using hk))
      have hM3 : ∀ x ∈ (rb :: rl :: M) ++ (V ++ L).map p, x ∈ M ∨ w.heap.size ≤ x := by
        intro x hx
        rcases List.mem_append.1 hx with hx | hx
        · exact HM2.out x hx
        · obtain ⟨k, hk, rfl⟩ := List.mem_map.1 hx
          obtain ⟨st, hst⟩ := hfk k hk
          exact .inr (hfr k st hst)
      have hsub : ∀ x ∈ ([cb, c.ms, rb, rl] : List Nat), x ∈ (rb :: rl :: M) ++ (V ++ L).map p := by
        intro x hx
        refine List.mem_append_left _ ?_
        simp only [List.mem_cons, List.not_mem_nil, or_false] at hx
        rcases hx with rfl | rfl | rfl | rfl
        · exact HCB2.out
        · exact HMS2.out
        · simp
        · simp
      have hs15 : StAt ((rb :: rl :: M) ++ (V ++ L).map p) w15 c.ms (.pointer hb) sv ev e r := HS.out.grow hM3 (List.mem_append_left _ HMS2.out) HM15.out hTw15 hsub
      have hzd15 : Sl ((rb :: rl :: M) ++ (V ++ L).map p) w15 c.zd (I64s D) := by
        have z := (HZD.out.more hM3).chg hTw15 hsub
        rw [HCE.out]
        exact z
      have hbs : ∀ x ∈ ([c.ms, rb, rl] : List Nat), ∃ t cs, Blk w11 x t cs ∧ t ≠ 461 := by
        intro x hx
        simp only [List.mem_cons, List.not_mem_nil, or_false] at hx
        rcases hx with rfl | rfl | rfl
        · obtain ⟨_, _, _, _, _, _, hm⟩ := HS11.out.at_
          exact ⟨_, _, hm, by decide⟩
        · exact ⟨_, _, HR11.out, by decide⟩
        · exact ⟨_, _, HRL11.out, by decide⟩
      have hc1115 : Chg [c.ms, rb, rl] w11 w15 := ((HN12.out.out.trans HN13.out.out).mono (by simp)).trans HC1315.out
      have hT15 := HT11.out.chgBs hc1115 hbs
      have hro15 := HRO11.out.chg hc1115 (by
        have q1 := HS11.out.at_.ne HRO11.out (by decide)
        have q2 := Blk.ne HRO11.out HR11.out (by decide)
        have q3 := Blk.ne HRO11.out HRL11.out (by decide)
        simp
        exact ⟨q1, q2, q3⟩)
      have z2 : c.et = c0.et := by rw [HCE.out]; rfl
      have hDn2 : ∀ x ∈ D, 0 ≤ x ∧ x < c.et := fun x hx => by rw [z2]; exact HDN.out x hx
      have het0 : 0 < c.et := by omega
      have het1 : c.et < 1000000000 := by omega
      have hpm : ∀ k st, f k = some st → p k ∈ (rb :: rl :: M) ++ (V ++ L).map p := fun k st hk => by
        refine List.mem_append_right _ (List.mem_map.2 ⟨k, ?_, rfl⟩)
        have z := (HT11.out.dom k).1 (by rw [hk]; rfl)
        simpa using z
      have hFW := follow_any (M := (rb :: rl :: M) ++ (V ++ L).map p) (term := t) (lead := 0) (D := D) (zk := 0) HR15.out rfl HL15.out ⟨rfl, rfl⟩ hs15 hT15 HND.out rfl hzd15 rfl (by omega) hDl hDn2 het0 het1 rfl hro15 (by simp) hpm lK
      clear z2 hDn2 het0 het1 hpm
      have HFW := Lib.hid hFW
      have HFK := Lib.hid hfk
      have HTW15 := Lib.hid hTw15
      have k1 : w15.cell? ⟨rb, 1, none⟩ = some (.int .u64 t) := RaftAt.cell HR15.out 1 _ rfl
      clear hTw15 hfr hfk hM3 hsub hs15 hzd15 hbs hc1115 hT15 hro15 hFW
      go_wp2_with (first | (go_at_call 216; (with_reducible refine Calls.mono HFW.out ?_); rintro e1 w16 ⟨rfl, bv, ro', mo, bi, hrt⟩; have HRT := Lib.hid hrt; clear hrt))
      go_ret
      have z15 := HTW15.out.size
      have hca : Chg [cb, c.ms] w w16 := ((HTW15.out.mono (L' := cb :: c.ms :: rb :: rl :: (V ++ L).map p) (by simp)).trans (HRT.out.ca.mono (by intro x hx; simp only [List.mem_cons] at hx ⊢; rcases hx with h | h | h; exact .inr (.inl h); exact .inr (.inr (.inl h)); exact .inr (.inr (.inr (.inr h)))))).fresh (by
        intro x hx hlt
        simp only [List.mem_cons] at hx ⊢
        rcases hx with h | h | h | h | h
        · exact .inl h
        · exact .inr (.inl h)
        · omega
        · omega
        · obtain ⟨k, hk, rfl⟩ := List.mem_map.1 h
          obtain ⟨st, hst⟩ := HFK.out k hk
          have := HFR10.out k st hst
          omega)
      have hcf16 : CfgAt w16 cb c := HCF15.out.chg HRT.out.ca (by
        intro hx
        simp only [List.mem_cons] at hx
        rcases hx with h | h | h
        · exact ncm h
        · omega
        · obtain ⟨k, hk, h⟩ := List.mem_map.1 h
          obtain ⟨st, hst⟩ := HFK.out k hk
          have := HFR10.out k st hst
          omega)
      rw [← HCE.out]
      have hra := HRT.out.ra
      refine ⟨rb, rl, bt, q0, q2, bv, ro', mo, bi, _, p, rfl, ?_, ?_, HRT.out.sa.at_, HRT.out.oa, HRT.out.va, HRT.out.ta, ?_, ?_, ?_, hcf16, ⟨zrb, zrl, Nat.le_trans z15 HRT.out.ol, Nat.le_trans z15 HRT.out.vl, ?_⟩, hca⟩
      · simp only [RaftS.fol, RaftS.res, RaftS.conf, raft0, if_true] at hra
        exact hra
      · have z := HRT.out.la
        rw [← HAP.out]
        exact z
      · intro k hk
        obtain ⟨st, hst⟩ := HFK.out k hk
        have hil := HT11.out.lrn k st hst
        simp only [hst, Option.map_some, PrS.fresh, hil]
        simp only [decide_eq_true_eq]
        rfl
      · intro k hk
        obtain ⟨st, hst⟩ := HFK.out k hk
        have z := HRT.out.ia k st hst
        exact ⟨Nat.le_trans z15 z.1, z.2⟩
      · intro k hk k' hk' he
        obtain ⟨st, hst⟩ := HFK.out k hk
        obtain ⟨st', hst'⟩ := HFK.out k' hk'
        exact HRT.out.ja k k' st st' hst hst' he
      · intro k s hs
        obtain ⟨st, hst, _⟩ := Option.map_eq_some_iff.1 hs
        exact HFR10.out k st hst

    · have hge : e.i ≤ c.apd ∧ c.apd ≤ cm := by
        rcases HA.out with h | h
        · exact absurd (ECB.out.trans h) hap
        · rw [ECB.out]; exact h
      have hi0 := HS.out.i0
      have hap2 : 0 < c.apd := by omega
      have hmc : c.mco = c0.mco := by rw [HCE.out]; rfl
      have hRA := rlApplied_any c.apd 0 HL14.out (by simp; omega) (by simp; omega) (by simp) (by simp; omega) (by simp; omega)
      have HRA := Lib.hid hRA
      clear hRA hmc hi0
      go_wp2_with (first | (go_at_call 278; (with_reducible refine Calls.mono HRA.out ?_); rintro e1 w15 ⟨rfl, hl15, hc15⟩; have HL15 := Lib.hid hl15; have HC15 := Lib.hid hc15; clear hl15 hc15; have k1x : w15.cell? ⟨rb, 1, none⟩ = some (.int .u64 t) := RaftAt.cell (RaftAt.chg HR14.out HC15.out (by simpa using nrrl)) 1 _ rfl))
      have HR15 := Lib.hid (HR14.out.chg HC15.out (by simpa using nrrl))
      have HM15 := Lib.hid (HM14.out.chg HC15.out (by simpa using Ne.symm hne6))
      have HC1315 : Hid (Chg [c.ms, rb, rl] w13 w15) := Lib.hid (HC14.out.trans (HC15.out.mono (by simp)))
      have HCF15 := Lib.hid (HCB14.out.chg HC15.out (by simp; omega))
      have HAP : Hid (c.apd = apOf e c) := Lib.hid (by simp [apOf, hap])

      have hTw15 : Chg [cb, c.ms, rb, rl] w w15 := ((HTW11.out.mono (by simp)).trans ((HN12.out.out.trans HN13.out.out).mono (by simp))).trans (HC1315.out.mono (by simp))
      have hfr := HFR10.out
      have hfk : ∀ k ∈ V ++ L, ∃ st, f k = some st := fun k hk => Option.isSome_iff_exists.1 ((HT11.out.dom k).2 (by simpa using hk))
      have hM3 : ∀ x ∈ (rb :: rl :: M) ++ (V ++ L).map p, x ∈ M ∨ w.heap.size ≤ x := by
        intro x hx
        rcases List.mem_append.1 hx with hx | hx
        · exact HM2.out x hx
        · obtain ⟨k, hk, rfl⟩ := List.mem_map.1 hx
          obtain ⟨st, hst⟩ := hfk k hk
          exact .inr (hfr k st hst)
      have hsub : ∀ x ∈ ([cb, c.ms, rb, rl] : List Nat), x ∈ (rb :: rl :: M) ++ (V ++ L).map p := by
        intro x hx
        refine List.mem_append_left _ ?_
        simp only [List.mem_cons, List.not_mem_nil, or_false] at hx
        rcases hx with rfl | rfl | rfl | rfl
        · exact HCB2.out
        · exact HMS2.out
        · simp
        · simp
      have hs15 : StAt ((rb :: rl :: M) ++ (V ++ L).map p) w15 c.ms (.pointer hb) sv ev e r := HS.out.grow hM3 (List.mem_append_left _ HMS2.out) HM15.out hTw15 hsub
      have hzd15 : Sl ((rb :: rl :: M) ++ (V ++ L).map p) w15 c.zd (I64s D) := by
        have z := (HZD.out.more hM3).chg hTw15 hsub
        rw [HCE.out]
        exact z
      have hbs : ∀ x ∈ ([c.ms, rb, rl] : List Nat), ∃ t cs, Blk w11 x t cs ∧ t ≠ 461 := by
        intro x hx
        simp only [List.mem_cons, List.not_mem_nil, or_false] at hx
        rcases hx with rfl | rfl | rfl
        · obtain ⟨_, _, _, _, _, _, hm⟩ := HS11.out.at_
          exact ⟨_, _, hm, by decide⟩
        · exact ⟨_, _, HR11.out, by decide⟩
        · exact ⟨_, _, HRL11.out, by decide⟩
      have hc1115 : Chg [c.ms, rb, rl] w11 w15 := ((HN12.out.out.trans HN13.out.out).mono (by simp)).trans HC1315.out
      have hT15 := HT11.out.chgBs hc1115 hbs
      have hro15 := HRO11.out.chg hc1115 (by
        have q1 := HS11.out.at_.ne HRO11.out (by decide)
        have q2 := Blk.ne HRO11.out HR11.out (by decide)
        have q3 := Blk.ne HRO11.out HRL11.out (by decide)
        simp
        exact ⟨q1, q2, q3⟩)
      have z2 : c.et = c0.et := by rw [HCE.out]; rfl
      have hDn2 : ∀ x ∈ D, 0 ≤ x ∧ x < c.et := fun x hx => by rw [z2]; exact HDN.out x hx
      have het0 : 0 < c.et := by omega
      have het1 : c.et < 1000000000 := by omega
      have hpm : ∀ k st, f k = some st → p k ∈ (rb :: rl :: M) ++ (V ++ L).map p := fun k st hk => by
        refine List.mem_append_right _ (List.mem_map.2 ⟨k, ?_, rfl⟩)
        have z := (HT11.out.dom k).1 (by rw [hk]; rfl)
        simpa using z
      have hFW := follow_any (M := (rb :: rl :: M) ++ (V ++ L).map p) (term := t) (lead := 0) (D := D) (zk := 0) HR15.out rfl HL15.out ⟨rfl, rfl⟩ hs15 hT15 HND.out rfl hzd15 rfl (by omega) hDl hDn2 het0 het1 rfl hro15 (by simp) hpm lK
      clear z2 hDn2 het0 het1 hpm
      have HFW := Lib.hid hFW
      have HFK := Lib.hid hfk
      have HTW15 := Lib.hid hTw15
      have k1 : w15.cell? ⟨rb, 1, none⟩ = some (.int .u64 t) := RaftAt.cell HR15.out 1 _ rfl
      clear hTw15 hfr hfk hM3 hsub hs15 hzd15 hbs hc1115 hT15 hro15 hFW
      (first | (go_at_call 216; (with_reducible refine Calls.mono HFW.out ?_); rintro e1 w16 ⟨rfl, bv, ro', mo, bi, hrt⟩; have HRT := Lib.hid hrt; clear hrt))
      go_wp2_with fail
      go_ret
      have z15 := HTW15.out.size
      have hca : Chg [cb, c.ms] w w16 := ((HTW15.out.mono (L' := cb :: c.ms :: rb :: rl :: (V ++ L).map p) (by simp)).trans (HRT.out.ca.mono (by intro x hx; simp only [List.mem_cons] at hx ⊢; rcases hx with h | h | h; exact .inr (.inl h); exact .inr (.inr (.inl h)); exact .inr (.inr (.inr (.inr h)))))).fresh (by
        intro x hx hlt
        simp only [List.mem_cons] at hx ⊢
        rcases hx with h | h | h | h | h
        · exact .inl h
        · exact .inr (.inl h)
        · omega
        · omega
        · obtain ⟨k, hk, rfl⟩ := List.mem_map.1 h
          obtain ⟨st, hst⟩ := HFK.out k hk
          have := HFR10.out k st hst
          omega)
      have hcf16 : CfgAt w16 cb c := HCF15.out.chg HRT.out.ca (by
        intro hx
        simp only [List.mem_cons] at hx
        rcases hx with h | h | h
        · exact ncm h
        · omega
        · obtain ⟨k, hk, h⟩ := List.mem_map.1 h
          obtain ⟨st, hst⟩ := HFK.out k hk
          have := HFR10.out k st hst
          omega)
      rw [← HCE.out]
      have hra := HRT.out.ra
      refine ⟨rb, rl, bt, q0, q2, bv, ro', mo, bi, _, p, rfl, ?_, ?_, HRT.out.sa.at_, HRT.out.oa, HRT.out.va, HRT.out.ta, ?_, ?_, ?_, hcf16, ⟨zrb, zrl, Nat.le_trans z15 HRT.out.ol, Nat.le_trans z15 HRT.out.vl, ?_⟩, hca⟩
      · simp only [RaftS.fol, RaftS.res, RaftS.conf, raft0, if_true] at hra
        exact hra
      · have z := HRT.out.la
        rw [← HAP.out]
        exact z
      · intro k hk
        obtain ⟨st, hst⟩ := HFK.out k hk
        have hil := HT11.out.lrn k st hst
        simp only [hst, Option.map_some, PrS.fresh, hil]
        simp only [decide_eq_true_eq]
        rfl
      · intro k hk
        obtain ⟨st, hst⟩ := HFK.out k hk
        have z := HRT.out.ia k st hst
        exact ⟨Nat.le_trans z15 z.1, z.2⟩
      · intro k hk k' hk' he
        obtain ⟨st, hst⟩ := HFK.out k hk
        obtain ⟨st', hst'⟩ := HFK.out k' hk'
        exact HRT.out.ja k k' st st' hst hst' he
      · intro k s hs
        obtain ⟨st, hst, _⟩ := Option.map_eq_some_iff.1 hs
        exact HFR10.out k st hst

end Go.Proofs.YtalhhplphlobbaaGreat
