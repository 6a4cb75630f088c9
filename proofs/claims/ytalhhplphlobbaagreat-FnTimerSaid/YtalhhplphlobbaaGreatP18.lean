/- reset: its walk. Conditions: sizes. -/
import Derived.Test.YtalhhplphlobbaaGreatP08
import Derived.Test.YtalhhplphlobbaaGreatP17
set_option linter.unusedVariables false
set_option linter.unusedSimpArgs false
namespace Go.Proofs.YtalhhplphlobbaaGreat
open Go.RowKit
/-- The raft's fields behind reset. -/
def RaftS.res (s : RaftS) (term : Int) (D : List Int) (k : Nat) (bv ro : Nat) : RaftS :=
  { s with term := term, vote := if s.term = term then s.vote else 0, lead := 0, ee := 0, he := 0, zn := zstep D k, ret := s.et + zdraw D k, ltr := 0, votes := .map (some bv), pci := 0, unc := 0, ro := .pointer (some ⟨ro, 0, none⟩) }
theorem RsJ.chg {M : List Nat} {w0 w : World} {g rb rl ms bt : Nat} {s : RaftS} {l : RLog} {hv sv ev : Value} {e : Ent} {r : List Ent} {D : DataW Value} {f : Int → Option PrS} {p : Int → Nat} {dn K : List Int} {bi : Int → Nat} (h : RsJ M w0 g rb rl ms bt s l hv sv ev e r D f p dn w bi) (hK : ∀ k st, f k = some st → k ∈ K) : Chg (ms :: K.map p) w0 w :=
  ⟨h.na.1, h.na.2.1, h.na.2.2.1, h.na.2.2.2, fun x hx hn => h.ca x hx (fun e => hn (by simp [e])) (fun k st hk e => hn (by simp only [List.mem_cons, List.mem_map]; exact .inr ⟨k, hK k st hk, e.symm⟩))⟩
structure ResetTo (M : List Nat) (w : World) (rb rl ms bt x0 : Nat) (x2 : Option Nat) (s : RaftS) (l : RLog) (hv sv ev : Value) (e : Ent) (r : List Ent) (V L : List Int) (f : Int → Option PrS) (p : Int → Nat) (opt : Int) (fin : RaftS) (w' : World) (bv ro' mo : Nat) (bi : Int → Nat) : Prop where
  ra : RaftAt w' rb fin
  la : RlAt w' rl ms l
  sa : StAt M w' ms hv sv ev e r
  oa : Blk w' ro' 449 #[.int .i64 opt, .map (some mo), .slice none 0 0, .int .u64 0]
  ol : w.heap.size ≤ ro'
  va : MapAt w' bv (.map [])
  vl : w.heap.size ≤ bv
  ta : TrkAt w' (some x0) x2 bt V L (fun k => (f k).map fun st => st.fresh (e.i + r.length) (decide (k = s.id)) (bi k)) p
  ia : ∀ k st, f k = some st → w.heap.size ≤ bi k ∧ Blk w' (bi k) 509 (infl0 s)
  ja : ∀ k k' st st', f k = some st → f k' = some st' → bi k = bi k' → k = k'
  ca : Chg (ms :: rb :: (V ++ L).map p) w w'
def ResetPost (M : List Nat) (w : World) (rb rl ms bt x0 : Nat) (x2 : Option Nat) (s : RaftS) (l : RLog) (hv sv ev : Value) (e : Ent) (r : List Ent) (V L : List Int) (f : Int → Option PrS) (p : Int → Nat) (term opt : Int) (D : List Int) (zk : Nat) (y : Ending) (w' : World) : Prop :=
  y = .returned (.tuple #[]) ∧ ∃ bv ro' mo bi, ResetTo M w rb rl ms bt x0 x2 s l hv sv ev e r V L f p opt (s.res term D zk bv ro') w' bv ro' mo bi
theorem ResetTo.more {M : List Nat} {w : World} {rb rl ms bt x0 : Nat} {x2 : Option Nat} {s : RaftS} {l : RLog} {hv sv ev : Value} {e : Ent} {r : List Ent} {V L : List Int} {f : Int → Option PrS} {p : Int → Nat} {opt : Int} {fin fin' : RaftS} {w' w'' : World} {bv ro' mo : Nat} {bi : Int → Nat}
    (h : ResetTo M w rb rl ms bt x0 x2 s l hv sv ev e r V L f p opt fin w' bv ro' mo bi) (hc : Chg [rb] w' w'') (hr : RaftAt w'' rb fin') (mb : rb ∈ M) : ResetTo M w rb rl ms bt x0 x2 s l hv sv ev e r V L f p opt fin' w'' bv ro' mo bi := by
  have nb : ∀ {x : Nat} {t : TypeId} {cs : Array Value}, Blk w' x t cs → t ≠ 296 → x ∉ [rb] := fun hx ht => by
    have z := Blk.ne hx h.ra ht
    simpa using z
  have nm : ∀ {x : Nat} {DD : DataW Value}, MapAt w' x DD → x ∉ [rb] := fun hx => by
    have z := hx.ne_blk h.ra
    simpa using z
  have nms : ms ∉ [rb] := by
    obtain ⟨_, _, _, _, _, _, hm⟩ := h.sa.at_
    exact nb hm (by decide)
  exact ⟨hr, h.la.chg hc (nb h.la (by decide)), h.sa.chg hc (by simpa using mb) nms, h.oa.chg hc (nb h.oa (by decide)), h.ol, h.va.chg hc (nm h.va), h.vl, h.ta.chgB h.ra (by decide) hc,
    fun k st hk => ⟨(h.ia k st hk).1, (h.ia k st hk).2.chg hc (nb (h.ia k st hk).2 (by decide))⟩, h.ja, h.ca.trans (hc.mono (by simp))⟩
set_option maxRecDepth 100000 in
set_option maxHeartbeats 8000000 in
theorem reset_any {M : List Nat} {w : World} {rb rl ms rob bt x0 : Nat} {x2 : Option Nat} {s : RaftS} {l : RLog} {hv sv ev mp sl cn : Value} {e : Ent} {r : List Ent} {V L : List Int} {f : Int → Option PrS} {p : Int → Nat} {term opt : Int} {D : List Int} {zk : Nat}
    (h : RaftAt w rb s) (hrl : s.rl = rl) (hl : RlAt w rl ms l) (hcalm : l.calm) (hs : StAt M w ms hv sv ev e r) (ht : TrkAt w (some x0) x2 bt V L f p) (hn : (V ++ L).Nodup) (hpr : s.prog = .map (some bt))
    (hzd : Sl M w s.zd (I64s D)) (hk : s.zn = zk) (hk1 : zk < 1000000000) (hDl : D.length ≤ 1000) (hDn : ∀ x ∈ D, 0 ≤ x ∧ x < s.et) (hn0 : 0 < s.et) (hn1 : s.et < 1000000000)
    (hro : s.ro = .pointer (some ⟨rob, 0, none⟩)) (hrob : Blk w rob 449 #[.int .i64 opt, mp, sl, cn]) (mb : rb ∈ M) (hpM : ∀ k st, f k = some st → p k ∈ M) (lK : (V ++ L).length ≤ 13) :
    Calls Tryz.prog 280 #[.pointer (some ⟨rb, 0, none⟩), .int .u64 term] w (ResetPost M w rb rl ms bt x0 x2 s l hv sv ev e r V L f p term opt D zk) := by
  have hmf : ∀ (fn : Fn) (first cap : Array Value) (w : World), (Instr.makeFunc fn first cap).run Tryz.prog w = .ok (.func fn first cap) w := fun _ _ _ _ => rfl
  have nrm := hs.at_.ne h (by decide)
  have nrl := Blk.ne h hl (by decide)
  have nlm := hs.at_.ne hl (by decide)
  have c1 : w.cell? ⟨rb, 1, none⟩ = some (.int .u64 s.term) := RaftAt.cell h 1 _ rfl
  have c2 : w.cell? ⟨rb, 2, none⟩ = some (.int .u64 s.vote) := RaftAt.cell h 2 _ rfl
  have c20 : w.cell? ⟨rb, 20, none⟩ = some (.int .u64 s.lead) := RaftAt.cell h 20 _ rfl
  have c26 : w.cell? ⟨rb, 26, none⟩ = some (.int .i64 s.ee) := RaftAt.cell h 26 _ rfl
  have c27 : w.cell? ⟨rb, 27, none⟩ = some (.int .i64 s.he) := RaftAt.cell h 27 _ rfl
  have cf := Blk.frozen h
  have cl := Blk.lt h
  have HR := Lib.hid h
  have HRL := Lib.hid hrl
  have HL := Lib.hid hl
  have HCALM := Lib.hid hcalm
  have HS := Lib.hid hs
  have HT := Lib.hid ht
  have HND := Lib.hid hn
  have HPR := Lib.hid hpr
  have HZD := Lib.hid hzd
  have HK := Lib.hid hk
  have HDN := Lib.hid hDn
  have HRO := Lib.hid hro
  have HROB := Lib.hid hrob
  have HPM := Lib.hid hpM
  clear h hrl hl hcalm hs ht hn hpr hzd hk hDn hro hrob hpM
  have g0' : (0:Nat) = 0 := rfl
  clear g0'
  by_cases htm : s.term = term
  · have htb : (s.term != term) = false := by simp [htm]
    go_enter Tryz.func280, Tryz.ntmps280
    go_wp2_with fail
    have hR1 : RaftAt ((((w.setCell ⟨rb, 20, none⟩ (.int .u64 0)).setCell ⟨rb, 26, none⟩ (.int .i64 0)).setCell ⟨rb, 27, none⟩ (.int .i64 0)).alloc (.cells #[.pointer (some ⟨rb, 0, none⟩)] 272)) rb { s with lead := 0, ee := 0, he := 0 } := Blk.alloc (RaftAt.set_ (RaftAt.set_ (RaftAt.set_ HR.out 20 _ { s with lead := 0 } rfl) 26 _ { s with lead := 0, ee := 0 } rfl) 27 _ { s with lead := 0, ee := 0, he := 0 } rfl) _
    have hC1 : Chg [rb] w ((((w.setCell ⟨rb, 20, none⟩ (.int .u64 0)).setCell ⟨rb, 26, none⟩ (.int .i64 0)).setCell ⟨rb, 27, none⟩ (.int .i64 0)).alloc (.cells #[.pointer (some ⟨rb, 0, none⟩)] 272)) := ((((Chg.refl _ _).setCell (.inr (by simp)) _).setCell (.inr (by simp)) _).setCell (.inr (by simp)) _).alloc _
    have hG1 : Blk ((((w.setCell ⟨rb, 20, none⟩ (.int .u64 0)).setCell ⟨rb, 26, none⟩ (.int .i64 0)).setCell ⟨rb, 27, none⟩ (.int .i64 0)).alloc (.cells #[.pointer (some ⟨rb, 0, none⟩)] 272)) w.heap.size 272 #[.pointer (some ⟨rb, 0, none⟩)] := by
      have z := Blk.new (((w.setCell ⟨rb, 20, none⟩ (.int .u64 0)).setCell ⟨rb, 26, none⟩ (.int .i64 0)).setCell ⟨rb, 27, none⟩ (.int .i64 0)) 272 #[.pointer (some ⟨rb, 0, none⟩)]
      simp only [World.size_setCell] at z
      exact z
    obtain ⟨s1, hs1⟩ : ∃ s1 : RaftS, s1 = { s with lead := 0, ee := 0, he := 0 } := ⟨_, rfl⟩
    rw [← hs1] at hR1
    have hs1 : s1 = { s with term := term, vote := if s.term = term then s.vote else 0, lead := 0, ee := 0, he := 0 } := by rw [hs1]; rw [if_pos htm, ← htm]
    obtain ⟨g, hgE⟩ : ∃ g, g = w.heap.size := ⟨_, rfl⟩
    generalize ((((w.setCell ⟨rb, 20, none⟩ (.int .u64 0)).setCell ⟨rb, 26, none⟩ (.int .i64 0)).setCell ⟨rb, 27, none⟩ (.int .i64 0)).alloc (.cells #[.pointer (some ⟨rb, 0, none⟩)] 272)) = W1 at hR1 hC1 hG1 ⊢
    rw [← hgE] at hG1
    (try rw [← hgE])
    have hgz : w.heap.size ≤ g := by omega
    have HGE := Lib.hid hgE
    clear hgE c1 c2 c20 c26 c27 cf
    have HS1 := Lib.hid hs1
    clear hs1
    have hz1 : Sl M W1 s1.zd (I64s D) := by rw [HS1.out]; exact HZD.out.chg hC1 (by simpa using mb)
    have hk2 : s1.zn = zk := by rw [HS1.out]; exact HK.out
    have he2 : s1.et = s.et := by rw [HS1.out]
    have hq1 := resetRand_any hR1 hz1 hk2 hk1 hDl (by rw [he2]; exact HDN.out) (by rw [he2]; exact hn0) (by rw [he2]; exact hn1)
    have HQ1 := Lib.hid hq1
    have HCc := Lib.hid hC1
    have HGc := Lib.hid hG1
    clear hq1 hz1 hk2 he2 hR1 hC1 hG1
    go_wp2_with (first | (go_at_call 341; (with_reducible refine Calls.mono HQ1.out ?_); rintro e1 w2 ⟨rfl, hr2, hc2⟩; have hg2 := Blk.chg HGc.out hc2 (by simp; omega); have hcc := HCc.out.trans hc2; clear HQ1 HGc HCc; have HGc := Lib.hid hg2; have HCc := Lib.hid hcc; have HRc := Lib.hid hr2; clear hg2 hcc hr2 hc2; have g0 := HGc.out.cell 0; simp at g0) | (go_at_call 337; (with_reducible refine Calls.mono (abortTr_any HRc.out) ?_); rintro e1 w3 ⟨rfl, hr2, hc2⟩; have hg2 := Blk.chg HGc.out hc2 (by simp; omega); have hcc := HCc.out.trans hc2; clear HGc HCc HRc g0; have HGc := Lib.hid hg2; have HCc := Lib.hid hcc; have HRc := Lib.hid hr2; clear hg2 hcc hr2 hc2; have g0 := HGc.out.cell 0; simp at g0) | (go_at_call 342; (with_reducible refine Calls.mono (resetVotes_any HRc.out) ?_); rintro e1 w4 ⟨bv, rfl, hbv, hmv, hr2, hc2⟩; have hg2 := Blk.chg HGc.out hc2 (by simp; omega); have hcc := HCc.out.trans hc2; have hbv2 := Nat.le_trans HCc.out.size hbv; clear HGc HCc HRc g0 hbv; have HGc := Lib.hid hg2; have HCc := Lib.hid hcc; have HRc := Lib.hid hr2; have HMV := Lib.hid hmv; clear hg2 hcc hr2 hc2 hmv; have g0 := HGc.out.cell 0; simp at g0))
    have hR4 := HRc.out
    obtain ⟨s3, hs3⟩ : ∃ s3 : RaftS, s3 = { s with term := term, vote := if s.term = term then s.vote else 0, lead := 0, ee := 0, he := 0, zn := zstep D zk, ret := s.et + zdraw D zk, ltr := 0, votes := .map (some bv) } := ⟨_, rfl⟩
    have hR4 : RaftAt w4 rb s3 := by
      rw [hs3]
      rw [HS1.out] at hR4
      exact hR4
    have hl4 : RlAt w4 rl ms l := HL.out.chg HCc.out (by simpa using Ne.symm nrl)
    have hs4 : StAt M w4 ms hv sv ev e r := HS.out.chg HCc.out (by simpa using mb) (by simpa using Ne.symm nrm)
    have hT4 := HT.out.chgB HR.out (by decide) HCc.out
    obtain ⟨D', hD', hget⟩ := hT4.prg.map
    have hgk : ∀ k, mget D' k = if k ∈ V ++ L then some (.pointer (some ⟨p k, 0, none⟩)) else none := by
      intro k
      rw [hget k]
      have hd := hT4.dom k
      by_cases hm : k ∈ V ++ L
      · rw [if_pos hm]
        obtain ⟨st, hst⟩ := Option.isSome_iff_exists.1 (hd.2 (by simpa using hm))
        rw [hst]
        rfl
      · rw [if_neg hm]
        have : f k = none := by
          have := mt hd.1 (by simpa using hm)
          simpa using this
        rw [this]
        rfl
    have hkr : ∀ k ∈ V ++ L, 0 ≤ k ∧ k < 2 ^ 64 := fun k hk => by
      have := hT4.rng k (by simpa using hk)
      omega
    have hfk : ∀ k, k ∈ V ++ L → ∃ st, f k = some st := fun k hk => Option.isSome_iff_exists.1 ((hT4.dom k).2 (by simpa using hk))
    have hrl3 : s3.rl = rl := by rw [hs3]; exact HRL.out
    have c12 : w4.cell? ⟨rb, 12, none⟩ = some (.map (some bt)) := by
      have z := RaftAt.cell hR4 12 _ rfl
      rw [z, hs3]
      exact congrArg some HPR.out
    have hJ0 : ∀ w1, Nxt w4 w1 → ∃ bi, RsJ M w4 g rb rl ms bt s3 l hv sv ev e r D' f p [] w1 bi := fun w1 hn => ⟨fun _ => 0, hR4.nxt hn, hl4.nxt hn, hs4.nxt hn, HGc.out.nxt hn, hD'.nxt hn, fun k st hk => by simpa using (hT4.prg.blk k st hk).nxt hn, by simp, by simp, fun x hx _ _ => hn.out.block x hx (by simp), ⟨hn.out.os, hn.out.tape, hn.out.output, hn.out.size⟩⟩
    have hV := visit_any (rb := rb) (bt := bt) (S := p) (cv := .pointer (some ⟨g, 0, none⟩)) (fun dn w1 => ∃ bi, RsJ M w4 g rb rl ms bt s3 l hv sv ev e r D' f p dn w1 bi) c12 hD' HND.out hgk hkr lK hJ0
      (fun dn w1 ⟨bi, hj⟩ => ⟨by have z := RaftAt.cell hj.ra 12 _ rfl; rw [z, hs3]; exact congrArg some HPR.out, hj.ma⟩)
      (fun dn k w1 gg t cs ⟨bi, hj⟩ hk hnk ht hb => by obtain ⟨st, hst⟩ := hfk k hk; exact hj.step hrl3 HCALM.out hT4.prg.inj HPM.out hst hnk ht hb)
    have HRB4 : Hid (∃ cs, Blk w4 rb 296 cs) := Lib.hid ⟨_, hR4⟩
    have hD4 := Lib.hid hD'
    have HV := Lib.hid hV
    have HS3 := Lib.hid hs3
    have HT4 := Lib.hid hT4
    have HFK := Lib.hid hfk
    have HGET := Lib.hid hget
    clear hR4 hl4 hs4 hT4 hget hgk hkr hrl3 c12 hJ0 hV hs3 hD' HRc g0 hfk
    go_wp2_with (first | (go_at_call 333; (with_reducible refine Calls.mono HV.out ?_); rintro e1 w5 ⟨rfl, K', hKp, _, bi, hrs⟩; have HRS := Lib.hid hrs; have HKP := Lib.hid hKp; clear hrs hKp HV; have g0 := HRS.out.ga.cell 0; simp at g0; have d22 : w5.cell? ⟨rb, 22, none⟩ = some (.int .u64 s3.pci) := RaftAt.cell HRS.out.ra 22 _ rfl; have d24 : w5.cell? ⟨rb, 24, none⟩ = some (.int .u64 s3.unc) := RaftAt.cell HRS.out.ra 24 _ rfl; have d25 : w5.cell? ⟨rb, 25, none⟩ = some s3.ro := RaftAt.cell HRS.out.ra 25 _ rfl; have df := Blk.frozen HRS.out.ra; have dl := Blk.lt HRS.out.ra; have nrg : rb ≠ g := Blk.ne HRS.out.ra HRS.out.ga (by decide)))
    have hob4 := HROB.out.chg HCc.out (by simpa using (Blk.ne HR.out HROB.out (by decide)).symm)
    have hob5 : Blk w5 rob 449 #[.int .i64 opt, mp, sl, cn] := (HRS.out.ca rob hob4.lt (by have z := HS.out.at_.ne HROB.out (by decide); exact z) (fun k st hk => by have z := HT4.out.prg.blk k st hk; exact hob4.ne z (by decide))).trans hob4
    have hq6 : Chg [rb] w5 ((w5.setCell ⟨rb, 22, none⟩ (.int .u64 0)).setCell ⟨rb, 24, none⟩ (.int .u64 0)) := ((Chg.refl _ _).setCell (.inr (by simp)) _).setCell (.inr (by simp)) _
    have hR6 : RaftAt ((w5.setCell ⟨rb, 22, none⟩ (.int .u64 0)).setCell ⟨rb, 24, none⟩ (.int .u64 0)) rb { s3 with pci := 0, unc := 0 } := RaftAt.set_ (RaftAt.set_ HRS.out.ra 22 _ { s3 with pci := 0 } rfl) 24 _ { s3 with pci := 0, unc := 0 } rfl
    have hob6 := hob5.chg hq6 (by simpa using (Blk.ne HR.out HROB.out (by decide)).symm)
    have hg6 := HRS.out.ga.chg hq6 (by simpa using Ne.symm nrg)
    generalize (w5.setCell ⟨rb, 22, none⟩ (.int .u64 0)).setCell ⟨rb, 24, none⟩ (.int .u64 0) = W6 at hq6 hR6 hob6 hg6 ⊢
    clear d22 d24 d25 df dl g0 hob4 hob5
    have g0 := hg6.cell 0
    simp at g0
    have d25 : W6.cell? ⟨rb, 25, none⟩ = some (.pointer (some ⟨rob, 0, none⟩)) := by
      have z := RaftAt.cell hR6 25 _ rfl
      rw [z]
      show some s3.ro = _
      rw [HS3.out]
      exact congrArg some HRO.out
    have o0 := hob6.cell 0
    simp at o0
    have HQ6 := Lib.hid hq6
    have HR6 := Lib.hid hR6
    clear hq6 hR6 hob6 hg6
    go_region_law (first | (go_simp; go_at_call 272; (with_reducible refine Calls.mono (newRO_any _ _) ?_); rintro e1 w7 ⟨b7, rfl, hb7, hB7, hn7⟩; have k0 := hn7.out.at0 g0; have k25 := hn7.out.at0 d25; have kf := Blk.frozen (RaftAt.nxt HR6.out ⟨(Chg.refl _ _).drew.trans hn7.out⟩)))
    all_goals
      go_end0
      have hc6 : Chg [rb] W6 w7 := ((Chg.refl _ _).drew.trans hn7.out).mono (by simp)
      have hq8 : Chg [rb] w7 (w7.setCell ⟨rb, 25, none⟩ (.pointer (some ⟨b7, 0, none⟩))) := (Chg.refl _ _).setCell (.inr (by simp)) _
      have hRF : RaftAt (w7.setCell ⟨rb, 25, none⟩ (.pointer (some ⟨b7, 0, none⟩))) rb { s3 with pci := 0, unc := 0, ro := .pointer (some ⟨b7, 0, none⟩) } := RaftAt.set_ (RaftAt.nxt HR6.out ⟨(Chg.refl _ _).drew.trans hn7.out⟩) 25 _ { s3 with pci := 0, unc := 0, ro := .pointer (some ⟨b7, 0, none⟩) } rfl
      rw [HS3.out] at hRF
      have hc58 : Chg [rb] w5 (w7.setCell ⟨rb, 25, none⟩ (.pointer (some ⟨b7, 0, none⟩))) := (HQ6.out.trans hc6).trans hq8
      generalize w7.setCell ⟨rb, 25, none⟩ (.pointer (some ⟨b7, 0, none⟩)) = w8 at hq8 hRF hc58 ⊢
      have hKf : ∀ k st, f k = some st → k ∈ V ++ L := fun k st hk => by have z := (HT4.out.dom k).1 (by rw [hk]; rfl); simpa using z
      have hKd : ∀ k st, f k = some st → k ∈ K' := fun k st hk => HKP.out.mem_iff.2 (hKf k st hk)
      have hc45 := HRS.out.chg hKf
      have hc48 : Chg (ms :: rb :: (V ++ L).map p) w4 w8 := (hc45.mono (by intro x hx; simp only [List.mem_cons] at hx ⊢; rcases hx with h | h; exact .inl h; exact .inr (.inr h))).trans (hc58.mono (by simp))
      have z1 := HCc.out.size
      have z2 := HRS.out.na.2.2.2
      have z3 := HQ6.out.size
      have z4 : W6.drew.heap.size = W6.heap.size := rfl
      obtain ⟨_, _, _, _, _, _, hmsb⟩ := (HS.out.chg HCc.out (by simpa using mb) (by simpa using Ne.symm nrm)).at_
      have hrb4 : ∃ cs, Blk w4 rb 296 cs := by
        have z := HR.out.chg (L := []) (Chg.refl _ _) (by simp)
        obtain ⟨q1, q2⟩ := HRB4.out
        exact ⟨q1, q2⟩
      obtain ⟨csr, hrb4⟩ := hrb4
      have nmap : ∀ {b : Nat} {DD : DataW Value}, MapAt w4 b DD → b ∉ ms :: rb :: (V ++ L).map p := fun hm => by
        intro hin
        simp only [List.mem_cons, List.mem_map] at hin
        rcases hin with h | h | ⟨k, hk, h⟩
        · exact hm.ne_blk hmsb h
        · exact hm.ne_blk hrb4 h
        · obtain ⟨st, hst⟩ := HFK.out k hk
          exact hm.ne_blk (HT4.out.prg.blk k st hst) h.symm
      have nset : ∀ {v : Value} {S : List Int}, SetAt w4 v S → ∀ b, v = .map (some b) → b ∉ ms :: rb :: (V ++ L).map p := fun hs b hb => by
        obtain ⟨_, ⟨rfl, _⟩ | ⟨b', DD, rfl, hm, _⟩⟩ := hs
        · cases hb
        · cases hb
          exact nmap hm
      refine ⟨rfl, bv, b7, _, bi, ⟨hRF, HRS.out.la.chg hc58 (by simpa using Ne.symm nrl), HRS.out.sa.chg hc58 (by simpa using mb) (by simpa using Ne.symm nrm), hB7.chg hq8 (by have := Blk.lt HR6.out; simp; omega), by omega, HMV.out.chg hc48 (nmap HMV.out), hbv2, ?_, ?_, ?_, (HCc.out.mono (by simp)).trans hc48⟩⟩
      · refine { HT4.out with sv := HT4.out.sv.chg hc48 (nset HT4.out.sv), sl := HT4.out.sl.chg hc48 (nset HT4.out.sl), prg := ⟨⟨D', HRS.out.ma.chg hc58 (by have z := nmap hD4.out; simp only [List.mem_cons, not_or] at z; simpa using z.2.1), fun k => ?_⟩, fun k s' hk => ?_, fun k k' s' s'' hk hk' => ?_⟩, dom := fun k => ?_, lrn := fun k s' hk => ?_ }
        · rw [HGET.out k]
          cases f k <;> rfl
        · obtain ⟨st, hst, rfl⟩ := Option.map_eq_some_iff.1 hk
          have z := HRS.out.pa k st hst
          rw [if_pos (hKd k st hst)] at z
          have z2 := z.chg hc58 (by have q := Blk.ne HRS.out.ra z (by decide); simpa using q.symm)
          rw [HS3.out] at z2
          exact z2
        · obtain ⟨st, hst, rfl⟩ := Option.map_eq_some_iff.1 hk
          obtain ⟨st', hst', rfl⟩ := Option.map_eq_some_iff.1 hk'
          exact HT4.out.prg.inj k k' st st' hst hst'
        · rw [Option.isSome_map]
          exact HT4.out.dom k
        · obtain ⟨st, hst, rfl⟩ := Option.map_eq_some_iff.1 hk
          exact HT4.out.lrn k st hst
      · intro k st hst
        obtain ⟨q1, q2⟩ := HRS.out.ia k (hKd k st hst)
        have z2 := q2.chg hc58 (by have q := Blk.ne HRS.out.ra q2 (by decide); simpa using q.symm)
        rw [HS3.out] at z2
        exact ⟨Nat.le_trans z1 q1, z2⟩
      · intro k k' st st' hk hk'
        exact HRS.out.ja k (hKd k st hk) k' (hKd k' st' hk')

  · have htb : (s.term != term) = true := by simpa using htm
    go_enter Tryz.func280, Tryz.ntmps280
    go_wp2_with fail
    have hR1 : RaftAt ((((((w.setCell ⟨rb, 1, none⟩ (.int .u64 term)).setCell ⟨rb, 2, none⟩ (.int .u64 0)).setCell ⟨rb, 20, none⟩ (.int .u64 0)).setCell ⟨rb, 26, none⟩ (.int .i64 0)).setCell ⟨rb, 27, none⟩ (.int .i64 0)).alloc (.cells #[.pointer (some ⟨rb, 0, none⟩)] 272)) rb { s with term := term, vote := 0, lead := 0, ee := 0, he := 0 } := Blk.alloc (RaftAt.set_ (RaftAt.set_ (RaftAt.set_ (RaftAt.set_ (RaftAt.set_ HR.out 1 _ { s with term := term } rfl) 2 _ { s with term := term, vote := 0 } rfl) 20 _ { s with term := term, vote := 0, lead := 0 } rfl) 26 _ { s with term := term, vote := 0, lead := 0, ee := 0 } rfl) 27 _ { s with term := term, vote := 0, lead := 0, ee := 0, he := 0 } rfl) _
    have hC1 : Chg [rb] w ((((((w.setCell ⟨rb, 1, none⟩ (.int .u64 term)).setCell ⟨rb, 2, none⟩ (.int .u64 0)).setCell ⟨rb, 20, none⟩ (.int .u64 0)).setCell ⟨rb, 26, none⟩ (.int .i64 0)).setCell ⟨rb, 27, none⟩ (.int .i64 0)).alloc (.cells #[.pointer (some ⟨rb, 0, none⟩)] 272)) := ((((((Chg.refl _ _).setCell (.inr (by simp)) _).setCell (.inr (by simp)) _).setCell (.inr (by simp)) _).setCell (.inr (by simp)) _).setCell (.inr (by simp)) _).alloc _
    have hG1 : Blk ((((((w.setCell ⟨rb, 1, none⟩ (.int .u64 term)).setCell ⟨rb, 2, none⟩ (.int .u64 0)).setCell ⟨rb, 20, none⟩ (.int .u64 0)).setCell ⟨rb, 26, none⟩ (.int .i64 0)).setCell ⟨rb, 27, none⟩ (.int .i64 0)).alloc (.cells #[.pointer (some ⟨rb, 0, none⟩)] 272)) w.heap.size 272 #[.pointer (some ⟨rb, 0, none⟩)] := by
      have z := Blk.new (((((w.setCell ⟨rb, 1, none⟩ (.int .u64 term)).setCell ⟨rb, 2, none⟩ (.int .u64 0)).setCell ⟨rb, 20, none⟩ (.int .u64 0)).setCell ⟨rb, 26, none⟩ (.int .i64 0)).setCell ⟨rb, 27, none⟩ (.int .i64 0)) 272 #[.pointer (some ⟨rb, 0, none⟩)]
      simp only [World.size_setCell] at z
      exact z
    obtain ⟨s1, hs1⟩ : ∃ s1 : RaftS, s1 = { s with term := term, vote := 0, lead := 0, ee := 0, he := 0 } := ⟨_, rfl⟩
    rw [← hs1] at hR1
    have hs1 : s1 = { s with term := term, vote := if s.term = term then s.vote else 0, lead := 0, ee := 0, he := 0 } := by rw [hs1]; rw [if_neg htm]
    obtain ⟨g, hgE⟩ : ∃ g, g = w.heap.size := ⟨_, rfl⟩
    generalize ((((((w.setCell ⟨rb, 1, none⟩ (.int .u64 term)).setCell ⟨rb, 2, none⟩ (.int .u64 0)).setCell ⟨rb, 20, none⟩ (.int .u64 0)).setCell ⟨rb, 26, none⟩ (.int .i64 0)).setCell ⟨rb, 27, none⟩ (.int .i64 0)).alloc (.cells #[.pointer (some ⟨rb, 0, none⟩)] 272)) = W1 at hR1 hC1 hG1 ⊢
    rw [← hgE] at hG1
    (try rw [← hgE])
    have hgz : w.heap.size ≤ g := by omega
    have HGE := Lib.hid hgE
    clear hgE c1 c2 c20 c26 c27 cf
    have HS1 := Lib.hid hs1
    clear hs1
    have hz1 : Sl M W1 s1.zd (I64s D) := by rw [HS1.out]; exact HZD.out.chg hC1 (by simpa using mb)
    have hk2 : s1.zn = zk := by rw [HS1.out]; exact HK.out
    have he2 : s1.et = s.et := by rw [HS1.out]
    have hq1 := resetRand_any hR1 hz1 hk2 hk1 hDl (by rw [he2]; exact HDN.out) (by rw [he2]; exact hn0) (by rw [he2]; exact hn1)
    have HQ1 := Lib.hid hq1
    have HCc := Lib.hid hC1
    have HGc := Lib.hid hG1
    clear hq1 hz1 hk2 he2 hR1 hC1 hG1
    go_wp2_with (first | (go_at_call 341; (with_reducible refine Calls.mono HQ1.out ?_); rintro e1 w2 ⟨rfl, hr2, hc2⟩; have hg2 := Blk.chg HGc.out hc2 (by simp; omega); have hcc := HCc.out.trans hc2; clear HQ1 HGc HCc; have HGc := Lib.hid hg2; have HCc := Lib.hid hcc; have HRc := Lib.hid hr2; clear hg2 hcc hr2 hc2; have g0 := HGc.out.cell 0; simp at g0) | (go_at_call 337; (with_reducible refine Calls.mono (abortTr_any HRc.out) ?_); rintro e1 w3 ⟨rfl, hr2, hc2⟩; have hg2 := Blk.chg HGc.out hc2 (by simp; omega); have hcc := HCc.out.trans hc2; clear HGc HCc HRc g0; have HGc := Lib.hid hg2; have HCc := Lib.hid hcc; have HRc := Lib.hid hr2; clear hg2 hcc hr2 hc2; have g0 := HGc.out.cell 0; simp at g0) | (go_at_call 342; (with_reducible refine Calls.mono (resetVotes_any HRc.out) ?_); rintro e1 w4 ⟨bv, rfl, hbv, hmv, hr2, hc2⟩; have hg2 := Blk.chg HGc.out hc2 (by simp; omega); have hcc := HCc.out.trans hc2; have hbv2 := Nat.le_trans HCc.out.size hbv; clear HGc HCc HRc g0 hbv; have HGc := Lib.hid hg2; have HCc := Lib.hid hcc; have HRc := Lib.hid hr2; have HMV := Lib.hid hmv; clear hg2 hcc hr2 hc2 hmv; have g0 := HGc.out.cell 0; simp at g0))
    have hR4 := HRc.out
    obtain ⟨s3, hs3⟩ : ∃ s3 : RaftS, s3 = { s with term := term, vote := if s.term = term then s.vote else 0, lead := 0, ee := 0, he := 0, zn := zstep D zk, ret := s.et + zdraw D zk, ltr := 0, votes := .map (some bv) } := ⟨_, rfl⟩
    have hR4 : RaftAt w4 rb s3 := by
      rw [hs3]
      rw [HS1.out] at hR4
      exact hR4
    have hl4 : RlAt w4 rl ms l := HL.out.chg HCc.out (by simpa using Ne.symm nrl)
    have hs4 : StAt M w4 ms hv sv ev e r := HS.out.chg HCc.out (by simpa using mb) (by simpa using Ne.symm nrm)
    have hT4 := HT.out.chgB HR.out (by decide) HCc.out
    obtain ⟨D', hD', hget⟩ := hT4.prg.map
    have hgk : ∀ k, mget D' k = if k ∈ V ++ L then some (.pointer (some ⟨p k, 0, none⟩)) else none := by
      intro k
      rw [hget k]
      have hd := hT4.dom k
      by_cases hm : k ∈ V ++ L
      · rw [if_pos hm]
        obtain ⟨st, hst⟩ := Option.isSome_iff_exists.1 (hd.2 (by simpa using hm))
        rw [hst]
        rfl
      · rw [if_neg hm]
        have : f k = none := by
          have := mt hd.1 (by simpa using hm)
          simpa using this
        rw [this]
        rfl
    have hkr : ∀ k ∈ V ++ L, 0 ≤ k ∧ k < 2 ^ 64 := fun k hk => by
      have := hT4.rng k (by simpa using hk)
      omega
    have hfk : ∀ k, k ∈ V ++ L → ∃ st, f k = some st := fun k hk => Option.isSome_iff_exists.1 ((hT4.dom k).2 (by simpa using hk))
    have hrl3 : s3.rl = rl := by rw [hs3]; exact HRL.out
    have c12 : w4.cell? ⟨rb, 12, none⟩ = some (.map (some bt)) := by
      have z := RaftAt.cell hR4 12 _ rfl
      rw [z, hs3]
      exact congrArg some HPR.out
    have hJ0 : ∀ w1, Nxt w4 w1 → ∃ bi, RsJ M w4 g rb rl ms bt s3 l hv sv ev e r D' f p [] w1 bi := fun w1 hn => ⟨fun _ => 0, hR4.nxt hn, hl4.nxt hn, hs4.nxt hn, HGc.out.nxt hn, hD'.nxt hn, fun k st hk => by simpa using (hT4.prg.blk k st hk).nxt hn, by simp, by simp, fun x hx _ _ => hn.out.block x hx (by simp), ⟨hn.out.os, hn.out.tape, hn.out.output, hn.out.size⟩⟩
    have hV := visit_any (rb := rb) (bt := bt) (S := p) (cv := .pointer (some ⟨g, 0, none⟩)) (fun dn w1 => ∃ bi, RsJ M w4 g rb rl ms bt s3 l hv sv ev e r D' f p dn w1 bi) c12 hD' HND.out hgk hkr lK hJ0
      (fun dn w1 ⟨bi, hj⟩ => ⟨by have z := RaftAt.cell hj.ra 12 _ rfl; rw [z, hs3]; exact congrArg some HPR.out, hj.ma⟩)
      (fun dn k w1 gg t cs ⟨bi, hj⟩ hk hnk ht hb => by obtain ⟨st, hst⟩ := hfk k hk; exact hj.step hrl3 HCALM.out hT4.prg.inj HPM.out hst hnk ht hb)
    have HRB4 : Hid (∃ cs, Blk w4 rb 296 cs) := Lib.hid ⟨_, hR4⟩
    have hD4 := Lib.hid hD'
    have HV := Lib.hid hV
    have HS3 := Lib.hid hs3
    have HT4 := Lib.hid hT4
    have HFK := Lib.hid hfk
    have HGET := Lib.hid hget
    clear hR4 hl4 hs4 hT4 hget hgk hkr hrl3 c12 hJ0 hV hs3 hD' HRc g0 hfk
    go_wp2_with (first | (go_at_call 333; (with_reducible refine Calls.mono HV.out ?_); rintro e1 w5 ⟨rfl, K', hKp, _, bi, hrs⟩; have HRS := Lib.hid hrs; have HKP := Lib.hid hKp; clear hrs hKp HV; have g0 := HRS.out.ga.cell 0; simp at g0; have d22 : w5.cell? ⟨rb, 22, none⟩ = some (.int .u64 s3.pci) := RaftAt.cell HRS.out.ra 22 _ rfl; have d24 : w5.cell? ⟨rb, 24, none⟩ = some (.int .u64 s3.unc) := RaftAt.cell HRS.out.ra 24 _ rfl; have d25 : w5.cell? ⟨rb, 25, none⟩ = some s3.ro := RaftAt.cell HRS.out.ra 25 _ rfl; have df := Blk.frozen HRS.out.ra; have dl := Blk.lt HRS.out.ra; have nrg : rb ≠ g := Blk.ne HRS.out.ra HRS.out.ga (by decide)))
    have hob4 := HROB.out.chg HCc.out (by simpa using (Blk.ne HR.out HROB.out (by decide)).symm)
    have hob5 : Blk w5 rob 449 #[.int .i64 opt, mp, sl, cn] := (HRS.out.ca rob hob4.lt (by have z := HS.out.at_.ne HROB.out (by decide); exact z) (fun k st hk => by have z := HT4.out.prg.blk k st hk; exact hob4.ne z (by decide))).trans hob4
    have hq6 : Chg [rb] w5 ((w5.setCell ⟨rb, 22, none⟩ (.int .u64 0)).setCell ⟨rb, 24, none⟩ (.int .u64 0)) := ((Chg.refl _ _).setCell (.inr (by simp)) _).setCell (.inr (by simp)) _
    have hR6 : RaftAt ((w5.setCell ⟨rb, 22, none⟩ (.int .u64 0)).setCell ⟨rb, 24, none⟩ (.int .u64 0)) rb { s3 with pci := 0, unc := 0 } := RaftAt.set_ (RaftAt.set_ HRS.out.ra 22 _ { s3 with pci := 0 } rfl) 24 _ { s3 with pci := 0, unc := 0 } rfl
    have hob6 := hob5.chg hq6 (by simpa using (Blk.ne HR.out HROB.out (by decide)).symm)
    have hg6 := HRS.out.ga.chg hq6 (by simpa using Ne.symm nrg)
    generalize (w5.setCell ⟨rb, 22, none⟩ (.int .u64 0)).setCell ⟨rb, 24, none⟩ (.int .u64 0) = W6 at hq6 hR6 hob6 hg6 ⊢
    clear d22 d24 d25 df dl g0 hob4 hob5
    have g0 := hg6.cell 0
    simp at g0
    have d25 : W6.cell? ⟨rb, 25, none⟩ = some (.pointer (some ⟨rob, 0, none⟩)) := by
      have z := RaftAt.cell hR6 25 _ rfl
      rw [z]
      show some s3.ro = _
      rw [HS3.out]
      exact congrArg some HRO.out
    have o0 := hob6.cell 0
    simp at o0
    have HQ6 := Lib.hid hq6
    have HR6 := Lib.hid hR6
    clear hq6 hR6 hob6 hg6
    go_region_law (first | (go_simp; go_at_call 272; (with_reducible refine Calls.mono (newRO_any _ _) ?_); rintro e1 w7 ⟨b7, rfl, hb7, hB7, hn7⟩; have k0 := hn7.out.at0 g0; have k25 := hn7.out.at0 d25; have kf := Blk.frozen (RaftAt.nxt HR6.out ⟨(Chg.refl _ _).drew.trans hn7.out⟩)))
    all_goals
      go_end0
      have hc6 : Chg [rb] W6 w7 := ((Chg.refl _ _).drew.trans hn7.out).mono (by simp)
      have hq8 : Chg [rb] w7 (w7.setCell ⟨rb, 25, none⟩ (.pointer (some ⟨b7, 0, none⟩))) := (Chg.refl _ _).setCell (.inr (by simp)) _
      have hRF : RaftAt (w7.setCell ⟨rb, 25, none⟩ (.pointer (some ⟨b7, 0, none⟩))) rb { s3 with pci := 0, unc := 0, ro := .pointer (some ⟨b7, 0, none⟩) } := RaftAt.set_ (RaftAt.nxt HR6.out ⟨(Chg.refl _ _).drew.trans hn7.out⟩) 25 _ { s3 with pci := 0, unc := 0, ro := .pointer (some ⟨b7, 0, none⟩) } rfl
      rw [HS3.out] at hRF
      have hc58 : Chg [rb] w5 (w7.setCell ⟨rb, 25, none⟩ (.pointer (some ⟨b7, 0, none⟩))) := (HQ6.out.trans hc6).trans hq8
      generalize w7.setCell ⟨rb, 25, none⟩ (.pointer (some ⟨b7, 0, none⟩)) = w8 at hq8 hRF hc58 ⊢
      have hKf : ∀ k st, f k = some st → k ∈ V ++ L := fun k st hk => by have z := (HT4.out.dom k).1 (by rw [hk]; rfl); simpa using z
      have hKd : ∀ k st, f k = some st → k ∈ K' := fun k st hk => HKP.out.mem_iff.2 (hKf k st hk)
      have hc45 := HRS.out.chg hKf
      have hc48 : Chg (ms :: rb :: (V ++ L).map p) w4 w8 := (hc45.mono (by intro x hx; simp only [List.mem_cons] at hx ⊢; rcases hx with h | h; exact .inl h; exact .inr (.inr h))).trans (hc58.mono (by simp))
      have z1 := HCc.out.size
      have z2 := HRS.out.na.2.2.2
      have z3 := HQ6.out.size
      have z4 : W6.drew.heap.size = W6.heap.size := rfl
      obtain ⟨_, _, _, _, _, _, hmsb⟩ := (HS.out.chg HCc.out (by simpa using mb) (by simpa using Ne.symm nrm)).at_
      have hrb4 : ∃ cs, Blk w4 rb 296 cs := by
        have z := HR.out.chg (L := []) (Chg.refl _ _) (by simp)
        obtain ⟨q1, q2⟩ := HRB4.out
        exact ⟨q1, q2⟩
      obtain ⟨csr, hrb4⟩ := hrb4
      have nmap : ∀ {b : Nat} {DD : DataW Value}, MapAt w4 b DD → b ∉ ms :: rb :: (V ++ L).map p := fun hm => by
        intro hin
        simp only [List.mem_cons, List.mem_map] at hin
        rcases hin with h | h | ⟨k, hk, h⟩
        · exact hm.ne_blk hmsb h
        · exact hm.ne_blk hrb4 h
        · obtain ⟨st, hst⟩ := HFK.out k hk
          exact hm.ne_blk (HT4.out.prg.blk k st hst) h.symm
      have nset : ∀ {v : Value} {S : List Int}, SetAt w4 v S → ∀ b, v = .map (some b) → b ∉ ms :: rb :: (V ++ L).map p := fun hs b hb => by
        obtain ⟨_, ⟨rfl, _⟩ | ⟨b', DD, rfl, hm, _⟩⟩ := hs
        · cases hb
        · cases hb
          exact nmap hm
      refine ⟨rfl, bv, b7, _, bi, ⟨hRF, HRS.out.la.chg hc58 (by simpa using Ne.symm nrl), HRS.out.sa.chg hc58 (by simpa using mb) (by simpa using Ne.symm nrm), hB7.chg hq8 (by have := Blk.lt HR6.out; simp; omega), by omega, HMV.out.chg hc48 (nmap HMV.out), hbv2, ?_, ?_, ?_, (HCc.out.mono (by simp)).trans hc48⟩⟩
      · refine { HT4.out with sv := HT4.out.sv.chg hc48 (nset HT4.out.sv), sl := HT4.out.sl.chg hc48 (nset HT4.out.sl), prg := ⟨⟨D', HRS.out.ma.chg hc58 (by have z := nmap hD4.out; simp only [List.mem_cons, not_or] at z; simpa using z.2.1), fun k => ?_⟩, fun k s' hk => ?_, fun k k' s' s'' hk hk' => ?_⟩, dom := fun k => ?_, lrn := fun k s' hk => ?_ }
        · rw [HGET.out k]
          cases f k <;> rfl
        · obtain ⟨st, hst, rfl⟩ := Option.map_eq_some_iff.1 hk
          have z := HRS.out.pa k st hst
          rw [if_pos (hKd k st hst)] at z
          have z2 := z.chg hc58 (by have q := Blk.ne HRS.out.ra z (by decide); simpa using q.symm)
          rw [HS3.out] at z2
          exact z2
        · obtain ⟨st, hst, rfl⟩ := Option.map_eq_some_iff.1 hk
          obtain ⟨st', hst', rfl⟩ := Option.map_eq_some_iff.1 hk'
          exact HT4.out.prg.inj k k' st st' hst hst'
        · rw [Option.isSome_map]
          exact HT4.out.dom k
        · obtain ⟨st, hst, rfl⟩ := Option.map_eq_some_iff.1 hk
          exact HT4.out.lrn k st hst
      · intro k st hst
        obtain ⟨q1, q2⟩ := HRS.out.ia k (hKd k st hst)
        have z2 := q2.chg hc58 (by have q := Blk.ne HRS.out.ra q2 (by decide); simpa using q.symm)
        rw [HS3.out] at z2
        exact ⟨Nat.le_trans z1 q1, z2⟩
      · intro k k' st st' hk hk'
        exact HRS.out.ja k (hKd k st hk) k' (hKd k' st' hk')

end Go.Proofs.YtalhhplphlobbaaGreat
