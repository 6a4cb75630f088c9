/- Plain data out of the package's structs: hardFrom, confFrom. Conditions: sizes. The basic status of a raft. Conditions: sizes. -/
import Derived.Test.YtalhhplphlobbaaGreatP13
import Derived.Test.YtalhhplphlobbaaGreatP17
set_option linter.unusedVariables false
set_option linter.unusedSimpArgs false
namespace Go.Proofs.YtalhhplphlobbaaGreat
open Go.RowKit
section
variable {M : List Nat} {w : World} {v : Value} {vs ls os ns : List Int} {al : Bool}
set_option maxRecDepth 100000 in
set_option maxHeartbeats 400000 in
theorem confVoters_any (h : ConfAt M w v vs ls os ns al) : Calls Tryz.prog 162 #[v] w fun y w' => ∃ A n c, y = .returned (.slice A n c) ∧ Sl M w (.slice A n c) (U64s vs) ∧ w = w' := by
  obtain ⟨b, s1, s2, s3, s4, p, rfl, hb, hl, c0, c1, c2, c3, c4, h1, h2, h3, h4, h5⟩ := h
  obtain ⟨A1, n1, k1, rfl⟩ := h1.form
  obtain ⟨A2, n2, k2, rfl⟩ := h2.form
  obtain ⟨A3, n3, k3, rfl⟩ := h3.form
  obtain ⟨A4, n4, k4, rfl⟩ := h4.form
  go_enter Tryz.func162, Tryz.ntmps162
  go_wp2
  go_ret
  exact ⟨_, _, _, rfl, h1, rfl⟩
set_option maxRecDepth 100000 in
set_option maxHeartbeats 400000 in
theorem confLearners_any (h : ConfAt M w v vs ls os ns al) : Calls Tryz.prog 163 #[v] w fun y w' => ∃ A n c, y = .returned (.slice A n c) ∧ Sl M w (.slice A n c) (U64s ls) ∧ w = w' := by
  obtain ⟨b, s1, s2, s3, s4, p, rfl, hb, hl, c0, c1, c2, c3, c4, h1, h2, h3, h4, h5⟩ := h
  obtain ⟨A1, n1, k1, rfl⟩ := h1.form
  obtain ⟨A2, n2, k2, rfl⟩ := h2.form
  obtain ⟨A3, n3, k3, rfl⟩ := h3.form
  obtain ⟨A4, n4, k4, rfl⟩ := h4.form
  go_enter Tryz.func163, Tryz.ntmps163
  go_wp2
  go_ret
  exact ⟨_, _, _, rfl, h2, rfl⟩
set_option maxRecDepth 100000 in
set_option maxHeartbeats 400000 in
theorem confOut_any (h : ConfAt M w v vs ls os ns al) : Calls Tryz.prog 164 #[v] w fun y w' => ∃ A n c, y = .returned (.slice A n c) ∧ Sl M w (.slice A n c) (U64s os) ∧ w = w' := by
  obtain ⟨b, s1, s2, s3, s4, p, rfl, hb, hl, c0, c1, c2, c3, c4, h1, h2, h3, h4, h5⟩ := h
  obtain ⟨A1, n1, k1, rfl⟩ := h1.form
  obtain ⟨A2, n2, k2, rfl⟩ := h2.form
  obtain ⟨A3, n3, k3, rfl⟩ := h3.form
  obtain ⟨A4, n4, k4, rfl⟩ := h4.form
  go_enter Tryz.func164, Tryz.ntmps164
  go_wp2
  go_ret
  exact ⟨_, _, _, rfl, h3, rfl⟩
set_option maxRecDepth 100000 in
set_option maxHeartbeats 400000 in
theorem confNext_any (h : ConfAt M w v vs ls os ns al) : Calls Tryz.prog 165 #[v] w fun y w' => ∃ A n c, y = .returned (.slice A n c) ∧ Sl M w (.slice A n c) (U64s ns) ∧ w = w' := by
  obtain ⟨b, s1, s2, s3, s4, p, rfl, hb, hl, c0, c1, c2, c3, c4, h1, h2, h3, h4, h5⟩ := h
  obtain ⟨A1, n1, k1, rfl⟩ := h1.form
  obtain ⟨A2, n2, k2, rfl⟩ := h2.form
  obtain ⟨A3, n3, k3, rfl⟩ := h3.form
  obtain ⟨A4, n4, k4, rfl⟩ := h4.form
  go_enter Tryz.func165, Tryz.ntmps165
  go_wp2
  go_ret
  exact ⟨_, _, _, rfl, h4, rfl⟩
set_option maxRecDepth 100000 in
set_option maxHeartbeats 400000 in
theorem confAuto_any (h : ConfAt M w v vs ls os ns al) : Calls Tryz.prog 166 #[v] w fun y w' => y = .returned (.bool al) ∧ w = w' := by
  obtain ⟨b, s1, s2, s3, s4, p, rfl, hb, hl, c0, c1, c2, c3, c4, h1, h2, h3, h4, b5, o5, rfl, _, _, c5⟩ := h
  go_enter Tryz.func166, Tryz.ntmps166
  go_wp2_with fail
  go_ret
  exact ⟨rfl, rfl⟩
set_option maxRecDepth 100000 in
set_option maxHeartbeats 1000000 in
theorem hardFrom_any {t vo c : Int} (h : HardAt M w v t vo c) (hM : ∀ x ∈ M, x < w.heap.size) : Calls Tryz.prog 106 #[v] w fun y w' => y = .returned (.agg #[.int .u64 t, .int .u64 vo, .int .u64 c]) ∧ Nxt w w' := by
  have H := Lib.hid (h.chg (L := []) ((Chg.refl [] w).alloc (.cells #[.int .u64 0, .int .u64 0, .int .u64 0] 31)) (by simp))
  clear h
  go_enter Tryz.func106, Tryz.ntmps106
  go_wp2_with (first | (go_at_call 159; (with_reducible refine Calls.mono (hardTerm_any H.out) ?_); rintro e w' ⟨rfl, rfl⟩) | (go_at_call 160; (with_reducible refine Calls.mono (hardVote_any H.out) ?_); rintro e w' ⟨rfl, rfl⟩) | (go_at_call 161; (with_reducible refine Calls.mono (hardCommit_any H.out) ?_); rintro e w' ⟨rfl, rfl⟩))
  exact bodyPost_ret (v := .agg #[.int .u64 t, .int .u64 vo, .int .u64 c]) (by simp [results, Tryz.results106, go_sem]) rfl ⟨rfl, ⟨(Chg.refl _ _).alloc _⟩⟩
set_option maxRecDepth 100000 in
set_option maxHeartbeats 4000000 in
theorem confFrom_any (h : ConfAt M w v vs ls os ns al) (hM : ∀ x ∈ M, x < w.heap.size) (l1 : vs.length ≤ 1000000000) (l2 : ls.length ≤ 1000000000) (l3 : os.length ≤ 1000000000) (l4 : ns.length ≤ 1000000000) :
    Calls Tryz.prog 107 #[v] w fun y w' => ∃ A1 n1 k1 A2 n2 k2 A3 n3 k3 A4 n4 k4, y = .returned (.agg #[.slice A1 n1 k1, .slice A2 n2 k2, .slice A3 n3 k3, .slice A4 n4 k4, .bool al]) ∧ Sl M w' (.slice A1 n1 k1) (U64s vs) ∧ Sl M w' (.slice A2 n2 k2) (U64s ls) ∧ Sl M w' (.slice A3 n3 k3) (U64s os) ∧ Sl M w' (.slice A4 n4 k4) (U64s ns) ∧ Nxt w w' := by
  have hn0 : Nxt w (w.alloc (.cells #[.slice none 0 0, .slice none 0 0, .slice none 0 0, .slice none 0 0, .bool false] 26)) := ⟨(Chg.refl [] w).alloc _⟩
  have hbk := Blk.new w 26 #[.slice none 0 0, .slice none 0 0, .slice none 0 0, .slice none 0 0, .bool false]
  have hH : ConfAt (w.heap.size :: M) _ v vs ls os ns al := ConfAt.chg (h.more (M' := w.heap.size :: M) (by intro x hx; simp only [List.mem_cons] at hx; rcases hx with rfl | hx; exact .inr (Nat.le_refl _); exact .inl hx)) hn0.out (by simp)
  have hM1 : ∀ x ∈ w.heap.size :: M, x < (w.alloc (.cells #[.slice none 0 0, .slice none 0 0, .slice none 0 0, .slice none 0 0, .bool false] 26)).heap.size := by intro x hx; simp only [List.mem_cons] at hx; rcases hx with rfl | hx; simp; exact Nat.lt_of_lt_of_le (hM x hx) hn0.out.size
  go_enter Tryz.func107, Tryz.ntmps107
  go_wp2_with fail
  obtain ⟨rb, hrb⟩ : ∃ rb, rb = w.heap.size := ⟨_, rfl⟩
  have hzr : w.heap.size ≤ rb := by omega
  generalize w.alloc (.cells #[.slice none 0 0, .slice none 0 0, .slice none 0 0, .slice none 0 0, .bool false] 26) = W0 at hn0 hbk hH hM1 ⊢
  rw [← hrb] at hbk hH hM1 ⊢
  clear hrb
  have H := Lib.hid hH
  have HM := Lib.hid hM1
  have HBK := Lib.hid hbk
  have HN0 := Lib.hid hn0
  have b0 := (HBK.out).cell 0; have b1 := (HBK.out).cell 1; have b2 := (HBK.out).cell 2; have b3 := (HBK.out).cell 3; have b4 := (HBK.out).cell 4; simp at b0 b1 b2 b3 b4; have bf := (HBK.out).frozen; have bl := (HBK.out).lt
  clear h hn0 hM hbk hH hM1
  go_wp2_with (first | (go_at_call 162; (with_reducible refine Calls.mono (confVoters_any (ConfAt.chg (L := []) H.out (Chg.refl _ _) (by simp))) ?_); rintro e w' ⟨B1, j1, i1, rfl, hg1, rfl⟩; have HG1 := Lib.hid hg1; clear hg1) | (go_at_call 156; (with_reducible refine Calls.mono (numbers_any (rb :: M) W0 _ _ HG1.out (fun x hx => Nat.lt_of_lt_of_le (HM.out x hx) (Chg.refl [] W0).size) l1) ?_); rintro e w1 ⟨A1, n1, c1, rfl, hs1, hc1⟩; have HSL1 := Lib.hid hs1; have HC1 : Hid (Chg [] W0 w1) := Lib.hid ((Chg.refl [] W0).trans hc1); have HD1 := Lib.hid hc1; clear hs1 hc1) | (go_at_call 163; (with_reducible refine Calls.mono (confLearners_any (ConfAt.chg (L := []) H.out HC1.out (by simp))) ?_); rintro e w' ⟨B2, j2, i2, rfl, hg2, rfl⟩; have HG2 := Lib.hid hg2; clear hg2) | (go_at_call 156; (with_reducible refine Calls.mono (numbers_any (rb :: M) w1 _ _ HG2.out (fun x hx => Nat.lt_of_lt_of_le (HM.out x hx) (HC1.out).size) l2) ?_); rintro e w2 ⟨A2, n2, c2, rfl, hs2, hc2⟩; have HSL2 := Lib.hid hs2; have HC2 : Hid (Chg [] W0 w2) := Lib.hid (HC1.out.trans hc2); have HD2 := Lib.hid hc2; clear hs2 hc2) | (go_at_call 164; (with_reducible refine Calls.mono (confOut_any (ConfAt.chg (L := []) H.out HC2.out (by simp))) ?_); rintro e w' ⟨B3, j3, i3, rfl, hg3, rfl⟩; have HG3 := Lib.hid hg3; clear hg3) | (go_at_call 156; (with_reducible refine Calls.mono (numbers_any (rb :: M) w2 _ _ HG3.out (fun x hx => Nat.lt_of_lt_of_le (HM.out x hx) (HC2.out).size) l3) ?_); rintro e w3 ⟨A3, n3, c3, rfl, hs3, hc3⟩; have HSL3 := Lib.hid hs3; have HC3 : Hid (Chg [] W0 w3) := Lib.hid (HC2.out.trans hc3); have HD3 := Lib.hid hc3; clear hs3 hc3) | (go_at_call 165; (with_reducible refine Calls.mono (confNext_any (ConfAt.chg (L := []) H.out HC3.out (by simp))) ?_); rintro e w' ⟨B4, j4, i4, rfl, hg4, rfl⟩; have HG4 := Lib.hid hg4; clear hg4) | (go_at_call 156; (with_reducible refine Calls.mono (numbers_any (rb :: M) w3 _ _ HG4.out (fun x hx => Nat.lt_of_lt_of_le (HM.out x hx) (HC3.out).size) l4) ?_); rintro e w4 ⟨A4, n4, c4, rfl, hs4, hc4⟩; have HSL4 := Lib.hid hs4; have HC4 : Hid (Chg [] W0 w4) := Lib.hid (HC3.out.trans hc4); have HD4 := Lib.hid hc4; clear hs4 hc4) | (go_at_call 166; (with_reducible refine Calls.mono (confAuto_any (ConfAt.chg (L := []) H.out HC4.out (by simp))) ?_); rintro e w' ⟨rfl, rfl⟩; have r0 := HC4.out.at0 b0; have r1 := HC4.out.at0 b1; have r2 := HC4.out.at0 b2; have r3 := HC4.out.at0 b3; have r4 := HC4.out.at0 b4; have rf := Blk.frozen (HBK.out.chg HC4.out (by simp))))
  have hF : Chg [rb] w4 (((((w4.setCell ⟨rb, 0, none⟩ (.slice A1 n1 c1)).setCell ⟨rb, 1, none⟩ (.slice A2 n2 c2)).setCell ⟨rb, 2, none⟩ (.slice A3 n3 c3)).setCell ⟨rb, 3, none⟩ (.slice A4 n4 c4)).setCell ⟨rb, 4, none⟩ (.bool al)) := (((((Chg.refl _ _).setCell (.inr (by simp)) _).setCell (.inr (by simp)) _).setCell (.inr (by simp)) _).setCell (.inr (by simp)) _).setCell (.inr (by simp)) _
  have hsb : ∀ x ∈ ([rb] : List Nat), x ∈ rb :: M := by simp
  have hmo : ∀ {w9 : World}, ∀ x ∈ M, x ∈ rb :: M ∨ w9.heap.size ≤ x := fun x hx => .inl (List.mem_cons_of_mem _ hx)
  exact bodyPost_ret (v := .agg #[.slice A1 n1 c1, .slice A2 n2 c2, .slice A3 n3 c3, .slice A4 n4 c4, .bool al]) (by simp [results, Tryz.results107, go_sem, r0, r1, r2, r3, r4]) rfl
    ⟨A1, n1, c1, A2, n2, c2, A3, n3, c3, A4, n4, c4, rfl, ((((HSL1.out.chg0 HD2.out).chg0 HD3.out).chg0 HD4.out).chg hF hsb).more hmo, (((HSL2.out.chg0 HD3.out).chg0 HD4.out).chg hF hsb).more hmo, ((HSL3.out.chg0 HD4.out).chg hF hsb).more hmo, (HSL4.out.chg hF hsb).more hmo, ⟨(HN0.out.out.trans HC4.out).then hF (by simp; omega)⟩⟩
end
end Go.Proofs.YtalhhplphlobbaaGreat
namespace Go.Proofs.YtalhhplphlobbaaGreat
open Go.RowKit
theorem blk6 {w : World} {g : Nat} {t : TypeId} {a0 a1 a2 a3 a4 a5 : Value} (h : Blk w g t #[a0, a1, a2, a3, a4, a5]) (u0 u1 u2 u3 u4 u5 : Value) :
    Blk ((((((w.setCell ⟨g, 0, none⟩ u0).setCell ⟨g, 1, none⟩ u1).setCell ⟨g, 2, none⟩ u2).setCell ⟨g, 3, none⟩ u3).setCell ⟨g, 4, none⟩ u4).setCell ⟨g, 5, none⟩ u5) g t #[u0, u1, u2, u3, u4, u5] ∧
    Chg [g] w ((((((w.setCell ⟨g, 0, none⟩ u0).setCell ⟨g, 1, none⟩ u1).setCell ⟨g, 2, none⟩ u2).setCell ⟨g, 3, none⟩ u3).setCell ⟨g, 4, none⟩ u4).setCell ⟨g, 5, none⟩ u5) := by
  refine ⟨?_, (by (focus (first | with_reducible assumption | ((repeat (first | with_reducible exact Chg.refl _ _ | with_reducible assumption | with_reducible refine Chg.drew ?_ | with_reducible refine Chg.alloc ?_ _ | with_reducible refine Chg.setCell ?_ (by simp) _ | with_reducible refine Chg.nxt ?_ (by assumption))); done))))⟩
  have := (((((h.set_ 0 u0).set_ 1 u1).set_ 2 u2).set_ 3 u3).set_ 4 u4).set_ 5 u5
  simpa using this
section
variable {M : List Nat} {w : World} {rb rl ms : Nat} {s : RaftS} {l : RLog}
set_option maxRecDepth 100000 in
set_option maxHeartbeats 4000000 in
theorem getBasic_any (h : RaftAt w rb s) (hrl : s.rl = rl) (hl : RlAt w rl ms l) (hM : ∀ x ∈ M, x < w.heap.size) :
    Calls Tryz.prog 158 #[.pointer (some ⟨rb, 0, none⟩)] w fun y w' => ∃ b, y = .returned (.agg #[.int .u64 s.id, .pointer (some ⟨b, 0, none⟩), .int .u64 s.lead, .int .u64 s.state, .int .u64 l.apd, .int .u64 s.ltr]) ∧ HardAt M w' (.pointer (some ⟨b, 0, none⟩)) s.term s.vote l.com ∧ Nxt w w' := by
  have hn0 : Nxt w (w.alloc (.cells #[.int .u64 0, .pointer none, .int .u64 0, .int .u64 0, .int .u64 0, .int .u64 0] 191)) := ⟨(Chg.refl [] w).alloc _⟩
  have hbk := Blk.new w 191 #[.int .u64 0, .pointer none, .int .u64 0, .int .u64 0, .int .u64 0, .int .u64 0]
  go_enter Tryz.func158, Tryz.ntmps158
  go_wp2_with fail
  obtain ⟨t2, ht2⟩ : ∃ t2, t2 = w.heap.size := ⟨_, rfl⟩
  have hz2 : w.heap.size ≤ t2 := by omega
  generalize w.alloc (.cells #[.int .u64 0, .pointer none, .int .u64 0, .int .u64 0, .int .u64 0, .int .u64 0] 191) = W0 at hn0 hbk ⊢
  rw [← ht2] at hbk ⊢
  clear ht2
  have hR := h.nxt hn0
  have c0 : W0.cell? ⟨rb, 0, none⟩ = some (.int .u64 s.id) := RaftAt.cell hR 0 _ rfl
  have c21 : W0.cell? ⟨rb, 21, none⟩ = some (.int .u64 s.ltr) := RaftAt.cell hR 21 _ rfl
  have crb := Blk.lt hR
  have HR := Lib.hid hR
  have HL := Lib.hid (hl.nxt hn0)
  have HRL := Lib.hid hrl
  have HB := Lib.hid hbk
  have HN0 := Lib.hid hn0
  have lt2 := hbk.lt
  clear h hl hrl hbk hn0 hR
  go_region_held3 (fun wx => wx.cell? ⟨rb, 0, none⟩ = some (.int .u64 s.id) ∧ wx.cell? ⟨rb, 21, none⟩ = some (.int .u64 s.ltr))
    (first | ((repeat' apply And.intro) <;> (first | with_reducible assumption | (simp; done) | ((repeat (refine cell_alloc ?_ _)); (first | with_reducible assumption | (refine Chg.at0 (Nxt.out (by assumption)) ?_; first | with_reducible assumption | (simp; done) | (simp [*]; done)) | (refine Chg.at0 (by assumption) ?_; first | with_reducible assumption | (simp; done) | (simp [*]; done)) | (simp [*]; done))) | ((repeat (first | with_reducible exact Chg.refl _ _ | with_reducible assumption | refine Chg.drew ?_ | refine Chg.alloc ?_ _)); done)))) (fail)
  have hb3 : Blk (W0.alloc (.cells #[.int .u64 s.id, .pointer none, .int .u64 0, .int .u64 0, .int .u64 0, .int .u64 s.ltr] 191)).drew W0.heap.size 191 #[.int .u64 s.id, .pointer none, .int .u64 0, .int .u64 0, .int .u64 0, .int .u64 s.ltr] := Blk.drew (Blk.new W0 191 _)
  have hn1 : Nxt W0 (W0.alloc (.cells #[.int .u64 s.id, .pointer none, .int .u64 0, .int .u64 0, .int .u64 0, .int .u64 s.ltr] 191)).drew := ⟨((Chg.refl _ _).alloc _).drew⟩
  obtain ⟨t3, ht3⟩ : ∃ t3, t3 = W0.heap.size := ⟨_, rfl⟩
  generalize (W0.alloc (.cells #[.int .u64 s.id, .pointer none, .int .u64 0, .int .u64 0, .int .u64 0, .int .u64 s.ltr] 191)).drew = W1 at hb3 hn1 ⊢
  rw [← ht3] at hb3 ⊢
  have hz3 : W0.heap.size ≤ t3 := by omega
  clear ht3 c0 c21
  have l3 := hb3.lt
  have z01 := hn1.out.size
  have hHS := hardState_any (M := t2 :: t3 :: M) (HR.out.nxt hn1) HRL.out (HL.out.nxt hn1) (by intro x hx; simp only [List.mem_cons] at hx; rcases hx with rfl | rfl | hx; omega; exact l3; have := hM x hx; have := HN0.out.out.size; omega)
  have HHS := Lib.hid hHS
  have HN1 := Lib.hid hn1
  have HB3 := Lib.hid hb3
  clear hHS hn1 hb3
  go_wp2_with (first | (go_at_call 210; (with_reducible refine Calls.mono HHS.out ?_); rintro e1 w2 ⟨b5, rfl, hh5, hb5, hn2⟩; have HH5 := Lib.hid hh5; have HN2 := Lib.hid hn2; have HB4 := Lib.hid (HB3.out.nxt hn2); clear hh5 hn2; have a0 := (HB4.out).cell 0; have a1 := (HB4.out).cell 1; have a2 := (HB4.out).cell 2; have a3 := (HB4.out).cell 3; have a4 := (HB4.out).cell 4; have a5 := (HB4.out).cell 5; simp at a0 a1 a2 a3 a4 a5; have af := (HB4.out).frozen; have al := (HB4.out).lt))
  have hb5' := HB4.out.set_ 1 (.pointer (some ⟨b5, 0, none⟩))
  simp only [List.setIfInBounds_toArray, List.set_cons_succ, List.set_cons_zero] at hb5'
  have hq : Chg [t3] w2 (w2.setCell ⟨t3, 1, none⟩ (.pointer (some ⟨b5, 0, none⟩))) := (Chg.refl _ _).setCell (.inr (by simp)) _
  have hn02 : Nxt W0 (w2.setCell ⟨t3, 1, none⟩ (.pointer (some ⟨b5, 0, none⟩))) := ⟨(HN1.out.out.trans HN2.out.out).then hq (by simp; omega)⟩
  have hh6 := HH5.out.chg hq (by simp)
  generalize w2.setCell ⟨t3, 1, none⟩ (.pointer (some ⟨b5, 0, none⟩)) = W3 at hb5' hq hn02 hh6 ⊢
  have HB5 := Lib.hid hb5'
  have HN02 := Lib.hid hn02
  have HH6 := Lib.hid hh6
  clear hb5' hq hn02 hh6 a0 a1 a2 a3 a4 a5 af al HB4 HH5
  (first | (go_at_call 209; (with_reducible refine Calls.mono (softState_any (HR.out.nxt HN02.out)) ?_); rintro e1 w4 ⟨rfl, hn4⟩))
  have hb6 := HB5.out.nxt hn4
  have hn04 : Nxt W0 w4 := ⟨HN02.out.out.trans hn4.out⟩
  have hR4 := HR.out.nxt hn04
  have hL4 := HL.out.nxt hn04
  have HB6 := Lib.hid hb6
  have a0 := (HB6.out).cell 0; have a1 := (HB6.out).cell 1; have a2 := (HB6.out).cell 2; have a3 := (HB6.out).cell 3; have a4 := (HB6.out).cell 4; have a5 := (HB6.out).cell 5; simp at a0 a1 a2 a3 a4 a5; have af := (HB6.out).frozen; have al := (HB6.out).lt
  have r4 : w4.cell? ⟨rb, 4, none⟩ = some (.pointer (some ⟨rl, 0, none⟩)) := by rw [← HRL.out]; exact RaftAt.cell hR4 4 _ rfl
  obtain ⟨_, _, _, _, _, _, _, _, k8, _⟩ := hL4.cells
  have nr3 : rb ≠ t3 := Blk.ne hR4 hb6 (by decide)
  have nl3 : rl ≠ t3 := Blk.ne hL4 hb6 (by decide)
  have hb2 := HB.out.nxt hn04
  have n23 : t2 ≠ t3 := by omega
  have HB2 := Lib.hid hb2
  have c0 := (HB2.out).cell 0; have c1 := (HB2.out).cell 1; have c2 := (HB2.out).cell 2; have c3 := (HB2.out).cell 3; have c4 := (HB2.out).cell 4; have c5 := (HB2.out).cell 5; simp at c0 c1 c2 c3 c4 c5; have cf := (HB2.out).frozen; have cl := (HB2.out).lt
  have HN04 := Lib.hid hn04
  have HH7 := Lib.hid (HH6.out.chg (L := []) hn4.out (by simp))
  clear hb6 hn04 hR4 hL4 hb2 hn4
  go_wp2_with fail
  have hF : Chg [t2, t3] w4 (((((((((w4.setCell ⟨t3, 2, none⟩ (.int .u64 s.lead)).setCell ⟨t3, 3, none⟩ (.int .u64 s.state)).setCell ⟨t3, 4, none⟩ (.int .u64 l.apd)).setCell ⟨t2, 0, none⟩ (.int .u64 s.id)).setCell ⟨t2, 1, none⟩ (.pointer (some ⟨b5, 0, none⟩))).setCell ⟨t2, 2, none⟩ (.int .u64 s.lead)).setCell ⟨t2, 3, none⟩ (.int .u64 s.state)).setCell ⟨t2, 4, none⟩ (.int .u64 l.apd)).setCell ⟨t2, 5, none⟩ (.int .u64 s.ltr)) := (by (focus (first | with_reducible assumption | ((repeat (first | with_reducible exact Chg.refl _ _ | with_reducible assumption | with_reducible refine Chg.drew ?_ | with_reducible refine Chg.alloc ?_ _ | with_reducible refine Chg.setCell ?_ (by simp) _ | with_reducible refine Chg.nxt ?_ (by assumption))); done))))
  have hN : Nxt w (((((((((w4.setCell ⟨t3, 2, none⟩ (.int .u64 s.lead)).setCell ⟨t3, 3, none⟩ (.int .u64 s.state)).setCell ⟨t3, 4, none⟩ (.int .u64 l.apd)).setCell ⟨t2, 0, none⟩ (.int .u64 s.id)).setCell ⟨t2, 1, none⟩ (.pointer (some ⟨b5, 0, none⟩))).setCell ⟨t2, 2, none⟩ (.int .u64 s.lead)).setCell ⟨t2, 3, none⟩ (.int .u64 s.state)).setCell ⟨t2, 4, none⟩ (.int .u64 l.apd)).setCell ⟨t2, 5, none⟩ (.int .u64 s.ltr)) := ⟨(HN0.out.out.trans HN04.out.out).then hF (by simp; omega)⟩
  have hH : HardAt M (((((((((w4.setCell ⟨t3, 2, none⟩ (.int .u64 s.lead)).setCell ⟨t3, 3, none⟩ (.int .u64 s.state)).setCell ⟨t3, 4, none⟩ (.int .u64 l.apd)).setCell ⟨t2, 0, none⟩ (.int .u64 s.id)).setCell ⟨t2, 1, none⟩ (.pointer (some ⟨b5, 0, none⟩))).setCell ⟨t2, 2, none⟩ (.int .u64 s.lead)).setCell ⟨t2, 3, none⟩ (.int .u64 s.state)).setCell ⟨t2, 4, none⟩ (.int .u64 l.apd)).setCell ⟨t2, 5, none⟩ (.int .u64 s.ltr)) (.pointer (some ⟨b5, 0, none⟩)) s.term s.vote l.com := (HH7.out.chg hF (by simp)).more (fun x hx => .inl (by simp [hx]))
  exact bodyPost_ret (v := .agg #[.int .u64 s.id, .pointer (some ⟨b5, 0, none⟩), .int .u64 s.lead, .int .u64 s.state, .int .u64 l.apd, .int .u64 s.ltr]) (by simp [results, Tryz.results158, go_sem, c0, c1, c2, c3, c4, c5, n23]) rfl ⟨b5, rfl, hH, hN⟩
set_option maxRecDepth 100000 in
set_option maxHeartbeats 4000000 in
theorem basic_any {rn : Nat} {u1 u2 u3 u4 : Value} (hrn : Blk w rn 276 #[.pointer (some ⟨rb, 0, none⟩), u1, u2, u3, u4]) (h : RaftAt w rb s) (hrl : s.rl = rl) (hl : RlAt w rl ms l) (hM : ∀ x ∈ M, x < w.heap.size) :
    Calls Tryz.prog 105 #[.pointer (some ⟨rn, 0, none⟩)] w fun y w' => ∃ b, y = .returned (.agg #[.int .u64 s.id, .pointer (some ⟨b, 0, none⟩), .int .u64 s.lead, .int .u64 s.state, .int .u64 l.apd, .int .u64 s.ltr]) ∧ HardAt M w' (.pointer (some ⟨b, 0, none⟩)) s.term s.vote l.com ∧ Nxt w w' := by
  have hn0 : Nxt w (w.alloc (.cells #[.int .u64 0, .pointer none, .int .u64 0, .int .u64 0, .int .u64 0, .int .u64 0] 191)) := ⟨(Chg.refl [] w).alloc _⟩
  have hbk := Blk.new w 191 #[.int .u64 0, .pointer none, .int .u64 0, .int .u64 0, .int .u64 0, .int .u64 0]
  have hz0 : (w.alloc (.cells #[.int .u64 0, .pointer none, .int .u64 0, .int .u64 0, .int .u64 0, .int .u64 0] 191)).heap.size = w.heap.size + 1 := by simp
  have k0 : w.cell? ⟨rn, 0, none⟩ = some (.pointer (some ⟨rb, 0, none⟩)) := by rw [hrn.cell 0]; rfl
  have lrn := hrn.lt
  have hG := getBasic_any (M := w.heap.size :: M) (h.nxt hn0) hrl (hl.nxt hn0) (by intro x hx; simp only [List.mem_cons] at hx; rcases hx with rfl | hx; omega; have := hM x hx; omega)
  have HG := Lib.hid hG
  have HN0 := Lib.hid hn0
  have HB := Lib.hid hbk
  clear h hrl hl hG hn0 hbk hz0 hrn
  go_enter Tryz.func105, Tryz.ntmps105
  go_wp2_with (first | (go_at_call 158; (with_reducible refine Calls.mono HG.out ?_); rintro e1 w2 ⟨hp, rfl, hh2, hn2⟩; have HB2 := Lib.hid (HB.out.nxt hn2); have HN2 := Lib.hid hn2; have HH2 := Lib.hid hh2; clear hh2 hn2; have c0 := (HB2.out).cell 0; have c1 := (HB2.out).cell 1; have c2 := (HB2.out).cell 2; have c3 := (HB2.out).cell 3; have c4 := (HB2.out).cell 4; have c5 := (HB2.out).cell 5; simp at c0 c1 c2 c3 c4 c5; have cf := (HB2.out).frozen; have cl := (HB2.out).lt))
  obtain ⟨t2, ht2⟩ : ∃ t2, t2 = w.heap.size := ⟨_, rfl⟩
  have HH3 := HH2.out
  rw [← ht2] at HH3 c0 c1 c2 c3 c4 c5
  (try rw [← ht2])
  have hF : Chg [t2] w2 ((((((w2.setCell ⟨t2, 0, none⟩ (.int .u64 s.id)).setCell ⟨t2, 1, none⟩ (.pointer (some ⟨hp, 0, none⟩))).setCell ⟨t2, 2, none⟩ (.int .u64 s.lead)).setCell ⟨t2, 3, none⟩ (.int .u64 s.state)).setCell ⟨t2, 4, none⟩ (.int .u64 l.apd)).setCell ⟨t2, 5, none⟩ (.int .u64 s.ltr)) := (by (focus (first | with_reducible assumption | ((repeat (first | with_reducible exact Chg.refl _ _ | with_reducible assumption | with_reducible refine Chg.drew ?_ | with_reducible refine Chg.alloc ?_ _ | with_reducible refine Chg.setCell ?_ (by simp) _ | with_reducible refine Chg.nxt ?_ (by assumption))); done))))
  have hN : Nxt w ((((((w2.setCell ⟨t2, 0, none⟩ (.int .u64 s.id)).setCell ⟨t2, 1, none⟩ (.pointer (some ⟨hp, 0, none⟩))).setCell ⟨t2, 2, none⟩ (.int .u64 s.lead)).setCell ⟨t2, 3, none⟩ (.int .u64 s.state)).setCell ⟨t2, 4, none⟩ (.int .u64 l.apd)).setCell ⟨t2, 5, none⟩ (.int .u64 s.ltr)) := ⟨(HN0.out.out.trans HN2.out.out).then hF (by simp; omega)⟩
  have hH : HardAt M ((((((w2.setCell ⟨t2, 0, none⟩ (.int .u64 s.id)).setCell ⟨t2, 1, none⟩ (.pointer (some ⟨hp, 0, none⟩))).setCell ⟨t2, 2, none⟩ (.int .u64 s.lead)).setCell ⟨t2, 3, none⟩ (.int .u64 s.state)).setCell ⟨t2, 4, none⟩ (.int .u64 l.apd)).setCell ⟨t2, 5, none⟩ (.int .u64 s.ltr)) (.pointer (some ⟨hp, 0, none⟩)) s.term s.vote l.com := (HH3.chg hF (by simp)).more (fun x hx => .inl (by simp [hx]))
  exact bodyPost_ret (v := .agg #[.int .u64 s.id, .pointer (some ⟨hp, 0, none⟩), .int .u64 s.lead, .int .u64 s.state, .int .u64 l.apd, .int .u64 s.ltr]) (by simp [results, Tryz.results105, go_sem, c0, c1, c2, c3, c4, c5]) rfl ⟨hp, rfl, hH, hN⟩
end
end Go.Proofs.YtalhhplphlobbaaGreat
