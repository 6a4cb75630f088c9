/- becomeFollower. Conditions: sizes. Words for newRaft: what stays readable though more blocks turn; a new tracker. Conditions: none. Plain data out of the package's structs: hardFrom, confFrom. Conditions: sizes. softState, hardState. Conditions: none. -/
import Derived.Laws.EntriesVeiled
import Derived.Test.YtalhhplphlobbaaGreatP16
import Derived.Test.YtalhhplphlobbaaGreatP18
set_option linter.unusedVariables false
set_option linter.unusedSimpArgs false
namespace Go.Proofs.YtalhhplphlobbaaGreat
open Go.RowKit
/-- A follower's fields. -/
def RaftS.fol (s : RaftS) (rb : Nat) (term lead : Int) (D : List Int) (k : Nat) (bv ro : Nat) : RaftS :=
  { s.res term D k bv ro with lead := lead, state := 0, tick := .func (.func 281) #[.pointer (some ⟨rb, 0, none⟩)] #[], step := .func (.func 279) #[] #[] }
def FolPost (M : List Nat) (w : World) (rb rl ms bt x0 : Nat) (x2 : Option Nat) (s : RaftS) (l : RLog) (hv sv ev : Value) (e : Ent) (r : List Ent) (V L : List Int) (f : Int → Option PrS) (p : Int → Nat) (term lead opt : Int) (D : List Int) (zk : Nat) (y : Ending) (w' : World) : Prop :=
  y = .returned (.tuple #[]) ∧ ∃ bv ro' mo bi, ResetTo M w rb rl ms bt x0 x2 s l hv sv ev e r V L f p opt (s.fol rb term lead D zk bv ro') w' bv ro' mo bi
set_option maxRecDepth 100000 in
set_option maxHeartbeats 4000000 in
theorem follow_any {M : List Nat} {w : World} {rb rl ms rob bt x0 : Nat} {x2 : Option Nat} {s : RaftS} {l : RLog} {hv sv ev mp sl cn : Value} {e : Ent} {r : List Ent} {V L : List Int} {f : Int → Option PrS} {p : Int → Nat} {term lead opt : Int} {D : List Int} {zk : Nat}
    (h : RaftAt w rb s) (hrl : s.rl = rl) (hl : RlAt w rl ms l) (hcalm : l.calm) (hs : StAt M w ms hv sv ev e r) (ht : TrkAt w (some x0) x2 bt V L f p) (hn : (V ++ L).Nodup) (hpr : s.prog = .map (some bt))
    (hzd : Sl M w s.zd (I64s D)) (hk : s.zn = zk) (hk1 : zk < 1000000000) (hDl : D.length ≤ 1000) (hDn : ∀ x ∈ D, 0 ≤ x ∧ x < s.et) (hn0 : 0 < s.et) (hn1 : s.et < 1000000000)
    (hro : s.ro = .pointer (some ⟨rob, 0, none⟩)) (hrob : Blk w rob 449 #[.int .i64 opt, mp, sl, cn]) (mb : rb ∈ M) (hpM : ∀ k st, f k = some st → p k ∈ M) (lK : (V ++ L).length ≤ 13) :
    Calls Tryz.prog 216 #[.pointer (some ⟨rb, 0, none⟩), .int .u64 term, .int .u64 lead] w (FolPost M w rb rl ms bt x0 x2 s l hv sv ev e r V L f p term lead opt D zk) := by
  have hmf : ∀ (fn : Fn) (first cap : Array Value) (w : World), (Instr.makeFunc fn first cap).run Tryz.prog w = .ok (.func fn first cap) w := fun _ _ _ _ => rfl
  have nrm := hs.at_.ne h (by decide)
  have nrl := Blk.ne h hl (by decide)
  have nro := Blk.ne h hrob (by decide)
  have c36 : w.cell? ⟨rb, 36, none⟩ = some s.step := RaftAt.cell h 36 _ rfl
  have cf := Blk.frozen h
  have hq : Chg [rb] w (w.setCell ⟨rb, 36, none⟩ (.func (.func 279) #[] #[])) := (Chg.refl _ _).setCell (.inr (by simp)) _
  have hR1 : RaftAt (w.setCell ⟨rb, 36, none⟩ (.func (.func 279) #[] #[])) rb { s with step := .func (.func 279) #[] #[] } := RaftAt.set_ h 36 _ { s with step := .func (.func 279) #[] #[] } rfl
  have hC := reset_any (term := term) hR1 hrl (hl.chg hq (by simpa using nrl.symm)) hcalm (hs.chg hq (by simpa using mb) (by simpa using nrm.symm)) (ht.chgB h (by decide) hq) hn hpr (hzd.chg hq (by simpa using mb)) hk hk1 hDl hDn hn0 hn1 hro (hrob.chg hq (by simpa using nro.symm)) mb hpM lK
  have HC := Lib.hid hC
  have HQ := Lib.hid hq
  clear h hrl hl hcalm hs ht hn hpr hzd hk hDn hro hrob hpM hC hR1 hq
  go_enter Tryz.func216, Tryz.ntmps216
  go_wp2_with (first | (go_at_call 280; (with_reducible refine Calls.mono HC.out ?_); rintro e1 w2 ⟨rfl, bv, ro', mo, bi, hrt⟩; have HRT := Lib.hid hrt; clear hrt; have d35 : w2.cell? ⟨rb, 35, none⟩ = some s.tick := RaftAt.cell HRT.out.ra 35 _ rfl; have d20 : w2.cell? ⟨rb, 20, none⟩ = some (.int .u64 0) := RaftAt.cell HRT.out.ra 20 _ rfl; have d16 : w2.cell? ⟨rb, 16, none⟩ = some (.int .u64 s.state) := RaftAt.cell HRT.out.ra 16 _ rfl; have df := Blk.frozen HRT.out.ra))
  go_end0
  have hR2 := RaftAt.set_ (RaftAt.set_ (RaftAt.set_ HRT.out.ra 35 (.func (.func 281) #[.pointer (some ⟨rb, 0, none⟩)] #[]) { (RaftS.res { s with step := .func (.func 279) #[] #[] } term D zk bv ro') with tick := .func (.func 281) #[.pointer (some ⟨rb, 0, none⟩)] #[] } rfl) 20 (.int .u64 lead) { (RaftS.res { s with step := .func (.func 279) #[] #[] } term D zk bv ro') with tick := .func (.func 281) #[.pointer (some ⟨rb, 0, none⟩)] #[], lead := lead } rfl) 16 (.int .u64 0) (s.fol rb term lead D zk bv ro') rfl
  have hq2 : Chg [rb] w2 (((w2.setCell ⟨rb, 35, none⟩ (.func (.func 281) #[.pointer (some ⟨rb, 0, none⟩)] #[])).setCell ⟨rb, 20, none⟩ (.int .u64 lead)).setCell ⟨rb, 16, none⟩ (.int .u64 0)) := (((Chg.refl _ _).setCell (.inr (by simp)) _).setCell (.inr (by simp)) _).setCell (.inr (by simp)) _
  have hF := HRT.out.more hq2 hR2 mb
  have hz : (w.setCell ⟨rb, 36, none⟩ (.func (.func 279) #[] #[])).heap.size = w.heap.size := by simp
  exact ⟨rfl, bv, ro', mo, bi, ⟨hF.ra, hF.la, hF.sa, hF.oa, by rw [← hz]; exact hF.ol, hF.va, by rw [← hz]; exact hF.vl, hF.ta, fun k st hk => ⟨by rw [← hz]; exact (hF.ia k st hk).1, (hF.ia k st hk).2⟩, hF.ja, (HQ.out.mono (by simp)).trans hF.ca⟩⟩
end Go.Proofs.YtalhhplphlobbaaGreat
namespace Go.Proofs.YtalhhplphlobbaaGreat
open Go.RowKit
section
variable {M M' L : List Nat} {w w' : World} {v : Value}
theorem ConfAt.more {vs ls os ns : List Int} {al : Bool} (h : ConfAt M w v vs ls os ns al) (hM : ∀ x ∈ M', x ∈ M ∨ w.heap.size ≤ x) : ConfAt M' w v vs ls os ns al := by
  obtain ⟨b, s1, s2, s3, s4, p, rfl, hb, hl, c0, c1, c2, c3, c4, h1, h2, h3, h4, h5⟩ := h
  exact ⟨b, s1, s2, s3, s4, p, rfl, fun hx => by rcases hM b hx with h | h; exact hb h; omega, hl, c0, c1, c2, c3, c4, h1.more hM, h2.more hM, h3.more hM, h4.more hM, h5.more hM⟩
theorem HardAt.more {t vo c : Int} (h : HardAt M w v t vo c) (hM : ∀ x ∈ M', x ∈ M ∨ w.heap.size ≤ x) : HardAt M' w v t vo c := by
  obtain ⟨b, p1, p2, p3, rfl, hb, hl, c1, c2, c3, h1, h2, h3⟩ := h
  exact ⟨b, p1, p2, p3, rfl, fun hx => by rcases hM b hx with h | h; exact hb h; omega, hl, c1, c2, c3, h1.more hM, h2.more hM, h3.more hM⟩
theorem StAt.grow {ms : Nat} {hv sv ev : Value} {e : Ent} {r : List Ent} (h : StAt M w ms hv sv ev e r) (hM : ∀ x ∈ M', x ∈ M ∨ w.heap.size ≤ x) (hm : ms ∈ M') (ha : MsAt w' ms hv sv ev) (hc : Chg L w w') (hL : ∀ x ∈ L, x ∈ M') : StAt M' w' ms hv sv ev e r :=
  ⟨ha, hm, (h.ents.more hM).chg hc hL, h.i0, h.i1, h.len⟩
end
set_option maxRecDepth 100000 in
set_option maxHeartbeats 400000 in
theorem mkTrk_maps (w : World) (n m : Int) : Calls Tryz.prog 271 #[.int .i64 n, .int .u64 m] w fun y w' => ∃ a b c, y = .returned (.agg #[.map (some a), .map none, .bool false, .map none, .map none, .map (some b), .map (some c), .int .i64 n, .int .u64 m]) ∧ MapAt w' a (.map []) ∧ MapAt w' b (.map []) ∧ a ≠ b ∧ Nxt w w' := by
  have hmm := @run_makeMap Tryz.prog
  go_enter Tryz.func271, Tryz.ntmps271
  go_wp2
  refine bodyPost_ret (v := .agg #[.map (some (w.heap.size + 1)), .map none, .bool false, .map none, .map none, .map (some (w.heap.size + 3)), .map (some (w.heap.size + 2)), .int .i64 n, .int .u64 m]) (by simp [results, Tryz.results271, go_sem]) rfl ?_
  have ha : ∀ X Y, MapAt (((((w.alloc X).alloc (.map #[] 0)).alloc (.map #[] 0)).alloc (.map #[] 0)).alloc Y) (w.heap.size + 1) (.map []) := fun X Y => by
    have z : MapAt (((((w.alloc X).alloc (.map #[] 0)).alloc (.map #[] 0)).alloc (.map #[] 0)).alloc Y) (w.alloc X).heap.size (.map []) := (MapAt.new (w.alloc X)).nxt ⟨(((Chg.refl _ _).alloc _).alloc _).alloc _⟩
    simpa using z
  have hb : ∀ X Y, MapAt (((((w.alloc X).alloc (.map #[] 0)).alloc (.map #[] 0)).alloc (.map #[] 0)).alloc Y) (w.heap.size + 3) (.map []) := fun X Y => by
    have z : MapAt (((((w.alloc X).alloc (.map #[] 0)).alloc (.map #[] 0)).alloc (.map #[] 0)).alloc Y) (((w.alloc X).alloc (.map #[] 0)).alloc (.map #[] 0)).heap.size (.map []) := (MapAt.new (((w.alloc X).alloc (.map #[] 0)).alloc (.map #[] 0))).nxt ⟨(Chg.refl _ _).alloc _⟩
    simpa using z
  exact ⟨_, _, _, rfl, ha _ _, hb _ _, by omega, ⟨(((((Chg.refl _ _).alloc _).alloc _).alloc _).alloc _).alloc _⟩⟩
theorem TrkAt.new {w : World} {a b : Nat} (ha : MapAt w a (.map [])) (hb : MapAt w b (.map [])) (hab : a ≠ b) : TrkAt w (some a) none b [] [] (fun _ => none) (fun _ => 0) where
  sv := ⟨List.nodup_nil, .inr ⟨a, _, rfl, ha, IsSet.nil⟩⟩
  sl := ⟨List.nodup_nil, .inl ⟨rfl, rfl⟩⟩
  prg := ⟨⟨_, hb, fun k => mget_nil k⟩, by simp, by simp⟩
  dom := by simp
  lrn := by simp
  dis := by simp
  lv := by simp
  ll := by simp
  rng := by simp
  some0 := rfl
  a1 := by simpa using hab
  a2 := by simp
  a3 := by simp
end Go.Proofs.YtalhhplphlobbaaGreat
namespace Go.Proofs.YtalhhplphlobbaaGreat
open Go.RowKit
section
variable {M : List Nat} {w : World} {v : Value} {vs ls os ns : List Int} {al : Bool}
set_option maxRecDepth 100000 in
set_option maxHeartbeats 400000 in
theorem confVoters_any (h : ConfAt M w v vs ls os ns al) : Calls Tryz.prog 162 #[v] w fun y w' => ∃ A n c, y = .returned (.slice A n c) ∧ Sl M w (.slice A n c) (U64s vs) ∧ w = w' := by
  obtain ⟨b, s1, s2, s3, s4, p, rfl, hb, hl, c0, c1, c2, c3, c4, h1, h2, h3, h4, h5⟩ := h
  obtain ⟨A1, n1, k1, rfl⟩ := h1.form
  obtain ⟨A2, n2, k2, rfl⟩ := h2.form
  obtain ⟨A3, n3, k3, rfl⟩ := h3.form
  obtain ⟨A4, n4, k4, rfl⟩ := h4.form
  go_enter Tryz.func162, Tryz.ntmps162
  go_wp2
  go_ret
  exact ⟨_, _, _, rfl, h1, rfl⟩
set_option maxRecDepth 100000 in
set_option maxHeartbeats 400000 in
theorem confLearners_any (h : ConfAt M w v vs ls os ns al) : Calls Tryz.prog 163 #[v] w fun y w' => ∃ A n c, y = .returned (.slice A n c) ∧ Sl M w (.slice A n c) (U64s ls) ∧ w = w' := by
  obtain ⟨b, s1, s2, s3, s4, p, rfl, hb, hl, c0, c1, c2, c3, c4, h1, h2, h3, h4, h5⟩ := h
  obtain ⟨A1, n1, k1, rfl⟩ := h1.form
  obtain ⟨A2, n2, k2, rfl⟩ := h2.form
  obtain ⟨A3, n3, k3, rfl⟩ := h3.form
  obtain ⟨A4, n4, k4, rfl⟩ := h4.form
  go_enter Tryz.func163, Tryz.ntmps163
  go_wp2
  go_ret
  exact ⟨_, _, _, rfl, h2, rfl⟩
set_option maxRecDepth 100000 in
set_option maxHeartbeats 400000 in
theorem confOut_any (h : ConfAt M w v vs ls os ns al) : Calls Tryz.prog 164 #[v] w fun y w' => ∃ A n c, y = .returned (.slice A n c) ∧ Sl M w (.slice A n c) (U64s os) ∧ w = w' := by
  obtain ⟨b, s1, s2, s3, s4, p, rfl, hb, hl, c0, c1, c2, c3, c4, h1, h2, h3, h4, h5⟩ := h
  obtain ⟨A1, n1, k1, rfl⟩ := h1.form
  obtain ⟨A2, n2, k2, rfl⟩ := h2.form
  obtain ⟨A3, n3, k3, rfl⟩ := h3.form
  obtain ⟨A4, n4, k4, rfl⟩ := h4.form
  go_enter Tryz.func164, Tryz.ntmps164
  go_wp2
  go_ret
  exact ⟨_, _, _, rfl, h3, rfl⟩
set_option maxRecDepth 100000 in
set_option maxHeartbeats 400000 in
theorem confNext_any (h : ConfAt M w v vs ls os ns al) : Calls Tryz.prog 165 #[v] w fun y w' => ∃ A n c, y = .returned (.slice A n c) ∧ Sl M w (.slice A n c) (U64s ns) ∧ w = w' := by
  obtain ⟨b, s1, s2, s3, s4, p, rfl, hb, hl, c0, c1, c2, c3, c4, h1, h2, h3, h4, h5⟩ := h
  obtain ⟨A1, n1, k1, rfl⟩ := h1.form
  obtain ⟨A2, n2, k2, rfl⟩ := h2.form
  obtain ⟨A3, n3, k3, rfl⟩ := h3.form
  obtain ⟨A4, n4, k4, rfl⟩ := h4.form
  go_enter Tryz.func165, Tryz.ntmps165
  go_wp2
  go_ret
  exact ⟨_, _, _, rfl, h4, rfl⟩
set_option maxRecDepth 100000 in
set_option maxHeartbeats 400000 in
theorem confAuto_any (h : ConfAt M w v vs ls os ns al) : Calls Tryz.prog 166 #[v] w fun y w' => y = .returned (.bool al) ∧ w = w' := by
  obtain ⟨b, s1, s2, s3, s4, p, rfl, hb, hl, c0, c1, c2, c3, c4, h1, h2, h3, h4, b5, o5, rfl, _, _, c5⟩ := h
  go_enter Tryz.func166, Tryz.ntmps166
  go_wp2_with fail
  go_ret
  exact ⟨rfl, rfl⟩
set_option maxRecDepth 100000 in
set_option maxHeartbeats 1000000 in
theorem hardFrom_any {t vo c : Int} (h : HardAt M w v t vo c) (hM : ∀ x ∈ M, x < w.heap.size) : Calls Tryz.prog 106 #[v] w fun y w' => y = .returned (.agg #[.int .u64 t, .int .u64 vo, .int .u64 c]) ∧ Nxt w w' := by
  have H := Lib.hid (h.chg (L := []) ((Chg.refl [] w).alloc (.cells #[.int .u64 0, .int .u64 0, .int .u64 0] 31)) (by simp))
  clear h
  go_enter Tryz.func106, Tryz.ntmps106
  go_wp2_with (first | (go_at_call 159; (with_reducible refine Calls.mono (hardTerm_any H.out) ?_); rintro e w' ⟨rfl, rfl⟩) | (go_at_call 160; (with_reducible refine Calls.mono (hardVote_any H.out) ?_); rintro e w' ⟨rfl, rfl⟩) | (go_at_call 161; (with_reducible refine Calls.mono (hardCommit_any H.out) ?_); rintro e w' ⟨rfl, rfl⟩))
  exact bodyPost_ret (v := .agg #[.int .u64 t, .int .u64 vo, .int .u64 c]) (by simp [results, Tryz.results106, go_sem]) rfl ⟨rfl, ⟨(Chg.refl _ _).alloc _⟩⟩
set_option maxRecDepth 100000 in
set_option maxHeartbeats 4000000 in
theorem confFrom_any (h : ConfAt M w v vs ls os ns al) (hM : ∀ x ∈ M, x < w.heap.size) (l1 : vs.length ≤ 1000000000) (l2 : ls.length ≤ 1000000000) (l3 : os.length ≤ 1000000000) (l4 : ns.length ≤ 1000000000) :
    Calls Tryz.prog 107 #[v] w fun y w' => ∃ A1 n1 k1 A2 n2 k2 A3 n3 k3 A4 n4 k4, y = .returned (.agg #[.slice A1 n1 k1, .slice A2 n2 k2, .slice A3 n3 k3, .slice A4 n4 k4, .bool al]) ∧ Sl M w' (.slice A1 n1 k1) (U64s vs) ∧ Sl M w' (.slice A2 n2 k2) (U64s ls) ∧ Sl M w' (.slice A3 n3 k3) (U64s os) ∧ Sl M w' (.slice A4 n4 k4) (U64s ns) ∧ Nxt w w' := by
  have hn0 : Nxt w (w.alloc (.cells #[.slice none 0 0, .slice none 0 0, .slice none 0 0, .slice none 0 0, .bool false] 26)) := ⟨(Chg.refl [] w).alloc _⟩
  have hbk := Blk.new w 26 #[.slice none 0 0, .slice none 0 0, .slice none 0 0, .slice none 0 0, .bool false]
  have hH : ConfAt (w.heap.size :: M) _ v vs ls os ns al := ConfAt.chg (h.more (M' := w.heap.size :: M) (by intro x hx; simp only [List.mem_cons] at hx; rcases hx with rfl | hx; exact .inr (Nat.le_refl _); exact .inl hx)) hn0.out (by simp)
  have hM1 : ∀ x ∈ w.heap.size :: M, x < (w.alloc (.cells #[.slice none 0 0, .slice none 0 0, .slice none 0 0, .slice none 0 0, .bool false] 26)).heap.size := by intro x hx; simp only [List.mem_cons] at hx; rcases hx with rfl | hx; simp; exact Nat.lt_of_lt_of_le (hM x hx) hn0.out.size
  go_enter Tryz.func107, Tryz.ntmps107
  go_wp2_with fail
  obtain ⟨rb, hrb⟩ : ∃ rb, rb = w.heap.size := ⟨_, rfl⟩
  have hzr : w.heap.size ≤ rb := by omega
  generalize w.alloc (.cells #[.slice none 0 0, .slice none 0 0, .slice none 0 0, .slice none 0 0, .bool false] 26) = W0 at hn0 hbk hH hM1 ⊢
  rw [← hrb] at hbk hH hM1 ⊢
  clear hrb
  have H := Lib.hid hH
  have HM := Lib.hid hM1
  have HBK := Lib.hid hbk
  have HN0 := Lib.hid hn0
  have b0 := (HBK.out).cell 0; have b1 := (HBK.out).cell 1; have b2 := (HBK.out).cell 2; have b3 := (HBK.out).cell 3; have b4 := (HBK.out).cell 4; simp at b0 b1 b2 b3 b4; have bf := (HBK.out).frozen; have bl := (HBK.out).lt
  clear h hn0 hM hbk hH hM1
  go_wp2_with (first | (go_at_call 162; (with_reducible refine Calls.mono (confVoters_any (ConfAt.chg (L := []) H.out (Chg.refl _ _) (by simp))) ?_); rintro e w' ⟨B1, j1, i1, rfl, hg1, rfl⟩; have HG1 := Lib.hid hg1; clear hg1) | (go_at_call 156; (with_reducible refine Calls.mono (numbers_any (rb :: M) W0 _ _ HG1.out (fun x hx => Nat.lt_of_lt_of_le (HM.out x hx) (Chg.refl [] W0).size) l1) ?_); rintro e w1 ⟨A1, n1, c1, rfl, hs1, hc1⟩; have HSL1 := Lib.hid hs1; have HC1 : Hid (Chg [] W0 w1) := Lib.hid ((Chg.refl [] W0).trans hc1); have HD1 := Lib.hid hc1; clear hs1 hc1) | (go_at_call 163; (with_reducible refine Calls.mono (confLearners_any (ConfAt.chg (L := []) H.out HC1.out (by simp))) ?_); rintro e w' ⟨B2, j2, i2, rfl, hg2, rfl⟩; have HG2 := Lib.hid hg2; clear hg2) | (go_at_call 156; (with_reducible refine Calls.mono (numbers_any (rb :: M) w1 _ _ HG2.out (fun x hx => Nat.lt_of_lt_of_le (HM.out x hx) (HC1.out).size) l2) ?_); rintro e w2 ⟨A2, n2, c2, rfl, hs2, hc2⟩; have HSL2 := Lib.hid hs2; have HC2 : Hid (Chg [] W0 w2) := Lib.hid (HC1.out.trans hc2); have HD2 := Lib.hid hc2; clear hs2 hc2) | (go_at_call 164; (with_reducible refine Calls.mono (confOut_any (ConfAt.chg (L := []) H.out HC2.out (by simp))) ?_); rintro e w' ⟨B3, j3, i3, rfl, hg3, rfl⟩; have HG3 := Lib.hid hg3; clear hg3) | (go_at_call 156; (with_reducible refine Calls.mono (numbers_any (rb :: M) w2 _ _ HG3.out (fun x hx => Nat.lt_of_lt_of_le (HM.out x hx) (HC2.out).size) l3) ?_); rintro e w3 ⟨A3, n3, c3, rfl, hs3, hc3⟩; have HSL3 := Lib.hid hs3; have HC3 : Hid (Chg [] W0 w3) := Lib.hid (HC2.out.trans hc3); have HD3 := Lib.hid hc3; clear hs3 hc3) | (go_at_call 165; (with_reducible refine Calls.mono (confNext_any (ConfAt.chg (L := []) H.out HC3.out (by simp))) ?_); rintro e w' ⟨B4, j4, i4, rfl, hg4, rfl⟩; have HG4 := Lib.hid hg4; clear hg4) | (go_at_call 156; (with_reducible refine Calls.mono (numbers_any (rb :: M) w3 _ _ HG4.out (fun x hx => Nat.lt_of_lt_of_le (HM.out x hx) (HC3.out).size) l4) ?_); rintro e w4 ⟨A4, n4, c4, rfl, hs4, hc4⟩; have HSL4 := Lib.hid hs4; have HC4 : Hid (Chg [] W0 w4) := Lib.hid (HC3.out.trans hc4); have HD4 := Lib.hid hc4; clear hs4 hc4) | (go_at_call 166; (with_reducible refine Calls.mono (confAuto_any (ConfAt.chg (L := []) H.out HC4.out (by simp))) ?_); rintro e w' ⟨rfl, rfl⟩; have r0 := HC4.out.at0 b0; have r1 := HC4.out.at0 b1; have r2 := HC4.out.at0 b2; have r3 := HC4.out.at0 b3; have r4 := HC4.out.at0 b4; have rf := Blk.frozen (HBK.out.chg HC4.out (by simp))))
  have hF : Chg [rb] w4 (((((w4.setCell ⟨rb, 0, none⟩ (.slice A1 n1 c1)).setCell ⟨rb, 1, none⟩ (.slice A2 n2 c2)).setCell ⟨rb, 2, none⟩ (.slice A3 n3 c3)).setCell ⟨rb, 3, none⟩ (.slice A4 n4 c4)).setCell ⟨rb, 4, none⟩ (.bool al)) := (((((Chg.refl _ _).setCell (.inr (by simp)) _).setCell (.inr (by simp)) _).setCell (.inr (by simp)) _).setCell (.inr (by simp)) _).setCell (.inr (by simp)) _
  have hsb : ∀ x ∈ ([rb] : List Nat), x ∈ rb :: M := by simp
  have hmo : ∀ {w9 : World}, ∀ x ∈ M, x ∈ rb :: M ∨ w9.heap.size ≤ x := fun x hx => .inl (List.mem_cons_of_mem _ hx)
  exact bodyPost_ret (v := .agg #[.slice A1 n1 c1, .slice A2 n2 c2, .slice A3 n3 c3, .slice A4 n4 c4, .bool al]) (by simp [results, Tryz.results107, go_sem, r0, r1, r2, r3, r4]) rfl
    ⟨A1, n1, c1, A2, n2, c2, A3, n3, c3, A4, n4, c4, rfl, ((((HSL1.out.chg0 HD2.out).chg0 HD3.out).chg0 HD4.out).chg hF hsb).more hmo, (((HSL2.out.chg0 HD3.out).chg0 HD4.out).chg hF hsb).more hmo, ((HSL3.out.chg0 HD4.out).chg hF hsb).more hmo, (HSL4.out.chg hF hsb).more hmo, ⟨(HN0.out.out.trans HC4.out).then hF (by simp; omega)⟩⟩
end
end Go.Proofs.YtalhhplphlobbaaGreat
namespace Go.Proofs.YtalhhplphlobbaaGreat
open Go.RowKit
section
variable {M : List Nat} {W w w' : World} {rb rl ms : Nat} {s : RaftS} {l : RLog}
set_option maxRecDepth 100000 in
set_option maxHeartbeats 1000000 in
theorem softState_any (h : RaftAt w rb s) : Calls Tryz.prog 209 #[.pointer (some ⟨rb, 0, none⟩)] w fun y w' => y = .returned (.agg #[.int .u64 s.lead, .int .u64 s.state]) ∧ Nxt w w' := by
  have c20 : (w.alloc (.cells #[.int .u64 0, .int .u64 0] 189)).cell? ⟨rb, 20, none⟩ = some (.int .u64 s.lead) := RaftAt.cell (Blk.alloc h _) 20 _ rfl
  have c16 : (w.alloc (.cells #[.int .u64 0, .int .u64 0] 189)).cell? ⟨rb, 16, none⟩ = some (.int .u64 s.state) := RaftAt.cell (Blk.alloc h _) 16 _ rfl
  have cl := Blk.lt h
  clear h
  go_enter Tryz.func209, Tryz.ntmps209
  go_wp2
  go_region
  go_wp2
  exact bodyPost_ret (v := .agg #[.int .u64 s.lead, .int .u64 s.state]) (by simp [results, Tryz.results209, go_sem]) rfl ⟨rfl, ⟨((Chg.refl _ _).alloc _).drew⟩⟩
set_option maxRecDepth 100000 in
set_option maxHeartbeats 2000000 in
theorem hardState_any (h : RaftAt w rb s) (hrl : s.rl = rl) (hl : RlAt w rl ms l) (hM : ∀ x ∈ M, x < w.heap.size) :
    Calls Tryz.prog 210 #[.pointer (some ⟨rb, 0, none⟩)] w fun y w' => ∃ b, y = .returned (.pointer (some ⟨b, 0, none⟩)) ∧ HardAt M w' (.pointer (some ⟨b, 0, none⟩)) s.term s.vote l.com ∧ w.heap.size ≤ b ∧ Nxt w w' := by
  have c1 : w.cell? ⟨rb, 1, none⟩ = some (.int .u64 s.term) := RaftAt.cell h 1 _ rfl
  have c2 : w.cell? ⟨rb, 2, none⟩ = some (.int .u64 s.vote) := RaftAt.cell h 2 _ rfl
  have c4 : w.cell? ⟨rb, 4, none⟩ = some (.pointer (some ⟨rl, 0, none⟩)) := by rw [← hrl]; exact RaftAt.cell h 4 _ rfl
  obtain ⟨_, _, _, _, _, _, k6, _⟩ := hl.cells
  have cl := Blk.lt h
  have kl := Blk.lt hl
  clear h hl hrl
  go_enter Tryz.func210, Tryz.ntmps210
  go_wp2_with fail
  go_region_held3 (fun wx => wx.cell? ⟨rb, 1, none⟩ = some (.int .u64 s.term) ∧ wx.cell? ⟨rb, 2, none⟩ = some (.int .u64 s.vote) ∧ wx.cell? ⟨rb, 4, none⟩ = some (.pointer (some ⟨rl, 0, none⟩)) ∧ wx.cell? ⟨rl, 6, none⟩ = some (.int .u64 l.com))
    (first | ((repeat' apply And.intro) <;> (first | with_reducible assumption | (simp; done) | ((repeat (refine cell_alloc ?_ _)); (first | with_reducible assumption | (refine Chg.at0 (Nxt.out (by assumption)) ?_; first | with_reducible assumption | (simp; done) | (simp [*]; done)) | (refine Chg.at0 (by assumption) ?_; first | with_reducible assumption | (simp; done) | (simp [*]; done)) | (simp [*]; done))) | ((repeat (first | with_reducible exact Chg.refl _ _ | with_reducible assumption | refine Chg.drew ?_ | refine Chg.alloc ?_ _)); done)))) (fail)
  all_goals
    go_wp2
    go_ret
    first
      | exact ⟨w.heap.size + 3, rfl, ⟨w.heap.size + 3, .pointer (some ⟨w.heap.size, 0, none⟩), .pointer (some ⟨(w.heap.size + 1), 0, none⟩), .pointer (some ⟨(w.heap.size + 2), 0, none⟩), rfl, fun hm => by have := hM _ hm; omega, by go_size, by go_cell, by go_cell, by go_cell, ⟨w.heap.size, 0, rfl, fun hm => by have := hM _ hm; omega, by go_size, by go_cell⟩, ⟨(w.heap.size + 1), 0, rfl, fun hm => by have := hM _ hm; omega, by go_size, by go_cell⟩, ⟨(w.heap.size + 2), 0, rfl, fun hm => by have := hM _ hm; omega, by go_size, by go_cell⟩⟩, by omega, ⟨by (focus (first | with_reducible assumption | ((repeat (first | with_reducible exact Chg.refl _ _ | with_reducible assumption | refine Chg.drew ?_ | refine Chg.alloc ?_ _)); done)))⟩⟩
      | exact ⟨w.heap.size + 3, rfl, ⟨w.heap.size + 3, .pointer (some ⟨w.heap.size, 0, none⟩), .pointer (some ⟨(w.heap.size + 2), 0, none⟩), .pointer (some ⟨(w.heap.size + 1), 0, none⟩), rfl, fun hm => by have := hM _ hm; omega, by go_size, by go_cell, by go_cell, by go_cell, ⟨w.heap.size, 0, rfl, fun hm => by have := hM _ hm; omega, by go_size, by go_cell⟩, ⟨(w.heap.size + 2), 0, rfl, fun hm => by have := hM _ hm; omega, by go_size, by go_cell⟩, ⟨(w.heap.size + 1), 0, rfl, fun hm => by have := hM _ hm; omega, by go_size, by go_cell⟩⟩, by omega, ⟨by (focus (first | with_reducible assumption | ((repeat (first | with_reducible exact Chg.refl _ _ | with_reducible assumption | refine Chg.drew ?_ | refine Chg.alloc ?_ _)); done)))⟩⟩
      | exact ⟨w.heap.size + 3, rfl, ⟨w.heap.size + 3, .pointer (some ⟨(w.heap.size + 1), 0, none⟩), .pointer (some ⟨w.heap.size, 0, none⟩), .pointer (some ⟨(w.heap.size + 2), 0, none⟩), rfl, fun hm => by have := hM _ hm; omega, by go_size, by go_cell, by go_cell, by go_cell, ⟨(w.heap.size + 1), 0, rfl, fun hm => by have := hM _ hm; omega, by go_size, by go_cell⟩, ⟨w.heap.size, 0, rfl, fun hm => by have := hM _ hm; omega, by go_size, by go_cell⟩, ⟨(w.heap.size + 2), 0, rfl, fun hm => by have := hM _ hm; omega, by go_size, by go_cell⟩⟩, by omega, ⟨by (focus (first | with_reducible assumption | ((repeat (first | with_reducible exact Chg.refl _ _ | with_reducible assumption | refine Chg.drew ?_ | refine Chg.alloc ?_ _)); done)))⟩⟩
      | exact ⟨w.heap.size + 3, rfl, ⟨w.heap.size + 3, .pointer (some ⟨(w.heap.size + 1), 0, none⟩), .pointer (some ⟨(w.heap.size + 2), 0, none⟩), .pointer (some ⟨w.heap.size, 0, none⟩), rfl, fun hm => by have := hM _ hm; omega, by go_size, by go_cell, by go_cell, by go_cell, ⟨(w.heap.size + 1), 0, rfl, fun hm => by have := hM _ hm; omega, by go_size, by go_cell⟩, ⟨(w.heap.size + 2), 0, rfl, fun hm => by have := hM _ hm; omega, by go_size, by go_cell⟩, ⟨w.heap.size, 0, rfl, fun hm => by have := hM _ hm; omega, by go_size, by go_cell⟩⟩, by omega, ⟨by (focus (first | with_reducible assumption | ((repeat (first | with_reducible exact Chg.refl _ _ | with_reducible assumption | refine Chg.drew ?_ | refine Chg.alloc ?_ _)); done)))⟩⟩
      | exact ⟨w.heap.size + 3, rfl, ⟨w.heap.size + 3, .pointer (some ⟨(w.heap.size + 2), 0, none⟩), .pointer (some ⟨w.heap.size, 0, none⟩), .pointer (some ⟨(w.heap.size + 1), 0, none⟩), rfl, fun hm => by have := hM _ hm; omega, by go_size, by go_cell, by go_cell, by go_cell, ⟨(w.heap.size + 2), 0, rfl, fun hm => by have := hM _ hm; omega, by go_size, by go_cell⟩, ⟨w.heap.size, 0, rfl, fun hm => by have := hM _ hm; omega, by go_size, by go_cell⟩, ⟨(w.heap.size + 1), 0, rfl, fun hm => by have := hM _ hm; omega, by go_size, by go_cell⟩⟩, by omega, ⟨by (focus (first | with_reducible assumption | ((repeat (first | with_reducible exact Chg.refl _ _ | with_reducible assumption | refine Chg.drew ?_ | refine Chg.alloc ?_ _)); done)))⟩⟩
      | exact ⟨w.heap.size + 3, rfl, ⟨w.heap.size + 3, .pointer (some ⟨(w.heap.size + 2), 0, none⟩), .pointer (some ⟨(w.heap.size + 1), 0, none⟩), .pointer (some ⟨w.heap.size, 0, none⟩), rfl, fun hm => by have := hM _ hm; omega, by go_size, by go_cell, by go_cell, by go_cell, ⟨(w.heap.size + 2), 0, rfl, fun hm => by have := hM _ hm; omega, by go_size, by go_cell⟩, ⟨(w.heap.size + 1), 0, rfl, fun hm => by have := hM _ hm; omega, by go_size, by go_cell⟩, ⟨w.heap.size, 0, rfl, fun hm => by have := hM _ hm; omega, by go_size, by go_cell⟩⟩, by omega, ⟨by (focus (first | with_reducible assumption | ((repeat (first | with_reducible exact Chg.refl _ _ | with_reducible assumption | refine Chg.drew ?_ | refine Chg.alloc ?_ _)); done)))⟩⟩
end
end Go.Proofs.YtalhhplphlobbaaGreat
