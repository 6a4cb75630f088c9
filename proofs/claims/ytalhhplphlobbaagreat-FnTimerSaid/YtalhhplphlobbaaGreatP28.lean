/- readyWithoutAccept on a calm node that has something to apply. Conditions: sizes within the bounds. What acceptReady calls: the message of what was applied, acceptUnstable, acceptApplying. Conditions: a calm log. -/
import Derived.Deep.DeepCutAuto
import Derived.Test.YtalhhplphlobbaaGreatP26
import Derived.Test.YtalhhplphlobbaaGreatP27
set_option linter.unusedVariables false
set_option linter.unusedSimpArgs false
namespace Go.Proofs.YtalhhplphlobbaaGreat
open Go.RowKit
/-- A node at rest: its blocks; nothing unstable, nothing to send. -/
structure Calm (M : List Nat) (w : World) (rn rb rl ms ss hs : Nat) (s : RaftS) (l : RLog) (hv sv ev : Value) (e : Ent) (r : List Ent) : Prop where
  rw_ : Blk w rn 276 #[.pointer (some ⟨rb, 0, none⟩), .bool false, .pointer (some ⟨ss, 0, none⟩), .pointer (some ⟨hs, 0, none⟩), .slice none 0 0]
  ra : RaftAt w rb s
  hrl : s.rl = rl
  la : RlAt w rl ms l
  sa : Blk w ss 189 #[.int .u64 s.lead, .int .u64 s.state]
  ha : HardAt M w (.pointer (some ⟨hs, 0, none⟩)) s.term s.vote l.com
  st : StAt M w ms hv sv ev e r
  lt : ∀ x ∈ M, x < w.heap.size
  calm : l.calm
  oip : l.oip = l.off
  off : l.off = e.i + r.length + 1
  ps : l.ps = false
  m1 : s.msgs = .slice none 0 0
  m2 : s.msga = .slice none 0 0
  m3 : s.rs = .slice none 0 0
  tm : 0 < s.term
  ce : e.i ≤ l.apg ∧ l.apg ≤ l.com ∧ l.com ≤ e.i + r.length
section
variable {M : List Nat} {w w' W wx : World} {rn rb rl ms ss hs : Nat} {s : RaftS} {l : RLog} {hv sv ev : Value} {e : Ent} {r : List Ent}
theorem Blk.nms {b t : Nat} {cs : Array Value} (h : Blk w b t cs) (hm : MsAt w ms hv sv ev) (ht : t ≠ 246) : b ≠ ms := by
  obtain ⟨_, _, _, _, _, _, hb⟩ := hm
  exact Blk.ne h hb ht
theorem Calm.chg (h : Calm M w rn rb rl ms ss hs s l hv sv ev e r) (hc : Chg [ms] w w') (hm : MsAt w' ms hv sv ev) : Calm M w' rn rb rl ms ss hs s l hv sv ev e r := by
  have hM := h.st.at_
  have k1 := h.rw_.nms hM (by decide)
  have k2 := Blk.nms h.ra hM (by decide)
  have k3 := Blk.nms h.la hM (by decide)
  have k4 := h.sa.nms hM (by decide)
  exact { h with rw_ := h.rw_.chg hc (by simpa using k1), ra := h.ra.chg hc (by simpa using k2), la := h.la.chg hc (by simpa using k3), sa := h.sa.chg hc (by simpa using k4), ha := h.ha.chg hc (by simpa using h.st.mem), st := h.st.ms_ hm hc, lt := fun x hx => Nat.lt_of_lt_of_le (h.lt x hx) hc.size }
/-- From a base world on, nothing but the storage's counters has turned. -/
structure KS (ms : Nat) (hv sv ev : Value) (W w : World) : Prop where
  chg : Chg [ms] W w
  at_ : MsAt w ms hv sv ev
theorem KS.refl (h : MsAt w ms hv sv ev) : KS ms hv sv ev w w := ⟨Chg.refl _ _, h⟩
theorem KS.trans (h : KS ms hv sv ev W w) (k : KS ms hv sv ev w w') : KS ms hv sv ev W w' := ⟨h.chg.trans k.chg, k.at_⟩
theorem KS.nxt (h : KS ms hv sv ev W w) (k : Nxt w w') : KS ms hv sv ev W w' := ⟨h.chg.nxt k, h.at_.chg k.out (by simp)⟩
theorem KS.drew (h : KS ms hv sv ev W w) : KS ms hv sv ev W w.drew := h.nxt ⟨(Chg.refl _ _).drew⟩
theorem KS.alloc (h : KS ms hv sv ev W w) (o : Obj) : KS ms hv sv ev W (w.alloc o) := h.nxt ⟨(Chg.refl _ _).alloc _⟩
theorem KS.set_ (h : KS ms hv sv ev W w) {p : Addr} (hp : W.heap.size ≤ p.block) (hn : p.block ≠ ms) (u : Value) : KS ms hv sv ev W (w.setCell p u) :=
  ⟨h.chg.setCell (.inl hp) u, h.at_.chg (L := [p.block]) ((Chg.refl _ _).setCell (.inr (by simp)) u) (by simpa using Ne.symm hn)⟩
theorem Calm.ks (h : Calm M W rn rb rl ms ss hs s l hv sv ev e r) (k : KS ms hv sv ev W wx) : Calm M wx rn rb rl ms ss hs s l hv sv ev e r := h.chg k.chg k.at_
theorem Calm.c4 (h : Calm M W rn rb rl ms ss hs s l hv sv ev e r) (k : KS ms hv sv ev W wx) : wx.cell? ⟨rb, 4, none⟩ = some (.pointer (some ⟨rl, 0, none⟩)) :=
  (RaftAt.cell (h.ks k).ra 4 (.pointer (some ⟨s.rl, 0, none⟩)) rfl).trans (by rw [h.hrl])
theorem Calm.c18 (h : Calm M W rn rb rl ms ss hs s l hv sv ev e r) (k : KS ms hv sv ev W wx) : wx.cell? ⟨rb, 18, none⟩ = some (.slice none 0 0) :=
  (RaftAt.cell (h.ks k).ra 18 s.msgs rfl).trans (by rw [h.m1])
/-- What the calls of a Ready say, from a base world on. -/
theorem nextUns_ks (h : Calm M W rn rb rl ms ss hs s l hv sv ev e r) (k : KS ms hv sv ev W wx) : Calls Tryz.prog 291 #[.pointer (some ⟨rl, 0, none⟩)] wx fun y w' => y = .returned (.slice none 0 0) ∧ KS ms hv sv ev W w' ∧ Nxt wx w' := by
  refine (nextUns_calm (h.ks k).la h.calm h.oip).mono ?_
  rintro y w' ⟨rfl, hn⟩
  exact ⟨rfl, k.nxt hn, hn⟩
theorem applyUns_ks (h : Calm M W rn rb rl ms ss hs s l hv sv ev e r) (k : KS ms hv sv ev W wx) : Calls Tryz.prog 239 #[.pointer (some ⟨rn, 0, none⟩)] wx fun y w' => y = .returned (.bool true) ∧ wx = w' := applyUns_any (h.ks k).rw_
/-- M, and the blocks that were made from W to w. -/
def newM (M : List Nat) (W w : World) : List Nat := M ++ List.range' W.heap.size (w.heap.size - W.heap.size)
theorem mem_newM {M : List Nat} {W w : World} {x : Nat} : x ∈ newM M W w ↔ x ∈ M ∨ (W.heap.size ≤ x ∧ x < w.heap.size) := by
  unfold newM
  rw [List.mem_append, List.mem_range'_1]
  constructor
  · rintro (h | h)
    · exact .inl h
    · exact .inr (by omega)
  · rintro (h | h)
    · exact .inl h
    · exact .inr (by omega)
theorem nextCom_ks {X : World} (h : Calm M W rn rb rl ms ss hs s l hv sv ev e r) (a c : Nat) (ha : l.apg = e.i + a) (hc : l.com = e.i + c) (hac : a < c) (hcl : c ≤ r.length)
    (hf : ∀ x ∈ r, x.fits) (hd : ∀ x ∈ r, x.d.size ≤ 1000) (has : 0 ≤ l.asz) (hmx : 2000 * r.length + l.asz ≤ l.mx) (hm : l.mx < 2 ^ 64) (k0 : KS ms hv sv ev W X) (k1 : KS ms hv sv ev X wx) :
    Calls Tryz.prog 294 #[.pointer (some ⟨rl, 0, none⟩), .bool true] wx fun y w' => ∃ b o, y = .returned (.slice (some ⟨b, o, none⟩) (c - a) (c - a)) ∧ EntsAt (newM M W wx) w' (.slice (some ⟨b, o, none⟩) (c - a) (c - a)) ((r.take c).drop a) ∧ KS ms hv sv ev X w' ∧ Chg [ms] wx w' := by
  have k := k0.trans k1
  have hk := h.ks k
  have hS : StAt (newM M W wx) W ms hv sv ev e r := { h.st with mem := mem_newM.2 (.inl h.st.mem), ents := h.st.ents.more (fun x hx => by rcases mem_newM.1 hx with h1 | h1; exact .inl h1; exact .inr h1.1) }
  refine (nextCom_calm a c (hS.ms_ k.at_ k.chg) hk.la h.calm h.ps (Blk.nms hk.la k.at_ (by decide)) h.off ha hc hac hcl hf hd has hmx hm).mono ?_
  rintro y w' ⟨b, o, rfl, he, _, hs, hc⟩
  exact ⟨b, o, rfl, he, k1.trans ⟨hc, hs.at_⟩, hc⟩
end
section
variable {M : List Nat} {W : World} {rn rb rl ms ss hs : Nat} {s : RaftS} {l : RLog} {hv sv ev : Value} {e : Ent} {r : List Ent}
set_option maxRecDepth 100000 in
set_option maxHeartbeats 1000000 in
theorem mustSync_no {M : List Nat} {w : World} {v v' : Value} {t vo c c' : Int} (h : HardAt M w v t vo c) (h' : HardAt M w v' t vo c') : Calls Tryz.prog 296 #[v, v', .int .i64 0] w fun y w' => y = .returned (.bool false) ∧ w = w' := by
  have H := Lib.hid h
  have H' := Lib.hid h'
  clear h h'
  go_enter Tryz.func296, Tryz.ntmps296
  go_wp2_with (first | (go_at_call 160; (with_reducible refine Calls.mono (hardVote_any H.out) ?_); rintro e w' ⟨rfl, rfl⟩) | (go_at_call 160; (with_reducible refine Calls.mono (hardVote_any H'.out) ?_); rintro e w' ⟨rfl, rfl⟩) | (go_at_call 159; (with_reducible refine Calls.mono (hardTerm_any H.out) ?_); rintro e w' ⟨rfl, rfl⟩) | (go_at_call 159; (with_reducible refine Calls.mono (hardTerm_any H'.out) ?_); rintro e w' ⟨rfl, rfl⟩))
  go_ret
  exact ⟨by simp, rfl⟩
set_option maxRecDepth 100000 in
set_option maxHeartbeats 4000000 in
theorem readyWo_calm (h : Calm M W rn rb rl ms ss hs s l hv sv ev e r) (a c : Nat) (ha : l.apg = e.i + a) (hc : l.com = e.i + c) (hac : a < c) (hcl : c ≤ r.length)
    (hf : ∀ x ∈ r, x.fits) (hd : ∀ x ∈ r, x.d.size ≤ 1000) (has : 0 ≤ l.asz) (hmx : 2000 * r.length + l.asz ≤ l.mx) (hm : l.mx < 2 ^ 64) :
    Calls Tryz.prog 240 #[.pointer (some ⟨rn, 0, none⟩)] W fun y w' => ∃ b o, y = .returned (.agg #[.pointer none, .pointer none, .slice none 0 0, .slice none 0 0, .pointer none, .slice (some ⟨b, o, none⟩) (c - a) (c - a), .slice none 0 0, .bool false]) ∧ EntsAt M w' (.slice (some ⟨b, o, none⟩) (c - a) (c - a)) ((r.take c).drop a) ∧ KS ms hv sv ev W w' := by
  have hK1 : KS ms hv sv ev W (W.alloc (.cells #[.pointer none, .pointer none, .slice none 0 0, .slice none 0 0, .pointer none, .slice none 0 0, .slice none 0 0, .bool false] 307)) := (KS.refl h.st.at_).alloc _
  have hrn := h.rw_
  have a0 := (hrn).cell 0; have a1 := (hrn).cell 1; have a2 := (hrn).cell 2; have a3 := (hrn).cell 3; have a4 := (hrn).cell 4; simp at a0 a1 a2 a3 a4; have af := (hrn).frozen; have al := (hrn).lt
  go_enter Tryz.func240, Tryz.ntmps240
  go_upto_region 2 with fail
  have hX0 := h.ks hK1
  have zX : W.heap.size + 1 = (W.alloc (.cells #[.pointer none, .pointer none, .slice none 0 0, .slice none 0 0, .pointer none, .slice none 0 0, .slice none 0 0, .bool false] 307)).heap.size := by simp
  have hbX := Blk.new W 307 #[.pointer none, .pointer none, .slice none 0 0, .slice none 0 0, .pointer none, .slice none 0 0, .slice none 0 0, .bool false]
  generalize hXe : W.alloc (.cells #[.pointer none, .pointer none, .slice none 0 0, .slice none 0 0, .pointer none, .slice none 0 0, .slice none 0 0, .bool false] 307) = X at hK1 hX0 zX hbX ⊢
  clear hXe hrn
  have hK0 : KS ms hv sv ev X X := KS.refl hX0.st.at_
  have ml : ms < X.heap.size := hX0.st.lt
  have HC := Lib.hid hX0
  have HW := Lib.hid h
  have HK1 := Lib.hid hK1
  have HBX := Lib.hid hbX
  have HZX := Lib.hid zX
  have HH := Lib.hid (fun wx => nextCom_ks h a c ha hc hac hcl hf hd has hmx hm hK1 (wx := wx))
  have nmX : ¬ X.heap.size = ms := by omega
  have c4 := hX0.c4 hK0
  have c18 := hX0.c18 hK0
  clear h hX0 hK1 hbX zX ha hc hac hcl hf hd has hmx hm
  go_cut [4] (fun s4 wx => ∃ tb b o, s4 = .pointer (some ⟨tb, 0, none⟩) ∧ X.heap.size ≤ tb ∧ Blk wx tb 307 #[.pointer none, .pointer none, .slice none 0 0, .slice none 0 0, .pointer none, .slice (some ⟨b, o, none⟩) (c - a) (c - a), .slice none 0 0, .bool false] ∧ EntsAt (W.heap.size :: tb :: M) wx (.slice (some ⟨b, o, none⟩) (c - a) (c - a)) ((r.take c).drop a) ∧ KS ms hv sv ev X wx)
  case first =>
    go_region_held3 (fun wx => wx.cell? ⟨rb, 4, none⟩ = some (.pointer (some ⟨rl, 0, none⟩)) ∧ wx.cell? ⟨rb, 18, none⟩ = some (.slice none 0 0) ∧ KS ms hv sv ev X wx)
      ((refine ⟨Calm.c4 HC.out ?_, Calm.c18 HC.out ?_, ?_⟩ <;> (repeat (first | with_reducible assumption | with_reducible refine KS.drew ?_ | with_reducible refine KS.alloc ?_ _ | with_reducible refine KS.set_ ?_ (by first | (simp; done) | (simp; omega)) (by first | (simp; done) | (simp; omega)) _))))
      (first | (go_at_call 291; (with_reducible refine Calls.mono (nextUns_ks HC.out (by (repeat (first | with_reducible assumption | with_reducible refine KS.drew ?_ | with_reducible refine KS.alloc ?_ _)))) ?_); rintro e2 w2 ⟨rfl, hk2, hn2⟩; obtain ⟨qc2, qf2, qz2⟩ := hn2.rules; (try simp at qz2); (try have lz2 : X.heap.size < w2.heap.size := by omega); have hz2 := hk2.chg.size; have nm2 : ¬ w2.heap.size = ms := Nat.ne_of_gt (Nat.lt_of_lt_of_le ml hz2)) | (go_at_call 239; (with_reducible refine Calls.mono (applyUns_ks HC.out (by (repeat (first | with_reducible assumption | with_reducible refine KS.drew ?_ | with_reducible refine KS.alloc ?_ _)))) ?_); rintro e3 w3 ⟨rfl, rfl⟩) | (go_at_call 294; (with_reducible refine Calls.mono (HH.out _ (by (repeat (first | with_reducible assumption | with_reducible refine KS.drew ?_ | with_reducible refine KS.alloc ?_ _)))) ?_); rintro e4 w4 ⟨b4, o4, rfl, he4, hk4, hc4⟩; obtain ⟨qc4, qf4⟩ := hc4.cells; have hz4 := hk4.chg.size; have nm4 : ¬ w4.heap.size = ms := Nat.ne_of_gt (Nat.lt_of_lt_of_le ml hz4); have qz4 := hc4.size; (try simp at qz4)))
    · go_wp2_with fail
      go_meet
      have hWw : W.heap.size < w2.heap.size := by have := HZX.out; omega
      exact ⟨w4.heap.size, b4, o4, rfl, hz4, Blk.new _ _ _, EntsAt.chg (L := []) (EntsAt.more he4 (fun x hx => by rcases List.mem_cons.1 hx with rfl | hx; exact .inl (mem_newM.2 (.inr ⟨Nat.le_refl _, hWw⟩)); rcases List.mem_cons.1 hx with rfl | hx; exact .inr (Nat.le_refl _); exact .inl (mem_newM.2 (.inl hx)))) ((Chg.refl _ _).alloc _) (by simp), hk4.alloc _⟩
    all_goals
      go_wp2_with fail
      go_meet
      have hWX : W.heap.size ≤ X.heap.size := by have := HZX.out; omega
      have hW2 : W.heap.size ≤ w2.heap.size := by omega
      first
      | (have hb := (Blk.new w2 307 #[.pointer none, .pointer none, .slice none 0 0, .slice none 0 0, .pointer none, .slice none 0 0, .slice none 0 0, .bool false]).chg hc4 (by simpa using nm2)
         have hb8 := (((((((hb.set_ 0 (.pointer none)).set_ 1 (.pointer none)).set_ 2 (.slice none 0 0)).set_ 3 (.slice none 0 0)).set_ 4 (.pointer none)).set_ 5 (.slice (some ⟨b4, o4, none⟩) (c - a) (c - a))).set_ 6 (.slice none 0 0)).set_ 7 (.bool false)
         refine ⟨w2.heap.size, b4, o4, rfl, hz2, by simpa using hb8, ?_, ?_⟩
         · exact (EntsAt.chg (L := [w2.heap.size]) he4 (by (focus (first | with_reducible assumption | ((repeat (first | with_reducible exact Chg.refl _ _ | with_reducible assumption | with_reducible refine Chg.drew ?_ | with_reducible refine Chg.alloc ?_ _ | with_reducible refine Chg.setCell ?_ (by simp) _ | with_reducible refine Chg.nxt ?_ (by assumption))); done)))) (by simp only [List.mem_singleton, forall_eq]; exact mem_newM.2 (.inr ⟨hW2, by simp⟩))).more (fun x hx => .inl (by rcases List.mem_cons.1 hx with rfl | hx; exact mem_newM.2 (.inr ⟨Nat.le_refl _, by simp; omega⟩); rcases List.mem_cons.1 hx with rfl | hx; exact mem_newM.2 (.inr ⟨hW2, by simp⟩); exact mem_newM.2 (.inl hx)))
         · (repeat (first | with_reducible assumption | with_reducible refine KS.set_ ?_ hz2 nm2 _)))
      | (have hb := ((Blk.new X.drew 307 #[.pointer none, .pointer none, .slice none 0 0, .slice none 0 0, .pointer none, .slice none 0 0, .slice none 0 0, .bool false]).nxt hn2).chg hc4 (by simpa using nmX)
         have hb8 := (((((((hb.set_ 0 (.pointer none)).set_ 1 (.pointer none)).set_ 2 (.slice none 0 0)).set_ 3 (.slice none 0 0)).set_ 4 (.pointer none)).set_ 5 (.slice (some ⟨b4, o4, none⟩) (c - a) (c - a))).set_ 6 (.slice none 0 0)).set_ 7 (.bool false)
         refine ⟨X.heap.size, b4, o4, rfl, Nat.le_refl _, by simpa using hb8, ?_, ?_⟩
         · exact (EntsAt.chg (L := [X.heap.size]) he4 (by (focus (first | with_reducible assumption | ((repeat (first | with_reducible exact Chg.refl _ _ | with_reducible assumption | with_reducible refine Chg.drew ?_ | with_reducible refine Chg.alloc ?_ _ | with_reducible refine Chg.setCell ?_ (by simp) _ | with_reducible refine Chg.nxt ?_ (by assumption))); done)))) (by simp only [List.mem_singleton, forall_eq]; exact mem_newM.2 (.inr ⟨hWX, lz2⟩))).more (fun x hx => .inl (by rcases List.mem_cons.1 hx with rfl | hx; exact mem_newM.2 (.inr ⟨Nat.le_refl _, by omega⟩); rcases List.mem_cons.1 hx with rfl | hx; exact mem_newM.2 (.inr ⟨hWX, lz2⟩); exact mem_newM.2 (.inl hx)))
         · (repeat (first | with_reducible assumption | with_reducible refine KS.set_ ?_ (Nat.le_refl _) nmX _)))
      | trace_state

  case rest =>
    obtain ⟨tb, b, o, rfl, htb, hB, hE, hkc⟩ := hcut
    have hc0 := HC.out.ks hkc
    have hrc := hc0.rw_
    have d0 := (hrc).cell 0; have d1 := (hrc).cell 1; have d2 := (hrc).cell 2; have d3 := (hrc).cell 3; have d4 := (hrc).cell 4; simp at d0 d1 d2 d3 d4; have df := (hrc).frozen; have dl := (hrc).lt
    have b3 : wc.cell? ⟨rb, 3, none⟩ = some (.slice none 0 0) := (RaftAt.cell hc0.ra 3 s.rs rfl).trans (by rw [hc0.m3])
    have b4 := HC.out.c4 hkc
    have b19 : wc.cell? ⟨rb, 19, none⟩ = some (.slice none 0 0) := (RaftAt.cell hc0.ra 19 s.msga rfl).trans (by rw [hc0.m2])
    have bl := Blk.lt hc0.ra
    have HR := Lib.hid hc0.ra
    have HL := Lib.hid hc0.la
    have HS := Lib.hid hc0.sa
    have HHA := Lib.hid hc0.ha
    have HM := Lib.hid hc0.lt
    have HRL := Lib.hid hc0.hrl
    have hcm := hc0.calm
    have HB := Lib.hid hB
    have HE := Lib.hid hE
    have HKC := Lib.hid hkc
    have hBX := HBX.out.chg hkc.chg (by have := HZX.out; simp; have := HW.out.st.lt; omega)
    have HBR := Lib.hid hBX
    have tl := hB.lt
    have n1 : rn ≠ tb := Blk.ne hrc hB (by decide)
    have n2 : rb ≠ tb := Blk.ne hc0.ra hB (by decide)
    have n3 : W.heap.size ≠ tb := by have := HZX.out; omega
    have t3 := hB.cell 3
    simp at t3
    clear hc0 hrc hB hE hkc hBX HH HC HBX nmX ml hK0 a0 a1 a2 a3 a4 af al c4 c18
    go_upto_region 14 with (first | (go_at_call 209; (with_reducible refine Calls.mono (softState_from HR.out ?_) ?_); (focus (first | with_reducible assumption | ((repeat (first | with_reducible exact Chg.refl _ _ | with_reducible assumption | refine Chg.drew ?_ | refine Chg.alloc ?_ _)); done))); rintro e w2 ⟨rfl, hc2, hn2⟩; obtain ⟨qc2, qf2, qz2⟩ := hn2.rules; (try simp at qz2); have hbn := Blk.new w2 189 #[.int .u64 s.lead, .int .u64 s.state]; have d2 := Chg.at0 (Chg.alloc hc2 (.cells #[.int .u64 s.lead, .int .u64 s.state] 189)) d2) | (go_at_call 234; (with_reducible refine Calls.mono (softEq_from HS.out ?_ hbn) ?_); (focus (first | with_reducible assumption | ((repeat (first | with_reducible exact Chg.refl _ _ | with_reducible assumption | refine Chg.drew ?_ | refine Chg.alloc ?_ _)); done))); rintro e w3 ⟨rfl, hc3, hn3⟩; obtain ⟨qc3, qf3, qz3⟩ := hn3.rules; (try simp at qz3)) | (go_at_call 210; (with_reducible refine Calls.mono (hardState_from HR.out HRL.out HL.out HM.out ?_) ?_); (focus (first | with_reducible assumption | ((repeat (first | with_reducible exact Chg.refl _ _ | with_reducible assumption | refine Chg.drew ?_ | refine Chg.alloc ?_ _)); done))); rintro e w4 ⟨hpb, rfl, hh4, hc4, hn4⟩; obtain ⟨qc4, qf4, qz4⟩ := hn4.rules; (try simp at qz4); have g3 := hc4.at0 d3; have g4 := hc4.at0 b4; have gb3 := hc4.at0 b3) | (go_at_call 235; (with_reducible refine Calls.mono (hardEq_from HHA.out ?_ hh4) ?_); (focus (first | with_reducible assumption | ((repeat (first | with_reducible exact Chg.refl _ _ | with_reducible assumption | refine Chg.drew ?_ | refine Chg.alloc ?_ _)); done))); rintro e w6 ⟨rfl, rfl⟩) | (go_at_call 236; (with_reducible refine Calls.mono (hasSnap_from HL.out hcm ?_) ?_); (focus (first | with_reducible assumption | ((repeat (first | with_reducible exact Chg.refl _ _ | with_reducible assumption | refine Chg.drew ?_ | refine Chg.alloc ?_ _)); done))); rintro e w7 ⟨rfl, rfl⟩))
    have g19 := hc4.at0 b19
    have gt3 := hc4.at0 t3
    have HB4 := Lib.hid (HB.out.chg hc4 (by simp))
    have HBR4 := Lib.hid (HBR.out.chg hc4 (by simp))
    have HC4 := Lib.hid hc4
    have g1 := hc4.at0 d1
    have gbt : tb < w4.heap.size := Nat.lt_of_lt_of_le tl hc4.size
    have gfr : ∀ k, w4.frozen? ⟨tb, k, none⟩ = false := HB4.out.frozen
    have t7 := HB4.out.cell 7
    simp at t7
    clear hbn d2 hh4 hc2 hc3 hc4 hn2 hn3 hn4 qc2 qf2 qz2 qc3 qf3 qz3 qc4 qf4 qz4 d0 d4 df dl b3 b4
    go_region_held3 (fun wx => wx.cell? ⟨rn, 3, none⟩ = some (.pointer (some ⟨hs, 0, none⟩)) ∧ wx.cell? ⟨tb, 3, none⟩ = some (.slice none 0 0) ∧ Chg [tb] wc wx)
      ((refine ⟨?_, ?_, ?_⟩ <;> first | with_reducible assumption | (simp [go_sem, *]; done) | (repeat (first | with_reducible assumption | with_reducible exact HC4.out.mono (by simp) | with_reducible refine Chg.drew ?_ | with_reducible refine Chg.setCell ?_ (by simp) _))))
      (first | (go_at_call 210; (with_reducible refine Calls.mono (hardState_from HR.out HRL.out HL.out HM.out (HC4.out.drew)) ?_); rintro e5 w5 ⟨hpb5, rfl, hh5, hc5, hn5⟩; have k3 := hc5.at0 d3; have kt3 := hc5.at0 t3; have kt7 := hn5.out.at0 t7; have kf : ∀ k, w5.frozen? ⟨tb, k, none⟩ = false := fun k => (HB.out.chg hc5 (by simp)).frozen k; have hct := hc5.mono (L' := [tb]) (by simp)) | (go_at_call 296; (with_reducible refine Calls.mono (mustSync_no hh5 (HHA.out.chg hc5 (by simp))) ?_); rintro e6 w6 ⟨rfl, rfl⟩))
    have hcY : Chg [tb] wc (w5.setCell { block := tb, off := 7 } (Value.bool false)) := hct.setCell (.inr (by simp)) _
    have hbY := (HB.out.chg hc5 (by simp)).set_ 7 (.bool false)
    simp at hbY
    have hrY := HBR.out.chg hcY (by simpa using n3)
    have q1 := hcY.at_ d1 (by simpa using n1)
    have q19 := hcY.at_ b19 (by simpa using n2)
    have hkY : KS ms hv sv ev X (w5.setCell { block := tb, off := 7 } (Value.bool false)) := ((HKC.out).nxt ⟨hc5⟩).set_ htb (show tb ≠ ms by have := HW.out.st.lt; have := HZX.out; omega) _
    have hEY := (EntsAt.chg (L := [tb]) HE.out hcY (by simp)).more (M' := W.heap.size :: M) (fun x hx => .inl (by rcases List.mem_cons.1 hx with rfl | hx; exact .head _; exact .tail _ (.tail _ hx)))
    generalize hY : w5.setCell { block := tb, off := 7 } (Value.bool false) = Y at hcY hbY hrY q1 q19 hkY hEY ⊢
    clear hY k3 kt3 kt7 kf hct hh5 hc5 hn5 g1 gbt t7 g19 gt3 gb3 g3 g4 d1 d2 d3 b19
    have y0 := (hbY).cell 0; have y1 := (hbY).cell 1; have y2 := (hbY).cell 2; have y3 := (hbY).cell 3; have y4 := (hbY).cell 4; have y5 := (hbY).cell 5; have y6 := (hbY).cell 6; have y7 := (hbY).cell 7; simp at y0 y1 y2 y3 y4 y5 y6 y7; have yf := (hbY).frozen; have yl := (hbY).lt
    have z0 := (hrY).cell 0; have z1 := (hrY).cell 1; have z2 := (hrY).cell 2; have z3 := (hrY).cell 3; have z4 := (hrY).cell 4; have z5 := (hrY).cell 5; have z6 := (hrY).cell 6; have z7 := (hrY).cell 7; simp at z0 z1 z2 z3 z4 z5 z6 z7; have zf := (hrY).frozen; have zl := (hrY).lt
    have HKY := Lib.hid (HK1.out.trans hkY)
    have HEY := Lib.hid hEY
    have HBY := Lib.hid hbY
    have HRY := Lib.hid hrY
    clear hkY hEY hbY hrY
    go_wp2_with fail
    refine wp_loop_rounds 1 ?_
    rw [rounds_succ]
    go_wp2_with fail
    have hcF : Chg [W.heap.size] Y ((((((((Y.setCell { block := W.heap.size, off := 0 } (Value.pointer none)).setCell { block := W.heap.size, off := 1 } (Value.pointer none)).setCell { block := W.heap.size, off := 2 } (Value.slice none 0 0)).setCell { block := W.heap.size, off := 3 } (Value.slice none 0 0)).setCell { block := W.heap.size, off := 4 } (Value.pointer none)).setCell { block := W.heap.size, off := 5 } (Value.slice (some { block := b, off := o }) (c - a) (c - a))).setCell { block := W.heap.size, off := 6 } (Value.slice none 0 0)).setCell { block := W.heap.size, off := 7 } (Value.bool false)) := by (focus (first | with_reducible assumption | ((repeat (first | with_reducible exact Chg.refl _ _ | with_reducible assumption | with_reducible refine Chg.drew ?_ | with_reducible refine Chg.alloc ?_ _ | with_reducible refine Chg.setCell ?_ (by simp) _ | with_reducible refine Chg.nxt ?_ (by assumption))); done)))
    have nm : W.heap.size ≠ ms := by have := HW.out.st.lt; omega
    refine bodyPost_ret (v := .agg #[.pointer none, .pointer none, .slice none 0 0, .slice none 0 0, .pointer none, .slice (some ⟨b, o, none⟩) (c - a) (c - a), .slice none 0 0, .bool false]) (by simp [results, Tryz.results240, go_sem, z0, z1, z2, z3, z4, z5, z6, z7]) rfl ⟨b, o, rfl, (EntsAt.chg HEY.out hcF (by simp)).more (fun x hx => .inl (.tail _ hx)), ?_⟩
    (repeat (first | with_reducible exact HKY.out | with_reducible refine KS.set_ ?_ (Nat.le_refl _) nm _))
end
end Go.Proofs.YtalhhplphlobbaaGreat
namespace Go.Proofs.YtalhhplphlobbaaGreat
open Go.RowKit
theorem Blk.newAt {w : World} {t : TypeId} {cs : Array Value} {b : Nat} (hb : b = w.heap.size) : Blk (w.alloc (.cells cs t)) b t cs := by subst hb; exact Blk.new w t cs
section
variable {M : List Nat} {W w : World} {rb rl ms : Nat} {s : RaftS} {l : RLog}
set_option maxRecDepth 100000 in
set_option maxHeartbeats 400000 in
theorem snapMeta_nil (w : World) : Calls Tryz.prog 149 #[.pointer none] w fun y w' => y = .returned (.pointer none) ∧ w = w' := by
  go_enter Tryz.func149, Tryz.ntmps149
  go_wp2
  go_ret
  exact ⟨rfl, rfl⟩
set_option maxRecDepth 100000 in
set_option maxHeartbeats 400000 in
theorem metaIndex_nil (w : World) : Calls Tryz.prog 150 #[.pointer none] w fun y w' => y = .returned (.int .u64 0) ∧ w = w' := by
  go_enter Tryz.func150, Tryz.ntmps150
  go_wp2
  go_ret
  exact ⟨rfl, rfl⟩
set_option maxRecDepth 100000 in
set_option maxHeartbeats 400000 in
theorem emptySnap_nil (w : World) : Calls Tryz.prog 182 #[.pointer none] w fun y w' => y = .returned (.bool true) ∧ w = w' := by
  go_enter Tryz.func182, Tryz.ntmps182
  go_wp2_with (first | (go_at_call 149; (with_reducible refine Calls.mono (snapMeta_nil _) ?_); rintro e w' ⟨rfl, rfl⟩) | (go_at_call 150; (with_reducible refine Calls.mono (metaIndex_nil _) ?_); rintro e w' ⟨rfl, rfl⟩))
  go_ret
  exact ⟨rfl, rfl⟩
set_option maxRecDepth 100000 in
set_option maxHeartbeats 400000 in
theorem hasOrUns_calm (h : RlAt w rl ms l) (hc : l.calm) : Calls Tryz.prog 357 #[.pointer (some ⟨rl, 0, none⟩)] w fun y w' => y = .returned (.bool false) ∧ w = w' := by
  obtain ⟨k0, k1, k2, _⟩ := h.cells
  rw [hc.2] at k2
  go_enter Tryz.func357, Tryz.ntmps357
  go_wp2
  go_ret
  exact ⟨rfl, rfl⟩
set_option maxRecDepth 100000 in
set_option maxHeartbeats 400000 in
theorem needResp_calm (h : RaftAt w rb s) (hrl : s.rl = rl) (hl : RlAt w rl ms l) (hc : l.calm) {A : Option Addr} {n c : Nat} :
    Calls Tryz.prog 301 #[.pointer (some ⟨rb, 0, none⟩), .agg #[.pointer none, .pointer none, .slice none 0 0, .slice none 0 0, .pointer none, .slice A n c, .slice none 0 0, .bool false]] w fun y w' => y = .returned (.bool false) ∧ Nxt w w' := by
  have b4 : w.cell? ⟨rb, 4, none⟩ = some (.pointer (some ⟨rl, 0, none⟩)) := by rw [← hrl]; exact RaftAt.cell h 4 _ rfl
  have bl := Blk.lt h
  have HL := Lib.hid (fun o => hl.nxt (⟨(Chg.refl _ _).alloc o⟩ : Nxt w (w.alloc o)))
  clear h hl hrl
  go_enter Tryz.func301, Tryz.ntmps301
  go_wp2_with (first | (go_at_call 357; (with_reducible refine Calls.mono (hasOrUns_calm (HL.out _) hc) ?_); rintro e w' ⟨rfl, rfl⟩) | (go_at_call 182; (with_reducible refine Calls.mono (emptySnap_nil _) ?_); rintro e w' ⟨rfl, rfl⟩))
  go_ret
  exact ⟨rfl, ⟨(Chg.refl _ _).alloc _⟩⟩
set_option maxRecDepth 100000 in
set_option maxHeartbeats 400000 in
theorem needApply_yes (w : World) {A : Option Addr} {n c : Nat} (hn : 0 < n) :
    Calls Tryz.prog 299 #[.agg #[.pointer none, .pointer none, .slice none 0 0, .slice none 0 0, .pointer none, .slice A n c, .slice none 0 0, .bool false]] w fun y w' => y = .returned (.bool true) ∧ Nxt w w' := by
  have h0 : (0 : Int) < n := by omega
  go_enter Tryz.func299, Tryz.ntmps299
  go_wp2
  go_ret
  exact ⟨by simp [hn], ⟨(Chg.refl _ _).alloc _⟩⟩
set_option maxRecDepth 100000 in
set_option maxHeartbeats 400000 in
theorem needApplyResp_yes (w : World) {A : Option Addr} {n c : Nat} (hn : 0 < n) :
    Calls Tryz.prog 303 #[.agg #[.pointer none, .pointer none, .slice none 0 0, .slice none 0 0, .pointer none, .slice A n c, .slice none 0 0, .bool false]] w fun y w' => y = .returned (.bool true) ∧ Nxt w w' := by
  go_enter Tryz.func303, Tryz.ntmps303
  go_wp2_with (first | (go_at_call 299; (with_reducible refine Calls.mono (needApply_yes _ hn) ?_); rintro e w' ⟨rfl, hn1⟩))
  go_ret
  exact ⟨rfl, ⟨((Chg.refl _ _).alloc _).nxt hn1⟩⟩
set_option maxRecDepth 100000 in
set_option maxHeartbeats 400000 in
theorem msgEnum_any (W w : World) (k : Int) (hW : Chg [] W w) (hM : ∀ x ∈ M, x < W.heap.size) : Calls Tryz.prog 168 #[.int .i32 k] w fun y w' => ∃ p, y = .returned (.pointer (some ⟨p, 0, none⟩)) ∧ Ptr1 M w' (.pointer (some ⟨p, 0, none⟩)) (.int .i32 k) ∧ Chg [] W w' ∧ Nxt w w' := by
  have hz := hW.size
  go_enter Tryz.func168, Tryz.ntmps168
  go_wp2
  go_ret
  refine ⟨_, rfl, ⟨_, _, rfl, fun hm => by have := hM _ hm; omega, by go_size, by go_cell⟩, ?_, ⟨?_⟩⟩
  all_goals (focus (first | with_reducible assumption | ((repeat (first | with_reducible exact Chg.refl _ _ | with_reducible assumption | refine Chg.drew ?_ | refine Chg.alloc ?_ _)); done)))
set_option maxRecDepth 100000 in
set_option maxHeartbeats 4000000 in
theorem applyResp_any (h : RaftAt w rb s) (hM : ∀ x ∈ M, x < w.heap.size) {A : Option Addr} {n c : Nat} :
    Calls Tryz.prog 304 #[.pointer (some ⟨rb, 0, none⟩), .slice A n c] w fun y w' => ∃ b p0 p1 p2 p3, y = .returned (.pointer (some ⟨b, 0, none⟩)) ∧ Blk w' b 301 #[p0, p1, p2, p3, .pointer none, .pointer none, .slice A n c, .pointer none, .pointer none, .pointer none, .pointer none, .pointer none, .slice none 0 0, .slice none 0 0] ∧
      Ptr1 M w' p0 (.int .i32 22) ∧ Ptr1 M w' p1 (.int .u64 s.id) ∧ Ptr1 M w' p2 (.int .u64 18446744073709551614) ∧ Ptr1 M w' p3 (.int .u64 0) ∧ w.heap.size ≤ b ∧ Nxt w w' := by
  have c0 : w.cell? ⟨rb, 0, none⟩ = some (.int .u64 s.id) := RaftAt.cell h 0 _ rfl
  have bl := Blk.lt h
  clear h
  go_enter Tryz.func304, Tryz.ntmps304
  go_wp2_with fail
  go_region_held3 (fun wx => wx.cell? ⟨rb, 0, none⟩ = some (.int .u64 s.id) ∧ Chg [] w wx)
    (first | ((repeat' apply And.intro) <;> (first | with_reducible assumption | (simp; done) | ((repeat (refine cell_alloc ?_ _)); (first | with_reducible assumption | (refine Chg.at0 (Nxt.out (by assumption)) ?_; first | with_reducible assumption | (simp; done) | (simp [*]; done)) | (refine Chg.at0 (by assumption) ?_; first | with_reducible assumption | (simp; done) | (simp [*]; done)) | (simp [*]; done))) | ((repeat (first | with_reducible exact Chg.refl _ _ | with_reducible assumption | refine Chg.drew ?_ | refine Chg.alloc ?_ _)); done)))) (first | (go_at_call 168; (with_reducible refine Calls.mono (msgEnum_any w _ 22 ?_ hM) ?_); (focus (first | with_reducible assumption | ((repeat (first | with_reducible exact Chg.refl _ _ | with_reducible assumption | refine Chg.drew ?_ | refine Chg.alloc ?_ _)); done))); rintro e w1 ⟨p, rfl, hp, hc1, hn1⟩; obtain ⟨qc1, qf1, qz1⟩ := hn1.rules; (try simp at qz1)))
  all_goals
    go_wp2
    go_ret
    have hz1 := hc1.size
    have hM1 : ∀ x ∈ M, x < w1.heap.size := fun x hx => Nat.lt_of_lt_of_le (hM x hx) hz1
    refine ⟨_, _, _, _, _, rfl, Blk.newAt (by simp), ?_, ⟨_, _, rfl, fun hm => by have := hM1 _ hm; omega, by go_size, by go_cell⟩, ⟨_, _, rfl, fun hm => by have := hM1 _ hm; omega, by go_size, by go_cell⟩, ⟨_, _, rfl, fun hm => by have := hM1 _ hm; omega, by go_size, by go_cell⟩, by omega, ⟨?_⟩⟩
    · exact hp.chg0 ((((Chg.refl [] w1).alloc _).alloc _).alloc _ |>.alloc _)
    · (focus (first | with_reducible assumption | ((repeat (first | with_reducible exact Chg.refl _ _ | with_reducible assumption | refine Chg.drew ?_ | refine Chg.alloc ?_ _)); done)))
set_option maxRecDepth 100000 in
set_option maxHeartbeats 400000 in
theorem acceptInProg_calm (h : RlAt w rl ms l) (hc : l.calm) : Calls Tryz.prog 358 #[.pointer (some ⟨rl, 1, none⟩)] w fun y w' => y = .returned (.tuple #[]) ∧ w = w' := by
  obtain ⟨k0, k1, k2, _⟩ := h.cells
  rw [hc.1] at k1
  rw [hc.2] at k2
  go_enter Tryz.func358, Tryz.ntmps358
  go_wp2
  go_end0
  exact ⟨rfl, rfl⟩
set_option maxRecDepth 100000 in
set_option maxHeartbeats 400000 in
theorem acceptUns_calm (h : RlAt w rl ms l) (hc : l.calm) : Calls Tryz.prog 305 #[.pointer (some ⟨rl, 0, none⟩)] w fun y w' => y = .returned (.tuple #[]) ∧ w = w' := by
  have H := Lib.hid h
  have bl := Blk.lt h
  go_enter Tryz.func305, Tryz.ntmps305
  go_wp2_with (first | (go_at_call 358; (with_reducible refine Calls.mono (acceptInProg_calm H.out hc) ?_); rintro e w' ⟨rfl, rfl⟩))
  go_end0
  exact ⟨rfl, rfl⟩
set_option maxRecDepth 100000 in
set_option maxHeartbeats 1000000 in
theorem acceptAppl_any (i z : Int) (hl : RlAt w rl ms l) (hi : i = l.com) (h1 : 0 ≤ l.asz) (h2 : 0 ≤ z) (h3 : l.asz + z < l.mx) (h4 : l.mx < 2 ^ 64) :
    Calls Tryz.prog 306 #[.pointer (some ⟨rl, 0, none⟩), .int .u64 i, .int .u64 z, .bool true] w fun y w' => y = .returned (.tuple #[]) ∧ RlAt w' rl ms { l with apg := i, asz := l.asz + z, ps := false } ∧ Chg [rl] w w' := by
  have HL := Lib.hid hl
  have hfz : ∀ k, w.frozen? ⟨rl, k, none⟩ = false := fun k => Blk.frozen hl k
  obtain ⟨k0, k1, k2, k3, k4, k5, k6, k7, k8, k9, k10, k11⟩ := hl.cells
  have e1 : IntKind.u64.wrap (l.asz + z) = l.asz + z := IntWalk.u64_in _ (by omega)
  have b1 : ¬ l.com < i := by omega
  have b2 : ¬ i < l.com := by omega
  have b3 : ¬ l.mx ≤ l.asz + z := by omega
  have bl := Blk.lt hl
  have HI := Lib.hid hi
  clear hl hi
  go_enter Tryz.func306, Tryz.ntmps306
  go_upto_region 4 with fail
  have hl2 : RlAt ((w.setCell ⟨rl, 7, none⟩ (.int .u64 i)).setCell ⟨rl, 10, none⟩ (.int .u64 (l.asz + z))) rl ms { l with apg := i, asz := l.asz + z } := ((HL.out).set_ 7 (.int .u64 i) { l with apg := i } rfl).set_ 10 (.int .u64 (l.asz + z)) { l with apg := i, asz := l.asz + z } rfl
  have hcX : Chg [rl] w ((w.setCell ⟨rl, 7, none⟩ (.int .u64 i)).setCell ⟨rl, 10, none⟩ (.int .u64 (l.asz + z))) := (by (focus (first | with_reducible assumption | ((repeat (first | with_reducible exact Chg.refl _ _ | with_reducible assumption | with_reducible refine Chg.drew ?_ | with_reducible refine Chg.alloc ?_ _ | with_reducible refine Chg.setCell ?_ (by simp) _ | with_reducible refine Chg.nxt ?_ (by assumption))); done))))
  generalize hX : (w.setCell ⟨rl, 7, none⟩ (.int .u64 i)).setCell ⟨rl, 10, none⟩ (.int .u64 (l.asz + z)) = X at hl2 hcX ⊢
  clear hX k0 k1 k2 k3 k4 k5 k6 k7 k8 k9 k10 k11 hfz bl e1
  obtain ⟨q0, q1, q2, q3, q4, q5, q6, q7, q8, q9, q10, q11⟩ := hl2.cells
  simp only at q9 q10 q11
  have qf : ∀ k, X.frozen? ⟨rl, k, none⟩ = false := fun k => Blk.frozen hl2 k
  have HM := Lib.hid (maxAppl_yes (Blk.drew hl2))
  have HX := Lib.hid hl2
  have HCX := Lib.hid hcX
  have bl : rl < X.heap.size := Blk.lt hl2
  clear hl2 hcX q0 q1 q2 q3 q4 q5 q6 q7 q8
  go_region_held3 (fun wx => wx.cell? ⟨rl, 10, none⟩ = some (.int .u64 (l.asz + z)) ∧ wx.cell? ⟨rl, 9, none⟩ = some (.int .u64 l.mx) ∧ (wx.cell? ⟨rl, 11, none⟩).isSome = true) ((repeat' apply And.intro) <;> (first | with_reducible assumption | (simp [go_sem, *]; done))) (first | (go_at_call 293; (with_reducible refine Calls.mono (HM.out) ?_); rintro e w' ⟨rfl, rfl⟩))
  go_end0
  have hd : decide (i < l.com) = false := by simp; omega
  rw [hd]
  refine ⟨rfl, Blk.drew (HX.out.set_ 11 (.bool false) { l with apg := i, asz := l.asz + z, ps := false } rfl), ((HCX.out).setCell (.inr (by simp)) _).drew⟩
end
end Go.Proofs.YtalhhplphlobbaaGreat
