/- The raft's lists of messages; a message put behind one. Conditions: sizes. campaign: the words; a message just made. Conditions: none. hup, Step of what asks for it, the tick of a node that does not lead. Conditions: sizes. A tick of a raw node. Conditions: its clock is that of a node that does not lead. -/
import Derived.Test.YtalhhplphlobbaaGreatP15
import Derived.Test.YtalhhplphlobbaaGreatP34
set_option linter.unusedVariables false
set_option linter.unusedSimpArgs false
namespace Go.Proofs.YtalhhplphlobbaaGreat
open Go.RowKit
/-- A list of messages: its row is the raft's own, and what the messages lead to lies outside M. -/
structure OutL (M : List Nat) (w : World) (base : Nat) (v : Value) (l : List (Nat × MsgS)) : Prop where
  row : w.ownsRow base 199 1 v l.length (l.map fun x => Value.pointer (some ⟨x.1, 0, none⟩))
  rm : ∀ x ∈ rowL v, x ∈ M
  at_ : ∀ x ∈ l, x.1 ∈ M ∧ base ≤ x.1 ∧ MsgAt M w x.1 x.2
theorem OutL.nil (M : List Nat) (w : World) (base : Nat) : OutL M w base (.slice none 0 0) [] := ⟨own_nil _ _ _ _, by simp [rowL, Value.ownBlock], by simp⟩
theorem MsgAt.type {M : List Nat} {w : World} {g : Nat} {m : MsgS} (h : MsgAt M w g m) : ∃ cs, Blk w g 301 cs := by
  obtain ⟨_, _, _, _, _, _, _, _, _, _, hb, _⟩ := h
  exact ⟨_, hb⟩
section
variable {M M' L : List Nat} {w w' : World} {rb g base : Nat} {s : RaftS} {m : MsgS} {v : Value} {l l1 l2 : List (Nat × MsgS)}
theorem OutL.chg (h : OutL M w base v l) (hc : Chg L w w') (hL : ∀ x ∈ L, x ∈ M) (hr : ∀ x ∈ rowL v, x ∉ L) (hg : ∀ x ∈ l, x.1 ∉ L) : OutL M w' base v l :=
  ⟨own_keep h.row hc hr, h.rm, fun x hx => ⟨(h.at_ x hx).1, (h.at_ x hx).2.1, (h.at_ x hx).2.2.chg hc hL (hg x hx)⟩⟩
theorem OutL.nxt (h : OutL M w base v l) (hc : Chg [] w w') : OutL M w' base v l := h.chg hc (by simp) (by simp) (by simp)
theorem OutL.more (h : OutL M w base v l) (hM : ∀ x ∈ M', x ∈ M ∨ w.heap.size ≤ x) (hs : ∀ x ∈ M, x ∈ M') : OutL M' w base v l :=
  ⟨h.row, fun x hx => hs x (h.rm x hx), fun x hx => ⟨hs _ (h.at_ x hx).1, (h.at_ x hx).2.1, (h.at_ x hx).2.2.more hM⟩⟩
/-- Blocks of messages and of rows are none of another type. -/
theorem OutL.far (h : OutL M w base v l) {b t : Nat} {cs : Array Value} (hb : Blk w b t cs) (h1 : t ≠ 199) (h2 : t ≠ 301) : b ∉ rowL v ∧ ∀ x ∈ l, x.1 ≠ b := by
  refine ⟨own_ne h.row hb h1, fun x hx e => ?_⟩
  obtain ⟨_, _, hm⟩ := h.at_ x hx
  obtain ⟨cs', hb'⟩ := hm.type
  exact Blk.ne hb' hb (Ne.symm h2) e
/-- A vote's request is put behind the list of what is sent. -/
theorem push_vote (h : RaftAt w rb s) (h1 : OutL M w base s.msgs l1) (h2 : OutL M w base s.msga l2) (hd : ∀ x ∈ rowL s.msgs, x ∉ rowL s.msga) (hm : MsgAt M w g m) (hg : g ∈ M) (hgb : base ≤ g) (hrm : rb ∈ M) (hM : ∀ x ∈ M, x < w.heap.size)
    (hfr : m.fr = 0) (hte : m.te ≠ 0) (hty : m.ty = 5 ∨ m.ty = 17) (hto : m.dst ≠ s.id) (hcl : l1.length < 1000) (hb : base ≤ w.heap.size) (hn1 : ∀ x ∈ l1, x.1 ≠ g) (hn2 : ∀ x ∈ l2, x.1 ≠ g) :
    Calls Tryz.prog 217 #[.pointer (some ⟨rb, 0, none⟩), .pointer (some ⟨g, 0, none⟩)] w fun y w' => y = .returned (.tuple #[]) ∧ ∃ v' M', RaftAt w' rb { s with msgs := v' } ∧ OutL M' w' base v' (l1 ++ [(g, { m with fr := s.id })]) ∧ OutL M' w' base s.msga l2 ∧
      (∀ x ∈ rowL v', x ∉ rowL s.msga) ∧ Chg (rb :: g :: rowL s.msgs) w w' ∧ (∀ x ∈ M, x ∈ M') ∧ (∀ x ∈ M', x ∈ M ∨ w.heap.size ≤ x ∧ x < w'.heap.size) := by
  refine (send_vote h hm hg hrm hM hfr hte hty hto (cs := l1.map fun x => Value.pointer (some ⟨x.1, 0, none⟩)) (by simpa using h1.row) h1.rm (by simpa using hcl) hb).mono ?_
  rintro y w' ⟨rfl, v', hr, ho, hm', hc, hv⟩
  have hLM : ∀ x ∈ rb :: g :: rowL s.msgs, x ∈ M := by
    intro x hx
    simp only [List.mem_cons] at hx
    rcases hx with rfl | rfl | hx
    · exact hrm
    · exact hg
    · exact h1.rm x hx
  obtain ⟨csg, hbg⟩ := hm.type
  have hfar1 := h1.far h (by decide) (by decide)
  have hfar2 := h2.far h (by decide) (by decide)
  have hg1 : ∀ x ∈ l1, x.1 ∉ rb :: g :: rowL s.msgs := fun x hx hx2 => by
    simp only [List.mem_cons] at hx2
    obtain ⟨csx, hbx⟩ := (h1.at_ x hx).2.2.type
    rcases hx2 with e | e | e
    · exact hfar1.2 x hx e
    · exact hn1 x hx e
    · exact own_ne h1.row hbx (by decide) e
  have hg2 : ∀ x ∈ l2, x.1 ∉ rb :: g :: rowL s.msgs := fun x hx hx2 => by
    simp only [List.mem_cons] at hx2
    obtain ⟨csx, hbx⟩ := (h2.at_ x hx).2.2.type
    rcases hx2 with e | e | e
    · exact hfar2.2 x hx e
    · exact hn2 x hx e
    · exact own_ne h1.row hbx (by decide) e
  have hr2 : ∀ x ∈ rowL s.msga, x ∉ rb :: g :: rowL s.msgs := fun x hx hx2 => by
    simp only [List.mem_cons] at hx2
    rcases hx2 with rfl | rfl | e
    · exact hfar2.1 hx
    · exact own_ne h2.row hbg (by decide) hx
    · exact hd x e hx
  have hsub : ∀ x ∈ M, x ∈ rowL v' ++ M := fun x hx => List.mem_append_right _ hx
  have hlt : ∀ x ∈ rowL v', x < w'.heap.size := fun x hx => (own_lt ho hx).2
  have hnew : ∀ x ∈ rowL v' ++ M, x ∈ M ∨ w.heap.size ≤ x ∧ x < w'.heap.size := fun x hx => by
    rcases List.mem_append.1 hx with hx | hx
    · rcases hv x hx with h | h
      · exact .inl (h1.rm x h)
      · exact .inr ⟨h, hlt x hx⟩
    · exact .inl hx
  have hnew0 : ∀ x ∈ rowL v' ++ M, x ∈ M ∨ w.heap.size ≤ x := fun x hx => (hnew x hx).imp id fun h => h.1
  refine ⟨rfl, v', rowL v' ++ M, hr, ⟨by simpa using ho, fun x hx => List.mem_append_left _ hx, fun x hx => ?_⟩, ?_, ?_, hc, hsub, hnew⟩
  · rcases List.mem_append.1 hx with hx | hx
    · have z := h1.at_ x hx
      exact ⟨hsub _ z.1, z.2.1, (z.2.2.more hnew0).chg hc (fun y hy => hsub y (hLM y hy)) (hg1 x hx)⟩
    · simp only [List.mem_singleton] at hx
      subst hx
      refine ⟨hsub _ hg, hgb, ?_⟩
      exact hm'
  · exact (h2.more hnew0 hsub).chg hc (fun y hy => hsub y (hLM y hy)) hr2 hg2
  · intro x hx hx2
    rcases hv x hx with h | h
    · exact hd x h hx2
    · have := (own_lt h2.row hx2).2
      omega
/-- An answer is put behind the list of what waits till all is written. -/
theorem push_resp (h : RaftAt w rb s) (h1 : OutL M w base s.msga l1) (h2 : OutL M w base s.msgs l2) (hd : ∀ x ∈ rowL s.msgs, x ∉ rowL s.msga) (hm : MsgAt M w g m) (hg : g ∈ M) (hgb : base ≤ g) (hrm : rb ∈ M) (hM : ∀ x ∈ M, x < w.heap.size)
    (hfr : m.fr = 0) (hte : m.te ≠ 0) (hty : m.ty = 6 ∨ m.ty = 18) (hcl : l1.length < 1000) (hb : base ≤ w.heap.size) (hn1 : ∀ x ∈ l1, x.1 ≠ g) (hn2 : ∀ x ∈ l2, x.1 ≠ g) :
    Calls Tryz.prog 217 #[.pointer (some ⟨rb, 0, none⟩), .pointer (some ⟨g, 0, none⟩)] w fun y w' => y = .returned (.tuple #[]) ∧ ∃ v' M', RaftAt w' rb { s with msga := v' } ∧ OutL M' w' base v' (l1 ++ [(g, { m with fr := s.id })]) ∧ OutL M' w' base s.msgs l2 ∧
      (∀ x ∈ rowL v', x ∉ rowL s.msgs) ∧ Chg (rb :: g :: rowL s.msga) w w' ∧ (∀ x ∈ M, x ∈ M') ∧ (∀ x ∈ M', x ∈ M ∨ w.heap.size ≤ x ∧ x < w'.heap.size) := by
  refine (send_resp h hm hg hrm hM hfr hte hty (cs := l1.map fun x => Value.pointer (some ⟨x.1, 0, none⟩)) (by simpa using h1.row) h1.rm (by simpa using hcl) hb).mono ?_
  rintro y w' ⟨rfl, v', hr, ho, hm', hc, hv⟩
  have hLM : ∀ x ∈ rb :: g :: rowL s.msga, x ∈ M := by
    intro x hx
    simp only [List.mem_cons] at hx
    rcases hx with rfl | rfl | hx
    · exact hrm
    · exact hg
    · exact h1.rm x hx
  obtain ⟨csg, hbg⟩ := hm.type
  have hfar1 := h1.far h (by decide) (by decide)
  have hfar2 := h2.far h (by decide) (by decide)
  have hg1 : ∀ x ∈ l1, x.1 ∉ rb :: g :: rowL s.msga := fun x hx hx2 => by
    simp only [List.mem_cons] at hx2
    obtain ⟨csx, hbx⟩ := (h1.at_ x hx).2.2.type
    rcases hx2 with e | e | e
    · exact hfar1.2 x hx e
    · exact hn1 x hx e
    · exact own_ne h1.row hbx (by decide) e
  have hg2 : ∀ x ∈ l2, x.1 ∉ rb :: g :: rowL s.msga := fun x hx hx2 => by
    simp only [List.mem_cons] at hx2
    obtain ⟨csx, hbx⟩ := (h2.at_ x hx).2.2.type
    rcases hx2 with e | e | e
    · exact hfar2.2 x hx e
    · exact hn2 x hx e
    · exact own_ne h1.row hbx (by decide) e
  have hr2 : ∀ x ∈ rowL s.msgs, x ∉ rb :: g :: rowL s.msga := fun x hx hx2 => by
    simp only [List.mem_cons] at hx2
    rcases hx2 with rfl | rfl | e
    · exact hfar2.1 hx
    · exact own_ne h2.row hbg (by decide) hx
    · exact hd x hx e
  have hsub : ∀ x ∈ M, x ∈ rowL v' ++ M := fun x hx => List.mem_append_right _ hx
  have hlt : ∀ x ∈ rowL v', x < w'.heap.size := fun x hx => (own_lt ho hx).2
  have hnew : ∀ x ∈ rowL v' ++ M, x ∈ M ∨ w.heap.size ≤ x ∧ x < w'.heap.size := fun x hx => by
    rcases List.mem_append.1 hx with hx | hx
    · rcases hv x hx with h | h
      · exact .inl (h1.rm x h)
      · exact .inr ⟨h, hlt x hx⟩
    · exact .inl hx
  have hnew0 : ∀ x ∈ rowL v' ++ M, x ∈ M ∨ w.heap.size ≤ x := fun x hx => (hnew x hx).imp id fun h => h.1
  refine ⟨rfl, v', rowL v' ++ M, hr, ⟨by simpa using ho, fun x hx => List.mem_append_left _ hx, fun x hx => ?_⟩, ?_, ?_, hc, hsub, hnew⟩
  · rcases List.mem_append.1 hx with hx | hx
    · have z := h1.at_ x hx
      exact ⟨hsub _ z.1, z.2.1, (z.2.2.more hnew0).chg hc (fun y hy => hsub y (hLM y hy)) (hg1 x hx)⟩
    · simp only [List.mem_singleton] at hx
      subst hx
      refine ⟨hsub _ hg, hgb, ?_⟩
      exact hm'
  · exact (h2.more hnew0 hsub).chg hc (fun y hy => hsub y (hLM y hy)) hr2 hg2
  · intro x hx hx2
    rcases hv x hx with h | h
    · exact hd x hx2 h
    · have := (own_lt h2.row hx2).2
      omega
end
end Go.Proofs.YtalhhplphlobbaaGreat
namespace Go.Proofs.YtalhhplphlobbaaGreat
open Go.RowKit
def tPre : ByteArray := ⟨#[67, 97, 109, 112, 97, 105, 103, 110, 80, 114, 101, 69, 108, 101, 99, 116, 105, 111, 110]⟩
def tEl : ByteArray := ⟨#[67, 97, 109, 112, 97, 105, 103, 110, 69, 108, 101, 99, 116, 105, 111, 110]⟩
/-- What a node that campaigns sends, and what it answers itself. -/
def askMsg (id ty term : Int) (x : Ent) (i : Int) (k : Int) : MsgS := ⟨ty, k, id, term, x.t, i, .slice none 0 0, 0, 0, .pointer none, false, 0, .slice none 0 0, .slice none 0 0⟩
def ownMsg (id ty term : Int) : MsgS := ⟨ty + 1, id, id, term, 0, 0, .slice none 0 0, 0, 0, .pointer none, false, 0, .slice none 0 0, .slice none 0 0⟩
/-- The raft as it campaigns: from here on its lists grow. -/
structure CampS (M : List Nat) (w : World) (rb rl ms x0 : Nat) (s : RaftS) (l : RLog) (hv sv ev : Value) (e : Ent) (r : List Ent) (V : List Int) : Prop where
  ra : RaftAt w rb s
  la : RlAt w rl ms l
  sa : StAt M w ms hv sv ev e r
  sv : SetAt w (.map (some x0)) V
  lt : ∀ x ∈ M, x < w.heap.size
  rbm : rb ∈ M
  hrl : s.rl = rl
  cal : l.calm
  off : l.off = e.i + r.length + 1
  m1 : s.msgs = .slice none 0 0
  m2 : s.msga = .slice none 0 0
  v0 : s.v0 = .map (some x0)
  v1 : s.v1 = .map none
  tm : 0 < s.term ∧ s.term + 1 < 18446744073709551615
  idr : 0 < s.id ∧ s.id < 2 ^ 64
  lV : V.length ≤ 12
  rng : ∀ k ∈ V, 0 < k ∧ k < 2 ^ 64
  V0 : V ≠ []
theorem RaftS.lists {s : RaftS} {v u : Value} (h1 : s.msgs = v) (h2 : s.msga = u) : ({ s with msgs := v, msga := u } : RaftS) = s := by cases s; cases h1; cases h2; rfl
/-- While a node that campaigns asks: its lists after those of ids that have been asked. -/
structure AskJ (M : List Nat) (w1 : World) (rb rl ms gi : Nat) (s : RaftS) (l : RLog) (hv sv ev : Value) (e : Ent) (r : List Ent) (x : Ent) (ty : Int) (CS : Array Value) (ids : List Int) (w : World) : Prop where
  ex : ∃ v1 v2 M' Lm La, RaftAt w rb { s with msgs := v1, msga := v2 } ∧ OutL M' w w1.heap.size v1 Lm ∧ OutL M' w w1.heap.size v2 La ∧ (∀ y ∈ rowL v1, y ∉ rowL v2) ∧ (∀ y ∈ M, y ∈ M') ∧ (∀ y ∈ M', y ∈ M ∨ w1.heap.size ≤ y ∧ y < w.heap.size) ∧
    Lm.map Prod.snd = (ids.filter (· ≠ s.id)).map (askMsg s.id ty (if ty = 5 then s.term else s.term + 1) x (e.i + r.length)) ∧ La.map Prod.snd = (ids.filter (· = s.id)).map (fun _ => ownMsg s.id ty (if ty = 5 then s.term else s.term + 1)) ∧ StAt M' w ms hv sv ev e r
  la : RlAt w rl ms l
  gi : Blk w gi 22 CS
  ch : Chg [rb, ms] w1 w
/-- What a send leaves as it was. -/
theorem send_keeps {M' M2 : List Nat} {w1 w4 wa w5 : World} {rb rl ms gi n : Nat} {s : RaftS} {l : RLog} {hv sv ev v : Value} {e : Ent} {r : List Ent} {CS : Array Value} {xs : List Value} (hla : RlAt w4 rl ms l) (hst : StAt M' w4 ms hv sv ev e r) (hgi : Blk w4 gi 22 CS) (hch : Chg [rb, ms] w1 w4) (hra : RaftAt w4 rb s) (hca : Chg [] w4 wa)
    (hrow : wa.ownsRow w1.heap.size 199 1 v n xs) (hc : Chg (rb :: w4.heap.size :: rowL v) wa w5) (hM6 : ∀ x ∈ w4.heap.size :: M', x ∈ M2) (hM7 : ∀ x ∈ M2, x ∈ w4.heap.size :: M' ∨ wa.heap.size ≤ x ∧ x < w5.heap.size) (hrb : rb ∈ M') (hrm : ∀ x ∈ rowL v, x ∈ M') (hM : ∀ x ∈ M', x < w4.heap.size) :
    RlAt w5 rl ms l ∧ StAt M2 w5 ms hv sv ev e r ∧ Blk w5 gi 22 CS ∧ Chg [rb, ms] w1 w5 := by
  have far : ∀ {b t : Nat} {cs : Array Value}, Blk w4 b t cs → t ≠ 296 → t ≠ 199 → b ∉ rb :: w4.heap.size :: rowL v := fun hb h1 h2 hx => by
    simp only [List.mem_cons] at hx
    rcases hx with e | e | e
    · exact Blk.ne hb hra h1 e
    · have := hb.lt
      omega
    · exact own_ne hrow (hb.chg hca (by simp)) h2 e
  obtain ⟨_, _, _, _, _, _, hmb⟩ := id hst.at_
  have nm := far hmb (by decide) (by decide)
  have hc4 : Chg (rb :: w4.heap.size :: rowL v) w4 w5 := (hca.mono (by simp)).trans hc
  have hz := hca.size
  refine ⟨hla.chg hc4 (far hla (by decide) (by decide)), hst.grow (M' := M2) (fun x hx => ?_) (hM6 _ (List.mem_cons_of_mem _ hst.mem)) (hst.at_.chg hc4 nm) hc4 (fun x hx => ?_), hgi.chg hc4 (far hgi (by decide) (by decide)), hch.then hc4 (fun x hx hl => ?_)⟩
  · rcases hM7 x hx with h | h
    · rcases List.mem_cons.1 h with rfl | h
      · exact .inr (Nat.le_refl _)
      · exact .inl h
    · exact .inr (Nat.le_trans hz h.1)
  · simp only [List.mem_cons] at hx
    rcases hx with rfl | rfl | hx
    · exact hM6 _ (List.mem_cons_of_mem _ hrb)
    · exact hM6 _ (by simp)
    · exact hM6 _ (List.mem_cons_of_mem _ (hrm x hx))
  · simp only [List.mem_cons] at hx
    rcases hx with rfl | rfl | hx
    · simp
    · have := hch.size
      omega
    · have := (own_lt hrow hx).1
      omega
/-- A message just made: its block is new. -/
theorem msg_new {M : List Nat} {w : World} {p0 p1 p2 p3 p4 p5 p7 p8 p10 p11 : Value} {m : MsgS} (h0 : PtrI M w p0 m.ty) (h1 : PtrU M w p1 m.dst) (h2 : PtrU M w p2 m.fr) (h3 : PtrU M w p3 m.te) (h4 : PtrU M w p4 m.lt) (h5 : PtrU M w p5 m.ix) (h7 : PtrU M w p7 m.co) (h8 : PtrU M w p8 m.vo) (h10 : PtrB M w p10 m.rj) (h11 : PtrU M w p11 m.rh) :
    MsgAt (w.heap.size :: M) (w.alloc (.cells #[p0, p1, p2, p3, p4, p5, m.en, p7, p8, m.sn, p10, p11, m.cx, m.rs] 301)) w.heap.size m := by
  have hM : ∀ x ∈ w.heap.size :: M, x ∈ M ∨ w.heap.size ≤ x := fun x hx => by
    rcases List.mem_cons.1 hx with rfl | hx
    · exact .inr (Nat.le_refl _)
    · exact .inl hx
  have hc : Chg [] w (w.alloc (.cells #[p0, p1, p2, p3, p4, p5, m.en, p7, p8, m.sn, p10, p11, m.cx, m.rs] 301)) := (Chg.refl _ _).alloc _
  have hs : ∀ x ∈ ([] : List Nat), x ∈ w.heap.size :: M := by simp
  exact ⟨p0, p1, p2, p3, p4, p5, p7, p8, p10, p11, Blk.new _ _ _, (h0.more hM).chg hc hs, (h1.more hM).chg hc hs, (h2.more hM).chg hc hs, (h3.more hM).chg hc hs, (h4.more hM).chg hc hs, (h5.more hM).chg hc hs, (h7.more hM).chg hc hs, (h8.more hM).chg hc hs, (h10.more hM).chg hc hs, (h11.more hM).chg hc hs⟩
/-- A number just put into a cell of its own. -/
theorem ptr_new {M : List Nat} {w : World} (hM : ∀ x ∈ M, x < w.heap.size) (x : Value) (t : TypeId) : Ptr1 M (w.alloc (.cells #[x] t)) (.pointer (some ⟨w.heap.size, 0, none⟩)) x :=
  ⟨w.heap.size, 0, rfl, fun hx => by have := hM _ hx; omega, by simp, by go_cell⟩
set_option maxRecDepth 100000 in
set_option maxHeartbeats 400000 in
theorem enumMsg_any {M : List Nat} (w : World) (k : Int) (hM : ∀ x ∈ M, x < w.heap.size) : Calls Tryz.prog 168 #[.int .i32 k] w fun y w' => ∃ p, y = .returned (.pointer (some ⟨p, 0, none⟩)) ∧ Ptr1 M w' (.pointer (some ⟨p, 0, none⟩)) (.int .i32 k) ∧ Nxt w w' := by
  go_enter Tryz.func168, Tryz.ntmps168
  go_wp2
  go_ret
  refine ⟨_, rfl, ⟨_, _, rfl, fun hm => by have := hM _ hm; omega, by go_size, by go_cell⟩, ⟨?_⟩⟩
  all_goals (focus (first | with_reducible assumption | ((repeat (first | with_reducible exact Chg.refl _ _ | with_reducible assumption | refine Chg.drew ?_ | refine Chg.alloc ?_ _)); done)))
end Go.Proofs.YtalhhplphlobbaaGreat
namespace Go.Proofs.YtalhhplphlobbaaGreat
open Go.RowKit
section
variable {M : List Nat} {W : World} {rb mb : Nat} {s : RaftS} {m : MsgS} {R : World → Prop}
set_option maxRecDepth 100000 in
set_option maxHeartbeats 1000000 in
theorem hup_any {T : ByteArray} (h : RaftAt W rb s) (hs2 : s.state ≠ 2)
    (hP : ∀ X, Nxt W X → Calls Tryz.prog 284 #[.pointer (some ⟨rb, 0, none⟩)] X fun y w' => y = .returned (.bool true) ∧ Nxt X w')
    (hU : ∀ X, Nxt W X → Calls Tryz.prog 285 #[.pointer (some ⟨rb, 0, none⟩)] X fun y w' => y = .returned (.bool false) ∧ Nxt X w')
    (hC : ∀ X, Nxt W X → Calls Tryz.prog 286 #[.pointer (some ⟨rb, 0, none⟩), .string T] X fun y w' => y = .returned (.tuple #[]) ∧ R w') :
    Calls Tryz.prog 221 #[.pointer (some ⟨rb, 0, none⟩), .string T] W fun y w' => y = .returned (.tuple #[]) ∧ R w' := by
  have c16 : W.cell? ⟨rb, 16, none⟩ = some (.int .u64 s.state) := RaftAt.cell h 16 (.int .u64 s.state) rfl
  have hs2' : (s.state == 2) = false := by simpa using hs2
  have HP := Lib.hid (hP W ⟨Chg.refl _ _⟩)
  have HU := Lib.hid hU
  have HC := Lib.hid hC
  clear hP hU hC hs2 h
  go_enter Tryz.func221, Tryz.ntmps221
  go_wp2_with (first | (go_at_call 284; (with_reducible refine Calls.mono HP.out ?_); rintro y0 X0 ⟨rfl, hn0⟩) | (go_at_call 285; (with_reducible refine Calls.mono (HU.out _ hn0) ?_); rintro y1 X1 ⟨rfl, hn1⟩) | (go_at_call 286; (with_reducible refine Calls.mono (HC.out _ ⟨hn0.out.trans hn1.out⟩) ?_); rintro y2 X2 ⟨rfl, hr⟩; have HR := Lib.hid hr; clear hr))
  go_end0
  exact ⟨rfl, HR.out⟩
set_option maxRecDepth 100000 in
set_option maxHeartbeats 4000000 in
theorem stepHup_any (hm : MsgAt M W mb m) (hty : m.ty = 0) (hte : m.te = 0) (h : RaftAt W rb s)
    (hH : Calls Tryz.prog 221 #[.pointer (some ⟨rb, 0, none⟩), .string (if s.pv then tPre else tEl)] W fun y w' => y = .returned (.tuple #[]) ∧ R w') :
    Calls Tryz.prog 167 #[.pointer (some ⟨rb, 0, none⟩), .pointer (some ⟨mb, 0, none⟩)] W fun y w' => y = .returned .nilIface ∧ R w' := by
  have c29 : W.cell? ⟨rb, 29, none⟩ = some (.bool s.pv) := RaftAt.cell h 29 (.bool s.pv) rfl
  have HM := Lib.hid hm
  have hT := mTerm_any hm
  rw [hte] at hT
  have hY := mType_any hm
  rw [hty] at hY
  have HT := Lib.hid hT
  have HY := Lib.hid hY
  cases hpv : s.pv with
  | true =>
    rw [hpv] at c29 hH
    rw [if_pos rfl] at hH
    unfold tPre at hH
    have HH := Lib.hid hH
    clear hT hY hm h hH
    go_enter Tryz.func167, Tryz.ntmps167
    go_wp2_with (first | (go_at_call 212; (with_reducible refine Calls.mono HT.out ?_); rintro e1 w' ⟨rfl, rfl⟩) | (go_at_call 170; (with_reducible refine Calls.mono HY.out ?_); rintro e1 w' ⟨rfl, rfl⟩) | (go_at_call 221; (with_reducible refine Calls.mono HH.out ?_); rintro e1 w' ⟨rfl, hr⟩; have HR := Lib.hid hr; clear hr))
    go_ret
    exact ⟨rfl, HR.out⟩
  | false =>
    rw [hpv] at c29 hH
    rw [if_neg (by decide)] at hH
    unfold tEl at hH
    have HH := Lib.hid hH
    clear hT hY hm h hH
    go_enter Tryz.func167, Tryz.ntmps167
    go_wp2_with (first | (go_at_call 212; (with_reducible refine Calls.mono HT.out ?_); rintro e1 w' ⟨rfl, rfl⟩) | (go_at_call 170; (with_reducible refine Calls.mono HY.out ?_); rintro e1 w' ⟨rfl, rfl⟩) | (go_at_call 221; (with_reducible refine Calls.mono HH.out ?_); rintro e1 w' ⟨rfl, hr⟩; have HR := Lib.hid hr; clear hr))
    go_ret
    exact ⟨rfl, HR.out⟩
set_option maxRecDepth 100000 in
set_option maxHeartbeats 2000000 in
/-- A tick at which the node does not campaign. -/
theorem tick_no {b : Bool} (h : RaftAt W rb s) (hee : -2 ^ 62 ≤ s.ee ∧ s.ee < 2 ^ 62) (hb : (b && decide (s.ret ≤ s.ee + 1)) = false)
    (hP : ∀ X, Chg [rb] W X → RaftAt X rb { s with ee := s.ee + 1 } → Calls Tryz.prog 284 #[.pointer (some ⟨rb, 0, none⟩)] X fun y w' => y = .returned (.bool b) ∧ Nxt X w') :
    Calls Tryz.prog 281 #[.pointer (some ⟨rb, 0, none⟩)] W fun y w' => y = .returned (.tuple #[]) ∧ RaftAt w' rb { s with ee := s.ee + 1 } ∧ Chg [rb] W w' := by
  have c26 : W.cell? ⟨rb, 26, none⟩ = some (.int .i64 s.ee) := RaftAt.cell h 26 (.int .i64 s.ee) rfl
  have cf := Blk.frozen h
  have hw : IntKind.i64.wrap (s.ee + 1) = s.ee + 1 := IntWalk.i64_in _ (by omega)
  have hq : Chg [rb] W (W.setCell ⟨rb, 26, none⟩ (.int .i64 (s.ee + 1))) := (Chg.refl _ _).setCell (.inr (by simp)) _
  have hR : RaftAt (W.setCell ⟨rb, 26, none⟩ (.int .i64 (s.ee + 1))) rb { s with ee := s.ee + 1 } := RaftAt.set_ h 26 _ { s with ee := s.ee + 1 } rfl
  have HP := Lib.hid (hP _ hq hR)
  have HQ := Lib.hid hq
  have HR := Lib.hid hR
  clear hP hq hR h hee
  cases b with
  | false =>
    clear hb
    go_enter Tryz.func281, Tryz.ntmps281
    go_wp2_with (first | (go_at_call 284; (with_reducible refine Calls.mono HP.out ?_); rintro y0 X0 ⟨rfl, hn0⟩))
    go_end0
    exact ⟨rfl, HR.out.nxt hn0, HQ.out.nxt hn0⟩
  | true =>
    have hb' : decide (s.ret ≤ s.ee + 1) = false := by simpa using hb
    clear hb
    go_enter Tryz.func281, Tryz.ntmps281
    go_wp2_with (first | (go_at_call 284; (with_reducible refine Calls.mono HP.out ?_); rintro y0 X0 ⟨rfl, hn0⟩) | (go_at_call 345; (with_reducible refine Calls.mono (past_any (HR.out.nxt hn0)) ?_); simp only; rintro y1 X1 ⟨rfl, hn1⟩))
    go_end0
    exact ⟨rfl, (HR.out.nxt hn0).nxt hn1, (HQ.out.nxt hn0).nxt hn1⟩
set_option maxRecDepth 100000 in
set_option maxHeartbeats 2000000 in
/-- A tick at which the node asks itself to campaign. -/
theorem tick_yes (h : RaftAt W rb s) (hM : ∀ x ∈ M, x < W.heap.size) (hee : -2 ^ 62 ≤ s.ee ∧ s.ee < 2 ^ 62) (hb : s.ret ≤ s.ee + 1)
    (hP : ∀ X, Chg [rb] W X → RaftAt X rb { s with ee := s.ee + 1 } → Calls Tryz.prog 284 #[.pointer (some ⟨rb, 0, none⟩)] X fun y w' => y = .returned (.bool true) ∧ Nxt X w')
    (hH : ∀ X mb m, Chg [rb] W X → RaftAt X rb { s with ee := 0 } → MsgAt (mb :: M) X mb m → m.ty = 0 → m.te = 0 → Calls Tryz.prog 167 #[.pointer (some ⟨rb, 0, none⟩), .pointer (some ⟨mb, 0, none⟩)] X fun y w' => y = .returned .nilIface ∧ R w') :
    Calls Tryz.prog 281 #[.pointer (some ⟨rb, 0, none⟩)] W fun y w' => y = .returned (.tuple #[]) ∧ R w' := by
  have c26 : W.cell? ⟨rb, 26, none⟩ = some (.int .i64 s.ee) := RaftAt.cell h 26 (.int .i64 s.ee) rfl
  have cf := Blk.frozen h
  have hw : IntKind.i64.wrap (s.ee + 1) = s.ee + 1 := IntWalk.i64_in _ (by omega)
  have hq : Chg [rb] W (W.setCell ⟨rb, 26, none⟩ (.int .i64 (s.ee + 1))) := (Chg.refl _ _).setCell (.inr (by simp)) _
  have hR : RaftAt (W.setCell ⟨rb, 26, none⟩ (.int .i64 (s.ee + 1))) rb { s with ee := s.ee + 1 } := RaftAt.set_ h 26 _ { s with ee := s.ee + 1 } rfl
  have HP := Lib.hid (hP _ hq hR)
  have HQ := Lib.hid hq
  have HR := Lib.hid hR
  have HH := Lib.hid hH
  have HM := Lib.hid hM
  have hb' : decide (s.ret ≤ s.ee + 1) = true := by simpa using hb
  clear hP hq hR h hee hH hM hb
  go_enter Tryz.func281, Tryz.ntmps281
  go_wp2_with (first | (go_at_call 284; (with_reducible refine Calls.mono HP.out ?_); rintro y0 X0 ⟨rfl, hn0⟩) | (go_at_call 345; (with_reducible refine Calls.mono (past_any (HR.out.nxt hn0)) ?_); simp only; rintro y1 X1 ⟨rfl, hn1⟩; have d26 : X1.cell? ⟨rb, 26, none⟩ = some (.int .i64 (s.ee + 1)) := RaftAt.cell ((HR.out.nxt hn0).nxt hn1) 26 (.int .i64 (s.ee + 1)) rfl; have d0 : X1.cell? ⟨rb, 0, none⟩ = some (.int .u64 s.id) := RaftAt.cell ((HR.out.nxt hn0).nxt hn1) 0 (.int .u64 s.id) rfl; have df := Blk.frozen ((HR.out.nxt hn0).nxt hn1)))
  have hX1 : Chg [rb] W X1 := (HQ.out.nxt hn0).nxt hn1
  have hq2 : Chg [rb] X1 (X1.setCell ⟨rb, 26, none⟩ (.int .i64 0)) := (Chg.refl _ _).setCell (.inr (by simp)) _
  have hR2 : RaftAt (X1.setCell ⟨rb, 26, none⟩ (.int .i64 0)) rb { s with ee := 0 } := RaftAt.set_ ((HR.out.nxt hn0).nxt hn1) 26 _ { s with ee := 0 } rfl
  have hq3 : Chg [rb] W (X1.setCell ⟨rb, 26, none⟩ (.int .i64 0)) := hX1.trans hq2
  have hz2 : (X1.setCell ⟨rb, 26, none⟩ (.int .i64 0)).heap.size = X1.heap.size := by simp
  clear d26 d0 df hX1 hq2
  generalize X1.setCell ⟨rb, 26, none⟩ (.int .i64 0) = X2 at hq3 hR2 hz2 ⊢
  have hM2 : ∀ x ∈ M, x < X2.heap.size := fun x hx => Nat.lt_of_lt_of_le (HM.out x hx) hq3.size
  have hM3 : ∀ x ∈ M, x < (X2.alloc (.cells #[.int .u64 s.id] 22)).heap.size := fun x hx => by have := hM2 x hx; simp; omega
  with_reducible refine Calls.mono (enumMsg_any (M := M) _ 0 hM3) ?_
  rintro y2 w4 ⟨pe, rfl, hpe, hn4⟩
  have hc4 : Chg [] X2 w4 := ((Chg.refl _ _).alloc _).trans hn4.out
  have p2 : Ptr1 M w4 (.pointer (some ⟨X2.heap.size, 0, none⟩)) (.int .u64 s.id) := (ptr_new hM2 _ _).chg0 hn4.out
  rw [hz2] at p2
  have hmN := msg_new (m := ⟨0, 0, s.id, 0, 0, 0, .slice none 0 0, 0, 0, .pointer none, false, 0, .slice none 0 0, .slice none 0 0⟩) (.inr hpe) PtrU.nil (.inr p2) PtrU.nil PtrU.nil PtrU.nil PtrU.nil PtrU.nil PtrB.nil PtrU.nil
  have hca : Chg [] w4 (w4.alloc (.cells #[.pointer (some ⟨pe, 0, none⟩), .pointer none, .pointer (some ⟨X1.heap.size, 0, none⟩), .pointer none, .pointer none, .pointer none, .slice none 0 0, .pointer none, .pointer none, .pointer none, .pointer none, .pointer none, .slice none 0 0, .slice none 0 0] 301)) := (Chg.refl _ _).alloc _
  have HS := Lib.hid (HH.out _ _ _ (hq3.trans ((hc4.trans hca).mono (by simp))) ((hR2.nxt ⟨hc4⟩).nxt ⟨hca⟩) hmN rfl rfl)
  clear hmN hca hc4 p2 hpe hn4 hM3 hM2 hR2 hq3 hz2
  go_wp2_with (first | (go_at_call 167; (with_reducible refine Calls.mono HS.out ?_); rintro y5 w5 ⟨rfl, hr⟩; have HR5 := Lib.hid hr; clear hr))
  go_end0
  exact ⟨rfl, HR5.out⟩
end
end Go.Proofs.YtalhhplphlobbaaGreat
namespace Go.Proofs.YtalhhplphlobbaaGreat
open Go.RowKit
section
variable {W : World} {rn rb : Nat} {s : RaftS} {R : World → Prop}
set_option maxRecDepth 100000 in
set_option maxHeartbeats 1000000 in
theorem rawTick_any {C : Array Value} (hn : Blk W rn 276 C) (h0 : C[0]? = some (.pointer (some ⟨rb, 0, none⟩))) (h : RaftAt W rb s) (ht : s.tick = .func (.func 281) #[.pointer (some ⟨rb, 0, none⟩)] #[])
    (hT : Calls Tryz.prog 281 #[.pointer (some ⟨rb, 0, none⟩)] W fun y w' => y = .returned (.tuple #[]) ∧ R w') :
    Calls Tryz.prog 108 #[.pointer (some ⟨rn, 0, none⟩)] W fun y w' => y = .returned (.tuple #[]) ∧ R w' := by
  have c0 : W.cell? ⟨rn, 0, none⟩ = some (.pointer (some ⟨rb, 0, none⟩)) := (hn.cell 0).trans h0
  have c35 : W.cell? ⟨rb, 35, none⟩ = some (.func (.func 281) #[.pointer (some ⟨rb, 0, none⟩)] #[]) := (RaftAt.cell h 35 s.tick rfl).trans (by rw [ht])
  have HT := Lib.hid hT
  clear hn h0 h hT ht
  go_enter Tryz.func108, Tryz.ntmps108
  go_wp2_with (first | (go_at_call 281; (with_reducible refine Calls.mono HT.out ?_); rintro y5 w5 ⟨rfl, hr⟩; have HR5 := Lib.hid hr; clear hr))
  go_end0
  exact ⟨rfl, HR5.out⟩
end
end Go.Proofs.YtalhhplphlobbaaGreat
