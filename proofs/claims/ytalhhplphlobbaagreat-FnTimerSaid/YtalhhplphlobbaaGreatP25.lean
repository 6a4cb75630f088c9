/- said: what a node is, as plain data. Conditions: sizes. -/
import Derived.Test.YtalhhplphlobbaaGreatP19
import Derived.Test.YtalhhplphlobbaaGreatP20
import Derived.Test.YtalhhplphlobbaaGreatP24
set_option linter.unusedVariables false
set_option linter.unusedSimpArgs false
namespace Go.Proofs.YtalhhplphlobbaaGreat
open Go.RowKit
/-- The fields of an impl.Said. -/
structure SaidS where
  err : Int
  pan : Bool
  role : Int
  lead : Int
  h1 : Int
  h2 : Int
  h3 : Int
  ap : Int
  tg : Int
  c1 : Value
  c2 : Value
  c3 : Value
  c4 : Value
  cb : Bool
  has : Bool
  hh : Bool
  s1 : Int
  s2 : Int
  s3 : Int
  ents : Value
  sd : ByteArray
  si : Int
  st : Int
  n1 : Value
  n2 : Value
  n3 : Value
  n4 : Value
  nb : Bool
  com : Value
  sent : Value
  reads : Value
  sync : Bool
  log : Value
def SaidS.list (s : SaidS) : List Value := [.int .i64 s.err, .bool s.pan, .int .i64 s.role, .int .u64 s.lead, .int .u64 s.h1, .int .u64 s.h2, .int .u64 s.h3, .int .u64 s.ap, .int .u64 s.tg, s.c1, s.c2, s.c3, s.c4, .bool s.cb, .bool s.has, .bool s.hh, .int .u64 s.s1, .int .u64 s.s2, .int .u64 s.s3, s.ents, .string s.sd, .int .u64 s.si, .int .u64 s.st, s.n1, s.n2, s.n3, s.n4, .bool s.nb, s.com, s.sent, s.reads, .bool s.sync, s.log]
/-- Its slices are slices. -/
def SaidS.ok (s : SaidS) : Prop := ∀ v ∈ s.list, v.oneCell' = true
theorem size48 : (Tryz.prog.info? 48).map (·.size) = some 33 := by kernel_rfl
/-- What said adds. -/
def SaidS.add (s : SaidS) (r : RaftS) (l : RLog) (v1 v2 v3 v4 : Value) (al : Bool) : SaidS := { s with role := r.state, lead := r.lead, h1 := r.term, h2 := r.vote, h3 := l.com, ap := l.apd, tg := r.ltr, c1 := v1, c2 := v2, c3 := v3, c4 := v4, cb := al }
theorem SaidS.add_ok {a : SaidS} (h : a.ok) (r : RaftS) (l : RLog) (A1 A2 A3 A4 : Option Addr) (n1 n2 n3 n4 k1 k2 k3 k4 : Nat) (al : Bool) : (a.add r l (.slice A1 n1 k1) (.slice A2 n2 k2) (.slice A3 n3 k3) (.slice A4 n4 k4) al).ok := by
  intro v hv
  simp only [SaidS.add, SaidS.list, List.mem_cons, List.not_mem_nil, or_false] at hv
  rcases hv with rfl | rfl | rfl | rfl | rfl | rfl | rfl | rfl | rfl | rfl | rfl | rfl | rfl | rfl | rfl | rfl | rfl | rfl | rfl | rfl | rfl | rfl | rfl | rfl | rfl | rfl | rfl | rfl | rfl | rfl | rfl | rfl | rfl <;> first | rfl | exact h _ (by simp [SaidS.list])
/-- What said's second step keeps. -/
def HQ (MM : List Nat) (X : World) (t3 hp : Nat) (r : RaftS) (l : RLog) (wx : World) : Prop := HardAt MM wx (.pointer (some ⟨hp, 0, none⟩)) r.term r.vote l.com ∧ Chg [t3] X wx ∧ (∃ cs, Blk wx t3 48 cs ∧ cs.size = 33) ∧ (∀ x ∈ MM, x < wx.heap.size) ∧ t3 ∈ MM
section
variable {MM : List Nat} {X wx : World} {t3 t5 hp : Nat} {r : RaftS} {l : RLog}
theorem HQ.set (k : Nat) (u : Value) (h : HQ MM X t3 hp r l wx) : HQ MM X t3 hp r l (wx.setCell ⟨t3, k, none⟩ u) := by
  obtain ⟨h1, h2, ⟨cs, hb, hs⟩, h3, h4⟩ := h
  exact ⟨h1.chg (L := [t3]) ((Chg.refl _ _).setCell (.inr (by simp)) _) (by simpa using h4), h2.setCell (.inr (by simp)) _, ⟨_, hb.set_ k u, by simpa using hs⟩, fun x hx => by simpa using h3 x hx, h4⟩
theorem HQ.nxt {w' : World} (h : HQ MM X t3 hp r l wx) (hn : Nxt wx w') (hx : ∀ x ∈ [t3], x < X.heap.size) : HQ MM X t3 hp r l w' := by
  obtain ⟨h1, h2, ⟨cs, hb, hs⟩, h3, h4⟩ := h
  exact ⟨h1.chg (L := []) hn.out (by simp), h2.nxt hn, ⟨_, hb.nxt hn, hs⟩, fun x hx => Nat.lt_of_lt_of_le (h3 x hx) hn.out.size, h4⟩
theorem heldQ_set (hne : t5 ≠ t3) (k : Nat) (u : Value) (h : wx.cell? ⟨t5, 1, none⟩ = some (.pointer (some ⟨hp, 0, none⟩)) ∧ wx.cell? ⟨t5, 2, none⟩ = some (.int .u64 r.lead) ∧ wx.cell? ⟨t5, 3, none⟩ = some (.int .u64 r.state) ∧ wx.cell? ⟨t5, 4, none⟩ = some (.int .u64 l.apd) ∧ wx.cell? ⟨t5, 5, none⟩ = some (.int .u64 r.ltr) ∧ HQ MM X t3 hp r l wx) : (wx.setCell ⟨t3, k, none⟩ u).cell? ⟨t5, 1, none⟩ = some (.pointer (some ⟨hp, 0, none⟩)) ∧ (wx.setCell ⟨t3, k, none⟩ u).cell? ⟨t5, 2, none⟩ = some (.int .u64 r.lead) ∧ (wx.setCell ⟨t3, k, none⟩ u).cell? ⟨t5, 3, none⟩ = some (.int .u64 r.state) ∧ (wx.setCell ⟨t3, k, none⟩ u).cell? ⟨t5, 4, none⟩ = some (.int .u64 l.apd) ∧ (wx.setCell ⟨t3, k, none⟩ u).cell? ⟨t5, 5, none⟩ = some (.int .u64 r.ltr) ∧ HQ MM X t3 hp r l (wx.setCell ⟨t3, k, none⟩ u) := by
  have hne' := Ne.symm hne
  obtain ⟨h1, h2, h3, h4, h5, h6⟩ := h
  refine ⟨?_, ?_, ?_, ?_, ?_, h6.set _ _⟩ <;> simp [go_sem, hne, hne', h1, h2, h3, h4, h5]
theorem heldQ_call (hx : ∀ x ∈ [t3], x < X.heap.size) (h : wx.cell? ⟨t5, 1, none⟩ = some (.pointer (some ⟨hp, 0, none⟩)) ∧ wx.cell? ⟨t5, 2, none⟩ = some (.int .u64 r.lead) ∧ wx.cell? ⟨t5, 3, none⟩ = some (.int .u64 r.state) ∧ wx.cell? ⟨t5, 4, none⟩ = some (.int .u64 l.apd) ∧ wx.cell? ⟨t5, 5, none⟩ = some (.int .u64 r.ltr) ∧ HQ MM X t3 hp r l wx) : Calls Tryz.prog 106 #[.pointer (some ⟨hp, 0, none⟩)] wx fun y w' => y = .returned (.agg #[.int .u64 r.term, .int .u64 r.vote, .int .u64 l.com]) ∧ Nxt wx w' ∧ (w'.cell? ⟨t5, 1, none⟩ = some (.pointer (some ⟨hp, 0, none⟩)) ∧ w'.cell? ⟨t5, 2, none⟩ = some (.int .u64 r.lead) ∧ w'.cell? ⟨t5, 3, none⟩ = some (.int .u64 r.state) ∧ w'.cell? ⟨t5, 4, none⟩ = some (.int .u64 l.apd) ∧ w'.cell? ⟨t5, 5, none⟩ = some (.int .u64 r.ltr) ∧ HQ MM X t3 hp r l w') ∧
    ∃ v2 v3 v4 v5 v6 v7 v8, w'.cell? ⟨t3, 2, none⟩ = some v2 ∧ w'.cell? ⟨t3, 3, none⟩ = some v3 ∧ w'.cell? ⟨t3, 4, none⟩ = some v4 ∧ w'.cell? ⟨t3, 5, none⟩ = some v5 ∧ w'.cell? ⟨t3, 6, none⟩ = some v6 ∧ w'.cell? ⟨t3, 7, none⟩ = some v7 ∧ w'.cell? ⟨t3, 8, none⟩ = some v8 ∧ (∀ k, w'.frozen? ⟨t3, k, none⟩ = false) ∧ t3 < w'.heap.size := by
  obtain ⟨h1, h2, h3, h4, h5, h6⟩ := h
  refine Calls.mono (hardFrom_any h6.1 h6.2.2.2.1) ?_
  rintro y w' ⟨rfl, hn⟩
  have h7 := h6.nxt hn hx
  obtain ⟨_, _, ⟨cs, hb, hs⟩, _⟩ := id h7
  have hk : ∀ k, k < 33 → ∃ v, w'.cell? ⟨t3, k, none⟩ = some v := fun k hk => ⟨cs[k], by rw [hb.cell k, Array.getElem?_eq_getElem (by omega)]⟩
  obtain ⟨v2, k2⟩ := hk 2 (by omega)
  obtain ⟨v3, k3⟩ := hk 3 (by omega)
  obtain ⟨v4, k4⟩ := hk 4 (by omega)
  obtain ⟨v5, k5⟩ := hk 5 (by omega)
  obtain ⟨v6, k6⟩ := hk 6 (by omega)
  obtain ⟨v7, k7⟩ := hk 7 (by omega)
  obtain ⟨v8, k8⟩ := hk 8 (by omega)
  exact ⟨rfl, hn, ⟨hn.out.at0 h1, hn.out.at0 h2, hn.out.at0 h3, hn.out.at0 h4, hn.out.at0 h5, h7⟩, v2, v3, v4, v5, v6, v7, v8, k2, k3, k4, k5, k6, k7, k8, hb.frozen, hb.lt⟩
end
set_option maxRecDepth 100000 in
set_option maxHeartbeats 8000000 in
theorem said_any {M : List Nat} {w : World} {nb rn rb rl ms cfp : Nat} {sn : SinS} {a : SaidS} {r : RaftS} {l : RLog} {V L os ns : List Int} {al : Bool} {u1 u2 u3 u4 : Value} (hS : SinAt w nb sn) (hsr : sn.rn = .pointer (some ⟨rn, 0, none⟩)) (hsc : sn.cf = .pointer (some ⟨cfp, 0, none⟩)) (hrn : Blk w rn 276 #[.pointer (some ⟨rb, 0, none⟩), u1, u2, u3, u4])
    (h : RaftAt w rb r) (hrl : r.rl = rl) (hl : RlAt w rl ms l) (hcf : ConfAt M w (.pointer (some ⟨cfp, 0, none⟩)) V L os ns al) (hM : ∀ x ∈ M, x < w.heap.size) (l1 : V.length ≤ 1000) (l2 : L.length ≤ 1000) (l3 : os.length ≤ 1000) (l4 : ns.length ≤ 1000) (hst : 0 ≤ r.state ∧ r.state < 1000) (ha : a.ok) :
    Calls Tryz.prog 64 #[.pointer (some ⟨nb, 0, none⟩), .agg a.list.toArray] w fun y w' => ∃ A1 n1 k1 A2 n2 k2 A3 n3 k3 A4 n4 k4, y = .returned (.agg (a.add r l (.slice A1 n1 k1) (.slice A2 n2 k2) (.slice A3 n3 k3) (.slice A4 n4 k4) al).list.toArray) ∧ Sl M w' (.slice A1 n1 k1) (U64s V) ∧ Sl M w' (.slice A2 n2 k2) (U64s L) ∧ Sl M w' (.slice A3 n3 k3) (U64s os) ∧ Sl M w' (.slice A4 n4 k4) (U64s ns) ∧ Nxt w w' := by
  obtain ⟨AL, hAL⟩ : ∃ AL, AL = a.list.toArray := ⟨_, rfl⟩
  rw [← hAL]
  have hlen : AL.size = 33 := by rw [hAL]; rfl
  have hwr : IntKind.i64.wrap r.state = r.state := IntWalk.i64_in _ (by omega)
  have m27 : w.cell? ⟨nb, 27, none⟩ = some (.pointer (some ⟨rn, 0, none⟩)) := (SinAt.cell hS 27 sn.rn rfl).trans (by rw [hsr])
  have m30 : w.cell? ⟨nb, 30, none⟩ = some (.pointer (some ⟨cfp, 0, none⟩)) := (SinAt.cell hS 30 sn.cf rfl).trans (by rw [hsc])
  have nlt := Blk.lt hS
  have hn1 : Nxt w ((w.alloc (.cells AL 48)).alloc (.cells #[.int .i64 0, .bool false, .int .i64 0, .int .u64 0, .int .u64 0, .int .u64 0, .int .u64 0, .int .u64 0, .int .u64 0, .slice none 0 0, .slice none 0 0, .slice none 0 0, .slice none 0 0, .bool false, .bool false, .bool false, .int .u64 0, .int .u64 0, .int .u64 0, .slice none 0 0, .string ⟨#[]⟩, .int .u64 0, .int .u64 0, .slice none 0 0, .slice none 0 0, .slice none 0 0, .slice none 0 0, .bool false, .slice none 0 0, .slice none 0 0, .slice none 0 0, .bool false, .slice none 0 0] 48)) := ⟨((Chg.refl [] w).alloc _).alloc _⟩
  have hb3 : Blk ((w.alloc (.cells AL 48)).alloc (.cells #[.int .i64 0, .bool false, .int .i64 0, .int .u64 0, .int .u64 0, .int .u64 0, .int .u64 0, .int .u64 0, .int .u64 0, .slice none 0 0, .slice none 0 0, .slice none 0 0, .slice none 0 0, .bool false, .bool false, .bool false, .int .u64 0, .int .u64 0, .int .u64 0, .slice none 0 0, .string ⟨#[]⟩, .int .u64 0, .int .u64 0, .slice none 0 0, .slice none 0 0, .slice none 0 0, .slice none 0 0, .bool false, .slice none 0 0, .slice none 0 0, .slice none 0 0, .bool false, .slice none 0 0] 48)) w.heap.size 48 AL := (Blk.new w 48 AL).nxt ⟨(Chg.refl _ _).alloc _⟩
  have hb4 : Blk ((w.alloc (.cells AL 48)).alloc (.cells #[.int .i64 0, .bool false, .int .i64 0, .int .u64 0, .int .u64 0, .int .u64 0, .int .u64 0, .int .u64 0, .int .u64 0, .slice none 0 0, .slice none 0 0, .slice none 0 0, .slice none 0 0, .bool false, .bool false, .bool false, .int .u64 0, .int .u64 0, .int .u64 0, .slice none 0 0, .string ⟨#[]⟩, .int .u64 0, .int .u64 0, .slice none 0 0, .slice none 0 0, .slice none 0 0, .slice none 0 0, .bool false, .slice none 0 0, .slice none 0 0, .slice none 0 0, .bool false, .slice none 0 0] 48)) (w.heap.size + 1) 48 #[.int .i64 0, .bool false, .int .i64 0, .int .u64 0, .int .u64 0, .int .u64 0, .int .u64 0, .int .u64 0, .int .u64 0, .slice none 0 0, .slice none 0 0, .slice none 0 0, .slice none 0 0, .bool false, .bool false, .bool false, .int .u64 0, .int .u64 0, .int .u64 0, .slice none 0 0, .string ⟨#[]⟩, .int .u64 0, .int .u64 0, .slice none 0 0, .slice none 0 0, .slice none 0 0, .slice none 0 0, .bool false, .slice none 0 0, .slice none 0 0, .slice none 0 0, .bool false, .slice none 0 0] := by
    have := Blk.new (w.alloc (.cells AL 48)) 48 #[.int .i64 0, .bool false, .int .i64 0, .int .u64 0, .int .u64 0, .int .u64 0, .int .u64 0, .int .u64 0, .int .u64 0, .slice none 0 0, .slice none 0 0, .slice none 0 0, .slice none 0 0, .bool false, .bool false, .bool false, .int .u64 0, .int .u64 0, .int .u64 0, .slice none 0 0, .string ⟨#[]⟩, .int .u64 0, .int .u64 0, .slice none 0 0, .slice none 0 0, .slice none 0 0, .slice none 0 0, .bool false, .slice none 0 0, .slice none 0 0, .slice none 0 0, .bool false, .slice none 0 0]
    simpa using this
  have hz1 : ((w.alloc (.cells AL 48)).alloc (.cells #[.int .i64 0, .bool false, .int .i64 0, .int .u64 0, .int .u64 0, .int .u64 0, .int .u64 0, .int .u64 0, .int .u64 0, .slice none 0 0, .slice none 0 0, .slice none 0 0, .slice none 0 0, .bool false, .bool false, .bool false, .int .u64 0, .int .u64 0, .int .u64 0, .slice none 0 0, .string ⟨#[]⟩, .int .u64 0, .int .u64 0, .slice none 0 0, .slice none 0 0, .slice none 0 0, .slice none 0 0, .bool false, .slice none 0 0, .slice none 0 0, .slice none 0 0, .bool false, .slice none 0 0] 48)).heap.size = w.heap.size + 1 + 1 := by simp
  have hM1 : ∀ x ∈ w.heap.size :: (w.heap.size + 1) :: M, x < ((w.alloc (.cells AL 48)).alloc (.cells #[.int .i64 0, .bool false, .int .i64 0, .int .u64 0, .int .u64 0, .int .u64 0, .int .u64 0, .int .u64 0, .int .u64 0, .slice none 0 0, .slice none 0 0, .slice none 0 0, .slice none 0 0, .bool false, .bool false, .bool false, .int .u64 0, .int .u64 0, .int .u64 0, .slice none 0 0, .string ⟨#[]⟩, .int .u64 0, .int .u64 0, .slice none 0 0, .slice none 0 0, .slice none 0 0, .slice none 0 0, .bool false, .slice none 0 0, .slice none 0 0, .slice none 0 0, .bool false, .slice none 0 0] 48)).heap.size := by
    intro x hx; rw [hz1]; simp only [List.mem_cons] at hx; rcases hx with rfl | rfl | hx
    · omega
    · omega
    · have := hM x hx; omega
  have hG := basic_any (M := w.heap.size :: (w.heap.size + 1) :: M) (hrn.nxt hn1) (h.nxt hn1) hrl (hl.nxt hn1) hM1
  have hcf1 : ConfAt (w.heap.size :: (w.heap.size + 1) :: M) ((w.alloc (.cells AL 48)).alloc (.cells #[.int .i64 0, .bool false, .int .i64 0, .int .u64 0, .int .u64 0, .int .u64 0, .int .u64 0, .int .u64 0, .int .u64 0, .slice none 0 0, .slice none 0 0, .slice none 0 0, .slice none 0 0, .bool false, .bool false, .bool false, .int .u64 0, .int .u64 0, .int .u64 0, .slice none 0 0, .string ⟨#[]⟩, .int .u64 0, .int .u64 0, .slice none 0 0, .slice none 0 0, .slice none 0 0, .slice none 0 0, .bool false, .slice none 0 0, .slice none 0 0, .slice none 0 0, .bool false, .slice none 0 0] 48)) (.pointer (some ⟨cfp, 0, none⟩)) V L os ns al := ConfAt.chg0 (hcf.more (fun x hx => by
    simp only [List.mem_cons] at hx; rcases hx with rfl | rfl | hx
    · exact .inr (Nat.le_refl _)
    · exact .inr (by omega)
    · exact .inl hx)) hn1.out
  have HG := Lib.hid hG
  have HCF := Lib.hid hcf1
  have HB3 := Lib.hid hb3
  have HB4 := Lib.hid hb4
  have HN1 := Lib.hid hn1
  have HZ1 := Lib.hid hz1
  have HM1 := Lib.hid hM1
  have HAL := Lib.hid hAL
  have HLEN := Lib.hid hlen
  clear hAL hlen hS hsr hsc hrn h hrl hl hcf hG hcf1 hb3 hb4 hn1 hz1 hM1
  go_enter Tryz.func64, Tryz.ntmps64
  go_wp2_with (first | (go_at_call 105; (with_reducible refine Calls.mono HG.out ?_); rintro e1 w2 ⟨hp, rfl, hh2, hn2⟩; have HN2 := Lib.hid hn2; have HH2 := Lib.hid hh2; clear hh2 hn2))
  have hb5 := Blk.new w2 191 #[.int .u64 r.id, .pointer (some ⟨hp, 0, none⟩), .int .u64 r.lead, .int .u64 r.state, .int .u64 l.apd, .int .u64 r.ltr]
  have hn23 : Nxt w2 (w2.alloc (.cells #[.int .u64 r.id, .pointer (some ⟨hp, 0, none⟩), .int .u64 r.lead, .int .u64 r.state, .int .u64 l.apd, .int .u64 r.ltr] 191)) := ⟨(Chg.refl _ _).alloc _⟩
  obtain ⟨t5, ht5⟩ : ∃ t5, t5 = w2.heap.size := ⟨_, rfl⟩
  obtain ⟨t3, ht3⟩ : ∃ t3, t3 = w.heap.size := ⟨_, rfl⟩
  have hb3' := (HB3.out.nxt HN2.out).nxt hn23
  have hb4' := (HB4.out.nxt HN2.out).nxt hn23
  have hn03 : Nxt w (w2.alloc (.cells #[.int .u64 r.id, .pointer (some ⟨hp, 0, none⟩), .int .u64 r.lead, .int .u64 r.state, .int .u64 l.apd, .int .u64 r.ltr] 191)) := ⟨(HN1.out.out.trans HN2.out.out).trans hn23.out⟩
  have hh3 := HH2.out.chg (L := []) hn23.out (by simp)
  have hcf3 := ConfAt.chg0 (ConfAt.chg0 HCF.out HN2.out.out) hn23.out
  have hz3 := HN2.out.out.size
  rw [HZ1.out] at hz3
  have hM3 : ∀ x ∈ w.heap.size :: (w.heap.size + 1) :: M, x < (w2.alloc (.cells #[.int .u64 r.id, .pointer (some ⟨hp, 0, none⟩), .int .u64 r.lead, .int .u64 r.state, .int .u64 l.apd, .int .u64 r.ltr] 191)).heap.size := fun x hx => Nat.lt_of_lt_of_le (HM1.out x hx) (HN2.out.out.trans hn23.out).size
  have n30 := hn03.out.at0 m30
  generalize hX : (w2.alloc (.cells #[.int .u64 r.id, .pointer (some ⟨hp, 0, none⟩), .int .u64 r.lead, .int .u64 r.state, .int .u64 l.apd, .int .u64 r.ltr] 191)) = X at hb5 hn23 hb3' hb4' hn03 hh3 hcf3 hM3 n30 ⊢
  clear hX hn23
  rw [← ht5] at hb5 hz3 ⊢
  rw [← ht3] at hb3' hb4' hh3 hcf3 hM3 hz3 ⊢
  have n53 : t5 ≠ t3 := by omega
  have n54 : t5 ≠ t3 + 1 := by omega
  have lt3 := hb3'.lt
  have hb5d := hb5.drew
  have hb3d := hb3'.drew
  have c0 := (hb5d).cell 0; have c1 := (hb5d).cell 1; have c2 := (hb5d).cell 2; have c3 := (hb5d).cell 3; have c4 := (hb5d).cell 4; have c5 := (hb5d).cell 5; simp at c0 c1 c2 c3 c4 c5; have cf := (hb5d).frozen; have cl := (hb5d).lt
  obtain ⟨MM, hMM⟩ : ∃ MM, MM = t3 :: (t3 + 1) :: M := ⟨_, rfl⟩
  rw [← hMM] at hh3 hM3 hcf3
  have hxt : ∀ x ∈ [t3], x < X.heap.size := by simpa using lt3
  have HS0 := Lib.hid (show X.drew.cell? ⟨t5, 1, none⟩ = some (.pointer (some ⟨hp, 0, none⟩)) ∧ X.drew.cell? ⟨t5, 2, none⟩ = some (.int .u64 r.lead) ∧ X.drew.cell? ⟨t5, 3, none⟩ = some (.int .u64 r.state) ∧ X.drew.cell? ⟨t5, 4, none⟩ = some (.int .u64 l.apd) ∧ X.drew.cell? ⟨t5, 5, none⟩ = some (.int .u64 r.ltr) ∧ HQ MM X t3 hp r l X.drew from ⟨c1, c2, c3, c4, c5, HardAt.chg (L := []) hh3 ((Chg.refl _ _).drew) (by simp), (Chg.refl _ _).drew, ⟨AL, hb3d, HLEN.out⟩, fun x hx => by simpa using hM3 x hx, by rw [hMM]; simp⟩)
  have HB3X := Lib.hid hb3d
  have HB4X := Lib.hid hb4'.drew
  have HN03 := Lib.hid hn03
  have HCF3 := Lib.hid hcf3
  have HM3 := Lib.hid hM3
  have HMM := Lib.hid hMM
  have HT5 := Lib.hid ht5
  have HT3 := Lib.hid ht3
  have HZ3 := Lib.hid hz3
  have b2 := hb3d.cell 2
  have b3 := hb3d.cell 3
  rw [HAL.out] at b2 b3
  simp [SaidS.list] at b2 b3
  have bf := hb3d.frozen
  simp at bf
  clear hb5 hb3' hb4' hn03 hh3 hcf3 hM3 hb5d hb3d hMM ht5 ht3 hz3 c0 c1 c2 c3 c4 c5 cf cl HH2 HB3 HB4 HN1 HZ1 HM1 HG HCF HN2 m27 m30
  go_region_held3 (fun wx => wx.cell? ⟨t5, 1, none⟩ = some (.pointer (some ⟨hp, 0, none⟩)) ∧ wx.cell? ⟨t5, 2, none⟩ = some (.int .u64 r.lead) ∧ wx.cell? ⟨t5, 3, none⟩ = some (.int .u64 r.state) ∧ wx.cell? ⟨t5, 4, none⟩ = some (.int .u64 l.apd) ∧ wx.cell? ⟨t5, 5, none⟩ = some (.int .u64 r.ltr) ∧ HQ MM X t3 hp r l wx)
    (first | with_reducible exact HS0.out | with_reducible assumption | ((repeat (with_reducible refine heldQ_set n53 _ _ ?_)); (first | with_reducible assumption | with_reducible exact HS0.out)))
    (first | (go_at_call 106; (with_reducible refine Calls.mono (heldQ_call (MM := MM) (X := X) (t3 := t3) (t5 := t5) (r := r) (l := l) hxt (by first | with_reducible assumption | with_reducible exact HS0.out | ((repeat (with_reducible refine heldQ_set n53 _ _ ?_)); (first | with_reducible assumption | with_reducible exact HS0.out)))) ?_); rintro e9 w9 ⟨rfl, hn9, hs9, v2, v3, v4, v5, v6, v7, v8, k2, k3, k4, k5, k6, k7, k8, kf, kl⟩; have HN9 := Lib.hid hn9; clear hn9))
  have hbY : Blk (((((((w9.setCell ⟨t3, 2, none⟩ (.int .i64 r.state)).setCell ⟨t3, 3, none⟩ (.int .u64 r.lead)).setCell ⟨t3, 4, none⟩ (.int .u64 r.term)).setCell ⟨t3, 5, none⟩ (.int .u64 r.vote)).setCell ⟨t3, 6, none⟩ (.int .u64 l.com)).setCell ⟨t3, 7, none⟩ (.int .u64 l.apd)).setCell ⟨t3, 8, none⟩ (.int .u64 r.ltr)) t3 48 (SaidS.list { a with role := r.state, lead := r.lead, h1 := r.term, h2 := r.vote, h3 := l.com, ap := l.apd, tg := r.ltr }).toArray := by
    have z := (((((((HB3X.out.nxt HN9.out).set_ 2 (.int .i64 r.state)).set_ 3 (.int .u64 r.lead)).set_ 4 (.int .u64 r.term)).set_ 5 (.int .u64 r.vote)).set_ 6 (.int .u64 l.com)).set_ 7 (.int .u64 l.apd)).set_ 8 (.int .u64 r.ltr)
    rw [HAL.out] at z
    simpa [SaidS.list] using z
  have hcY : Chg [t3] w9 (((((((w9.setCell ⟨t3, 2, none⟩ (.int .i64 r.state)).setCell ⟨t3, 3, none⟩ (.int .u64 r.lead)).setCell ⟨t3, 4, none⟩ (.int .u64 r.term)).setCell ⟨t3, 5, none⟩ (.int .u64 r.vote)).setCell ⟨t3, 6, none⟩ (.int .u64 l.com)).setCell ⟨t3, 7, none⟩ (.int .u64 l.apd)).setCell ⟨t3, 8, none⟩ (.int .u64 r.ltr)) := (by (focus (first | with_reducible assumption | ((repeat (first | with_reducible exact Chg.refl _ _ | with_reducible assumption | with_reducible refine Chg.drew ?_ | with_reducible refine Chg.alloc ?_ _ | with_reducible refine Chg.setCell ?_ (by simp) _ | with_reducible refine Chg.nxt ?_ (by assumption))); done))))
  have hd9 : Chg [] X w9 := (Chg.refl [] X).drew.trans HN9.out.out
  have hb4Y := (HB4X.out.nxt HN9.out).chg hcY (by simp)
  have ntb : nb ≠ t3 := by have := HT3.out; omega
  have y30 : ((((((((w9.setCell ⟨t3, 2, none⟩ (.int .i64 r.state)).setCell ⟨t3, 3, none⟩ (.int .u64 r.lead)).setCell ⟨t3, 4, none⟩ (.int .u64 r.term)).setCell ⟨t3, 5, none⟩ (.int .u64 r.vote)).setCell ⟨t3, 6, none⟩ (.int .u64 l.com)).setCell ⟨t3, 7, none⟩ (.int .u64 l.apd)).setCell ⟨t3, 8, none⟩ (.int .u64 r.ltr))).cell? ⟨nb, 30, none⟩ = some (.pointer (some ⟨cfp, 0, none⟩)) := by
    have := hd9.at0 n30
    simp [go_sem, ntb, Ne.symm ntb, this]
  have hcfY := (ConfAt.chg0 HCF3.out hd9).chg hcY (by rw [HMM.out]; simp)
  have hMY : ∀ x ∈ MM, x < ((((((((w9.setCell ⟨t3, 2, none⟩ (.int .i64 r.state)).setCell ⟨t3, 3, none⟩ (.int .u64 r.lead)).setCell ⟨t3, 4, none⟩ (.int .u64 r.term)).setCell ⟨t3, 5, none⟩ (.int .u64 r.vote)).setCell ⟨t3, 6, none⟩ (.int .u64 l.com)).setCell ⟨t3, 7, none⟩ (.int .u64 l.apd)).setCell ⟨t3, 8, none⟩ (.int .u64 r.ltr))).heap.size := fun x hx => Nat.lt_of_lt_of_le (HM3.out x hx) (Nat.le_trans hd9.size hcY.size)
  have hnY : Nxt w (((((((w9.setCell ⟨t3, 2, none⟩ (.int .i64 r.state)).setCell ⟨t3, 3, none⟩ (.int .u64 r.lead)).setCell ⟨t3, 4, none⟩ (.int .u64 r.term)).setCell ⟨t3, 5, none⟩ (.int .u64 r.vote)).setCell ⟨t3, 6, none⟩ (.int .u64 l.com)).setCell ⟨t3, 7, none⟩ (.int .u64 l.apd)).setCell ⟨t3, 8, none⟩ (.int .u64 r.ltr)) := ⟨(HN03.out.out.trans hd9).then hcY (by have := HT3.out; simp; omega)⟩
  generalize hY : (((((((w9.setCell ⟨t3, 2, none⟩ (.int .i64 r.state)).setCell ⟨t3, 3, none⟩ (.int .u64 r.lead)).setCell ⟨t3, 4, none⟩ (.int .u64 r.term)).setCell ⟨t3, 5, none⟩ (.int .u64 r.vote)).setCell ⟨t3, 6, none⟩ (.int .u64 l.com)).setCell ⟨t3, 7, none⟩ (.int .u64 l.apd)).setCell ⟨t3, 8, none⟩ (.int .u64 r.ltr)) = Y at hbY hb4Y y30 hcfY hMY hnY ⊢
  clear hY hcY hd9 hs9 k2 k3 k4 k5 k6 k7 k8 kf kl b2 b3 bf n30 HS0
  have HC := Lib.hid (confFrom_any hcfY hMY (by omega) (by omega) (by omega) (by omega))
  have HBY := Lib.hid hbY
  have HB4Y := Lib.hid hb4Y
  have HNY := Lib.hid hnY
  have lY := hbY.lt
  clear hbY hb4Y hnY hcfY hMY
  go_wp2_with (first | (go_at_call 107; (with_reducible refine Calls.mono HC.out ?_); rintro e1 wA ⟨A1, n1, k1, A2, n2, k2, A3, n3, k3, A4, n4, k4, rfl, s1, s2, s3, s4, hnA⟩; have HNA := Lib.hid hnA; have HS1 := Lib.hid s1; have HS2 := Lib.hid s2; have HS3 := Lib.hid s3; have HS4 := Lib.hid s4; have HBA := Lib.hid (HBY.out.nxt hnA); have q9 := HBA.out.cell 9; have q10 := HBA.out.cell 10; have q11 := HBA.out.cell 11; have q12 := HBA.out.cell 12; have q13 := HBA.out.cell 13; simp [SaidS.list] at q9 q10 q11 q12 q13; have qf := HBA.out.frozen; have ql := HBA.out.lt; obtain ⟨FX, hFX⟩ : ∃ FX, FX = (a.add r l (.slice A1 n1 k1) (.slice A2 n2 k2) (.slice A3 n3 k3) (.slice A4 n4 k4) al).list := ⟨_, rfl⟩; have HFX := Lib.hid hFX; have HZL := Lib.hid (show (Tryz.prog.info? 48).map (·.size) = some FX.length by rw [hFX]; exact size48.trans rfl); have HZA := Lib.hid (show (Tryz.prog.info? 48).map (·.size) = some FX.toArray.size by rw [hFX]; exact size48.trans rfl); have HONE := Lib.hid (show FX.toArray.all (·.oneCell') = true by rw [hFX]; exact all_oneCell_toArray (SaidS.add_ok ha r l A1 A2 A3 A4 n1 n2 n3 n4 k1 k2 k3 k4 al)); clear hFX hnA s1 s2 s3 s4) | (refine wpList_load_mid rfl 48 _ rfl t3 0 rfl FX _ ?_ Tryz.underlying48 rfl HZL.out ?_) | (refine wpList_store_mid rfl 48 _ _ rfl (t3 + 1) 0 FX.toArray rfl rfl ?_ HZA.out HONE.out ?_))
  · have hFB : Blk (((((wA.setCell ⟨t3, 9, none⟩ (.slice A1 n1 k1)).setCell ⟨t3, 10, none⟩ (.slice A2 n2 k2)).setCell ⟨t3, 11, none⟩ (.slice A3 n3 k3)).setCell ⟨t3, 12, none⟩ (.slice A4 n4 k4)).setCell ⟨t3, 13, none⟩ (.bool al)) t3 48 FX.toArray := by
      have z := ((((HBA.out.set_ 9 (.slice A1 n1 k1)).set_ 10 (.slice A2 n2 k2)).set_ 11 (.slice A3 n3 k3)).set_ 12 (.slice A4 n4 k4)).set_ 13 (.bool al)
      rw [HFX.out]
      simpa [SaidS.list, SaidS.add] using z
    intro j v hj
    rw [Nat.zero_add, Blk.cell hFB j]
    simpa using hj
  · have hcA : Chg [t3] wA (((((wA.setCell ⟨t3, 9, none⟩ (.slice A1 n1 k1)).setCell ⟨t3, 10, none⟩ (.slice A2 n2 k2)).setCell ⟨t3, 11, none⟩ (.slice A3 n3 k3)).setCell ⟨t3, 12, none⟩ (.slice A4 n4 k4)).setCell ⟨t3, 13, none⟩ (.bool al)) := (by (focus (first | with_reducible assumption | ((repeat (first | with_reducible exact Chg.refl _ _ | with_reducible assumption | with_reducible refine Chg.drew ?_ | with_reducible refine Chg.alloc ?_ _ | with_reducible refine Chg.setCell ?_ (by simp) _ | with_reducible refine Chg.nxt ?_ (by assumption))); done))))
    have hb4 := (HB4Y.out.nxt HNA.out).chg hcA (by simp)
    have hl : FX.length = 33 := by rw [HFX.out]; rfl
    intro j hj
    rw [List.size_toArray, hl] at hj
    rw [Nat.zero_add]
    exact ⟨by rw [hb4.cell j, Array.getElem?_eq_getElem (by simpa using hj)]; rfl, hb4.frozen j⟩
  · have hcA : Chg [t3] wA (((((wA.setCell ⟨t3, 9, none⟩ (.slice A1 n1 k1)).setCell ⟨t3, 10, none⟩ (.slice A2 n2 k2)).setCell ⟨t3, 11, none⟩ (.slice A3 n3 k3)).setCell ⟨t3, 12, none⟩ (.slice A4 n4 k4)).setCell ⟨t3, 13, none⟩ (.bool al)) := (by (focus (first | with_reducible assumption | ((repeat (first | with_reducible exact Chg.refl _ _ | with_reducible assumption | with_reducible refine Chg.drew ?_ | with_reducible refine Chg.alloc ?_ _ | with_reducible refine Chg.setCell ?_ (by simp) _ | with_reducible refine Chg.nxt ?_ (by assumption))); done))))
    have hb4 := (HB4Y.out.nxt HNA.out).chg hcA (by simp)
    have hl : FX.length = 33 := by rw [HFX.out]; rfl
    have hBF : Blk ((((((wA.setCell ⟨t3, 9, none⟩ (.slice A1 n1 k1)).setCell ⟨t3, 10, none⟩ (.slice A2 n2 k2)).setCell ⟨t3, 11, none⟩ (.slice A3 n3 k3)).setCell ⟨t3, 12, none⟩ (.slice A4 n4 k4)).setCell ⟨t3, 13, none⟩ (.bool al)).setCells (t3 + 1) 0 FX) (t3 + 1) 48 FX.toArray := by
      obtain ⟨ZL, hZL⟩ : ∃ ZL : List Value, ZL = [.int .i64 0, .bool false, .int .i64 0, .int .u64 0, .int .u64 0, .int .u64 0, .int .u64 0, .int .u64 0, .int .u64 0, .slice none 0 0, .slice none 0 0, .slice none 0 0, .slice none 0 0, .bool false, .bool false, .bool false, .int .u64 0, .int .u64 0, .int .u64 0, .slice none 0 0, .string ⟨#[]⟩, .int .u64 0, .int .u64 0, .slice none 0 0, .slice none 0 0, .slice none 0 0, .slice none 0 0, .bool false, .slice none 0 0, .slice none 0 0, .slice none 0 0, .bool false, .slice none 0 0] := ⟨_, rfl⟩
      have hb4' : Blk (((((wA.setCell ⟨t3, 9, none⟩ (.slice A1 n1 k1)).setCell ⟨t3, 10, none⟩ (.slice A2 n2 k2)).setCell ⟨t3, 11, none⟩ (.slice A3 n3 k3)).setCell ⟨t3, 12, none⟩ (.slice A4 n4 k4)).setCell ⟨t3, 13, none⟩ (.bool al)) (t3 + 1) 48 ([] ++ ZL).toArray := by rw [hZL]; exact hb4
      have z := blk_setCells (w := w) (t := 48) (b := t3 + 1) FX 0 (((((wA.setCell ⟨t3, 9, none⟩ (.slice A1 n1 k1)).setCell ⟨t3, 10, none⟩ (.slice A2 n2 k2)).setCell ⟨t3, 11, none⟩ (.slice A3 n3 k3)).setCell ⟨t3, 12, none⟩ (.slice A4 n4 k4)).setCell ⟨t3, 13, none⟩ (.bool al)) [] ZL rfl (by rw [hl, hZL]; rfl) hb4'
      simpa using z
    have hc2 := chg_setCells (t3 + 1) FX 0 (((((wA.setCell ⟨t3, 9, none⟩ (.slice A1 n1 k1)).setCell ⟨t3, 10, none⟩ (.slice A2 n2 k2)).setCell ⟨t3, 11, none⟩ (.slice A3 n3 k3)).setCell ⟨t3, 12, none⟩ (.slice A4 n4 k4)).setCell ⟨t3, 13, none⟩ (.bool al))
    have m3 : t3 ∈ MM := by rw [HMM.out]; simp
    have m4 : t3 + 1 ∈ MM := by rw [HMM.out]; simp
    have hmm : ∀ x ∈ M, x ∈ MM ∨ ((((((wA.setCell ⟨t3, 9, none⟩ (.slice A1 n1 k1)).setCell ⟨t3, 10, none⟩ (.slice A2 n2 k2)).setCell ⟨t3, 11, none⟩ (.slice A3 n3 k3)).setCell ⟨t3, 12, none⟩ (.slice A4 n4 k4)).setCell ⟨t3, 13, none⟩ (.bool al)).setCells (t3 + 1) 0 FX).heap.size ≤ x := fun x hx => .inl (by rw [HMM.out]; simp [hx])
    have hNF : Nxt w ((((((wA.setCell ⟨t3, 9, none⟩ (.slice A1 n1 k1)).setCell ⟨t3, 10, none⟩ (.slice A2 n2 k2)).setCell ⟨t3, 11, none⟩ (.slice A3 n3 k3)).setCell ⟨t3, 12, none⟩ (.slice A4 n4 k4)).setCell ⟨t3, 13, none⟩ (.bool al)).setCells (t3 + 1) 0 FX) := ⟨((HNY.out.out.trans HNA.out.out).then hcA (by have := HT3.out; simp; omega)).then hc2 (by have := HT3.out; simp; omega)⟩
    exact bodyPost_ret (results_cell_row rfl _ _ (t3 + 1) 48 FX.toArray (0, 0) _ (by rfl) hBF Tryz.underlying48 rfl HZA.out) rfl ⟨A1, n1, k1, A2, n2, k2, A3, n3, k3, A4, n4, k4, by rw [HFX.out], ((HS1.out.chg hcA (by simpa using m3)).chg hc2 (by simpa using m4)).more hmm, ((HS2.out.chg hcA (by simpa using m3)).chg hc2 (by simpa using m4)).more hmm, ((HS3.out.chg hcA (by simpa using m3)).chg hc2 (by simpa using m4)).more hmm, ((HS4.out.chg hcA (by simpa using m3)).chg hc2 (by simpa using m4)).more hmm, hNF⟩
end Go.Proofs.YtalhhplphlobbaaGreat
