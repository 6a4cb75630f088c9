/- ZzEqual over two conf states that read the same. Conditions: sizes. Equivalent over two conf states with the same members. Conditions: sizes. Equivalent over two conf states with the same members: its walk. Conditions: sizes. A raft's hard state: assertConfStatesEquivalent, loadState, softState, hardState. Conditions: sizes. -/
import Derived.Test.YtalhhplphlobbaaGreatP16
import Derived.Test.YtalhhplphlobbaaGreatP20
set_option linter.unusedVariables false
set_option linter.unusedSimpArgs false
namespace Go.Proofs.YtalhhplphlobbaaGreat
open Go.RowKit
theorem same_from (W w : World) {v1 v2 : Value} {xs : List Int} (h1 : Sl [] W v1 (U64s xs)) (h2 : Sl [] W v2 (U64s xs)) (hl : xs.length ≤ 1000) (hW : Chg [] W w) :
    Calls Tryz.prog 411 #[v1, v2] w fun y w' => y = .returned (.bool true) ∧ Chg [] W w' ∧ Nxt w w' := by
  refine (same_any (h1.chg0 hW) (h2.chg0 hW) hl).mono ?_
  rintro y w' ⟨rfl, hn⟩
  exact ⟨rfl, hW.nxt hn, hn⟩
theorem getAuto_from (W w : World) {v : Value} {vs ls os ns : List Int} {al : Bool} (h : ConfAt [] W v vs ls os ns al) (hW : Chg [] W w) : Calls Tryz.prog 166 #[v] w fun y w' => y = .returned (.bool al) ∧ Chg [] W w' ∧ Nxt w w' := by
  refine (getAuto_any (h.chg0 hW)).mono ?_
  rintro y w' ⟨rfl, rfl⟩
  exact ⟨rfl, hW, ⟨Chg.refl _ _⟩⟩
set_option maxRecDepth 100000 in
set_option maxHeartbeats 2000000 in
theorem confEq_any {W : World} {v v' : Value} {c : Cf} (h : CfAt [] W v c) (h' : CfAt [] W v' c) (l1 : c.vs.length ≤ 1000) (l2 : c.ls.length ≤ 1000) (l3 : c.os.length ≤ 1000) (l4 : c.ns.length ≤ 1000) :
    Calls Tryz.prog 379 #[v, v'] W fun y w' => y = .returned (.bool true) ∧ Nxt W w' := by
  have H := Lib.hid h
  have H' := Lib.hid h'
  obtain ⟨b, s1, s2, s3, s4, p, rfl, _, hb, k0, k1, k2, k3, k4, h1, h2, h3, h4, b5, o5, rfl, _⟩ := h
  obtain ⟨d, t1, t2, t3, t4, q, rfl, _, hd, m0, m1, m2, m3, m4, g1, g2, g3, g4, d5, e5, rfl, _⟩ := h'
  go_enter Tryz.func379, Tryz.ntmps379
  go_wp2_with fail
  go_region_held3 (fun wx => wx.cell? ⟨b, 0, none⟩ = some s1 ∧ wx.cell? ⟨b, 1, none⟩ = some s2 ∧ wx.cell? ⟨b, 2, none⟩ = some s3 ∧ wx.cell? ⟨b, 3, none⟩ = some s4 ∧ wx.cell? ⟨b, 4, none⟩ = some (.pointer (some ⟨b5, o5, none⟩)) ∧ wx.cell? ⟨d, 0, none⟩ = some t1 ∧ wx.cell? ⟨d, 1, none⟩ = some t2 ∧ wx.cell? ⟨d, 2, none⟩ = some t3 ∧ wx.cell? ⟨d, 3, none⟩ = some t4 ∧ wx.cell? ⟨d, 4, none⟩ = some (.pointer (some ⟨d5, e5, none⟩)) ∧ Chg [] W wx)
    (first | ((repeat' apply And.intro) <;> (first | with_reducible assumption | (simp; done) | ((repeat (refine cell_alloc ?_ _)); (first | with_reducible assumption | (refine Chg.at0 (Nxt.out (by assumption)) ?_; first | with_reducible assumption | (simp; done) | (simp [*]; done)) | (refine Chg.at0 (by assumption) ?_; first | with_reducible assumption | (simp; done) | (simp [*]; done)) | (simp [*]; done))) | ((repeat (first | with_reducible exact Chg.refl _ _ | with_reducible assumption | refine Chg.drew ?_ | refine Chg.alloc ?_ _)); done))))
    (first | (go_at_call 411; (with_reducible refine Calls.mono (same_from W _ h1 g1 l1 ?_) ?_); (focus (first | with_reducible assumption | ((repeat (first | with_reducible exact Chg.refl _ _ | with_reducible assumption | refine Chg.drew ?_ | refine Chg.alloc ?_ _)); done))); rintro e w1 ⟨rfl, hc1, hn1⟩; obtain ⟨qc1, qf1, qz1⟩ := hn1.rules; (try simp at qz1)) | (go_at_call 411; (with_reducible refine Calls.mono (same_from W _ h2 g2 l2 ?_) ?_); (focus (first | with_reducible assumption | ((repeat (first | with_reducible exact Chg.refl _ _ | with_reducible assumption | refine Chg.drew ?_ | refine Chg.alloc ?_ _)); done))); rintro e w2 ⟨rfl, hc2, hn2⟩; obtain ⟨qc2, qf2, qz2⟩ := hn2.rules; (try simp at qz2)) | (go_at_call 411; (with_reducible refine Calls.mono (same_from W _ h3 g3 l3 ?_) ?_); (focus (first | with_reducible assumption | ((repeat (first | with_reducible exact Chg.refl _ _ | with_reducible assumption | refine Chg.drew ?_ | refine Chg.alloc ?_ _)); done))); rintro e w3 ⟨rfl, hc3, hn3⟩; obtain ⟨qc3, qf3, qz3⟩ := hn3.rules; (try simp at qz3)) | (go_at_call 411; (with_reducible refine Calls.mono (same_from W _ h4 g4 l4 ?_) ?_); (focus (first | with_reducible assumption | ((repeat (first | with_reducible exact Chg.refl _ _ | with_reducible assumption | refine Chg.drew ?_ | refine Chg.alloc ?_ _)); done))); rintro e w4 ⟨rfl, hc4, hn4⟩; obtain ⟨qc4, qf4, qz4⟩ := hn4.rules; (try simp at qz4)) | (go_at_call 166; (with_reducible refine Calls.mono (getAuto_from W _ H.out ?_) ?_); (focus (first | with_reducible assumption | ((repeat (first | with_reducible exact Chg.refl _ _ | with_reducible assumption | refine Chg.drew ?_ | refine Chg.alloc ?_ _)); done))); rintro e w5 ⟨rfl, hc5, hn5⟩; obtain ⟨qc5, qf5, qz5⟩ := hn5.rules; (try simp at qz5)) | (go_at_call 166; (with_reducible refine Calls.mono (getAuto_from W _ H'.out ?_) ?_); (focus (first | with_reducible assumption | ((repeat (first | with_reducible exact Chg.refl _ _ | with_reducible assumption | refine Chg.drew ?_ | refine Chg.alloc ?_ _)); done))); rintro e w6 ⟨rfl, hc6, hn6⟩; obtain ⟨qc6, qf6, qz6⟩ := hn6.rules; (try simp at qz6)))
  go_wp2
  go_ret
  exact ⟨rfl, ⟨by assumption⟩⟩
end Go.Proofs.YtalhhplphlobbaaGreat
namespace Go.Proofs.YtalhhplphlobbaaGreat
open Go.RowKit
theorem OwnIn.sl {w : World} {lo hi : Nat} {x : Value} {l : List Int} (h : OwnIn w lo hi x l) : Sl [] w x (U64s l) := by
  rcases h with ⟨rfl, rfl⟩ | ⟨g, c, rfl, h1, h2, h3, h4⟩
  · exact Sl.nil _ _
  · refine ⟨_, _, _, rfl, by simp [U64s], h3, by simp, fun b o s e => ?_⟩
    simp only [Option.some.injEq, Addr.mk.injEq] at e
    obtain ⟨rfl, rfl, rfl⟩ := e
    refine ⟨rfl, by simp, Blk.lt h4, fun j u hu => ?_⟩
    rw [Nat.zero_add, Blk.cell h4 j]
    simpa [U64s] using hu
/-- A clone of a conf state whose slices are its own. -/
def ClAt (w : World) (b m0 m1 m2 m3 m4 : Nat) (vs ls os ns : List Int) (al : Bool) : Prop :=
  ∃ x1 x2 x3 x4 pb, Blk w b 262 #[x1, x2, x3, x4, .pointer (some ⟨pb, 0, none⟩)] ∧ Ptr1 [] w (.pointer (some ⟨pb, 0, none⟩)) (.bool al) ∧
    OwnIn w m0 m1 x1 vs ∧ OwnIn w m1 m2 x2 ls ∧ OwnIn w m2 m3 x3 os ∧ OwnIn w m3 m4 x4 ns ∧ m0 ≤ m1 ∧ m1 ≤ m2 ∧ m2 ≤ m3 ∧ m3 ≤ m4 ∧ m4 ≤ b
/-- Blocks of numbers between two bounds. -/
def NumM (w : World) (M : List Nat) (lo hi : Nat) : Prop := ∀ k ∈ M, lo ≤ k ∧ k < hi ∧ ∃ cs, Blk w k 22 cs ∧ ∀ u ∈ cs.toList, ∃ i, u = Value.int .u64 i
section
variable {w w' : World} {b m0 m1 m2 m3 m4 lo hi : Nat} {vs ls os ns : List Int} {al : Bool} {M : List Nat}
theorem NumM.not {t : TypeId} {g : Nat} {cs : Array Value} (h : NumM w M lo hi) (hb : Blk w g t cs) (ht : t ≠ 22) : g ∉ M := by
  intro hg
  obtain ⟨_, _, cs', h1, _⟩ := h g hg
  unfold Blk at hb h1
  rw [hb] at h1
  injection h1 with h1
  injection h1 with h1 h2 h3
  exact ht h2
theorem NumM.ptr {v : Value} {x : Bool} (h : NumM w M lo hi) (hc : Chg M w w') (hp : Ptr1 [] w v (.bool x)) : Ptr1 [] w' v (.bool x) := by
  obtain ⟨g, o, rfl, _, hl, hcell⟩ := hp
  refine ⟨g, o, rfl, by simp, Nat.lt_of_lt_of_le hl hc.size, hc.at_ hcell (fun hg => ?_)⟩
  obtain ⟨_, _, cs', h1, h2⟩ := h g hg
  rw [Blk.cell h1 o] at hcell
  obtain ⟨i, hi⟩ := h2 _ (List.mem_of_getElem? (by rw [Array.getElem?_toList]; exact hcell))
  cases hi
theorem OwnIn.far {lo' hi' : Nat} {x : Value} {l : List Int} (h : OwnIn w lo hi x l) (hM : NumM w M lo' hi') (hc : Chg M w w') (hd : hi ≤ lo' ∨ hi' ≤ lo) : OwnIn w' lo hi x l :=
  h.chg hc (fun k hk => by obtain ⟨h1, h2, _⟩ := hM k hk; omega)
theorem ClAt.far (h : ClAt w b m0 m1 m2 m3 m4 vs ls os ns al) (hM : NumM w M lo hi) (hc : Chg M w w') (hd : m4 ≤ lo ∨ hi ≤ m0) : ClAt w' b m0 m1 m2 m3 m4 vs ls os ns al := by
  obtain ⟨x1, x2, x3, x4, pb, hb, hp, h1, h2, h3, h4, i0, i1, i2, i3, i4⟩ := h
  exact ⟨x1, x2, x3, x4, pb, hb.chg hc (hM.not hb (by decide)), hM.ptr hc hp, h1.far hM hc (by omega), h2.far hM hc (by omega), h3.far hM hc (by omega), h4.far hM hc (by omega), i0, i1, i2, i3, i4⟩
theorem ClAt.chg0 (h : ClAt w b m0 m1 m2 m3 m4 vs ls os ns al) (hc : Chg [] w w') : ClAt w' b m0 m1 m2 m3 m4 vs ls os ns al := by
  obtain ⟨x1, x2, x3, x4, pb, hb, hp, h1, h2, h3, h4, i0, i1, i2, i3, i4⟩ := h
  exact ⟨x1, x2, x3, x4, pb, hb.chg hc (by simp), hp.chg0 hc, h1.chg hc (by simp), h2.chg hc (by simp), h3.chg hc (by simp), h4.chg hc (by simp), i0, i1, i2, i3, i4⟩
theorem ClAt.cf (h : ClAt w b m0 m1 m2 m3 m4 vs ls os ns al) : ConfAt [] w (.pointer (some ⟨b, 0, none⟩)) vs ls os ns al := by
  obtain ⟨x1, x2, x3, x4, pb, hb, hp, h1, h2, h3, h4, i0, i1, i2, i3, i4⟩ := h
  exact ⟨b, x1, x2, x3, x4, _, rfl, by simp, hb.lt, by rw [hb.cell 0]; rfl, by rw [hb.cell 1]; rfl, by rw [hb.cell 2]; rfl, by rw [hb.cell 3]; rfl, by rw [hb.cell 4]; rfl, h1.sl, h2.sl, h3.sl, h4.sl, hp⟩
end
/-- The sort at a field of a clone. -/
theorem sortV_any {w : World} {b m0 m1 m2 m3 m4 : Nat} {vs ls os ns : List Int} {al : Bool} (h : ClAt w b m0 m1 m2 m3 m4 vs ls os ns al) (hl : vs.length ≤ 12) :
    Calls Tryz.prog 378 #[.pointer (some ⟨b, 0, none⟩)] w fun y w' => ∃ l' M, y = .returned (.tuple #[]) ∧ ClAt w' b m0 m1 m2 m3 m4 l' ls os ns al ∧ l'.Perm vs ∧ l'.Pairwise (· ≤ ·) ∧ NumM w M m0 m1 ∧ Chg M w w' := by
  obtain ⟨x1, x2, x3, x4, pb, hb, hp, h1, h2, h3, h4, i0, i1, i2, i3, i4⟩ := h
  refine (sortAt_any (lo := m0) (hi := m1) (by rw [hb.cell 0]; rfl) h1 hl).mono ?_
  rintro y w' ⟨l', M, rfl, hx, hp', hs, hM, hc⟩
  have hM : NumM w M m0 m1 := hM
  exact ⟨l', M, rfl, ⟨x1, x2, x3, x4, pb, hb.chg hc (hM.not hb (by decide)), hM.ptr hc hp, hx, h2.far hM hc (by omega), h3.far hM hc (by omega), h4.far hM hc (by omega), i0, i1, i2, i3, i4⟩, hp', hs, hM, hc⟩
theorem sortL_any {w : World} {b m0 m1 m2 m3 m4 : Nat} {vs ls os ns : List Int} {al : Bool} (h : ClAt w b m0 m1 m2 m3 m4 vs ls os ns al) (hl : ls.length ≤ 12) :
    Calls Tryz.prog 378 #[.pointer (some ⟨b, 1, none⟩)] w fun y w' => ∃ l' M, y = .returned (.tuple #[]) ∧ ClAt w' b m0 m1 m2 m3 m4 vs l' os ns al ∧ l'.Perm ls ∧ l'.Pairwise (· ≤ ·) ∧ NumM w M m1 m2 ∧ Chg M w w' := by
  obtain ⟨x1, x2, x3, x4, pb, hb, hp, h1, h2, h3, h4, i0, i1, i2, i3, i4⟩ := h
  refine (sortAt_any (lo := m1) (hi := m2) (by rw [hb.cell 1]; rfl) h2 hl).mono ?_
  rintro y w' ⟨l', M, rfl, hx, hp', hs, hM, hc⟩
  have hM : NumM w M m1 m2 := hM
  exact ⟨l', M, rfl, ⟨x1, x2, x3, x4, pb, hb.chg hc (hM.not hb (by decide)), hM.ptr hc hp, h1.far hM hc (by omega), hx, h3.far hM hc (by omega), h4.far hM hc (by omega), i0, i1, i2, i3, i4⟩, hp', hs, hM, hc⟩
theorem sortO_any {w : World} {b m0 m1 m2 m3 m4 : Nat} {vs ls : List Int} {al : Bool} (h : ClAt w b m0 m1 m2 m3 m4 vs ls [] [] al) :
    Calls Tryz.prog 378 #[.pointer (some ⟨b, 2, none⟩)] w fun y w' => ∃ M, y = .returned (.tuple #[]) ∧ ClAt w' b m0 m1 m2 m3 m4 vs ls [] [] al ∧ NumM w M m2 m3 ∧ Chg M w w' := by
  obtain ⟨x1, x2, x3, x4, pb, hb, hp, h1, h2, h3, h4, i0, i1, i2, i3, i4⟩ := h
  refine (sortAt_any (lo := m2) (hi := m3) (by rw [hb.cell 2]; rfl) h3 (by simp)).mono ?_
  rintro y w' ⟨l', M, rfl, hx, hp', hs, hM, hc⟩
  have hM : NumM w M m2 m3 := hM
  have := hp'.eq_nil
  subst this
  exact ⟨M, rfl, ⟨x1, x2, x3, x4, pb, hb.chg hc (hM.not hb (by decide)), hM.ptr hc hp, h1.far hM hc (by omega), h2.far hM hc (by omega), hx, h4.far hM hc (by omega), i0, i1, i2, i3, i4⟩, hM, hc⟩
theorem sortN_any {w : World} {b m0 m1 m2 m3 m4 : Nat} {vs ls : List Int} {al : Bool} (h : ClAt w b m0 m1 m2 m3 m4 vs ls [] [] al) :
    Calls Tryz.prog 378 #[.pointer (some ⟨b, 3, none⟩)] w fun y w' => ∃ M, y = .returned (.tuple #[]) ∧ ClAt w' b m0 m1 m2 m3 m4 vs ls [] [] al ∧ NumM w M m3 m4 ∧ Chg M w w' := by
  obtain ⟨x1, x2, x3, x4, pb, hb, hp, h1, h2, h3, h4, i0, i1, i2, i3, i4⟩ := h
  refine (sortAt_any (lo := m3) (hi := m4) (by rw [hb.cell 3]; rfl) h4 (by simp)).mono ?_
  rintro y w' ⟨l', M, rfl, hx, hp', hs, hM, hc⟩
  have hM : NumM w M m3 m4 := hM
  have := hp'.eq_nil
  subst this
  exact ⟨M, rfl, ⟨x1, x2, x3, x4, pb, hb.chg hc (hM.not hb (by decide)), hM.ptr hc hp, h1.far hM hc (by omega), h2.far hM hc (by omega), h3.far hM hc (by omega), hx, i0, i1, i2, i3, i4⟩, hM, hc⟩
end Go.Proofs.YtalhhplphlobbaaGreat
namespace Go.Proofs.YtalhhplphlobbaaGreat
open Go.RowKit
theorem confCloneC_any (W w : World) (v : Value) {vs ls os ns : List Int} {al : Bool} (h : ConfAt [] W v vs ls os ns al)
    (l1 : vs.length ≤ 1000000000) (l2 : ls.length ≤ 1000000000) (l3 : os.length ≤ 1000000000) (l4 : ns.length ≤ 1000000000) (hW : Chg [] W w) :
    Calls Tryz.prog 192 #[v] w fun e w' => ∃ b m0 m1 m2 m3 m4, e = .returned (.pointer (some ⟨b, 0, none⟩)) ∧ ClAt w' b m0 m1 m2 m3 m4 vs ls os ns al ∧ w.heap.size ≤ m0 ∧ m0 ≤ m4 ∧ m4 ≤ b ∧ b < w'.heap.size ∧ Nxt w w' := by
  refine (confCloneO_any W w v ⟨vs, ls, os, ns, al⟩ h l1 l2 l3 l4 hW).mono ?_
  rintro e w' ⟨b, x1, x2, x3, x4, pb, m1, m2, m3, m4, rfl, hb, hp, h1, h2, h3, h4, i0, i1, i2, i3, i4, hc, hn⟩
  exact ⟨b, w.heap.size, m1, m2, m3, m4, rfl, ⟨x1, x2, x3, x4, pb, hb, hp, h1, h2, h3, h4, i0, i1, i2, i3, i4⟩, Nat.le_refl _, by omega, i4, hb.lt, hn⟩
theorem ClAt.ord {w : World} {b m0 m1 m2 m3 m4 : Nat} {vs ls os ns : List Int} {al : Bool} (h : ClAt w b m0 m1 m2 m3 m4 vs ls os ns al) : m0 ≤ m1 ∧ m1 ≤ m2 ∧ m2 ≤ m3 ∧ m3 ≤ m4 ∧ m4 ≤ b := by
  obtain ⟨x1, x2, x3, x4, pb, hb, hp, h1, h2, h3, h4, i⟩ := h
  exact i
theorem ClAt.c4 {w : World} {b m0 m1 m2 m3 m4 : Nat} {vs ls os ns : List Int} {al : Bool} (h : ClAt w b m0 m1 m2 m3 m4 vs ls os ns al) : (∃ p, w.cell? ⟨b, 4, none⟩ = some (.pointer p)) ∧ w.frozen? ⟨b, 4, none⟩ = false ∧ b < w.heap.size := by
  obtain ⟨x1, x2, x3, x4, pb, hb, _⟩ := h
  exact ⟨⟨_, by rw [hb.cell 4]; rfl⟩, hb.frozen 4, hb.lt⟩
section
variable {w w' : World} {b b' m0 m1 m2 m3 m4 n0 n1 n2 n3 n4 : Nat} {vs ls os ns vs' ls' os' ns' : List Int} {al al' : Bool}
theorem OwnIn.form {lo hi : Nat} {x : Value} {l : List Int} (h : OwnIn w lo hi x l) : ∃ A n c, x = .slice A n c := by
  rcases h with ⟨rfl, _⟩ | ⟨g, c, rfl, _⟩
  · exact ⟨_, _, _, rfl⟩
  · exact ⟨_, _, _, rfl⟩
/-- No cell of a clone holds a bool. -/
theorem ClAt.noBool (h : ClAt w b m0 m1 m2 m3 m4 vs ls os ns al) (o : Nat) (x : Bool) : w.cell? ⟨b, o, none⟩ ≠ some (.bool x) := by
  obtain ⟨x1, x2, x3, x4, pb, hb, hp, h1, h2, h3, h4, i⟩ := h
  obtain ⟨_, _, _, rfl⟩ := h1.form
  obtain ⟨_, _, _, rfl⟩ := h2.form
  obtain ⟨_, _, _, rfl⟩ := h3.form
  obtain ⟨_, _, _, rfl⟩ := h4.form
  rw [hb.cell o]
  intro hh
  have := Array.mem_of_getElem? hh
  simp at this
theorem Ptr1.not (h : ClAt w b m0 m1 m2 m3 m4 vs ls os ns al) {v : Value} {x : Bool} (hp : Ptr1 [] w v (.bool x)) (hc : Chg [b] w w') : Ptr1 [] w' v (.bool x) := by
  obtain ⟨g, o, rfl, _, hl, hcell⟩ := hp
  exact ⟨g, o, rfl, by simp, Nat.lt_of_lt_of_le hl hc.size, hc.at_ hcell (fun hg => by simp at hg; subst hg; exact h.noBool _ _ hcell)⟩
theorem ClAt.other (h : ClAt w b m0 m1 m2 m3 m4 vs ls os ns al) (k : ClAt w b' n0 n1 n2 n3 n4 vs' ls' os' ns' al') (hc : Chg [b] w w') (hne : b ≠ b') (ho : b < n0 ∨ n4 ≤ b) : ClAt w' b' n0 n1 n2 n3 n4 vs' ls' os' ns' al' := by
  obtain ⟨x1, x2, x3, x4, pb, hb, hp, h1, h2, h3, h4, i0, i1, i2, i3, i4⟩ := k
  exact ⟨x1, x2, x3, x4, pb, hb.chg hc (by simpa using hne.symm), hp.not h hc, h1.chg hc (by simp; omega), h2.chg hc (by simp; omega), h3.chg hc (by simp; omega), h4.chg hc (by simp; omega), i0, i1, i2, i3, i4⟩
theorem ClAt.auto (h : ClAt w b m0 m1 m2 m3 m4 vs ls os ns al) : ClAt ((w.setCell ⟨b, 4, none⟩ (.pointer (some ⟨w.heap.size, 0, none⟩))).alloc (.cells #[.bool al] 4)) b m0 m1 m2 m3 m4 vs ls os ns al ∧ Chg [b] w ((w.setCell ⟨b, 4, none⟩ (.pointer (some ⟨w.heap.size, 0, none⟩))).alloc (.cells #[.bool al] 4)) := by
  have hc : Chg [b] w ((w.setCell ⟨b, 4, none⟩ (.pointer (some ⟨w.heap.size, 0, none⟩))).alloc (.cells #[.bool al] 4)) := ((Chg.refl _ _).setCell (.inr (by simp)) _).alloc _
  obtain ⟨x1, x2, x3, x4, pb, hb, hp, h1, h2, h3, h4, i0, i1, i2, i3, i4⟩ := h
  refine ⟨⟨x1, x2, x3, x4, w.heap.size, ?_, ⟨w.heap.size, 0, rfl, by simp, by simp, ?_⟩, h1.chg hc (by simp; omega), h2.chg hc (by simp; omega), h3.chg hc (by simp; omega), h4.chg hc (by simp; omega), i0, i1, i2, i3, i4⟩, hc⟩
  · have := (hb.set_ 4 (.pointer (some ⟨w.heap.size, 0, none⟩))).alloc (.cells #[.bool al] 4)
    simpa using this
  · have := (Blk.new (w.setCell ⟨b, 4, none⟩ (.pointer (some ⟨w.heap.size, 0, none⟩))) 4 #[.bool al]).cell 0
    simpa using this
end
set_option maxRecDepth 100000 in
set_option maxHeartbeats 4000000 in
theorem equiv_any {w : World} {v1 v2 : Value} {vs ls xs ys : List Int} {al : Bool} (h1 : ConfAt [] w v1 vs ls [] [] al) (h2 : ConfAt [] w v2 xs ys [] [] al) (hv : xs.Perm vs) (hl : ys.Perm ls) (lv : vs.length ≤ 12) (ll : ls.length ≤ 12) :
    Calls Tryz.prog 329 #[v1, v2] w fun y w' => y = .returned .nilIface ∧ Nxt w w' := by
  have hmf : ∀ (fn : Fn) (first cap : Array Value) (w : World), (Instr.makeFunc fn first cap).run Tryz.prog w = .ok (.func fn first cap) w := fun _ _ _ _ => rfl
  obtain ⟨a1, rfl⟩ : ∃ a, v1 = .pointer (some ⟨a, 0, none⟩) := by obtain ⟨b, _, _, _, _, _, e, _⟩ := h1; exact ⟨b, e⟩
  obtain ⟨a2, rfl⟩ : ∃ a, v2 = .pointer (some ⟨a, 0, none⟩) := by obtain ⟨b, _, _, _, _, _, e, _⟩ := h2; exact ⟨b, e⟩
  have lx : xs.length ≤ 12 := by rw [hv.length_eq]; exact lv
  have ly : ys.length ≤ 12 := by rw [hl.length_eq]; exact ll
  have H1 := Lib.hid h1
  have H2 := Lib.hid h2
  have HV := Lib.hid hv
  have HL := Lib.hid hl
  clear h1 h2 hv hl
  go_enter Tryz.func329, Tryz.ntmps329
  go_wp2_with (first | (go_at_call 192; (with_reducible refine Calls.mono (confCloneC_any w _ _ H1.out (by omega) (by omega) (by simp) (by simp) (Chg.refl _ _)) ?_); rintro e w1 ⟨b1, m0, m1, m2, m3, m4, rfl, hA, i0, i1, i2, i3, hn1⟩; have HA := Lib.hid hA; have HN1 := Lib.hid hn1; clear hA hn1) | (go_at_call 192; (with_reducible refine Calls.mono (confCloneC_any w _ _ H2.out (by omega) (by omega) (by simp) (by simp) HN1.out.out) ?_); rintro e w2 ⟨b2, n0, n1, n2, n3, n4, rfl, hB, j0, j1, j2, j3, hn2⟩; have HB := Lib.hid hB; have HN2 := Lib.hid hn2; clear hB hn2))
  have hn3 : Nxt w2 (w2.alloc (.cells #[.pointer (some ⟨b1, 0, none⟩), .pointer (some ⟨b2, 0, none⟩)] 138)) := ⟨(Chg.refl _ _).alloc _⟩
  have hA := (HA.out.chg0 HN2.out.out).chg0 hn3.out
  have hB := HB.out.chg0 hn3.out
  have hT := Blk.new w2 138 #[.pointer (some ⟨b1, 0, none⟩), .pointer (some ⟨b2, 0, none⟩)]
  have hC := (HN1.out.out.trans HN2.out.out).trans hn3.out
  have z2 := HN2.out.out.size
  have z1 := HN1.out.out.size
  clear HA HB HN1 HN2 hn3 H1 H2
  obtain ⟨bt, hbt⟩ : ∃ bt, bt = w2.heap.size := ⟨_, rfl⟩
  have q1 : b1 < bt := by omega
  have q2 : b2 < bt := by omega
  have q3 : m4 ≤ n0 := by omega
  have q0 : w.heap.size ≤ m0 := by omega
  have q4 : w.heap.size ≤ n0 := by omega
  have q6 : b1 < n0 := by omega
  have q7 : w.heap.size ≤ b1 := by omega
  have q8 : w.heap.size ≤ b2 := by omega
  have q5 : bt < (w2.alloc (.cells #[.pointer (some ⟨b1, 0, none⟩), .pointer (some ⟨b2, 0, none⟩)] 138)).heap.size := by rw [hbt]; simp
  rw [← hbt] at hT ⊢
  clear hbt z1 z2 i0 j0 i3 j3
  generalize w2.alloc (.cells #[.pointer (some ⟨b1, 0, none⟩), .pointer (some ⟨b2, 0, none⟩)] 138) = W3 at hA hB hT hC q5 ⊢
  have oA := hA.ord
  have oB := hB.ord
  have HA := Lib.hid hA
  have HB := Lib.hid hB
  have HT := Lib.hid hT
  have HC := Lib.hid hC
  clear hA hB hT hC
  have t0 := HT.out.cell 0
  have t1 := HT.out.cell 1
  simp at t0 t1
  refine wp_loop_rounds 3 ?_
  rw [rounds_succ]
  go_wp2_with (first | (go_at_call 378; (with_reducible refine Calls.mono (sortV_any HA.out (by omega)) ?_); rintro e wq ⟨lV, M, rfl, hX, pV, sV, hM, hc⟩; obtain ⟨lAV, hlE⟩ : ∃ z, z = lV := ⟨_, rfl⟩; subst hlE; have PAV := Lib.hid pV; have SAV := Lib.hid sV; clear pV sV; have hY := HB.out.far hM hc (by omega); have hT := HT.out.chg hc (hM.not HT.out (by decide)); have hcc := HC.out.then hc (fun x hx _ => by have := hM x hx; omega); clear HA HB HC HT; have HA := Lib.hid hX; have HB := Lib.hid hY; have HT := Lib.hid hT; have HC := Lib.hid hcc; have t0 := HT.out.cell 0; have t1 := HT.out.cell 1; simp at t0 t1; clear hX hY hT hM hc hcc) | (go_at_call 378; (with_reducible refine Calls.mono (sortL_any HA.out (by omega)) ?_); rintro e wq ⟨lL, M, rfl, hX, pL, sL, hM, hc⟩; obtain ⟨lAL, hlE⟩ : ∃ z, z = lL := ⟨_, rfl⟩; subst hlE; have PAL := Lib.hid pL; have SAL := Lib.hid sL; clear pL sL; have hY := HB.out.far hM hc (by omega); have hT := HT.out.chg hc (hM.not HT.out (by decide)); have hcc := HC.out.then hc (fun x hx _ => by have := hM x hx; omega); clear HA HB HC HT; have HA := Lib.hid hX; have HB := Lib.hid hY; have HT := Lib.hid hT; have HC := Lib.hid hcc; have t0 := HT.out.cell 0; have t1 := HT.out.cell 1; simp at t0 t1; clear hX hY hT hM hc hcc) | (go_at_call 378; (with_reducible refine Calls.mono (sortO_any HA.out) ?_); rintro e wq ⟨M, rfl, hX, hM, hc⟩; have hY := HB.out.far hM hc (by omega); have hT := HT.out.chg hc (hM.not HT.out (by decide)); have hcc := HC.out.then hc (fun x hx _ => by have := hM x hx; omega); clear HA HB HC HT; have HA := Lib.hid hX; have HB := Lib.hid hY; have HT := Lib.hid hT; have HC := Lib.hid hcc; have t0 := HT.out.cell 0; have t1 := HT.out.cell 1; simp at t0 t1; clear hX hY hT hM hc hcc) | (go_at_call 378; (with_reducible refine Calls.mono (sortN_any HA.out) ?_); rintro e wq ⟨M, rfl, hX, hM, hc⟩; have hY := HB.out.far hM hc (by omega); have hT := HT.out.chg hc (hM.not HT.out (by decide)); have hcc := HC.out.then hc (fun x hx _ => by have := hM x hx; omega); clear HA HB HC HT; have HA := Lib.hid hX; have HB := Lib.hid hY; have HT := Lib.hid hT; have HC := Lib.hid hcc; have t0 := HT.out.cell 0; have t1 := HT.out.cell 1; simp at t0 t1; clear hX hY hT hM hc hcc) | (go_at_call 166; (with_reducible refine Calls.mono (getAuto_any HA.out.cf) ?_); rintro e w' ⟨rfl, rfl⟩; obtain ⟨⟨pp, g4⟩, gf, gl⟩ := HA.out.c4))
  obtain ⟨hA, hcA⟩ := HA.out.auto
  have hB := HA.out.other HB.out hcA (by omega) (by omega)
  have hT := HT.out.chg hcA (by simp; omega)
  have hC := HC.out.then hcA (by simp; omega)
  generalize (wq.setCell ⟨b1, 4, none⟩ (.pointer (some ⟨wq.heap.size, 0, none⟩))).alloc (.cells #[.bool al] 4) = W5 at hA hB hT hC ⊢
  clear HA HB HT HC t0 t1 g4 gf gl hcA
  have HA := Lib.hid hA
  have HB := Lib.hid hB
  have HT := Lib.hid hT
  have HC := Lib.hid hC
  clear hA hB hT hC
  have t0 := HT.out.cell 0
  have t1 := HT.out.cell 1
  simp at t0 t1
  rw [rounds_succ]
  go_wp2_with (first | (go_at_call 378; (with_reducible refine Calls.mono (sortV_any HB.out (by omega)) ?_); rintro e wq ⟨lV, M, rfl, hX, pV, sV, hM, hc⟩; obtain ⟨lBV, hlE⟩ : ∃ z, z = lV := ⟨_, rfl⟩; subst hlE; have PBV := Lib.hid pV; have SBV := Lib.hid sV; clear pV sV; have hY := HA.out.far hM hc (by omega); have hT := HT.out.chg hc (hM.not HT.out (by decide)); have hcc := HC.out.then hc (fun x hx _ => by have := hM x hx; omega); clear HB HA HC HT; have HB := Lib.hid hX; have HA := Lib.hid hY; have HT := Lib.hid hT; have HC := Lib.hid hcc; have t0 := HT.out.cell 0; have t1 := HT.out.cell 1; simp at t0 t1; clear hX hY hT hM hc hcc) | (go_at_call 378; (with_reducible refine Calls.mono (sortL_any HB.out (by omega)) ?_); rintro e wq ⟨lL, M, rfl, hX, pL, sL, hM, hc⟩; obtain ⟨lBL, hlE⟩ : ∃ z, z = lL := ⟨_, rfl⟩; subst hlE; have PBL := Lib.hid pL; have SBL := Lib.hid sL; clear pL sL; have hY := HA.out.far hM hc (by omega); have hT := HT.out.chg hc (hM.not HT.out (by decide)); have hcc := HC.out.then hc (fun x hx _ => by have := hM x hx; omega); clear HB HA HC HT; have HB := Lib.hid hX; have HA := Lib.hid hY; have HT := Lib.hid hT; have HC := Lib.hid hcc; have t0 := HT.out.cell 0; have t1 := HT.out.cell 1; simp at t0 t1; clear hX hY hT hM hc hcc) | (go_at_call 378; (with_reducible refine Calls.mono (sortO_any HB.out) ?_); rintro e wq ⟨M, rfl, hX, hM, hc⟩; have hY := HA.out.far hM hc (by omega); have hT := HT.out.chg hc (hM.not HT.out (by decide)); have hcc := HC.out.then hc (fun x hx _ => by have := hM x hx; omega); clear HB HA HC HT; have HB := Lib.hid hX; have HA := Lib.hid hY; have HT := Lib.hid hT; have HC := Lib.hid hcc; have t0 := HT.out.cell 0; have t1 := HT.out.cell 1; simp at t0 t1; clear hX hY hT hM hc hcc) | (go_at_call 378; (with_reducible refine Calls.mono (sortN_any HB.out) ?_); rintro e wq ⟨M, rfl, hX, hM, hc⟩; have hY := HA.out.far hM hc (by omega); have hT := HT.out.chg hc (hM.not HT.out (by decide)); have hcc := HC.out.then hc (fun x hx _ => by have := hM x hx; omega); clear HB HA HC HT; have HB := Lib.hid hX; have HA := Lib.hid hY; have HT := Lib.hid hT; have HC := Lib.hid hcc; have t0 := HT.out.cell 0; have t1 := HT.out.cell 1; simp at t0 t1; clear hX hY hT hM hc hcc) | (go_at_call 166; (with_reducible refine Calls.mono (getAuto_any HB.out.cf) ?_); rintro e w' ⟨rfl, rfl⟩; obtain ⟨⟨pp, g4⟩, gf, gl⟩ := HB.out.c4))
  obtain ⟨hB, hcB⟩ := HB.out.auto
  have hA := HB.out.other HA.out hcB (by omega) (by omega)
  have hC := HC.out.then hcB (by simp; omega)
  generalize (wq.setCell ⟨b2, 4, none⟩ (.pointer (some ⟨wq.heap.size, 0, none⟩))).alloc (.cells #[.bool al] 4) = W5 at hA hB hC ⊢
  clear HA HB HT HC t0 t1 g4 gf gl hcB
  have e1 : lBV = lAV := List.Perm.eq_of_pairwise (fun a b _ _ h1 h2 => Int.le_antisymm h1 h2) SBV.out SAV.out ((PBV.out.trans HV.out).trans PAV.out.symm)
  have e2 : lBL = lAL := List.Perm.eq_of_pairwise (fun a b _ _ h1 h2 => Int.le_antisymm h1 h2) SBL.out SAL.out ((PBL.out.trans HL.out).trans PAL.out.symm)
  subst e1
  subst e2
  have hE := confEq_any (c := ⟨lBV, lBL, [], [], al⟩) hA.cf hB.cf (by rw [PAV.out.length_eq]; omega) (by rw [PAL.out.length_eq]; omega) (by simp) (by simp)
  have HE := Lib.hid hE
  have HC := Lib.hid hC
  clear hA hB hC hE
  rw [rounds_succ]
  go_wp2_with (first | (go_at_call 379; (with_reducible refine Calls.mono HE.out ?_); rintro e w9 ⟨rfl, hn9⟩))
  go_ret
  exact ⟨rfl, ⟨HC.out.trans hn9.out⟩⟩
end Go.Proofs.YtalhhplphlobbaaGreat
namespace Go.Proofs.YtalhhplphlobbaaGreat
open Go.RowKit
set_option maxRecDepth 100000 in
set_option maxHeartbeats 1000000 in
theorem assertEq_any {w : World} {v1 v2 : Value} {vs ls xs ys : List Int} {al : Bool} (h1 : ConfAt [] w v1 vs ls [] [] al) (h2 : ConfAt [] w v2 xs ys [] [] al) (hv : xs.Perm vs) (hl : ys.Perm ls) (lv : vs.length ≤ 12) (ll : ls.length ≤ 12) :
    Calls Tryz.prog 275 #[v1, v2] w fun y w' => y = .returned (.tuple #[]) ∧ Nxt w w' := by
  have hE := Lib.hid (equiv_any h1 h2 hv hl lv ll)
  clear h1 h2 hv hl
  go_enter Tryz.func275, Tryz.ntmps275
  go_wp2_with (first | (go_at_call 329; (with_reducible refine Calls.mono hE.out ?_); rintro e w1 ⟨rfl, hn1⟩))
  refine bodyPost_ret (results_none rfl _ _ _) rfl ?_
  exact ⟨rfl, hn1⟩
section
variable {M : List Nat} {W w w' : World} {rb rl ms : Nat} {s : RaftS} {l : RLog} {hv sv ev v : Value} {e : Ent} {r : List Ent} {t vo c : Int}
theorem heldLd (hl : RlAt w' rl ms l) (hs : StAt M w' ms hv sv ev e r) (hc : Chg [ms] w w') (hrb : rb ≠ ms)
    (h : w.cell? ⟨rb, 4, none⟩ = some (.pointer (some ⟨rl, 0, none⟩)) ∧ w.cell? ⟨rl, 6, none⟩ = some (.int .u64 l.com) ∧ RlAt w rl ms l ∧ StAt M w ms hv sv ev e r ∧ HardAt M w v t vo c ∧ Chg [ms] W w) :
    w'.cell? ⟨rb, 4, none⟩ = some (.pointer (some ⟨rl, 0, none⟩)) ∧ w'.cell? ⟨rl, 6, none⟩ = some (.int .u64 l.com) ∧ RlAt w' rl ms l ∧ StAt M w' ms hv sv ev e r ∧ HardAt M w' v t vo c ∧ Chg [ms] W w' := by
  obtain ⟨h1, h2, h3, h4, h5, h6⟩ := h
  obtain ⟨_, _, _, _, _, _, k6, _⟩ := hl.cells
  exact ⟨hc.at_ h1 (by simpa using hrb), k6, hl, hs, h5.chg hc (by simpa using h4.mem), h6.trans hc⟩
set_option maxRecDepth 100000 in
set_option maxHeartbeats 4000000 in
theorem loadState_any (h : RaftAt w rb s) (hrl : s.rl = rl) (hl : RlAt w rl ms l) (hcalm : l.calm) (hs : StAt M w ms hv sv ev e r) (hh : HardAt M w v t vo c) (hrb : rb ≠ ms) (hne : rl ≠ ms) (hrr : rb ≠ rl) (mb : rb ∈ M) (ml : rl ∈ M) (c0 : l.com ≤ c) (c1 : c ≤ e.i + r.length) :
    Calls Tryz.prog 277 #[.pointer (some ⟨rb, 0, none⟩), v] w fun y w' => y = .returned (.tuple #[]) ∧ RaftAt w' rb { s with term := t, vote := vo } ∧ RlAt w' rl ms { l with com := c } ∧ MsAt w' ms hv sv ev ∧ Chg [ms, rb, rl] w w' := by
  have c4 : w.cell? ⟨rb, 4, none⟩ = some (.pointer (some ⟨rl, 0, none⟩)) := by rw [← hrl]; exact RaftAt.cell h 4 _ rfl
  obtain ⟨_, _, _, _, _, _, k6, _⟩ := hl.cells
  have hS0 : (w.drew).cell? ⟨rb, 4, none⟩ = some (.pointer (some ⟨rl, 0, none⟩)) ∧ (w.drew).cell? ⟨rl, 6, none⟩ = some (.int .u64 l.com) ∧ RlAt (w.drew) rl ms l ∧ StAt M (w.drew) ms hv sv ev e r ∧ HardAt M (w.drew) v t vo c ∧ Chg [ms] w (w.drew) :=
    ⟨c4, k6, Blk.drew hl, hs.nxt ⟨(Chg.refl _ _).drew⟩, hh.chg ((Chg.refl _ _).drew (L := [])) (by simp), (Chg.refl _ _).drew⟩
  have HS0 := Lib.hid hS0
  have HR := Lib.hid h
  have HCALM := Lib.hid hcalm
  have d1 : ¬ c < l.com := by omega
  have d3 : decide (c < l.com) = false := by simpa using d1
  have d2 : ¬ e.i + (r.length : Int) < c := by omega
  clear h hrl hl hs hh c4 k6 hS0 hcalm c0 c1
  go_enter Tryz.func277, Tryz.ntmps277
  go_wp2_with fail
  go_region_held3 (fun wx => wx.cell? ⟨rb, 4, none⟩ = some (.pointer (some ⟨rl, 0, none⟩)) ∧ wx.cell? ⟨rl, 6, none⟩ = some (.int .u64 l.com) ∧ RlAt wx rl ms l ∧ StAt M wx ms hv sv ev e r ∧ HardAt M wx v t vo c ∧ Chg [ms] w wx)
    (first | with_reducible exact HS0.out | with_reducible assumption | exact heldLd hl1 hs1 hc1 hrb (by first | with_reducible assumption | with_reducible exact HS0.out))
    (first | (go_at_call 161; (with_reducible refine Calls.mono (hardCommit_any (M := M) (t := t) (vo := vo) (c := c) ?_) ?_); (focus (first | exact (HS0.out).2.2.2.2.1 | exact HardAt.chg HS0.out.2.2.2.2.1 hc1 (by simpa using hs1.mem))); rintro e w' ⟨rfl, rfl⟩) | (go_at_call 314; (with_reducible refine Calls.mono (rlLast_any HS0.out.2.2.2.1 HS0.out.2.2.1 HCALM.out hne) ?_); rintro e w1 ⟨rfl, hl1, hs1, hc1⟩))
  have hC1 : Chg [ms] w w1 := ((Chg.refl _ _).drew).trans hc1
  have hR1 : RaftAt w1 rb s := HR.out.chg hC1 (by simpa using hrb)
  have hh1 : HardAt M w1 v t vo c := HardAt.chg HS0.out.2.2.2.2.1 hc1 (by simpa using hs1.mem)
  have c4 : w1.cell? ⟨rb, 4, none⟩ = some (.pointer (some ⟨rl, 0, none⟩)) := hc1.at_ HS0.out.1 (by simpa using hrb)
  have k6 : w1.cell? ⟨rl, 6, none⟩ = some (.int .u64 l.com) := hC1.at_ (by have z := HS0.out.2.1; exact z) (by simpa using hne)
  have HL1 := Lib.hid hl1
  have HM1 := Lib.hid hs1.at_
  have HMM := Lib.hid hs1.mem
  have HC1 := Lib.hid hC1
  have HR1 := Lib.hid hR1
  have HH1 := Lib.hid hh1
  have kf := Blk.frozen hl1
  have kl := Blk.lt hl1
  clear HS0 HR HCALM hl1 hs1 hc1 hC1 hR1 hh1
  go_wp2_with fail
  go_region_held3 (fun wx => wx.cell? ⟨rb, 4, none⟩ = some (.pointer (some ⟨rl, 0, none⟩)))
    (first | with_reducible assumption | (simp [go_sem, *]; done))
    (first | (go_at_call 161; (with_reducible refine Calls.mono (hardCommit_any (M := M) (t := t) (vo := vo) (c := c) ?_) ?_); (focus exact HardAt.chg (L := []) HH1.out (Chg.refl _ _).drew (by simp)); rintro e w' ⟨rfl, rfl⟩))
  have hq : Chg [rl] w1 ((w1.setCell ⟨rl, 6, none⟩ (.int .u64 c)).drew) := ((Chg.refl _ _).setCell (.inr (by simp)) _).drew
  have hR2 : RaftAt ((w1.setCell ⟨rl, 6, none⟩ (.int .u64 c)).drew) rb s := HR1.out.chg hq (by simpa using hrr)
  have hh2 : HardAt M ((w1.setCell ⟨rl, 6, none⟩ (.int .u64 c)).drew) v t vo c := HH1.out.chg hq (by simpa using ml)
  have hl2 : RlAt ((w1.setCell ⟨rl, 6, none⟩ (.int .u64 c)).drew) rl ms { l with com := c } := Blk.drew (RlAt.set_ HL1.out 6 _ { l with com := c } rfl)
  have hm2 : MsAt ((w1.setCell ⟨rl, 6, none⟩ (.int .u64 c)).drew) ms hv sv ev := HM1.out.chg hq (by simpa using Ne.symm hne)
  have hC2 : Chg [ms, rb, rl] w ((w1.setCell ⟨rl, 6, none⟩ (.int .u64 c)).drew) := (HC1.out.mono (by simp)).trans (hq.mono (by simp))
  generalize (w1.setCell ⟨rl, 6, none⟩ (.int .u64 c)).drew = W2 at hR2 hh2 hl2 hm2 hC2 ⊢
  clear HL1 HM1 HC1 HR1 HH1 kf kl k6 c4 hq
  have c1 := RaftAt.cell hR2 1 (.int .u64 s.term) rfl
  have c2 := RaftAt.cell hR2 2 (.int .u64 s.vote) rfl
  have cf := Blk.frozen hR2
  have HR2 := Lib.hid hR2
  have HH2 := Lib.hid hh2
  have HL2 := Lib.hid hl2
  have HM2 := Lib.hid hm2
  have HC2 := Lib.hid hC2
  clear hR2 hh2 hl2 hm2 hC2
  go_wp2_with (first | (go_at_call 159; (with_reducible refine Calls.mono (hardTerm_any HH2.out) ?_); rintro e w' ⟨rfl, rfl⟩) | (go_at_call 160; (with_reducible refine Calls.mono (hardVote_any (HardAt.chg (L := [rb]) HH2.out ?_ (by simpa using mb))) ?_); (focus (first | with_reducible assumption | ((repeat (first | with_reducible exact Chg.refl _ _ | with_reducible assumption | with_reducible refine Chg.drew ?_ | with_reducible refine Chg.alloc ?_ _ | with_reducible refine Chg.setCell ?_ (by simp) _ | with_reducible refine Chg.nxt ?_ (by assumption))); done))); rintro e w' ⟨rfl, rfl⟩))
  go_end0
  have hq : Chg [rb] W2 ((W2.setCell ⟨rb, 1, none⟩ (.int .u64 t)).setCell ⟨rb, 2, none⟩ (.int .u64 vo)) := ((Chg.refl _ _).setCell (.inr (by simp)) _).setCell (.inr (by simp)) _
  exact ⟨rfl, RaftAt.set_ (RaftAt.set_ HR2.out 1 _ { s with term := t } rfl) 2 _ { s with term := t, vote := vo } rfl, HL2.out.chg hq (by simpa using Ne.symm hrr), HM2.out.chg hq (by simpa using Ne.symm hrb), HC2.out.trans (hq.mono (by simp))⟩
end
end Go.Proofs.YtalhhplphlobbaaGreat
