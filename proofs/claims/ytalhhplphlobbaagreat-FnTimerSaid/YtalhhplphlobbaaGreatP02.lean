/- impl.bytesOf, impl.hardTo, impl.entryTo: what they make in memory. Conditions: sizes. impl.entriesTo: a list of entries, made in memory. Conditions: sizes. impl.snapTo; raftpb.zzNumbers, zzBytes, zzPointer. Conditions: sizes. -/
import Derived.Laws.IdiomStrings
import Derived.Laws.CopyOwn
import Derived.Test.YtalhhplphlobbaaGreatP01
set_option linter.unusedVariables false
set_option linter.unusedSimpArgs false
namespace Go.Proofs.YtalhhplphlobbaaGreat
open Go.RowKit

/-- The bytes of a string as cells. -/
def Bs (s : ByteArray) : List Value := s.data.toList.map fun b => .int .u8 b.toNat
/-- A pb.HardState that was made here. -/
def HardAt (M : List Nat) (w : World) (v : Value) (t vo c : Int) : Prop :=
  ∃ b p1 p2 p3, v = .pointer (some ⟨b, 0, none⟩) ∧ b ∉ M ∧ b < w.heap.size ∧ w.cell? ⟨b, 0, none⟩ = some p1 ∧ w.cell? ⟨b, 1, none⟩ = some p2 ∧ w.cell? ⟨b, 2, none⟩ = some p3 ∧
    Ptr1 M w p1 (.int .u64 t) ∧ Ptr1 M w p2 (.int .u64 vo) ∧ Ptr1 M w p3 (.int .u64 c)
/-- A pb.Entry of the normal kind (its type is not set). -/
def EntAt (M : List Nat) (w : World) (v : Value) (t i : Int) (d : ByteArray) : Prop :=
  ∃ b p1 p2 sd, v = .pointer (some ⟨b, 0, none⟩) ∧ b ∉ M ∧ b < w.heap.size ∧ w.cell? ⟨b, 0, none⟩ = some p1 ∧ w.cell? ⟨b, 1, none⟩ = some p2 ∧ w.cell? ⟨b, 2, none⟩ = some (.pointer none) ∧ w.cell? ⟨b, 3, none⟩ = some sd ∧
    Ptr1 M w p1 (.int .u64 t) ∧ Ptr1 M w p2 (.int .u64 i) ∧ Sl M w sd (Bs d)

section
variable {M L : List Nat} {w w' : World} {v x : Value}
theorem HardAt.keep {t vo c : Int} (h : HardAt M w v t vo c) (hs : w.heap.size ≤ w'.heap.size) (hk : ∀ b o, b < w.heap.size → b ∉ M → w'.cell? ⟨b, o, none⟩ = w.cell? ⟨b, o, none⟩) : HardAt M w' v t vo c := by
  obtain ⟨b, p1, p2, p3, rfl, hb, hl, c1, c2, c3, h1, h2, h3⟩ := h
  exact ⟨b, p1, p2, p3, rfl, hb, Nat.lt_of_lt_of_le hl hs, (hk b 0 hl hb).trans c1, (hk b 1 hl hb).trans c2, (hk b 2 hl hb).trans c3, h1.keep hs hk, h2.keep hs hk, h3.keep hs hk⟩
theorem HardAt.chg {t vo c : Int} (h : HardAt M w v t vo c) (hc : Chg L w w') (hL : ∀ x ∈ L, x ∈ M) : HardAt M w' v t vo c :=
  h.keep hc.size fun b o hb hn => hc.cell (p := ⟨b, o, none⟩) hb (fun hx => hn (hL b hx))
theorem EntAt.keep {t i : Int} {d : ByteArray} (h : EntAt M w v t i d) (hs : w.heap.size ≤ w'.heap.size) (hk : ∀ b o, b < w.heap.size → b ∉ M → w'.cell? ⟨b, o, none⟩ = w.cell? ⟨b, o, none⟩) : EntAt M w' v t i d := by
  obtain ⟨b, p1, p2, sd, rfl, hb, hl, c1, c2, c3, c4, h1, h2, h3⟩ := h
  exact ⟨b, p1, p2, sd, rfl, hb, Nat.lt_of_lt_of_le hl hs, (hk b 0 hl hb).trans c1, (hk b 1 hl hb).trans c2, (hk b 2 hl hb).trans c3, (hk b 3 hl hb).trans c4, h1.keep hs hk, h2.keep hs hk, h3.keep hs hk⟩
theorem EntAt.more {M' : List Nat} {t i : Int} {d : ByteArray} (h : EntAt M w v t i d) (hM : ∀ x ∈ M', x ∈ M ∨ w.heap.size ≤ x) : EntAt M' w v t i d := by
  obtain ⟨b, p1, p2, sd, rfl, hb, hl, c1, c2, c3, c4, h1, h2, h3⟩ := h
  exact ⟨b, p1, p2, sd, rfl, fun hx => by rcases hM b hx with h1 | h1; exact hb h1; omega, hl, c1, c2, c3, c4, h1.more hM, h2.more hM, h3.more hM⟩
theorem EntAt.chg {t i : Int} {d : ByteArray} (h : EntAt M w v t i d) (hc : Chg L w w') (hL : ∀ x ∈ L, x ∈ M) : EntAt M w' v t i d :=
  h.keep hc.size fun b o hb hn => hc.cell (p := ⟨b, o, none⟩) hb (fun hx => hn (hL b hx))
end

set_option maxRecDepth 100000 in
set_option maxHeartbeats 400000 in
theorem hardTo_any (M : List Nat) (W w : World) (t v c : Int) (hM : ∀ x ∈ M, x < W.heap.size) (hW : Chg [] W w) :
    Calls Tryz.prog 102 #[.agg #[.int .u64 t, .int .u64 v, .int .u64 c]] w fun e w' => ∃ b, e = .returned (.pointer (some ⟨b, 0, none⟩)) ∧ HardAt M w' (.pointer (some ⟨b, 0, none⟩)) t v c ∧ Chg [] W w' ∧ Nxt w w' := by
  go_enter Tryz.func102, Tryz.ntmps102
  go_wp2
  go_ret
  have hz := hW.size
  refine ⟨w.heap.size + 4, rfl, ⟨w.heap.size + 4, .pointer (some ⟨w.heap.size + 1, 0, none⟩), .pointer (some ⟨w.heap.size + 2, 0, none⟩), .pointer (some ⟨w.heap.size + 3, 0, none⟩), rfl, fun hm => ?_, by go_size, by go_cell, by go_cell, by go_cell, ⟨w.heap.size + 1, 0, rfl, fun hm => ?_, by go_size, by go_cell⟩, ⟨w.heap.size + 2, 0, rfl, fun hm => ?_, by go_size, by go_cell⟩, ⟨w.heap.size + 3, 0, rfl, fun hm => ?_, by go_size, by go_cell⟩⟩, ?_, ⟨?_⟩⟩
  all_goals first | (have := hM _ hm; omega) | (focus (first | with_reducible assumption | ((repeat (first | with_reducible exact Chg.refl _ _ | with_reducible assumption | refine Chg.drew ?_ | refine Chg.alloc ?_ _)); done)))

set_option maxRecDepth 100000 in
set_option maxHeartbeats 400000 in
theorem bytesOf_any (M : List Nat) (W w : World) (s : ByteArray) (hM : ∀ x ∈ M, x < W.heap.size) (hW : Chg [] W w) :
    Calls Tryz.prog 124 #[.string s] w fun e w' => ∃ A n c, e = .returned (.slice A n c) ∧ Sl M w' (.slice A n c) (Bs s) ∧ Chg [] W w' ∧ Nxt w w' := by
  have hz := hW.size
  by_cases h0 : s.toList = []
  · have h2 : s.toList.isEmpty = true := by simp [h0]
    have h1 : Bs s = [] := by rw [ByteArray.toList_eq] at h0; simp [Bs, h0]
    have H1 := Lib.hid h1
    clear h1
    go_enter Tryz.func124, Tryz.ntmps124
    go_wp2
    go_ret
    rw [H1.out]
    exact ⟨_, _, _, rfl, Sl.nil _ _, hW, ⟨Chg.refl _ _⟩⟩
  · have h2 : s.toList.isEmpty = false := by simpa using h0
    have hcv := run_bytes_of_string (P := Tryz.prog) w 9 197 5 s Tryz.underlying9 Tryz.underlying197 Tryz.underlying5
    go_enter Tryz.func124, Tryz.ntmps124
    go_wp2
    go_ret
    have hcell : ∀ j u, (Bs s)[j]? = some u → ((w.alloc (.cells (bytesRow s (grownCap w s.size 0 5)) 5 ((bytesRow s (grownCap w s.size 0 5)).size, (bytesRow s (grownCap w s.size 0 5)).size + 1))).drew).cell? ⟨w.heap.size, 0 + j, none⟩ = some u := by
      intro j u hu
      show (w.alloc _).cell? _ = _
      rw [Nat.zero_add, cell_of_row _ _ j _ _ _ (heap_alloc_new w _)]
      have hj : j < s.data.size := by
        have := (List.getElem?_eq_some_iff.1 hu).1
        simpa [Bs] using this
      unfold bytesRow
      rw [Array.getElem?_append_left (by simpa using hj)]
      simpa [Bs] using hu
    refine ⟨_, _, _, rfl, ⟨_, _, _, rfl, by simp only [Bs, List.length_map, Array.length_toList]; rfl, grownCap_ge _ _ _ _, by simp, fun b o s' e => ?_⟩, ?_, ⟨?_⟩⟩
    · simp only [Option.some.injEq, Addr.mk.injEq] at e
      obtain ⟨rfl, rfl, rfl⟩ := e
      exact ⟨rfl, fun hm => by have := hM _ hm; omega, by simp, hcell⟩
    all_goals (focus (first | with_reducible assumption | ((repeat (first | with_reducible exact Chg.refl _ _ | with_reducible assumption | refine Chg.drew ?_ | refine Chg.alloc ?_ _)); done)))
set_option maxRecDepth 100000 in
set_option maxHeartbeats 400000 in
theorem entryTo_any (M : List Nat) (W w : World) (t i : Int) (d : ByteArray) (hM : ∀ x ∈ M, x < W.heap.size) (hW : Chg [] W w) :
    Calls Tryz.prog 155 #[.agg #[.int .u64 t, .int .u64 i, .int .i64 0, .string d]] w fun e w' => ∃ b, e = .returned (.pointer (some ⟨b, 0, none⟩)) ∧ EntAt M w' (.pointer (some ⟨b, 0, none⟩)) t i d ∧ Chg [] W w' ∧ Nxt w w' := by
  have hz := hW.size
  go_enter Tryz.func155, Tryz.ntmps155
  go_wp2_with (first | (go_at_call 124; (with_reducible refine Calls.mono (bytesOf_any M W _ d hM ?_) ?_); (focus (first | with_reducible assumption | ((repeat (first | with_reducible exact Chg.refl _ _ | with_reducible assumption | refine Chg.drew ?_ | refine Chg.alloc ?_ _)); done))); rintro e w1 ⟨A, n, c, rfl, hs1, hc1, hn1⟩; obtain ⟨qc1, qf1, qz1⟩ := hn1.rules; (try simp at qz1); have l1 : w.heap.size < w1.heap.size := by omega))
  go_ret
  refine ⟨w1.heap.size, rfl, ⟨w1.heap.size, .pointer (some ⟨w.heap.size + 1, 0, none⟩), .pointer (some ⟨w.heap.size + 2, 0, none⟩), .slice A n c, rfl, fun hm => ?_, by go_size, by go_cell, by go_cell, by go_cell, by go_cell,
    ⟨w.heap.size + 1, 0, rfl, fun hm => ?_, by go_size, cell_alloc ((qc1 _ _ (by simp)).trans (by go_cell)) _⟩, ⟨w.heap.size + 2, 0, rfl, fun hm => ?_, by go_size, cell_alloc ((qc1 _ _ (by simp)).trans (by go_cell)) _⟩, hs1.chg0 ((Chg.refl _ _).alloc _)⟩, ?_, ⟨?_⟩⟩
  case _ => have := hM _ hm; omega
  case _ => have := hM _ hm; omega
  case _ => have := hM _ hm; omega
  case _ => (focus (first | with_reducible assumption | ((repeat (first | with_reducible exact Chg.refl _ _ | with_reducible assumption | refine Chg.drew ?_ | refine Chg.alloc ?_ _)); done)))
  case _ => exact ((((((Chg.refl _ _).alloc _).alloc _).alloc _).trans hn1.out).alloc _)
end Go.Proofs.YtalhhplphlobbaaGreat
namespace Go.Proofs.YtalhhplphlobbaaGreat
open Go.RowKit

/-- An entry of the normal kind, as plain data. -/
structure Ent where
  t : Int
  i : Int
  d : ByteArray
/-- A slice of impl.Entry (four cells each) that reads as a list. -/
def LogAt (w : World) (v : Value) (l : List Ent) : Prop :=
  ∃ A n c, v = .slice A n c ∧ l.length = n ∧ n ≤ c ∧ (A = none → c = 0) ∧
    (∀ b o s, A = some ⟨b, o, s⟩ → s = none ∧ b < w.heap.size ∧ ∀ j e, l[j]? = some e → w.cell? ⟨b, o + j * 4, none⟩ = some (.int .u64 e.t) ∧ w.cell? ⟨b, o + j * 4 + 1, none⟩ = some (.int .u64 e.i) ∧
      w.cell? ⟨b, o + j * 4 + 2, none⟩ = some (.int .i64 0) ∧ w.cell? ⟨b, o + j * 4 + 3, none⟩ = some (.string e.d))
/-- Pointers to entries. -/
def Ents (M : List Nat) (w : World) (ps : List Value) (l : List Ent) : Prop := ps.length = l.length ∧ ∀ (j : Nat) (e : Ent), l[j]? = some e → ∃ p, ps[j]? = some p ∧ EntAt M w p e.t e.i e.d
/-- A slice of pointers to entries. -/
def EntsAt (M : List Nat) (w : World) (v : Value) (l : List Ent) : Prop := ∃ ps, Sl M w v ps ∧ Ents M w ps l

/-- A row of pointers to entries that belongs to its holder alone, from block base on. -/
def OwnEnts (M : List Nat) (w : World) (base : Nat) (v : Value) (l : List Ent) : Prop := ∃ ps, w.ownsRow base 238 1 v l.length ps ∧ Ents (rowL v ++ M) w ps l

section
variable {M L : List Nat} {w w' : World} {v : Value} {ps : List Value} {l : List Ent}
theorem Ents.keep (h : Ents M w ps l) (hs : w.heap.size ≤ w'.heap.size) (hk : ∀ b o, b < w.heap.size → b ∉ M → w'.cell? ⟨b, o, none⟩ = w.cell? ⟨b, o, none⟩) : Ents M w' ps l :=
  ⟨h.1, fun j e he => by obtain ⟨p, hp, hx⟩ := h.2 j e he; exact ⟨p, hp, hx.keep hs hk⟩⟩
theorem Ents.chg (h : Ents M w ps l) (hc : Chg L w w') (hL : ∀ x ∈ L, x ∈ M) : Ents M w' ps l :=
  h.keep hc.size fun b o hb hn => hc.cell (p := ⟨b, o, none⟩) hb (fun hx => hn (hL b hx))
theorem Ents.more {M' : List Nat} (h : Ents M w ps l) (hM : ∀ x ∈ M', x ∈ M ∨ w.heap.size ≤ x) : Ents M' w ps l :=
  ⟨h.1, fun j e he => by obtain ⟨p, hp, hx⟩ := h.2 j e he; exact ⟨p, hp, hx.more hM⟩⟩
theorem Ents.snoc (h : Ents M w ps l) {p : Value} {e : Ent} (hp : EntAt M w p e.t e.i e.d) : Ents M w (ps ++ [p]) (l ++ [e]) := by
  refine ⟨by simp [h.1], fun j x hx => ?_⟩
  rcases Nat.lt_trichotomy j l.length with hj | hj | hj
  · rw [List.getElem?_append_left hj] at hx
    obtain ⟨q, hq, he⟩ := h.2 j x hx
    exact ⟨q, by rw [List.getElem?_append_left (by rw [h.1]; exact hj)]; exact hq, he⟩
  · subst hj
    simp at hx
    subst hx
    exact ⟨p, by rw [← h.1]; simp, hp⟩
  · rw [List.getElem?_eq_none (by simp; omega)] at hx
    cases hx
theorem Ents.app {ps' : List Value} {l' : List Ent} (h : Ents M w ps l) (h' : Ents M w ps' l') : Ents M w (ps ++ ps') (l ++ l') := by
  refine ⟨by simp [h.1, h'.1], fun j e he => ?_⟩
  rcases Nat.lt_or_ge j l.length with hj | hj
  · rw [List.getElem?_append_left hj] at he
    obtain ⟨q, hq, hx⟩ := h.2 j e he
    exact ⟨q, by rw [List.getElem?_append_left (by rw [h.1]; exact hj)]; exact hq, hx⟩
  · rw [List.getElem?_append_right hj] at he
    obtain ⟨q, hq, hx⟩ := h'.2 _ e he
    exact ⟨q, by rw [List.getElem?_append_right (by rw [h.1]; exact hj), h.1]; exact hq, hx⟩
/-- Behind an append onto a row: the list, in the new row's words. -/
theorem Ents.row {rv v' : Value} (h : Ents (rowL rv ++ M) w ps l) (hg : w.grownBy w' rv.ownBlock) (ha : v'.ownBlock = rv.ownBlock ∨ v'.ownBlock = some w.heap.size) : Ents (rowL v' ++ M) w' ps l := by
  have h2 := h.more (M' := rowL v' ++ (rowL rv ++ M)) (fun x hx => by
    rcases List.mem_append.1 hx with h | h
    · rcases rowL_after ha h with h | h
      · exact .inl (List.mem_append_left _ h)
      · exact .inr h
    · exact .inl h)
  exact (h2.chg (chg_row hg) (fun x hx => List.mem_append_right _ (List.mem_append_left _ hx))).more (fun x hx => by
    rcases List.mem_append.1 hx with h | h
    · exact .inl (List.mem_append_left _ h)
    · exact .inl (List.mem_append_right _ (List.mem_append_right _ h)))
theorem EntsAt.keep (h : EntsAt M w v l) (hs : w.heap.size ≤ w'.heap.size) (hk : ∀ b o, b < w.heap.size → b ∉ M → w'.cell? ⟨b, o, none⟩ = w.cell? ⟨b, o, none⟩) : EntsAt M w' v l := by
  obtain ⟨ps, h1, h2⟩ := h
  exact ⟨ps, h1.keep hs hk, h2.keep hs hk⟩
theorem EntsAt.chg (h : EntsAt M w v l) (hc : Chg L w w') (hL : ∀ x ∈ L, x ∈ M) : EntsAt M w' v l :=
  h.keep hc.size fun b o hb hn => hc.cell (p := ⟨b, o, none⟩) hb (fun hx => hn (hL b hx))
end

theorem EntsAt.more {M M' : List Nat} {w : World} {v : Value} {l : List Ent} (h : EntsAt M w v l) (hM : ∀ x ∈ M', x ∈ M ∨ w.heap.size ≤ x) : EntsAt M' w v l := by
  obtain ⟨ps, h1, h2⟩ := h
  exact ⟨ps, h1.more hM, h2.more hM⟩
theorem OwnEnts.at {M : List Nat} {w : World} {base : Nat} {v : Value} {l : List Ent} (h : OwnEnts M w base v l) (hM : ∀ x ∈ M, x < base) : EntsAt M w v l := by
  obtain ⟨ps, h1, h2⟩ := h
  exact ⟨ps, Sl.of_own h1 hM, h2.more (fun x hx => .inl (List.mem_append_right _ hx))⟩
theorem info238 : (Tryz.prog.info? 238).map (fun i => (i.zero, i.size, i.bytes)) = some (some (.pointer none), 1, 8) := by kernel_rfl

set_option maxRecDepth 100000 in
set_option maxHeartbeats 1000000 in
theorem entriesTo_any (M : List Nat) (W w : World) (v : Value) (l : List Ent) (h : LogAt W v l) (hl : l.length ≤ 1000) (hM : ∀ x ∈ M, x < W.heap.size) (hW : Chg [] W w) :
    Calls Tryz.prog 100 #[v] w fun e w' => ∃ A n c, e = .returned (.slice A n c) ∧ EntsAt M w' (.slice A n c) l ∧ Chg [] W w' ∧ Nxt w w' := by
  obtain ⟨i0, hi, hz0, hz1, hz2⟩ := info_parts info238
  obtain ⟨A, n, c, rfl, hn, hnc, hA, hcell⟩ := h
  have hz := hW.size
  go_enter Tryz.func100, Tryz.ntmps100
  go_wp2_with fail
  go_loopw [3, 8] (fun ov iv wr => ∃ (k : Nat) (ps : List Value) (ov' : Value), k ≤ n ∧ iv = .int .i64 k ∧ ov' = ov ∧ wr.ownsRow w.heap.size 238 1 ov' k ps ∧ Ents (rowL ov' ++ M) wr ps (l.take k) ∧ Chg [] w wr) (fun _ iv _ => n - (intOf iv).toNat)
  case atStart => exact ⟨0, [], _, by omega, rfl, rfl, own_nil _ _ _ _, ⟨by simp, by simp⟩, Chg.refl _ _⟩
  case round =>
    obtain ⟨k, ps, ov, hk, rfl, rfl, hown, hps, hcw⟩ := hrel
    by_cases hlt : k < n
    · obtain ⟨e, he⟩ : ∃ e, l[k]? = some e := ⟨l[k], List.getElem?_eq_getElem (by omega)⟩
      rcases A with _ | ⟨b, o, s⟩
      · have := hA rfl
        omega
      obtain ⟨rfl, hb, hcs⟩ := hcell b o s rfl
      obtain ⟨c0, c1, c2, c3⟩ := hcs k e he
      have hcW := hW.trans hcw
      have d0 := hcW.at0 c0
      have d1 := hcW.at0 c1
      have d2 := hcW.at0 c2
      have d3 := hcW.at0 c3
      have hM1 : ∀ x ∈ rowL ov ++ M, x < wr.heap.size := fun x hx => by
        rcases List.mem_append.1 hx with h1 | h1
        · exact (own_lt hown h1).2
        · have := hM x h1; have := hcW.size; omega
      go_wp2_with (first | (go_at_call 155; (with_reducible refine Calls.mono (entryTo_any (rowL ov ++ M) wr _ e.t e.i e.d hM1 ?_) ?_); (focus (first | with_reducible assumption | ((repeat (first | with_reducible exact Chg.refl _ _ | with_reducible assumption | refine Chg.drew ?_ | refine Chg.alloc ?_ _)); done))); rintro e w1 ⟨b1, rfl, he1, hc1, hn1⟩; obtain ⟨qc1, qf1, qz1⟩ := hn1.rules; (try simp at qz1)) | (at_builtin; refine wpList_append_sl _ [] rfl _ _ 180 rfl w.heap.size 238 i0 (.pointer none) 8 Tryz.underlying180 hi hz0 hz1 hz2 rfl _ k ps rfl ?c0 _ [.pointer (some ⟨b1, 0, none⟩)] rfl (Sl.new1 _ _ _) ?c1 ?c2 ?c3 ?c4 ?_))
      case c0 => exact own_chg0 (own_chg0 hown hc1) ((Chg.refl _ _).alloc _)
      case c1 => simp [Value.oneCell']
      case c2 => simp only [List.length_singleton, maxLen]; omega
      case c3 => simp only [List.length_singleton]; omega
      case c4 => have := hcw.size; simp; omega
      intro v' w2 hown2 hg2 hat2
      have hc2 : Chg [] w w2 := chg_row0 ((hcw.trans hc1).alloc _) hg2 (fun g hg => (own_lt hown hg).1)
      have hE : Ents (rowL v' ++ M) w2 (ps ++ [.pointer (some ⟨b1, 0, none⟩)]) (l.take (k + 1)) := by
        rw [List.take_add_one, he]
        have h1 := Ents.snoc (hps.chg (hc1.alloc _) (by simp)) (he1.chg ((Chg.refl [] w1).alloc (.cells #[.pointer (some ⟨b1, 0, none⟩)] 238)) (by simp))
        have h2 := h1.more (M' := rowL v' ++ (rowL ov ++ M)) (fun x hx => by
          rcases List.mem_append.1 hx with h | h
          · rcases rowL_after hat2 h with h | h
            · exact .inl (List.mem_append_left _ h)
            · exact .inr (by simp; omega)
          · exact .inl h)
        exact (h2.chg (chg_row hg2) (fun x hx => List.mem_append_right _ (List.mem_append_left _ hx))).more (fun x hx => by
          rcases List.mem_append.1 hx with h | h
          · exact .inl (List.mem_append_left _ h)
          · exact .inl (List.mem_append_right _ (List.mem_append_right _ h)))
      have HE := Lib.hid hE
      clear hE
      go_wp2
      go_roundw
      case rel => exact ⟨k + 1, _, _, by omega, by go_num, rfl, hown2, HE.out, hc2⟩
      case measure => simp [intOf]; omega
    · go_wp2
      go_ret
      have hkn : k = n := by omega
      subst hkn
      rw [List.take_of_length_le (by omega)] at hps
      have hs : Sl M wr ov ps := Sl.of_own hown (fun x hx => by have := hM x hx; omega)
      obtain ⟨A', n', c', rfl, _⟩ := id hs
      exact ⟨A', n', c', rfl, ⟨ps, hs, hps.more (fun x hx => .inl (List.mem_append_right _ hx))⟩, hW.trans hcw, ⟨hcw⟩⟩
end Go.Proofs.YtalhhplphlobbaaGreat
namespace Go.Proofs.YtalhhplphlobbaaGreat
open Go.RowKit

/-- A configuration as plain data. -/
structure Cf where
  vs : List Int
  ls : List Int
  os : List Int
  ns : List Int
  al : Bool
abbrev CfAt (M : List Nat) (w : World) (v : Value) (c : Cf) : Prop := ConfAt M w v c.vs c.ls c.os c.ns c.al
/-- A pb.SnapshotMetadata that is set whole. -/
def MetaAt (M : List Nat) (w : World) (v : Value) (i t : Int) (c : Cf) : Prop :=
  ∃ b pc p1 p2, v = .pointer (some ⟨b, 0, none⟩) ∧ b ∉ M ∧ b < w.heap.size ∧ w.cell? ⟨b, 0, none⟩ = some pc ∧ w.cell? ⟨b, 1, none⟩ = some p1 ∧ w.cell? ⟨b, 2, none⟩ = some p2 ∧
    CfAt M w pc c ∧ Ptr1 M w p1 (.int .u64 i) ∧ Ptr1 M w p2 (.int .u64 t)
/-- A pb.Snapshot. -/
def SnapAt (M : List Nat) (w : World) (v : Value) (d : ByteArray) (i t : Int) (c : Cf) : Prop :=
  ∃ b sd pm, v = .pointer (some ⟨b, 0, none⟩) ∧ b ∉ M ∧ b < w.heap.size ∧ w.cell? ⟨b, 0, none⟩ = some sd ∧ w.cell? ⟨b, 1, none⟩ = some pm ∧ Sl M w sd (Bs d) ∧ MetaAt M w pm i t c
section
variable {M L : List Nat} {w w' : World} {v : Value} {d : ByteArray} {i t : Int} {c : Cf}
theorem MetaAt.keep (h : MetaAt M w v i t c) (hs : w.heap.size ≤ w'.heap.size) (hk : ∀ b o, b < w.heap.size → b ∉ M → w'.cell? ⟨b, o, none⟩ = w.cell? ⟨b, o, none⟩) : MetaAt M w' v i t c := by
  obtain ⟨b, pc, p1, p2, rfl, hb, hl, c1, c2, c3, h1, h2, h3⟩ := h
  exact ⟨b, pc, p1, p2, rfl, hb, Nat.lt_of_lt_of_le hl hs, (hk b 0 hl hb).trans c1, (hk b 1 hl hb).trans c2, (hk b 2 hl hb).trans c3, h1.keep hs hk, h2.keep hs hk, h3.keep hs hk⟩
theorem MetaAt.chg (h : MetaAt M w v i t c) (hc : Chg L w w') (hL : ∀ x ∈ L, x ∈ M) : MetaAt M w' v i t c :=
  h.keep hc.size fun b o hb hn => hc.cell (p := ⟨b, o, none⟩) hb (fun hx => hn (hL b hx))
theorem SnapAt.keep (h : SnapAt M w v d i t c) (hs : w.heap.size ≤ w'.heap.size) (hk : ∀ b o, b < w.heap.size → b ∉ M → w'.cell? ⟨b, o, none⟩ = w.cell? ⟨b, o, none⟩) : SnapAt M w' v d i t c := by
  obtain ⟨b, sd, pm, rfl, hb, hl, c1, c2, h1, h2⟩ := h
  exact ⟨b, sd, pm, rfl, hb, Nat.lt_of_lt_of_le hl hs, (hk b 0 hl hb).trans c1, (hk b 1 hl hb).trans c2, h1.keep hs hk, h2.keep hs hk⟩
theorem SnapAt.form (h : SnapAt M w v d i t c) : ∃ b, v = .pointer (some ⟨b, 0, none⟩) := by
  obtain ⟨b, _, _, hv, _⟩ := h
  exact ⟨b, hv⟩
theorem SnapAt.chg (h : SnapAt M w v d i t c) (hc : Chg L w w') (hL : ∀ x ∈ L, x ∈ M) : SnapAt M w' v d i t c :=
  h.keep hc.size fun b o hb hn => hc.cell (p := ⟨b, o, none⟩) hb (fun hx => hn (hL b hx))
end
/-- confTo in this seat's usual form. -/
theorem confTo_from (M : List Nat) (W w : World) (s1 s2 s3 s4 : Value) (c : Cf) (h1 : Sl M W s1 (U64s c.vs)) (h2 : Sl M W s2 (U64s c.ls)) (h3 : Sl M W s3 (U64s c.os)) (h4 : Sl M W s4 (U64s c.ns))
    (hM : ∀ x ∈ M, x < W.heap.size) (l1 : c.vs.length ≤ 1000000000) (l2 : c.ls.length ≤ 1000000000) (l3 : c.os.length ≤ 1000000000) (l4 : c.ns.length ≤ 1000000000) (hW : Chg [] W w) :
    Calls Tryz.prog 103 #[.agg #[s1, s2, s3, s4, .bool c.al]] w fun e w' => ∃ b, e = .returned (.pointer (some ⟨b, 0, none⟩)) ∧ CfAt M w' (.pointer (some ⟨b, 0, none⟩)) c ∧ Chg [] W w' ∧ Nxt w w' := by
  refine (confTo_any M w s1 s2 s3 s4 c.vs c.ls c.os c.ns c.al (h1.chg0 hW) (h2.chg0 hW) (h3.chg0 hW) (h4.chg0 hW) (fun x hx => Nat.lt_of_lt_of_le (hM x hx) hW.size) l1 l2 l3 l4).mono ?_
  rintro e w' ⟨v', he, hc, hk⟩
  obtain ⟨b, _, _, _, _, _, rfl, _⟩ := id hc
  exact ⟨b, he, hc, hW.trans hk, ⟨hk⟩⟩

set_option maxRecDepth 100000 in
set_option maxHeartbeats 2000000 in
theorem snapTo_any (M : List Nat) (W w : World) (d : ByteArray) (i t : Int) (s1 s2 s3 s4 : Value) (c : Cf) (h1 : Sl M W s1 (U64s c.vs)) (h2 : Sl M W s2 (U64s c.ls)) (h3 : Sl M W s3 (U64s c.os)) (h4 : Sl M W s4 (U64s c.ns))
    (hM : ∀ x ∈ M, x < W.heap.size) (l1 : c.vs.length ≤ 1000000000) (l2 : c.ls.length ≤ 1000000000) (l3 : c.os.length ≤ 1000000000) (l4 : c.ns.length ≤ 1000000000) (hW : Chg [] W w) :
    Calls Tryz.prog 98 #[.agg #[.string d, .int .u64 i, .int .u64 t, s1, s2, s3, s4, .bool c.al]] w fun e w' => ∃ b, e = .returned (.pointer (some ⟨b, 0, none⟩)) ∧ SnapAt M w' (.pointer (some ⟨b, 0, none⟩)) d i t c ∧ Chg [] W w' ∧ Nxt w w' := by
  have hz := hW.size
  obtain ⟨A1, n1, c1, rfl⟩ := h1.form
  obtain ⟨A2, n2, c2, rfl⟩ := h2.form
  obtain ⟨A3, n3, c3, rfl⟩ := h3.form
  obtain ⟨A4, n4, c4, rfl⟩ := h4.form
  go_enter Tryz.func98, Tryz.ntmps98
  go_wp2_with fail
  go_region_held3 (fun wx => wx.cell? ⟨w.heap.size, 0, none⟩ = some (.string d) ∧ wx.cell? ⟨w.heap.size, 1, none⟩ = some (.int .u64 i) ∧ wx.cell? ⟨w.heap.size, 2, none⟩ = some (.int .u64 t) ∧ wx.cell? ⟨w.heap.size, 3, none⟩ = some (.slice A1 n1 c1) ∧ wx.cell? ⟨w.heap.size, 4, none⟩ = some (.slice A2 n2 c2) ∧ wx.cell? ⟨w.heap.size, 5, none⟩ = some (.slice A3 n3 c3) ∧ wx.cell? ⟨w.heap.size, 6, none⟩ = some (.slice A4 n4 c4) ∧ wx.cell? ⟨w.heap.size, 7, none⟩ = some (.bool c.al) ∧ Chg [] W wx)
    (first | ((repeat' apply And.intro) <;> (first | with_reducible assumption | (simp; done) | ((repeat (refine cell_alloc ?_ _)); (first | with_reducible assumption | (refine Chg.at0 (Nxt.out (by assumption)) ?_; first | with_reducible assumption | (simp; done) | (simp [*]; done)) | (refine Chg.at0 (by assumption) ?_; first | with_reducible assumption | (simp; done) | (simp [*]; done)) | (simp [*]; done))) | ((repeat (first | with_reducible exact Chg.refl _ _ | with_reducible assumption | refine Chg.drew ?_ | refine Chg.alloc ?_ _)); done))))
    (first | (go_at_call 124; (with_reducible refine Calls.mono (bytesOf_any M W _ d hM ?_) ?_); (focus (first | with_reducible assumption | ((repeat (first | with_reducible exact Chg.refl _ _ | with_reducible assumption | refine Chg.drew ?_ | refine Chg.alloc ?_ _)); done))); rintro e w1 ⟨A, n, cc, rfl, hs1, hc1, hn1⟩; obtain ⟨qc1, qf1, qz1⟩ := hn1.rules; (try simp at qz1)) | (go_at_call 103; (with_reducible refine Calls.mono (confTo_from M W _ (.slice A1 n1 c1) (.slice A2 n2 c2) (.slice A3 n3 c3) (.slice A4 n4 c4) c h1 h2 h3 h4 hM l1 l2 l3 l4 ?_) ?_); (focus (first | with_reducible assumption | ((repeat (first | with_reducible exact Chg.refl _ _ | with_reducible assumption | refine Chg.drew ?_ | refine Chg.alloc ?_ _)); done))); rintro e w2 ⟨b2, rfl, hs2, hc2, hn2⟩; obtain ⟨qc2, qf2, qz2⟩ := hn2.rules; (try simp at qz2)))
  go_wp2
  go_ret
  have hf : ∀ o1 o2 o3 o4, Chg [] w2 ((((w2.alloc o1).alloc o2).alloc o3).alloc o4) := fun o1 o2 o3 o4 => ((((Chg.refl _ _).alloc _).alloc _).alloc _).alloc _
  have h5 : ∀ x ∈ M, x < w2.heap.size := fun x hx => Nat.lt_of_lt_of_le (hM x hx) hc2.size
  refine ⟨w2.heap.size + 3, rfl, ⟨w2.heap.size + 3, .slice A n cc, .pointer (some ⟨w2.heap.size + 2, 0, none⟩), rfl, fun hm => ?_, by go_size, by go_cell, by go_cell, (hs1.chg0 hn2.out).chg0 (hf _ _ _ _),
    ⟨w2.heap.size + 2, .pointer (some ⟨b2, 0, none⟩), .pointer (some ⟨w2.heap.size, 0, none⟩), .pointer (some ⟨w2.heap.size + 1, 0, none⟩), rfl, fun hm => ?_, by go_size, by go_cell, by go_cell, by go_cell, hs2.chg0 (hf _ _ _ _),
      ⟨w2.heap.size, 0, rfl, fun hm => ?_, by go_size, by go_cell⟩, ⟨w2.heap.size + 1, 0, rfl, fun hm => ?_, by go_size, by go_cell⟩⟩⟩, ?_, ⟨?_⟩⟩
  case _ => have := h5 _ hm; omega
  case _ => have := h5 _ hm; omega
  case _ => have := h5 _ hm; omega
  case _ => have := h5 _ hm; omega
  case _ => (focus (first | with_reducible assumption | ((repeat (first | with_reducible exact Chg.refl _ _ | with_reducible assumption | refine Chg.drew ?_ | refine Chg.alloc ?_ _)); done)))
  case _ => exact (((((Chg.refl _ _).alloc _).drew).trans hn1.out).trans hn2.out).trans (hf _ _ _ _)

/-- make and copy: the law of raftpb.zzNumbers, zzBytes. -/
theorem sl_of_blk {M : List Nat} {w : World} {g : Nat} {cur : List Value} {t : TypeId} (hg : w.heap[g]? = some (.cells cur.toArray t (0, 0))) (hM : g ∉ M) : Sl M w (.slice (some ⟨g, 0, none⟩) cur.length cur.length) cur := by
  refine ⟨_, _, _, rfl, rfl, Nat.le_refl _, by simp, fun b o s h => ?_⟩
  simp only [Option.some.injEq, Addr.mk.injEq] at h
  obtain ⟨rfl, rfl, rfl⟩ := h
  refine ⟨rfl, hM, ?_, fun j u hu => ?_⟩
  · rcases Nat.lt_or_ge g w.heap.size with hlt | hge
    · exact hlt
    · rw [Array.getElem?_eq_none hge] at hg; cases hg
  · rw [Nat.zero_add, cell_of_row w g j _ _ _ hg]
    simpa using hu

set_option maxRecDepth 100000 in
set_option maxHeartbeats 1000000 in
theorem zzNumbers_any (M : List Nat) (W w : World) (v : Value) (l : List Int) (h : Sl M W v (U64s l)) (hM : ∀ x ∈ M, x < W.heap.size) (hl : l.length ≤ 1000000000) (hW : Chg [] W w) :
    Calls Tryz.prog 256 #[v] w fun e w' => ∃ A n c, e = .returned (.slice A n c) ∧ Sl M w' (.slice A n c) (U64s l) ∧ Chg [] W w' ∧ Nxt w w' := by
  obtain ⟨i0, hi, hz0, hz1, hz2⟩ := info_parts info22
  obtain ⟨A, n, c, rfl, hn, hnc, hA, hcell⟩ := h
  have hz := hW.size
  rcases A with _ | ⟨b, o, s⟩
  · have := hA rfl
    subst this
    have : n = 0 := by omega
    subst this
    have hl0 : U64s l = [] := List.eq_nil_of_length_eq_zero hn
    have HL := Lib.hid hl0
    clear hl0 hcell
    have h1 := fun wx => Lib.run_eql_slice_nil (P := Tryz.prog) wx 24 22 none 0 0 0 0 Tryz.underlying24
    go_enter Tryz.func256, Tryz.ntmps256
    go_wp2
    go_ret
    rw [HL.out]
    exact ⟨_, _, _, rfl, Sl.nil _ _, hW, ⟨Chg.refl _ _⟩⟩
  · obtain ⟨rfl, hbM, hb, hcs⟩ := hcell b o s rfl
    have hlen : (U64s l).length = l.length := by simp [U64s]
    have h1 := fun wx => Lib.run_eql_slice_nil (P := Tryz.prog) wx 24 22 (some ⟨b, o, none⟩) n c 0 0 Tryz.underlying24
    have hmk := fun wx => run_make (P := Tryz.prog) wx 24 22 i0 (.int .u64 0) Tryz.underlying24 hi hz0 .i64 .i64 (n : Int) (n : Int) (by omega) (by omega) (by rw [hz2]; omega) (by omega)
    go_enter Tryz.func256, Tryz.ntmps256
    go_wp2_with (with_reducible refine wpList_copy_splice rfl (.tmp 9) (.tmp 10) 24 24 rfl 22 Tryz.underlying24 ?sz (some ⟨w.heap.size, 0, none⟩) (some ⟨b, o, none⟩) n n n c rfl rfl w.heap.size 0 (madeCells #[.int .u64 0] n).toList 22 ?hg (U64s l) ?hn ?hpos ?hfit ?h1 w.heap.size w ?hb (Nat.le_refl _) ?_)
    case sz => rw [hi]; simp [hz1]
    case hg => rw [Array.toArray_toList]; exact heap_alloc_new w _
    case hn => rw [hn]; exact (Nat.min_self n).symm
    case hpos => exact fun _ j u hu => cell_alloc (hW.at0 (hcs j u hu)) _
    case hfit => rw [hn]; simp [madeCells]
    case h1 => intro u hu; simp only [U64s, List.mem_map] at hu; obtain ⟨a, _, rfl⟩ := hu; rfl
    case hb => exact (Below.refl _ _).alloc (Nat.le_refl _) _
    intro w1 hg1 hb1
    go_wp2
    go_ret
    have hsp : splice (madeCells #[.int .u64 0] n).toList 0 (U64s l) = U64s l := by
      unfold splice
      rw [List.take_zero, List.nil_append, List.drop_of_length_le (by simp [madeCells]; omega), List.append_nil]
    have hg2 := hg1.out
    rw [hsp] at hg2
    have hs := sl_of_blk (M := M) hg2 (fun hm => by have := hM _ hm; omega)
    rw [hn] at hs
    have hc : Chg [] w w1 := Chg.of_below hb1
    exact ⟨_, _, _, rfl, hs, hW.trans hc, ⟨hc⟩⟩
end Go.Proofs.YtalhhplphlobbaaGreat
