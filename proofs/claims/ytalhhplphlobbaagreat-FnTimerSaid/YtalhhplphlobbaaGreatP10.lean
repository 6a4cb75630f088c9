/- A new learner's progress. Conditions: sizes. One more learner's progress. Conditions: sizes. A member is added: initProgress, makeVoter, makeLearner over a tracker. Conditions: sizes. makeVoter, makeLearner. Conditions: sizes. -/
import Derived.Test.YtalhhplphlobbaaGreatP07
import Derived.Test.YtalhhplphlobbaaGreatP08
set_option linter.unusedVariables false
set_option linter.unusedSimpArgs false
namespace Go.Proofs.YtalhhplphlobbaaGreat
open Go.RowKit
set_option maxRecDepth 100000 in
set_option maxHeartbeats 1000000 in
theorem initPrg_learner_none {w : World} {c bp : Nat} {r0 r1 r3 : Option Nat} {al : Bool} {q0 q1 : Option Nat} {qa : Bool} {q2 q3 : Value} {p5 p6 : Value} {mi mb li k : Int} {D : DataW Value}
    (hB : Blk w c 286 #[.map r0, .map r1, .bool al, .map none, .map r3]) (hm : MapAt w bp D) (hl : Maps.size D ≤ 1000) (hk : 0 ≤ k ∧ k < 2 ^ 64) (hne : c ≠ bp) :
    Calls Tryz.prog 435 #[.agg #[.map q0, .map q1, .bool qa, q2, q3, p5, p6, .int .i64 mi, .int .u64 mb, .int .u64 li], .pointer (some ⟨c, 0, none⟩), .map (some bp), .int .u64 k, .bool true] w fun y w' =>
      y = .returned (.tuple #[]) ∧ ∃ bl Dl D' bi b, w.heap.size ≤ bl ∧ Blk w' c 286 #[.map r0, .map r1, .bool al, .map (some bl), .map r3] ∧ MapAt w' bl Dl ∧ IsSet Dl [k] ∧ w.heap.size ≤ bi ∧ w.heap.size ≤ b ∧ bi ≠ b ∧ D' = D.put (.int .u64 k) (.held (.pointer (some ⟨b, 0, none⟩))) ∧ MapAt w' bp D' ∧
        Blk w' b 461 #[.int .u64 0, .int .u64 (max li 1), .int .u64 0, .int .u64 0, .int .u64 0, .bool true, .bool false, .pointer (some ⟨bi, 0, none⟩), .bool true] ∧ Chg [c, bp] w w' := by
  have hlt := hB.lt
  have hlbp := hm.lt
  go_enter Tryz.func435, Tryz.ntmps435
  have hch : ∀ o1, Chg [] w (w.alloc o1) := fun o1 => (Chg.refl [] w).alloc _
  go_wp2_with (first | (go_at_call 366; (with_reducible refine Calls.mono (nilAdd_none (o := 3) (hB.alloc _) rfl hk) ?_); rintro e w3 ⟨rfl, bl, Dl, hbl, hB3, hml, hsl, hc3⟩) | go_in)
  have hs4 : w.heap.size + 1 ≤ w3.heap.size := by simpa using hc3.size
  have hbl2 : w.heap.size + 1 ≤ bl := by simpa using hbl
  have hbl3 := hml.lt
  have hB5 := (Blk.new w 414 #[.map q0, .map q1, .bool qa, q2, q3, p5, p6, .int .i64 mi, .int .u64 mb, .int .u64 li]).chg hc3 (by simp; omega)
  have d7 := hB5.cell 7
  have d8 := hB5.cell 8
  have d9 := hB5.cell 9
  simp at d7 d8 d9
  have hm3 : MapAt w3 bp D := (hm.chg (hch _) (by simp)).chg hc3 (by simp; omega)
  have hcw : Chg [c] w w3 := ((hch _).mono (by simp)).trans hc3
  clear hc3 hB5 hbl
  have hmb : w.heap.size ≠ bp := by omega
  by_cases hli : li < 1
  all_goals
    go_region_held3 (fun wx => wx.cell? ⟨w.heap.size, 7, none⟩ = some (.int .i64 mi) ∧ wx.cell? ⟨w.heap.size, 8, none⟩ = some (.int .u64 mb) ∧ wx.cell? ⟨w.heap.size, 9, none⟩ = some (.int .u64 li) ∧ Chg [bp] w3 wx)
      ((repeat' apply And.intro) <;> (first | with_reducible assumption | (refine Chg.at_ hc4 ?_ (by simp; omega); ((repeat (refine cell_alloc ?_ _)); (first | with_reducible assumption | (refine Chg.at0 (Nxt.out (by with_reducible assumption)) ?_; (first | with_reducible assumption | (simp; done) | (simp [*]; done))) | (simp [*]; done)))) | (refine Chg.trans ?_ hc4; ((repeat (first | with_reducible exact Chg.refl _ _ | with_reducible assumption | refine Chg.drew ?_ | refine Chg.drewN ?_ _ | refine Chg.alloc ?_ _ | refine Chg.nxt ?_ (by with_reducible assumption))); done)) | ((repeat (refine cell_alloc ?_ _)); (first | with_reducible assumption | (refine Chg.at0 (Nxt.out (by with_reducible assumption)) ?_; (first | with_reducible assumption | (simp; done) | (simp [*]; done))) | (simp [*]; done))) | ((repeat (first | with_reducible exact Chg.refl _ _ | with_reducible assumption | refine Chg.drew ?_ | refine Chg.drewN ?_ _ | refine Chg.alloc ?_ _ | refine Chg.nxt ?_ (by with_reducible assumption))); done)))
      (first | (refine upon_store Tryz.underlying288 (b := bp) (hm3.chg (L := []) (by (repeat (first | with_reducible exact Chg.refl _ _ | with_reducible assumption | refine Chg.alloc ?_ _ | refine Chg.drew ?_ | refine Chg.nxt ?_ (by with_reducible assumption)))) (by simp)) (by simp only [maxLen]; omega) hk ?_; intro w4 hti4 hsz4 hc4 hs4) | (go_at_call 344; (with_reducible refine Calls.mono (newInfl_nxt _ _ _) ?_); rintro e w5 ⟨b5, rfl, hb5, hb6, hn5⟩))
    all_goals
      have hz5 := hn5.out.size
      have hz6 : w3.drew.heap.size = w3.heap.size := rfl
      have hch5 : Chg [bp] w3 w4 := ((((Chg.refl [bp] w3).drew).nxt hn5).alloc _).trans hc4
      go_end0
      refine ⟨rfl, bl, Dl, _, b5, w5.heap.size, by omega, hB3.chg hch5 (by simp [hne]), hml.chg hch5 (by simp; omega), hsl, by omega, by omega, by omega, rfl, hti4, ?_, ?_⟩
      · have hmx : max li 1 = 1 ∨ max li 1 = li := by omega
        first
          | (have hmx : max li 1 = 1 := by omega
             rw [hmx]
             exact (Blk.new w5 461 _).chg hc4 (by simp; omega))
          | (have hmx : max li 1 = li := by omega
             have hb := (Blk.new w5 461 _).chg hc4 (by simp; omega)
             try rw [if_neg (show ¬ li < 1 by omega)] at hb
             rw [hmx]
             exact hb)
      · exact (hcw.mono (by simp)).trans (hch5.mono (by simp))
end Go.Proofs.YtalhhplphlobbaaGreat
namespace Go.Proofs.YtalhhplphlobbaaGreat
open Go.RowKit
set_option maxRecDepth 100000 in
set_option maxHeartbeats 1000000 in
theorem initPrg_learner_some {w : World} {c bp bl : Nat} {Sl : List Int} {D1 : DataW Value} {r0 r1 r3 : Option Nat} {al : Bool} {q0 q1 : Option Nat} {qa : Bool} {q2 q3 : Value} {p5 p6 : Value} {mi mb li k : Int} {D : DataW Value}
    (hB : Blk w c 286 #[.map r0, .map r1, .bool al, .map (some bl), .map r3]) (hml1 : MapAt w bl D1) (hsl1 : IsSet D1 Sl) (hll : Sl.length ≤ 1000) (hbp : bl ≠ bp) (hbc : bl ≠ c) (hm : MapAt w bp D) (hl : Maps.size D ≤ 1000) (hk : 0 ≤ k ∧ k < 2 ^ 64) (hne : c ≠ bp) :
    Calls Tryz.prog 435 #[.agg #[.map q0, .map q1, .bool qa, q2, q3, p5, p6, .int .i64 mi, .int .u64 mb, .int .u64 li], .pointer (some ⟨c, 0, none⟩), .map (some bp), .int .u64 k, .bool true] w fun y w' =>
      y = .returned (.tuple #[]) ∧ ∃ Dl D' bi b, Blk w' c 286 #[.map r0, .map r1, .bool al, .map (some bl), .map r3] ∧ MapAt w' bl Dl ∧ IsSet Dl (Sl ++ [k]) ∧ w.heap.size ≤ bi ∧ w.heap.size ≤ b ∧ bi ≠ b ∧ D' = D.put (.int .u64 k) (.held (.pointer (some ⟨b, 0, none⟩))) ∧ MapAt w' bp D' ∧
        Blk w' b 461 #[.int .u64 0, .int .u64 (max li 1), .int .u64 0, .int .u64 0, .int .u64 0, .bool true, .bool false, .pointer (some ⟨bi, 0, none⟩), .bool true] ∧ Chg [bl, bp] w w' := by
  have hlt := hB.lt
  have hlbp := hm.lt
  go_enter Tryz.func435, Tryz.ntmps435
  have hch : ∀ o1, Chg [] w (w.alloc o1) := fun o1 => (Chg.refl [] w).alloc _
  go_wp2_with (first | (go_at_call 366; (with_reducible refine Calls.mono (nilAdd_some (o := 3) (hB.alloc _) rfl (hml1.chg (hch _) (by simp)) hsl1 hll hk) ?_); rintro e w3 ⟨rfl, Dl, hml, hsl, hc3⟩) | go_in)
  have hs4 : w.heap.size + 1 ≤ w3.heap.size := by simpa using hc3.size
  have hbl1 := hml1.lt
  have hB3 := (hB.alloc (.cells #[.map q0, .map q1, .bool qa, q2, q3, p5, p6, .int .i64 mi, .int .u64 mb, .int .u64 li] 414)).chg hc3 (by simp; omega)
  have hbl3 := hml.lt
  have hB5 := (Blk.new w 414 #[.map q0, .map q1, .bool qa, q2, q3, p5, p6, .int .i64 mi, .int .u64 mb, .int .u64 li]).chg hc3 (by simp; omega)
  have d7 := hB5.cell 7
  have d8 := hB5.cell 8
  have d9 := hB5.cell 9
  simp at d7 d8 d9
  have hm3 : MapAt w3 bp D := (hm.chg (hch _) (by simp)).chg hc3 (by simp; omega)
  have hcw : Chg [bl] w w3 := ((hch _).mono (by simp)).trans hc3
  clear hc3 hB5
  have hmb : w.heap.size ≠ bp := by omega
  by_cases hli : li < 1
  all_goals
    go_region_held3 (fun wx => wx.cell? ⟨w.heap.size, 7, none⟩ = some (.int .i64 mi) ∧ wx.cell? ⟨w.heap.size, 8, none⟩ = some (.int .u64 mb) ∧ wx.cell? ⟨w.heap.size, 9, none⟩ = some (.int .u64 li) ∧ Chg [bp] w3 wx)
      ((repeat' apply And.intro) <;> (first | with_reducible assumption | (refine Chg.at_ hc4 ?_ (by simp; omega); ((repeat (refine cell_alloc ?_ _)); (first | with_reducible assumption | (refine Chg.at0 (Nxt.out (by with_reducible assumption)) ?_; (first | with_reducible assumption | (simp; done) | (simp [*]; done))) | (simp [*]; done)))) | (refine Chg.trans ?_ hc4; ((repeat (first | with_reducible exact Chg.refl _ _ | with_reducible assumption | refine Chg.drew ?_ | refine Chg.drewN ?_ _ | refine Chg.alloc ?_ _ | refine Chg.nxt ?_ (by with_reducible assumption))); done)) | ((repeat (refine cell_alloc ?_ _)); (first | with_reducible assumption | (refine Chg.at0 (Nxt.out (by with_reducible assumption)) ?_; (first | with_reducible assumption | (simp; done) | (simp [*]; done))) | (simp [*]; done))) | ((repeat (first | with_reducible exact Chg.refl _ _ | with_reducible assumption | refine Chg.drew ?_ | refine Chg.drewN ?_ _ | refine Chg.alloc ?_ _ | refine Chg.nxt ?_ (by with_reducible assumption))); done)))
      (first | (refine upon_store Tryz.underlying288 (b := bp) (hm3.chg (L := []) (by (repeat (first | with_reducible exact Chg.refl _ _ | with_reducible assumption | refine Chg.alloc ?_ _ | refine Chg.drew ?_ | refine Chg.nxt ?_ (by with_reducible assumption)))) (by simp)) (by simp only [maxLen]; omega) hk ?_; intro w4 hti4 hsz4 hc4 hs4) | (go_at_call 344; (with_reducible refine Calls.mono (newInfl_nxt _ _ _) ?_); rintro e w5 ⟨b5, rfl, hb5, hb6, hn5⟩))
    all_goals
      have hz5 := hn5.out.size
      have hz6 : w3.drew.heap.size = w3.heap.size := rfl
      have hch5 : Chg [bp] w3 w4 := ((((Chg.refl [bp] w3).drew).nxt hn5).alloc _).trans hc4
      go_end0
      refine ⟨rfl, Dl, _, b5, w5.heap.size, hB3.chg hch5 (by simp [hne]), hml.chg hch5 (by simp; omega), hsl, by omega, by omega, by omega, rfl, hti4, ?_, ?_⟩
      · have hmx : max li 1 = 1 ∨ max li 1 = li := by omega
        first
          | (have hmx : max li 1 = 1 := by omega
             rw [hmx]
             exact (Blk.new w5 461 _).chg hc4 (by simp; omega))
          | (have hmx : max li 1 = li := by omega
             have hb := (Blk.new w5 461 _).chg hc4 (by simp; omega)
             try rw [if_neg (show ¬ li < 1 by omega)] at hb
             rw [hmx]
             exact hb)
      · exact (hcw.mono (by simp)).trans (hch5.mono (by simp))
end Go.Proofs.YtalhhplphlobbaaGreat
namespace Go.Proofs.YtalhhplphlobbaaGreat
open Go.RowKit
/-- The progress of members lies in blocks from lo on. -/
def Fr (lo : Nat) (f : Int → Option PrS) (p : Int → Nat) : Prop := ∀ k s, f k = some s → lo ≤ p k
def FrM (hi : Nat) (f : Int → Option PrS) (p : Int → Nat) (f' : Int → Option PrS) (p' : Int → Nat) : Prop := ∀ lo, lo ≤ hi → Fr lo f p → Fr lo f' p'
theorem FrM.put {hi b : Nat} {f : Int → Option PrS} {p : Int → Nat} {k : Int} {s : PrS} (h : hi ≤ b) : FrM hi f p (fun j => if j = k then some s else f j) (fun j => if j = k then b else p j) := by
  intro lo hlo hf j s' hs
  by_cases e : j = k
  · simp only [e, if_true]
    exact Nat.le_trans hlo h
  · simp only [e, if_false] at hs ⊢
    exact hf j s' hs
theorem FrM.le {hi hi' : Nat} {f f' : Int → Option PrS} {p p' : Int → Nat} (h : FrM hi f p f' p') (hh : hi' ≤ hi) : FrM hi' f p f' p' := fun lo hlo hf => h lo (Nat.le_trans hlo hh) hf
/-- One more member in a progress map. -/
theorem PrgAt.put {w w' : World} {bp b : Nat} {f : Int → Option PrS} {p : Int → Nat} {D : DataW Value} {M : List Nat} {k : Int} {s : PrS} (h : PrgAt w bp f p) (hD : MapAt w bp D) (hg : ∀ k, mget D k = (f k).map fun _ => .pointer (some ⟨p k, 0, none⟩))
    (hm : MapAt w' bp (D.put (.int .u64 k) (.held (.pointer (some ⟨b, 0, none⟩))))) (hb : Blk w' b 461 s.cells) (hbn : w.heap.size ≤ b) (hc : Chg M w w') (hM : ∀ k s, f k = some s → p k ∉ M) :
    PrgAt w' bp (fun j => if j = k then some s else f j) (fun j => if j = k then b else p j) := by
  refine ⟨⟨_, hm, fun j => ?_⟩, fun j s' hs' => ?_, fun j j' s1 s2 h1 h2 he => ?_⟩
  · rw [mget_put hD.isMap, hg j]
    by_cases e : j = k <;> simp [e]
  · by_cases e : j = k
    · subst e
      simp only [if_true] at hs' ⊢
      cases hs'
      exact hb
    · simp only [e, if_false] at hs' ⊢
      exact (h.blk j s' hs').chg hc (hM j s' hs')
  · by_cases e : j = k <;> by_cases e' : j' = k
    · rw [e, e']
    · simp only [e, e', if_true, if_false] at h2 he
      have := (h.blk j' s2 h2).lt
      omega
    · simp only [e, e', if_true, if_false] at h1 he
      have := (h.blk j s1 h1).lt
      omega
    · simp only [e, e', if_false] at h1 h2 he
      exact h.inj j j' s1 s2 h1 h2 he
/-- A progress' block is none of the maps'. -/
theorem TrkAt.apart {w : World} {r0 r2 : Option Nat} {bp : Nat} {V L : List Int} {f : Int → Option PrS} {p : Int → Nat} (h : TrkAt w r0 r2 bp V L f p) {k : Int} {s : PrS} (hs : f k = some s) : p k ≠ bp ∧ (∀ b, r0 = some b → p k ≠ b) ∧ (∀ b, r2 = some b → p k ≠ b) := by
  have hb := h.prg.blk k s hs
  refine ⟨?_, ?_, ?_⟩
  · obtain ⟨D, hD, _⟩ := h.prg.map
    exact Ne.symm (hD.ne_blk hb)
  · rintro b rfl
    obtain ⟨_, ⟨e, _⟩ | ⟨b', D, e, hm, _⟩⟩ := h.sv
    · cases e
    · cases e
      exact Ne.symm (hm.ne_blk hb)
  · rintro b rfl
    obtain ⟨_, ⟨e, _⟩ | ⟨b', D, e, hm, _⟩⟩ := h.sl
    · cases e
    · cases e
      exact Ne.symm (hm.ne_blk hb)
theorem TrkAt.none_ {w : World} {r0 r2 : Option Nat} {bp : Nat} {V L : List Int} {f : Int → Option PrS} {p : Int → Nat} (h : TrkAt w r0 r2 bp V L f p) {k : Int} (hv : k ∉ V) (hl : k ∉ L) : f k = none := by
  cases hf : f k with
  | none => rfl
  | some s => rcases (h.dom k).1 (by rw [hf]; rfl) with h1 | h1 <;> contradiction
theorem TrkAt.size {w : World} {r0 r2 : Option Nat} {bp : Nat} {V L : List Int} {f : Int → Option PrS} {p : Int → Nat} {D : DataW Value} (h : TrkAt w r0 r2 bp V L f p) (hD : MapAt w bp D) (hg : ∀ k, mget D k = (f k).map fun _ => .pointer (some ⟨p k, 0, none⟩)) : Maps.size D ≤ 200 := by
  have := hD.size_le (S := V ++ L) (fun k hk => by
    rw [hg k] at hk
    simpa using (h.dom k).1 (by simpa using hk))
  have h1 := h.lv
  have h2 := h.ll
  simp at this
  omega
section
variable {w : World} {b0 c bp : Nat} {r2 : Option Nat} {V L : List Int} {f : Int → Option PrS} {p : Int → Nat} {k : Int} {q0 q1 : Option Nat} {qa : Bool} {q2 q3 p5 p6 : Value} {mi mb li : Int}
theorem initV_any (h : TrkAt w (some b0) r2 bp V L f p) (hB : Blk w c 286 #[.map (some b0), .map none, .bool false, .map r2, .map none]) (hv : k ∉ V) (hl : k ∉ L) (hk : 0 < k ∧ k < 2 ^ 64) (lv : V.length < 100) :
    Calls Tryz.prog 435 #[.agg #[.map q0, .map q1, .bool qa, q2, q3, p5, p6, .int .i64 mi, .int .u64 mb, .int .u64 li], .pointer (some ⟨c, 0, none⟩), .map (some bp), .int .u64 k, .bool false] w fun y w' =>
      y = .returned (.tuple #[]) ∧ ∃ f' p', (TrkAt w' (some b0) r2 bp (V ++ [k]) L f' p' ∧ FrM w.heap.size f p f' p') ∧ Chg [b0, bp] w w' := by
  obtain ⟨D, hD, hg⟩ := h.prg.map
  obtain ⟨hnV, ⟨e, _⟩ | ⟨b', D0, e, hm0, hs0⟩⟩ := h.sv
  · cases e
  cases e
  have hne : b0 ≠ bp := fun e => h.a1 (by rw [e])
  refine (initPrg_voter (li := li) hB hm0 hs0 (by omega) hD (by have := h.size hD hg; omega) ⟨by omega, hk.2⟩ hne).mono ?_
  rintro y w' ⟨rfl, D0', D', bi, b, h1, h2, h3, h4, h5, rfl, h6, h7, h8⟩
  have hap : ∀ k s, f k = some s → p k ∉ [b0, bp] := fun k s hs => by
    obtain ⟨a1, a2, _⟩ := h.apart hs
    simp [a1, a2 _ rfl]
  refine ⟨rfl, _, _, ⟨{ h with sv := ⟨?_, .inr ⟨b0, D0', rfl, h1, h2⟩⟩, sl := h.sl.chg h8 ?_, prg := h.prg.put (s := ⟨0, max li 1, 0, 0, 0, true, false, bi, false⟩) hD hg h6 h7 h4 h8 hap, dom := fun j => ?_, lrn := fun j s hs => ?_, dis := fun j hj => ?_, lv := by simp; omega, rng := fun j hj => ?_ }, FrM.put h4⟩, h8⟩
  · exact List.nodup_append.2 ⟨hnV, by simp, fun a ha b hb => by simp at hb; subst hb; rintro rfl; exact hv ha⟩
  · intro b hb
    cases hb
    have := h.a2
    have := h.a3 b0 rfl
    simp_all [eq_comm]
  · by_cases e : j = k
    · simp [e]
    · simp [e, h.dom j]
  · by_cases e : j = k
    · subst e
      simp only [if_true] at hs
      cases hs
      simp [hl]
    · simp only [e, if_false] at hs
      exact h.lrn j s hs
  · have := h.dis j hj
    simp only [List.mem_append, List.mem_singleton, not_or]
    exact ⟨this, fun e => hl (e ▸ hj)⟩
  · rcases hj with hj | hj
    · rcases List.mem_append.1 hj with hj | hj
      · exact h.rng j (.inl hj)
      · simp at hj; subst hj; exact hk
    · exact h.rng j (.inr hj)
theorem initL_any (h : TrkAt w (some b0) r2 bp V L f p) (hB : Blk w c 286 #[.map (some b0), .map none, .bool false, .map r2, .map none]) (hv : k ∉ V) (hl : k ∉ L) (hk : 0 < k ∧ k < 2 ^ 64) (ll : L.length < 100) :
    Calls Tryz.prog 435 #[.agg #[.map q0, .map q1, .bool qa, q2, q3, p5, p6, .int .i64 mi, .int .u64 mb, .int .u64 li], .pointer (some ⟨c, 0, none⟩), .map (some bp), .int .u64 k, .bool true] w fun y w' =>
      y = .returned (.tuple #[]) ∧ ∃ bl f' p', (TrkAt w' (some b0) (some bl) bp V (L ++ [k]) f' p' ∧ FrM w.heap.size f p f' p') ∧ Blk w' c 286 #[.map (some b0), .map none, .bool false, .map (some bl), .map none] ∧ (r2 = some bl ∨ w.heap.size ≤ bl) ∧ Chg (c :: bp :: r2.toList) w w' := by
  obtain ⟨D, hD, hg⟩ := h.prg.map
  have hcb : c ≠ bp := Ne.symm (hD.ne_blk hB)
  have hb0 : b0 ≠ c := by
    obtain ⟨_, ⟨e, _⟩ | ⟨b', D0, e, hm0, _⟩⟩ := h.sv
    · cases e
    · cases e; exact hm0.ne_blk hB
  have fin : ∀ (w' : World) (M : List Nat) (bl bi b : Nat) (Dl : DataW Value), MapAt w' bl Dl → IsSet Dl (L ++ [k]) → w.heap.size ≤ b → MapAt w' bp (D.put (.int .u64 k) (.held (.pointer (some ⟨b, 0, none⟩)))) →
      Blk w' b 461 #[.int .u64 0, .int .u64 (max li 1), .int .u64 0, .int .u64 0, .int .u64 0, .bool true, .bool false, .pointer (some ⟨bi, 0, none⟩), .bool true] → Chg M w w' → b0 ∉ M → (∀ k s, f k = some s → p k ∉ M) → bl ≠ bp → bl ≠ b0 →
      ∃ f' p', TrkAt w' (some b0) (some bl) bp V (L ++ [k]) f' p' ∧ FrM w.heap.size f p f' p' := by
    intro w' M bl bi b Dl h1 h2 h4 h6 h7 h8 hM hap n1 n2
    refine ⟨_, _, ⟨{ h with sv := h.sv.chg h8 (fun b hb => by cases hb; exact hM), sl := ⟨?_, .inr ⟨bl, Dl, rfl, h1, h2⟩⟩, prg := h.prg.put (s := ⟨0, max li 1, 0, 0, 0, true, false, bi, true⟩) hD hg h6 h7 h4 h8 hap, dom := fun j => ?_, lrn := fun j s hs => ?_, dis := fun j hj => ?_, ll := by simp; omega, rng := fun j hj => ?_, a2 := by simpa using n1, a3 := fun b hb => by cases hb; simpa using n2 }, FrM.put h4⟩⟩
    · exact List.nodup_append.2 ⟨h.sl.1, by simp, fun a ha b hb => by simp at hb; subst hb; rintro rfl; exact hl ha⟩
    · by_cases e : j = k
      · simp [e]
      · simp [e, h.dom j]
    · by_cases e : j = k
      · subst e
        simp only [if_true] at hs
        cases hs
        simp
      · simp only [e, if_false] at hs
        rw [h.lrn j s hs]
        simp [e]
    · rcases List.mem_append.1 hj with hj | hj
      · exact h.dis j hj
      · simp at hj; subst hj; exact hv
    · rcases hj with hj | hj
      · exact h.rng j (.inl hj)
      · rcases List.mem_append.1 hj with hj | hj
        · exact h.rng j (.inr hj)
        · simp at hj; subst hj; exact hk
  obtain ⟨hnL, ⟨e, rfl⟩ | ⟨b', Dl, e, hml, hsl⟩⟩ := h.sl
  · cases e
    refine (initPrg_learner_none (li := li) hB hD (by have := h.size hD hg; omega) ⟨by omega, hk.2⟩ hcb).mono ?_
    rintro y w' ⟨rfl, bl, Dl, D', bi, b, h0, h1, h2, h3, h4, h5, h6, rfl, h7, h8, h9⟩
    have hb0l := h.sv.blk b0 rfl
    obtain ⟨f', p', hT⟩ := fin w' [c, bp] bl bi b Dl h2 (by simpa using h3) h5 h7 h8 h9 (by simp [hb0]; exact fun e => h.a1 (by rw [e])) (fun k s hs => by
      obtain ⟨a1, _⟩ := h.apart hs
      have : p k ≠ c := by
        intro e
        have hb := h.prg.blk k s hs
        rw [e] at hb
        unfold Blk at hB hb
        rw [hb] at hB
        cases hB
      simp [a1, this]) (by have := hD.lt; omega) (by omega)
    exact ⟨rfl, bl, f', p', hT, h1, .inr h0, h9.mono (by simp)⟩
  · cases e
    have hbl : b' ≠ bp := fun e => h.a2 (by rw [e])
    have hbl0 : b' ≠ b0 := fun e => h.a3 b0 rfl (by rw [e])
    refine (initPrg_learner_some (li := li) hB hml hsl (by have := h.ll; omega) hbl (hml.ne_blk hB) hD (by have := h.size hD hg; omega) ⟨by omega, hk.2⟩ hcb).mono ?_
    rintro y w' ⟨rfl, Dl', D', bi, b, h1, h2, h3, h4, h5, h6, rfl, h7, h8, h9⟩
    obtain ⟨f', p', hT⟩ := fin w' [b', bp] b' bi b Dl' h2 h3 h5 h7 h8 h9 (by simp; exact ⟨Ne.symm hbl0, fun e => h.a1 (by rw [e])⟩) (fun k s hs => by
      obtain ⟨a1, _, a3⟩ := h.apart hs
      simp [a1, a3 _ rfl]) hbl hbl0
    exact ⟨rfl, b', f', p', hT, h1, .inl rfl, h9.mono (by simp)⟩
end
end Go.Proofs.YtalhhplphlobbaaGreat
namespace Go.Proofs.YtalhhplphlobbaaGreat
open Go.RowKit
theorem TrkAt.fst {w : World} {r0 r2 : Option Nat} {bp : Nat} {V L : List Int} {f : Int → Option PrS} {p : Int → Nat} (h : TrkAt w r0 r2 bp V L f p) : ∃ b0, r0 = some b0 := Option.isSome_iff_exists.1 h.some0
section
variable {w : World} {b0 c bp : Nat} {r2 : Option Nat} {V L : List Int} {f : Int → Option PrS} {p : Int → Nat} {k : Int} {q0 q1 : Option Nat} {qa : Bool} {q2 q3 p5 p6 : Option Nat} {mi mb li : Int}
set_option maxRecDepth 100000 in
set_option maxHeartbeats 1000000 in
theorem mkV_any (h : TrkAt w (some b0) r2 bp V L f p) (hB : Blk w c 286 #[.map (some b0), .map none, .bool false, .map r2, .map none]) (hv : k ∉ V) (hl : k ∉ L) (hk : 0 < k ∧ k < 2 ^ 64) (lv : V.length < 100) :
    Calls Tryz.prog 407 #[.agg #[.map q0, .map q1, .bool qa, .map q2, .map q3, .map p5, .map p6, .int .i64 mi, .int .u64 mb, .int .u64 li], .pointer (some ⟨c, 0, none⟩), .map (some bp), .int .u64 k] w fun y w' =>
      y = .returned (.tuple #[]) ∧ ∃ f' p', (TrkAt w' (some b0) r2 bp (V ++ [k]) L f' p' ∧ FrM w.heap.size f p f' p') ∧ Chg [b0, bp] w w' := by
  obtain ⟨D, hD, hg⟩ := h.prg.map
  have hget : mget D k = none := by rw [hg k, h.none_ hv hl]; rfl
  have hA : ∀ o, Nxt w (w.alloc o) := fun o => ⟨(Chg.refl _ _).alloc _⟩
  have H := Lib.hid h
  have HB := Lib.hid hB
  have HGET := Lib.hid hget
  clear h hB hg hget
  go_enter Tryz.func407, Tryz.ntmps407
  go_wp2_with (first | (at_lookup; refine wp_look _ rfl _ _ 288 rfl 304 Tryz.underlying288 (Tryz.zeroValue304 _) (b := bp) (D := D) rfl (hD.nxt (hA _)) rfl ⟨by omega, hk.2⟩ HGET.out ?_) | (go_at_call 435; (with_reducible refine Calls.mono (initV_any (H.out.nxt (hA _)) (HB.out.nxt (hA _)) hv hl hk lv) ?_); rintro e w1 ⟨rfl, f', p', ⟨ht, hfr⟩, hc⟩))
  refine bodyPost_ret (results_none rfl _ _ _) rfl ?_
  exact ⟨rfl, f', p', ⟨ht, hfr.le (hA _).out.size⟩, ((hA _).out.mono (by simp)).trans hc⟩
set_option maxRecDepth 100000 in
set_option maxHeartbeats 1000000 in
theorem mkL_any (h : TrkAt w (some b0) r2 bp V L f p) (hB : Blk w c 286 #[.map (some b0), .map none, .bool false, .map r2, .map none]) (hv : k ∉ V) (hl : k ∉ L) (hk : 0 < k ∧ k < 2 ^ 64) (ll : L.length < 100) :
    Calls Tryz.prog 408 #[.agg #[.map q0, .map q1, .bool qa, .map q2, .map q3, .map p5, .map p6, .int .i64 mi, .int .u64 mb, .int .u64 li], .pointer (some ⟨c, 0, none⟩), .map (some bp), .int .u64 k] w fun y w' =>
      y = .returned (.tuple #[]) ∧ ∃ bl f' p', (TrkAt w' (some b0) (some bl) bp V (L ++ [k]) f' p' ∧ FrM w.heap.size f p f' p') ∧ Blk w' c 286 #[.map (some b0), .map none, .bool false, .map (some bl), .map none] ∧ (r2 = some bl ∨ w.heap.size ≤ bl) ∧ Chg (c :: bp :: r2.toList) w w' := by
  obtain ⟨D, hD, hg⟩ := h.prg.map
  have hget : mget D k = none := by rw [hg k, h.none_ hv hl]; rfl
  have hA : ∀ o, Nxt w (w.alloc o) := fun o => ⟨(Chg.refl _ _).alloc _⟩
  have H := Lib.hid h
  have HB := Lib.hid hB
  have HGET := Lib.hid hget
  clear h hB hg hget
  go_enter Tryz.func408, Tryz.ntmps408
  go_wp2_with (first | (at_lookup; refine wp_look _ rfl _ _ 288 rfl 304 Tryz.underlying288 (Tryz.zeroValue304 _) (b := bp) (D := D) rfl (hD.nxt (hA _)) rfl ⟨by omega, hk.2⟩ HGET.out ?_) | (go_at_call 435; (with_reducible refine Calls.mono (initL_any (H.out.nxt (hA _)) (HB.out.nxt (hA _)) hv hl hk ll) ?_); rintro e w1 ⟨rfl, bl, f', p', ⟨ht, hfr⟩, hb, hbl, hc⟩))
  refine bodyPost_ret (results_none rfl _ _ _) rfl ?_
  have hs := (hA (.cells #[.map q0, .map q1, .bool qa, .map q2, .map q3, .map p5, .map p6, .int .i64 mi, .int .u64 mb, .int .u64 li] 414)).out.size
  exact ⟨rfl, bl, f', p', ⟨ht, hfr.le (hA _).out.size⟩, hb, hbl.imp id (fun h => Nat.le_trans hs h), ((hA _).out.mono (by simp)).trans hc⟩
end
end Go.Proofs.YtalhhplphlobbaaGreat
