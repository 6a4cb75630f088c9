/- toConfChangeSingle: a member list as changes. Conditions: sizes. Restore: the tracker out of a conf state. Conditions: sizes. slices.Sort at uint64, few elements: the order's test, the insertion sort. Conditions: sizes. -/
import Derived.Sort.WalkA
import Derived.Test.YtalhhplphlobbaaGreatP01
import Derived.Test.YtalhhplphlobbaaGreatP12
set_option linter.unusedVariables false
set_option linter.unusedSimpArgs false
namespace Go.Proofs.YtalhhplphlobbaaGreat
open Go.RowKit
/-- The cells of a slice of changes. -/
def Ccs (w : World) (ps : List Value) (ms : List (Int × Int)) : Prop := ps.length = ms.length ∧ ∀ (j : Nat) (x : Int × Int), ms[j]? = some x → ∃ q, ps[j]? = some q ∧ CcAt w q x.1 x.2
theorem Ccs.nil (w : World) : Ccs w [] [] := ⟨rfl, fun j x h => by simp at h⟩
theorem Ccs.nxt {w w' : World} {ps : List Value} {ms : List (Int × Int)} (h : Ccs w ps ms) (hn : Nxt w w') : Ccs w' ps ms :=
  ⟨h.1, fun j x hj => by obtain ⟨q, h1, h2⟩ := h.2 j x hj; exact ⟨q, h1, h2.nxt hn⟩⟩
theorem Ccs.snoc {w : World} {ps : List Value} {ms : List (Int × Int)} {q : Value} {t n : Int} (h : Ccs w ps ms) (hq : CcAt w q t n) : Ccs w (ps ++ [q]) (ms ++ [(t, n)]) := by
  refine ⟨by simp [h.1], fun j x hx => ?_⟩
  rcases Nat.lt_trichotomy j ms.length with hj | hj | hj
  · rw [List.getElem?_append_left hj] at hx
    obtain ⟨q', h1, h2⟩ := h.2 j x hx
    exact ⟨q', by rw [List.getElem?_append_left (by rw [h.1]; exact hj)]; exact h1, h2⟩
  · subst hj
    simp at hx
    subst hx
    exact ⟨q, by rw [← h.1]; simp, hq⟩
  · rw [List.getElem?_eq_none (by simp; omega)] at hx
    cases hx
theorem own_ne {w : World} {base : Nat} {e : TypeId} {v : Value} {n : Nat} {xs : List Value} (h : w.ownsRow base e 1 v n xs) {b t : Nat} {cs : Array Value} (hb : Blk w b t cs) (ht : t ≠ e) : b ∉ rowL v := by
  intro hm
  rw [mem_rowL] at hm
  rcases h.2 with ⟨rfl, _⟩ | ⟨g, cap, cur, rfl, _, hh, _⟩
  · simp [Value.ownBlock] at hm
  · have : g = b := by simpa [Value.ownBlock] using hm
    subst this
    unfold Blk at hb
    rw [hh] at hb
    cases hb
    exact ht rfl
theorem CcAt.row {w w' : World} {base : Nat} {v : Value} {n : Nat} {xs : List Value} {q : Value} {t k : Int} (h : CcAt w q t k) (ho : w.ownsRow base 393 1 v n xs) (hg : w.grownBy w' v.ownBlock) : CcAt w' q t k := by
  obtain ⟨b, bt, bn, e, h1, h2, h3⟩ := h
  have hc := chg_row hg
  exact ⟨b, bt, bn, e, h1.chg hc (own_ne ho h1 (by decide)), h2.chg hc (own_ne ho h2 (by decide)), h3.chg hc (own_ne ho h3 (by decide))⟩
theorem Ccs.row {w w' : World} {base : Nat} {v : Value} {n : Nat} {xs ps : List Value} {ms : List (Int × Int)} (h : Ccs w ps ms) (ho : w.ownsRow base 393 1 v n xs) (hg : w.grownBy w' v.ownBlock) : Ccs w' ps ms :=
  ⟨h.1, fun j x hj => by obtain ⟨q, h1, h2⟩ := h.2 j x hj; exact ⟨q, h1, h2.row ho hg⟩⟩
theorem enum_any (w : World) (t : Int) : Calls Tryz.prog 377 #[.int .i32 t] w fun y w' => ∃ b, y = .returned (.pointer (some ⟨b, 0, none⟩)) ∧ Blk w' b 343 #[.int .i32 t] ∧ Nxt w w' := by
  go_enter Tryz.func377, Tryz.ntmps377
  go_wp2
  go_ret
  exact ⟨_, rfl, Blk.new _ _ _, ⟨(Chg.refl _ _).alloc _⟩⟩
theorem info393 : (Tryz.prog.info? 393).map (fun i => (i.zero, i.size, i.bytes)) = some (some (.pointer none), 1, 8) := by kernel_rfl

set_option maxRecDepth 100000 in
set_option maxHeartbeats 4000000 in
theorem single_any {w : World} {v : Value} {V L : List Int} {al : Bool} (h : ConfAt [] w v V L [] [] al) (lv : V.length < 100) (ll : L.length < 100) :
    Calls Tryz.prog 324 #[v] w fun y w' => ∃ A n c ps, y = .returned (.tuple #[.slice none 0 0, .slice A n c]) ∧ Sl [] w' (.slice A n c) ps ∧ Ccs w' ps (V.map (fun x => (0, x)) ++ L.map (fun x => (3, x))) ∧ Nxt w w' := by
  obtain ⟨i0, hi, hz0, hz1, hz2⟩ := info_parts info393
  obtain ⟨b, s1, s2, s3, s4, pp, rfl, _, hbl, c0, c1, c2, c3, _, h1, h2, h3, h4, _⟩ := h
  obtain ⟨A1, n1, k1, rfl, hn1, hc1, hz1', hA1⟩ := id h1
  obtain ⟨A2, n2, k2, rfl, hn2, hc2, hz2', hA2⟩ := id h2
  obtain ⟨A3, n3, k3, rfl, hn3, hc3, hz3', hA3⟩ := id h3
  obtain ⟨A4, n4, k4, rfl, hn4, hc4, hz4', hA4⟩ := id h4
  simp [U64s] at hn1 hn2 hn3 hn4
  subst hn3 hn4 hn1 hn2
  clear hA3 hA4 hz3' hz4'
  have HCELL := Lib.hid (And.intro c0 (And.intro c1 (And.intro c2 c3)))
  go_enter Tryz.func324, Tryz.ntmps324
  go_wp2_with fail
  refine wp_loop_rounds 1 ?_
  rw [rounds_succ]
  go_wp2_with fail
  refine wp_loop_rounds 1 ?_
  rw [rounds_succ]
  go_wp2_with fail
  go_loopw [3, 55] (fun ov iv wr => ∃ (k : Nat) (ps : List Value) (ov' : Value), k ≤ V.length ∧ iv = .int .i64 k ∧ ov' = ov ∧ wr.ownsRow w.heap.size 393 1 ov' (k) ps ∧ Ccs wr ps ((V.take k).map (fun x => (0, x))) ∧ Chg [] w wr) (fun _ iv _ => V.length - (intOf iv).toNat)
  case atStart => exact ⟨0, [], _, by omega, rfl, rfl, own_nil _ _ _ _, by simpa using Ccs.nil _, Chg.refl _ _⟩
  case round =>
    obtain ⟨k, ps, ov, hk, rfl, rfl, hown, hps, hcw⟩ := hrel
    by_cases hlt : k < V.length
    · obtain ⟨x, hx⟩ : ∃ x, V[k]? = some x := ⟨V[k], List.getElem?_eq_getElem hlt⟩
      rcases A1 with _ | ⟨bs, os, ss⟩
      · have := hz1' rfl
        omega
      obtain ⟨rfl, _, hbs, hcs⟩ := hA1 bs os ss rfl
      have d0 := hcw.at0 (hcs k (.int .u64 x) (by simp [U64s, hx]))
      have HCW := Lib.hid hcw
      have HPS := Lib.hid hps
      have HOWN := Lib.hid hown
      have HX := Lib.hid hx
      have HSZ := Lib.hid hcw.size
      clear hcw hps hown hx hcs
      go_wp2_with (first | (go_at_call 377; (with_reducible refine Calls.mono (enum_any _ 0) ?_); rintro e w1 ⟨b1, rfl, hb1, hn1⟩; have HB1 := Lib.hid hb1; have HN1 := Lib.hid hn1; clear hb1 hn1) | (at_builtin; refine wpList_append_sl _ [] rfl _ _ 328 rfl w.heap.size 393 i0 (.pointer none) 8 Tryz.underlying328 hi hz0 hz1 hz2 rfl _ (k) ps rfl ?c0 _ [.pointer (some ⟨w1.heap.size + 1, 0, none⟩)] rfl ?c5 ?c1 ?c2 ?c3 ?c4 ?_))
      case c0 => exact own_chg0 (own_chg0 HOWN.out HN1.out.out) ((((Chg.refl _ _).alloc _).alloc _).alloc _)
      case c5 => have z := Sl.new1 ((w1.alloc (.cells #[.int .u64 x] 22)).alloc (.cells #[.pointer (some ⟨b1, 0, none⟩), .pointer (some ⟨w1.heap.size, 0, none⟩)] 438)) (.pointer (some ⟨w1.heap.size + 1, 0, none⟩)) 393; simp at z; exact z
      case c1 => simp [Value.oneCell']
      case c2 => simp only [List.length_singleton, maxLen]; omega
      case c3 => simp only [List.length_singleton]; omega
      case c4 => have h1 := HSZ.out; have h2 := HN1.out.out.size; simp; omega
      intro v' w2 hown2 hg2 hat2
      have hq : CcAt (((w1.alloc (.cells #[.int .u64 x] 22)).alloc (.cells #[.pointer (some ⟨b1, 0, none⟩), .pointer (some ⟨w1.heap.size, 0, none⟩)] 438)).alloc (.cells #[.pointer (some ⟨w1.heap.size + 1, 0, none⟩)] 393)) (.pointer (some ⟨w1.heap.size + 1, 0, none⟩)) 0 x :=
        ⟨w1.heap.size + 1, b1, w1.heap.size, rfl, by simpa using (Blk.new (w1.alloc (.cells #[.int .u64 x] 22)) 438 #[.pointer (some ⟨b1, 0, none⟩), .pointer (some ⟨w1.heap.size, 0, none⟩)]).alloc (.cells #[.pointer (some ⟨w1.heap.size + 1, 0, none⟩)] 393), ((HB1.out.alloc _).alloc _).alloc _, ((Blk.new w1 22 _).alloc _).alloc _⟩
      have hc2 : Chg [] w w2 := chg_row0 ((((HCW.out.trans HN1.out.out).alloc _).alloc _).alloc _) hg2 (fun g hg => (own_lt HOWN.out hg).1)
      have hE : Ccs w2 (ps ++ [.pointer (some ⟨w1.heap.size + 1, 0, none⟩)]) ((V.take (k + 1)).map (fun x => (0, x))) := by
        rw [List.take_add_one, HX.out]
        simp only [Option.toList, List.map_append, List.map_cons, List.map_nil, ← List.append_assoc]
        exact (Ccs.snoc (HPS.out.nxt ⟨((HN1.out.out.alloc _).alloc _).alloc _⟩) hq).row (own_chg0 (own_chg0 HOWN.out HN1.out.out) ((((Chg.refl _ _).alloc _).alloc _).alloc _)) hg2
      have HE := Lib.hid hE
      have HC2 := Lib.hid hc2
      have HO2 := Lib.hid hown2
      clear hE hq hc2 hown2 hg2 hat2 d0
      go_wp2
      go_roundw
      case rel => exact ⟨k + 1, _, _, by omega, by go_num, rfl, HO2.out, HE.out, HC2.out⟩
      case measure => simp [intOf]; omega
    · have hkn : k = V.length := by omega
      subst hkn
      rw [List.take_length] at hps
      have HOWN := Lib.hid hown
      have HPS := Lib.hid hps
      have HCW := Lib.hid hcw
      have e0 := hcw.at0 HCELL.out.1
      have e1 := hcw.at0 HCELL.out.2.1
      have e2 := hcw.at0 HCELL.out.2.2.1
      have e3 := hcw.at0 HCELL.out.2.2.2
      clear hown hps hcw c0 c1 c2 c3
      go_wp2_with fail
      have HOWN0 := HOWN
      have HPS0 := HPS
      have HCW0 := HCW
      clear HOWN HPS HCW
      obtain ⟨ps0, hps0⟩ : ∃ ps0, ps0 = ps := ⟨_, rfl⟩
      subst hps0
      have c0 := e0
      have c1 := e1
      have c2 := e2
      have c3 := e3
      clear e0 e1 e2 e3
      go_loopw [3, 73] (fun ov iv wr => ∃ (k : Nat) (ps : List Value) (ov' : Value), k ≤ L.length ∧ iv = .int .i64 k ∧ ov' = ov ∧ wr.ownsRow w.heap.size 393 1 ov' (V.length + k) ps ∧ Ccs wr ps (V.map (fun x => (0, x)) ++ (L.take k).map (fun x => (3, x))) ∧ Chg [] w wr) (fun _ iv _ => L.length - (intOf iv).toNat)
      case atStart => exact ⟨0, ps0, _, by omega, rfl, rfl, by simpa using HOWN0.out, by simpa using HPS0.out, HCW0.out⟩
      case round =>
        obtain ⟨k, ps, ov, hk, rfl, rfl, hown, hps, hcw⟩ := hrel
        by_cases hlt : k < L.length
        · obtain ⟨x, hx⟩ : ∃ x, L[k]? = some x := ⟨L[k], List.getElem?_eq_getElem hlt⟩
          rcases A2 with _ | ⟨bs, os, ss⟩
          · have := hz2' rfl
            omega
          obtain ⟨rfl, _, hbs, hcs⟩ := hA2 bs os ss rfl
          have d0 := hcw.at0 (hcs k (.int .u64 x) (by simp [U64s, hx]))
          have HCW := Lib.hid hcw
          have HPS := Lib.hid hps
          have HOWN := Lib.hid hown
          have HX := Lib.hid hx
          have HSZ := Lib.hid hcw.size
          clear hcw hps hown hx hcs
          go_wp2_with (first | (go_at_call 377; (with_reducible refine Calls.mono (enum_any _ 3) ?_); rintro e w1 ⟨b1, rfl, hb1, hn1⟩; have HB1 := Lib.hid hb1; have HN1 := Lib.hid hn1; clear hb1 hn1) | (at_builtin; refine wpList_append_sl _ [] rfl _ _ 328 rfl w.heap.size 393 i0 (.pointer none) 8 Tryz.underlying328 hi hz0 hz1 hz2 rfl _ (V.length + k) ps rfl ?c0 _ [.pointer (some ⟨w1.heap.size + 1, 0, none⟩)] rfl ?c5 ?c1 ?c2 ?c3 ?c4 ?_))
          case c0 => exact own_chg0 (own_chg0 HOWN.out HN1.out.out) ((((Chg.refl _ _).alloc _).alloc _).alloc _)
          case c5 => have z := Sl.new1 ((w1.alloc (.cells #[.int .u64 x] 22)).alloc (.cells #[.pointer (some ⟨b1, 0, none⟩), .pointer (some ⟨w1.heap.size, 0, none⟩)] 438)) (.pointer (some ⟨w1.heap.size + 1, 0, none⟩)) 393; simp at z; exact z
          case c1 => simp [Value.oneCell']
          case c2 => simp only [List.length_singleton, maxLen]; omega
          case c3 => simp only [List.length_singleton]; omega
          case c4 => have h1 := HSZ.out; have h2 := HN1.out.out.size; simp; omega
          intro v' w2 hown2 hg2 hat2
          have hq : CcAt (((w1.alloc (.cells #[.int .u64 x] 22)).alloc (.cells #[.pointer (some ⟨b1, 0, none⟩), .pointer (some ⟨w1.heap.size, 0, none⟩)] 438)).alloc (.cells #[.pointer (some ⟨w1.heap.size + 1, 0, none⟩)] 393)) (.pointer (some ⟨w1.heap.size + 1, 0, none⟩)) 3 x :=
            ⟨w1.heap.size + 1, b1, w1.heap.size, rfl, by simpa using (Blk.new (w1.alloc (.cells #[.int .u64 x] 22)) 438 #[.pointer (some ⟨b1, 0, none⟩), .pointer (some ⟨w1.heap.size, 0, none⟩)]).alloc (.cells #[.pointer (some ⟨w1.heap.size + 1, 0, none⟩)] 393), ((HB1.out.alloc _).alloc _).alloc _, ((Blk.new w1 22 _).alloc _).alloc _⟩
          have hc2 : Chg [] w w2 := chg_row0 ((((HCW.out.trans HN1.out.out).alloc _).alloc _).alloc _) hg2 (fun g hg => (own_lt HOWN.out hg).1)
          have hE : Ccs w2 (ps ++ [.pointer (some ⟨w1.heap.size + 1, 0, none⟩)]) (V.map (fun x => (0, x)) ++ (L.take (k + 1)).map (fun x => (3, x))) := by
            rw [List.take_add_one, HX.out]
            simp only [Option.toList, List.map_append, List.map_cons, List.map_nil, ← List.append_assoc]
            exact (Ccs.snoc (HPS.out.nxt ⟨((HN1.out.out.alloc _).alloc _).alloc _⟩) hq).row (own_chg0 (own_chg0 HOWN.out HN1.out.out) ((((Chg.refl _ _).alloc _).alloc _).alloc _)) hg2
          have HE := Lib.hid hE
          have HC2 := Lib.hid hc2
          have HO2 := Lib.hid hown2
          clear hE hq hc2 hown2 hg2 hat2 d0
          go_wp2
          go_roundw
          case rel => exact ⟨k + 1, _, _, by omega, by go_num, rfl, HO2.out, HE.out, HC2.out⟩
          case measure => simp [intOf]; omega
        · have hkn : k = L.length := by omega
          subst hkn
          rw [List.take_length] at hps
          have HOWN := Lib.hid hown
          have HPS := Lib.hid hps
          have HCW := Lib.hid hcw
          have e0 := hcw.at0 HCELL.out.1
          have e1 := hcw.at0 HCELL.out.2.1
          have e2 := hcw.at0 HCELL.out.2.2.1
          have e3 := hcw.at0 HCELL.out.2.2.2
          clear hown hps hcw c0 c1 c2 c3
          go_wp2_with fail
          refine wp_loop_rounds 1 ?_
          rw [rounds_succ]
          go_wp2_with fail
          have hs := Sl.of_own (M := []) HOWN.out (by simp)
          obtain ⟨A', n', c', rfl, _⟩ := id hs
          go_ret2
          exact ⟨A', n', c', ps, rfl, hs, HPS.out, ⟨HCW.out⟩⟩
end Go.Proofs.YtalhhplphlobbaaGreat
namespace Go.Proofs.YtalhhplphlobbaaGreat
open Go.RowKit
/-- The cells of a slice of steps. -/
def Fcs (w : World) (ps : List Value) (ms : List (Int × Int)) : Prop := ps.length = ms.length ∧ ∀ (j : Nat) (x : Int × Int), ms[j]? = some x → ∃ c pv, ps[j]? = some (.func (.func 325) #[] #[.pointer (some ⟨c, 0, none⟩)]) ∧ Blk w c 393 #[pv] ∧ CcAt w pv x.1 x.2
theorem Fcs.nxt {w w' : World} {ps : List Value} {ms : List (Int × Int)} (h : Fcs w ps ms) (hn : Nxt w w') : Fcs w' ps ms :=
  ⟨h.1, fun j x hj => by obtain ⟨c, pv, h1, h2, h3⟩ := h.2 j x hj; exact ⟨c, pv, h1, h2.nxt hn, h3.nxt hn⟩⟩
theorem Fcs.snoc {w : World} {ps : List Value} {ms : List (Int × Int)} {c : Nat} {pv : Value} {x : Int × Int} (h : Fcs w ps ms) (hb : Blk w c 393 #[pv]) (hq : CcAt w pv x.1 x.2) : Fcs w (ps ++ [.func (.func 325) #[] #[.pointer (some ⟨c, 0, none⟩)]]) (ms ++ [x]) := by
  refine ⟨by simp [h.1], fun j y hx => ?_⟩
  rcases Nat.lt_trichotomy j ms.length with hj | hj | hj
  · rw [List.getElem?_append_left hj] at hx
    obtain ⟨c', pv', h1, h2⟩ := h.2 j y hx
    exact ⟨c', pv', by rw [List.getElem?_append_left (by rw [h.1]; exact hj)]; exact h1, h2⟩
  · subst hj
    simp at hx
    subst hx
    exact ⟨c, pv, by rw [← h.1]; simp, hb, hq⟩
  · rw [List.getElem?_eq_none (by simp; omega)] at hx
    cases hx
theorem Fcs.row {w w' : World} {base : Nat} {v : Value} {n : Nat} {xs ps : List Value} {ms : List (Int × Int)} (h : Fcs w ps ms) (ho : w.ownsRow base 454 1 v n xs) (hg : w.grownBy w' v.ownBlock) : Fcs w' ps ms := by
  refine ⟨h.1, fun j x hj => ?_⟩
  obtain ⟨c, pv, h1, h2, b, bt, bn, e, k1, k2, k3⟩ := h.2 j x hj
  have hc := chg_row hg
  exact ⟨c, pv, h1, h2.chg hc (own_ne ho h2 (by decide)), b, bt, bn, e, k1.chg hc (own_ne ho k1 (by decide)), k2.chg hc (own_ne ho k2 (by decide)), k3.chg hc (own_ne ho k3 (by decide))⟩
theorem Fcs.ops {w : World} {b o n c : Nat} {ps : List Value} {V L : List Int} (h : Fcs w ps (V.map (fun x => (0, x)) ++ L.map (fun x => (3, x)))) (hs : Sl [] w (.slice (some ⟨b, o, none⟩) n c) ps) : OpsAt w b o V L := by
  intro j hj
  have hm : (V.map (fun x => ((0 : Int), x)) ++ L.map (fun x => ((3 : Int), x)))[j]? = some ((if j < V.length then 0 else 3), (V ++ L).getD j 0) := by
    rw [List.getD_eq_getElem?_getD]
    by_cases hv : j < V.length
    · rw [List.getElem?_append_left (by simpa using hv), List.getElem?_append_left hv]
      simp [hv]
    · have hl : j - V.length < L.length := by simp at hj; omega
      rw [List.getElem?_append_right (by simpa using hv), List.getElem?_append_right (by omega)]
      simp [hv, hl]
  obtain ⟨c', pv, h1, h2, h3⟩ := h.2 j _ hm
  obtain ⟨A, n', k', e, _, _, _, hA⟩ := hs
  cases e
  obtain ⟨_, _, _, hcell⟩ := hA b o none rfl
  exact ⟨c', pv, hcell j _ h1, by rw [h2.cell 0]; rfl, h3⟩
theorem info454 : (Tryz.prog.info? 454).map (fun i => (i.zero, i.size, i.bytes)) = some (some .nilFunc, 1, 8) := by kernel_rfl
set_option maxRecDepth 100000 in
set_option maxHeartbeats 4000000 in
theorem restore_any {w : World} {q0 bp v6 : Nat} {r2 : Option Nat} {V L : List Int} {f : Int → Option PrS} {p : Int → Nat} {mi mb li : Int} {v : Value} {al : Bool}
    (h : TrkAt w (some q0) r2 bp [] [] f p) (hn : (V ++ L).Nodup) (hV : V ≠ []) (hr : ∀ k ∈ V ++ L, 0 < k ∧ k < 2 ^ 64) (lv : V.length < 100) (ll : L.length < 100) (hc : ConfAt [] w v V L [] [] al) :
    Calls Tryz.prog 274 #[.agg #[.map (some q0), .map none, .bool false, .map r2, .map none, .map (some bp), .map (some v6), .int .i64 mi, .int .u64 mb, .int .u64 li], v] w fun y w' => ∃ x0 x2 bt f' p',
      y = .returned (.tuple #[.agg #[.map (some x0), .map none, .bool false, .map x2, .map none], .map (some bt), .nilIface]) ∧ (TrkAt w' (some x0) x2 bt V L f' p' ∧ Fr w.heap.size f' p') ∧ Nxt w w' := by
  have hmf : ∀ (fn : Fn) (first cap : Array Value) (w : World), (Instr.makeFunc fn first cap).run Tryz.prog w = .ok (.func fn first cap) w := fun _ _ _ _ => rfl
  obtain ⟨i0, hi, hz0, hz1, hz2⟩ := info_parts info454
  obtain ⟨bc, rfl⟩ : ∃ bc, v = .pointer (some ⟨bc, 0, none⟩) := by obtain ⟨b, _, _, _, _, _, e, _⟩ := hc; exact ⟨b, e⟩
  have HC := Lib.hid hc
  have HT := Lib.hid h
  clear hc h
  have hN : Nxt w (((w.alloc (.cells #[.map (some q0), .map none, .bool false, .map r2, .map none, .map (some bp), .map (some v6), .int .i64 mi, .int .u64 mb, .int .u64 li] 414)).alloc (.cells #[.pointer (some ⟨bc, 0, none⟩)] 138)).alloc (.cells #[.map none, .map none, .bool false, .map none, .map none] 286)) := ⟨(((Chg.refl _ _).alloc _).alloc _).alloc _⟩
  have HN := Lib.hid hN
  clear hN
  go_enter Tryz.func274, Tryz.ntmps274
  go_wp2_with (first | (go_at_call 324; (with_reducible refine Calls.mono (single_any (HC.out.chg0 HN.out.out) lv ll) ?_); rintro e W2 ⟨A, n, c, ps0, rfl, hs0, hcc0, hn2⟩; have HS0 := Lib.hid hs0; have HCC0 := Lib.hid hcc0; have HN2 := Lib.hid hn2; clear hs0 hcc0 hn2))
  have hB0 : Blk (((w.alloc (.cells #[.map (some q0), .map none, .bool false, .map r2, .map none, .map (some bp), .map (some v6), .int .i64 mi, .int .u64 mb, .int .u64 li] 414)).alloc (.cells #[.pointer (some ⟨bc, 0, none⟩)] 138)).alloc (.cells #[.map none, .map none, .bool false, .map none, .map none] 286)) w.heap.size 414 #[.map (some q0), .map none, .bool false, .map r2, .map none, .map (some bp), .map (some v6), .int .i64 mi, .int .u64 mb, .int .u64 li] := ((Blk.new _ _ _).alloc _).alloc _
  have hR0 : Blk (((w.alloc (.cells #[.map (some q0), .map none, .bool false, .map r2, .map none, .map (some bp), .map (some v6), .int .i64 mi, .int .u64 mb, .int .u64 li] 414)).alloc (.cells #[.pointer (some ⟨bc, 0, none⟩)] 138)).alloc (.cells #[.map none, .map none, .bool false, .map none, .map none] 286)) (w.heap.size + 1 + 1) 286 #[.map none, .map none, .bool false, .map none, .map none] := by
    have z := Blk.new ((w.alloc (.cells #[.map (some q0), .map none, .bool false, .map r2, .map none, .map (some bp), .map (some v6), .int .i64 mi, .int .u64 mb, .int .u64 li] 414)).alloc (.cells #[.pointer (some ⟨bc, 0, none⟩)] 138)) 286 #[.map none, .map none, .bool false, .map none, .map none]
    simp at z
    exact z
  have hn3 : Nxt W2 (W2.alloc (.cells #[.slice A n c] 328)) := ⟨(Chg.refl _ _).alloc _⟩
  have hB3 := (hB0.nxt HN2.out).nxt hn3
  have hR3 := (hR0.nxt HN2.out).nxt hn3
  have hN3 : Nxt w (W2.alloc (.cells #[.slice A n c] 328)) := ⟨(HN.out.out.trans HN2.out.out).trans hn3.out⟩
  have hs3 := HS0.out.chg0 hn3.out
  have hcc3 := HCC0.out.nxt hn3
  have hsz0 : (W2.alloc (.cells #[.slice A n c] 328)).heap.size = W2.heap.size + 1 := by simp
  generalize W2.alloc (.cells #[.slice A n c] 328) = W3 at hn3 hB3 hR3 hN3 hs3 hcc3 hsz0 ⊢
  have HB3 := Lib.hid hB3
  have HR3 := Lib.hid hR3
  have HN3 := Lib.hid hN3
  have HS3 := Lib.hid hs3
  have HCC3 := Lib.hid hcc3
  have HSZ0 := Lib.hid hsz0
  generalize hms : V.map (fun x => ((0 : Int), x)) ++ L.map (fun x => ((3 : Int), x)) = ms at hcc3
  have HMS := Lib.hid hms
  have hnn : n = ms.length := by
    obtain ⟨A', n', c', e, hl, _⟩ := hs3
    cases e
    rw [← hl, hcc3.1]
  have hml : ms.length < 200 := by rw [← hms]; simp; omega
  have hml0 : 0 < ms.length := by rw [← hms]; have := List.length_pos_iff.2 hV; simp; omega
  subst hnn
  have HCC4 := Lib.hid hcc3
  clear hB0 hR0 hn3 hB3 hR3 hN3 hs3 hcc3 hsz0 hms
  go_loopw [9, 26] (fun ov iv wr => ∃ (k : Nat) (ps : List Value) (ov' : Value), k ≤ ms.length ∧ iv = .int .i64 k ∧ ov' = ov ∧ wr.ownsRow W3.heap.size 454 1 ov' k ps ∧ Fcs wr ps (ms.take k) ∧ Chg [] W3 wr) (fun _ iv _ => ms.length - (intOf iv).toNat)
  case atStart => exact ⟨0, [], _, by omega, rfl, rfl, own_nil _ _ _ _, ⟨by simp, by simp⟩, Chg.refl _ _⟩
  case round =>
    obtain ⟨k, ps, ov, hk, rfl, rfl, hown, hps, hcw⟩ := hrel
    have HCW := Lib.hid hcw
    have HPS := Lib.hid hps
    have HOWN := Lib.hid hown
    have HSZ := Lib.hid hcw.size
    by_cases hlt : k < ms.length
    · obtain ⟨x, hx⟩ : ∃ x, ms[k]? = some x := ⟨ms[k], List.getElem?_eq_getElem hlt⟩
      obtain ⟨pv, hp1, hp2⟩ := HCC4.out.2 k x hx
      have hp3 := hp2.nxt ⟨hcw⟩
      obtain ⟨cq, rfl⟩ : ∃ cq, pv = .pointer (some ⟨cq, 0, none⟩) := by obtain ⟨b, _, _, e, _⟩ := hp2; exact ⟨b, e⟩
      have hsl := HS3.out
      rcases A with _ | ⟨bs, os, ss⟩
      · obtain ⟨A', n', c', e, hl, hl2, hz, _⟩ := hsl
        cases e
        have := hz rfl
        omega
      obtain ⟨A', n', c', e, hl, hl2, _, hA⟩ := hsl
      cases e
      obtain ⟨rfl, _, hbs, hcs⟩ := hA bs os ss rfl
      have d0 := hcw.at0 (hcs k _ hp1)
      have HX := Lib.hid hx
      have HP3 := Lib.hid hp3
      clear hcw hps hown hx hcs hp1 hp2 hp3 hA
      go_wp2_with (at_builtin; refine wpList_append_sl _ [] rfl _ _ 453 rfl W3.heap.size 454 i0 .nilFunc 8 Tryz.underlying453 hi hz0 hz1 hz2 rfl _ k ps rfl ?c0 _ [.func (.func 325) #[] #[.pointer (some ⟨wr.heap.size, 0, none⟩)]] rfl ?c5 ?c1 ?c2 ?c3 ?c4 ?_)
      case c0 => exact own_chg0 HOWN.out (((Chg.refl _ _).alloc _).alloc _)
      case c5 => have z := Sl.new1 (wr.alloc (.cells #[.pointer (some ⟨cq, 0, none⟩)] 393)) (.func (.func 325) #[] #[.pointer (some ⟨wr.heap.size, 0, none⟩)]) 454; simp at z; exact z
      case c1 => simp [Value.oneCell']
      case c2 => simp only [List.length_singleton, maxLen]; omega
      case c3 => simp only [List.length_singleton]; omega
      case c4 => have h1 := HSZ.out; simp; omega
      intro v' w2 hown2 hg2 hat2
      have hA2 : Chg [] wr ((wr.alloc (.cells #[.pointer (some ⟨cq, 0, none⟩)] 393)).alloc (.cells #[.func (.func 325) #[] #[.pointer (some ⟨wr.heap.size, 0, none⟩)]] 454)) := ((Chg.refl _ _).alloc _).alloc _
      have hc2 : Chg [] W3 w2 := chg_row0 (HCW.out.trans hA2) hg2 (fun g hg => (own_lt HOWN.out hg).1)
      have hE : Fcs w2 (ps ++ [.func (.func 325) #[] #[.pointer (some ⟨wr.heap.size, 0, none⟩)]]) (ms.take (k + 1)) := by
        rw [List.take_add_one, HX.out]
        exact ((HPS.out.nxt ⟨hA2⟩).snoc ((Blk.new wr 393 #[.pointer (some ⟨cq, 0, none⟩)]).alloc _) (HP3.out.nxt ⟨hA2⟩)).row (own_chg0 HOWN.out hA2) hg2
      have HE := Lib.hid hE
      have HC2 := Lib.hid hc2
      have HO2 := Lib.hid hown2
      clear hE hc2 hown2 hg2 hat2 d0 hA2
      go_wp2
      go_roundw
      case rel => exact ⟨k + 1, _, _, by omega, by go_num, rfl, HO2.out, HE.out, HC2.out⟩
      case measure => simp [intOf]; omega
    · have hkn : k = ms.length := by omega
      subst hkn
      rw [List.take_length] at hps
      have b3 := HB3.out.nxt ⟨hcw⟩
      have hs := Sl.of_own (M := []) hown (by simp)
      obtain ⟨A', n', c', rfl, hl, hl2, hz, hA⟩ := id hs
      have hn' : n' = ms.length := by rw [← hl, hps.1]
      rcases A' with _ | ⟨bs, os, ss⟩
      · have := hz rfl
        omega
      obtain ⟨rfl, _⟩ := hA bs os ss rfl
      rw [← HMS.out] at hps
      have HOP := Lib.hid (hps.ops hs)
      have HNN := Lib.hid (show n' = (V ++ L).length by rw [hn', ← HMS.out]; simp)
      have HTR := Lib.hid ((HT.out.nxt HN3.out).nxt ⟨hcw⟩)
      clear hcw hps hown hs hl hA hn' HPS HOWN
      have a0 := (b3).cell 0; have a1 := (b3).cell 1; have a2 := (b3).cell 2; have a3 := (b3).cell 3; have a4 := (b3).cell 4; have a5 := (b3).cell 5; have a6 := (b3).cell 6; have a7 := (b3).cell 7; have a8 := (b3).cell 8; have a9 := (b3).cell 9; simp at a0 a1 a2 a3 a4 a5 a6 a7 a8 a9; have af := (b3).frozen; have al := (b3).lt
      clear b3
      go_wp2_with (first | (go_at_call 328; (with_reducible refine Calls.mono (chain_any HTR.out hn hV hr lv ll HNN.out HOP.out) ?_); rintro e W5 ⟨x0, x2, bt, f', p', rfl, ⟨hT5, hfr5⟩, hn5⟩; have HFR5 := Lib.hid hfr5; clear hfr5; have HT5 := Lib.hid hT5; have HN5 := Lib.hid hn5; have HR5 := Lib.hid ((HR3.out.nxt ⟨HCW.out⟩).nxt hn5); clear hT5 hn5; have u0 := (HR5.out).cell 0; have u1 := (HR5.out).cell 1; have u2 := (HR5.out).cell 2; have u3 := (HR5.out).cell 3; have u4 := (HR5.out).cell 4; simp at u0 u1 u2 u3 u4; have uf := (HR5.out).frozen; have ul := (HR5.out).lt))
      have hF : Chg [w.heap.size + 1 + 1] W5 (((((W5.setCell ⟨w.heap.size + 1 + 1, 0, none⟩ (.map (some x0))).setCell ⟨w.heap.size + 1 + 1, 1, none⟩ (.map none)).setCell ⟨w.heap.size + 1 + 1, 2, none⟩ (.bool false)).setCell ⟨w.heap.size + 1 + 1, 3, none⟩ (.map x2)).setCell ⟨w.heap.size + 1 + 1, 4, none⟩ (.map none)) := (((((Chg.refl _ _).setCell (.inr (by simp)) _).setCell (.inr (by simp)) _).setCell (.inr (by simp)) _).setCell (.inr (by simp)) _).setCell (.inr (by simp)) _
      refine bodyPost_ret (v := .tuple #[.agg #[.map (some x0), .map none, .bool false, .map x2, .map none], .map (some bt), .nilIface]) (by simp [results, Tryz.results274, go_sem, u0, u1, u2, u3, u4]) rfl ⟨x0, x2, bt, f', p', rfl, ⟨HT5.out.chgB HR5.out (by decide) hF, fun j s hs => Nat.le_trans (HN3.out.out.trans HCW.out).size (HFR5.out j s hs)⟩, ⟨?_⟩⟩
      exact ((HN3.out.out.trans HCW.out).trans HN5.out.out).then hF (by simp; omega)
end Go.Proofs.YtalhhplphlobbaaGreat
namespace Go.Proofs.YtalhhplphlobbaaGreat
open Go.RowKit Go.Sort
def eU : Int → Value := Value.int .u64
theorem less_u64 (x y : Int) (w : World) : Calls Tryz.prog 428 #[.int .u64 x, .int .u64 y] w fun e w' => e = .returned (.bool (ltInt x y)) ∧ w' = w := by
  go_enter Tryz.func428, Tryz.ntmps428
  go_wp2
  go_ret
  exact ⟨by simp [ltInt], rfl⟩

set_option maxRecDepth 100000 in
set_option maxHeartbeats 1000000 in
theorem insSort_u64 (blk off cap a b : Nat) (d : Array Int) (w : World) (hH : Holds (Value.int .u64) w blk off d) (hab : a ≤ b) (hb : b ≤ d.size) (hsz : d.size < 4611686018427387904) :
    Calls Tryz.prog 422 #[.slice (some ⟨blk, off, none⟩) d.size cap, .int .i64 a, .int .i64 b] w fun e w' =>
      e = .returned (.tuple #[]) ∧ ∃ n, w' = putRow (Value.int .u64) (Sort.ahead w n) blk off (Sort.insertionSort ltInt d a b) := by
  go_enter Tryz.func422, Tryz.ntmps422
  go_wp2
  go_loopw [6] (fun vi wr => ∃ (i n : Nat) (dk : Array Int), vi = .int .i64 i ∧ a < i ∧ i ≤ b + 1 ∧ dk.size = d.size ∧ wr = putRow (Value.int .u64) (Sort.ahead w n) blk off dk ∧
      insOuter ltInt a b i dk = insOuter ltInt a b (a + 1) d) (fun vi _ => b + 1 - (intOf vi).toNat)
  case atStart => exact ⟨a + 1, 0, d, by go_num, by omega, by omega, rfl, (putRow_self _ _ _ _ _ hH).symm, rfl⟩
  case round =>
    obtain ⟨i, n, dk, rfl, hai, hib, hsk, hwr, hO⟩ := hrel
    have HO := Lib.hid hO
    clear hO
    go_wp2
    · go_loopw [7] (fun vj wr2 => ∃ (j m : Nat) (dj : Array Int), vj = .int .i64 j ∧ a ≤ j ∧ j ≤ i ∧ dj.size = d.size ∧ wr2 = putRow (Value.int .u64) (Sort.ahead w m) blk off dj ∧
          insInner ltInt a j dj = insInner ltInt a i dk) (fun vj _ => (intOf vj).toNat)
      case atStart => exact ⟨i, n, dk, rfl, by omega, Nat.le_refl _, hsk, rfl, rfl⟩
      case round =>
        obtain ⟨j, m, dj, rfl, haj, hji, hsj, hw2, hI⟩ := hrel
        have hlt : i < b := by assumption
        obtain ⟨G, hG⟩ : ∃ G : Nat → Int, ∀ t, G t = dj[t]! := ⟨fun t => dj[t]!, fun _ => rfl⟩
        have hcw : ∀ t, t < d.size → wr.cell? ⟨blk, off + t, none⟩ = some (.int .u64 (G t)) := fun t ht => by
          rw [hw2, hG]; exact cell?_putRow _ _ _ _ d dj (holds_ahead _ _ _ _ _ _ hH) hsj t (by omega)
        have hfw : ∀ t, t < d.size → wr.frozen? ⟨blk, off + t, none⟩ = false := fun t ht => by
          rw [hw2, frozen?_putRow]; exact ((holds_ahead _ _ m _ _ _ hH) t ht).2
        have HW := Lib.hid hw2
        have HG := Lib.hid hG
        have HI := Lib.hid hI
        clear hw2 hG hI hH
        have out : (j ≤ a ∨ ltInt dj[j]! dj[j - 1]! = false) → ∀ q, ∃ i' n' dk', Value.int .i64 ((i : Int) + 1) = .int .i64 (i' : Nat) ∧ a < i' ∧ i' ≤ b + 1 ∧ dk'.size = d.size ∧
            wr.drewN q = putRow (Value.int .u64) (Sort.ahead w n') blk off dk' ∧ insOuter ltInt a b i' dk' = insOuter ltInt a b (a + 1) d := fun hs q =>
          ⟨i + 1, m + q, dj, by go_num, by omega, by omega, hsj, by rw [HW.out]; exact putRow_drewN _ _ _ _ _ _ _,
            by rw [← HO.out, insOuter_go _ _ _ _ _ hlt, ← HI.out, insInner_stop _ _ _ _ hs]⟩
        have OUT := Lib.hid out
        clear out
        go_wp2
        by_cases hja : a < j
        · go_quiet (first | (go_at_call 428; refine Calls.quiet_of_same (less_u64 _ _ _)))
          go_wp2
          · have hl : ltInt (G j) (G (j - 1)) = true := by assumption
            go_region
            all_goals go_wp2
            go_roundw
            case rel =>
              refine ⟨j - 1, m + (nq + 1), swp dj j (j - 1), by congr 1; omega, by omega, by omega, by rw [size_swp]; exact hsj, ?_, ?_⟩
              · rw [HW.out, HG.out, HG.out]
                exact swap_worldA _ w m (nq + 1) blk off dj j (j - 1) (by omega) (by omega)
              · rw [← HI.out, insInner_go ltInt a j dj hja (by rw [← HG.out, ← HG.out]; exact hl)]
            case measure => simp [intOf]; omega
          · have hl : ltInt (G j) (G (j - 1)) = false := by assumption
            go_roundw
            case rel => exact OUT.out (Or.inr (by rw [← HG.out, ← HG.out]; exact hl)) nq
            case measure => simp [intOf]; omega
        · go_quiet (first | (go_at_call 428; refine Calls.quiet_of_same (less_u64 _ _ _)))
          go_wp2
          go_roundw
          case rel => exact OUT.out (Or.inl (by omega)) nq
          case measure => simp [intOf]; omega
    · have hge : ¬ i < b := by assumption
      go_end0
      exact ⟨rfl, n, by unfold Sort.insertionSort; rw [← HO.out, insOuter_stop _ _ _ _ _ hge]⟩
end Go.Proofs.YtalhhplphlobbaaGreat
