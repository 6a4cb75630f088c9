/- Quorum's joint configuration: its IDs; a progress map in memory. Conditions: sizes. The halves of a joint configuration; a change's getters; a set is grown or shrunk where it lies. Conditions: sizes. A progress map in memory; a new member's progress. Conditions: sizes. A configuration's copy, a progress map's copy. Conditions: sizes. A tracker in memory: its sets and its progress map; the copy of the progress map. Conditions: sizes. -/
import Derived.Test.YtalhhplphlobbaaGreatP04
set_option linter.unusedVariables false
set_option linter.unusedSimpArgs false
namespace Go.Proofs.YtalhhplphlobbaaGreat
open Go.RowKit
theorem IsSet.size_le {w : World} {b : Nat} {D : DataW Value} {S : List Int} (h : IsSet D S) (hm : MapAt w b D) : Maps.size D ≤ S.length := by
  obtain ⟨ks, hn, hk, e, _⟩ := hm.keys
  rw [e]
  refine nodup_le hn (fun k hk' => ?_)
  have := (hk k).1 hk'
  rw [h k] at this
  split at this
  · assumption
  · cases this
theorem SetAt.blk {w : World} {v : Value} {S : List Int} (h : SetAt w v S) : ∀ b, v = .map (some b) → b < w.heap.size := by
  obtain ⟨_, ⟨rfl, _⟩ | ⟨b, D, rfl, hm, _⟩⟩ := h
  · intro b hb; cases hb
  · intro b' hb; cases hb; exact hm.lt

theorem index284_0 (w : World) (r0 r1 : Option Nat) : (Instr.index 284 (.agg #[.map r0, .map r1]) (.int .i64 0)).run Tryz.prog w = .ok (.map r0) w := by
  simp [Instr.index, go_sem]
theorem index284_1 (w : World) (r0 r1 : Option Nat) : (Instr.index 284 (.agg #[.map r0, .map r1]) (.int .i64 1)).run Tryz.prog w = .ok (.map r1) w := by
  simp [Instr.index, go_sem]
set_option maxRecDepth 100000 in
set_option maxHeartbeats 1000000 in
theorem jointIDs_any {w : World} {r0 r1 : Option Nat} {S0 S1 : List Int} (h0 : SetAt w (.map r0) S0) (h1 : SetAt w (.map r1) S1) (hl0 : S0.length ≤ 1000) (hl1 : S1.length ≤ 1000) :
    Calls Tryz.prog 336 #[.agg #[.map r0, .map r1]] w fun y w' => ∃ b' D', y = .returned (.map (some b')) ∧ w.heap.size ≤ b' ∧ MapAt w' b' D' ∧ IsSet D' (S0 ++ S1) ∧ Nxt w w' := by
  have hmm := @run_makeMap Tryz.prog
  have hix0 := index284_0
  have hix1 := index284_1
  have hb0 := h0.blk
  have hb1 := h1.blk
  go_enter Tryz.func336, Tryz.ntmps336
  go_wp2_with fail
  go_loopw [9] (fun iv wr => ∃ (k : Nat) (E : List Int) (Do : DataW Value), k ≤ 2 ∧ iv = .int .i64 k ∧ E = (if k = 0 then [] else if k = 1 then S0 else S0 ++ S1) ∧ MapAt wr (w.heap.size + 1) Do ∧ IsSet Do E ∧ Nxt w wr) (fun iv _ => 2 - (intOf iv).toNat)
  case atStart => exact ⟨0, [], .map [], by omega, rfl, rfl, by simpa using MapAt.new (w.alloc (.cells #[.map r0, .map r1] 284)), IsSet.nil, ⟨((Chg.refl _ _).alloc _).alloc _⟩⟩
  case round =>
    obtain ⟨k, E, Do, hk, rfl, hE, hout, hA, hnx⟩ := hrel
    by_cases hlt : k < 2
    · have h0r := h0.nxt hnx
      have h1r := h1.nxt hnx
      have hE0 : E.length ≤ 1000 := by
        match k, hlt with
        | 0, _ => simp [hE]
        | 1, _ => simp [hE]; omega
      have hk2 : k = 0 ∨ k = 1 := by omega
      have hqz := hnx.out.size
      have hlo := hout.lt
      rcases hk2 with rfl | rfl
      · go_wp2_with (first | (at_range; refine wp_rangeS _ rfl _ 282 rfl Tryz.underlying282 (v := .map r0) rfl h0r ?_; intro w1 hrg1 hn1 hz1) | go_in)
        have hout1 := hout.nxt hn1
        go_loopw [6] (fun _ wi => ∃ (dn : List Int) (Di : DataW Value), RgS wi (.map r0) wr.heap.size S0 dn ∧ MapAt wi (w.heap.size + 1) Di ∧ IsSet Di (E ++ dn) ∧ Chg [] w wi) (fun _ wi => rgLeft wi (.map r0) wr.heap.size)
        case atStart => exact ⟨[], Do, hrg1, hout1, by simpa using hA, (hnx.out.nxt hn1)⟩
        case round =>
          obtain ⟨dn, Di, hrg, hti, hAi, hci⟩ := hrel
          have hsb := hrg.sub
          have hln := nodup_le hsb.1 hsb.2
          go_wp2_with (first | (at_next; refine wp_nextS _ rfl _ rfl (v := .map r0) (S := S0) (dn := dn) rfl hrg ?_ ?_) | go_in)
          · intro hall
            go_wp2
            go_roundw
            case rel =>
              exact ⟨1, E ++ S0, Di, by omega, rfl, by simp [hE], hti, hAi.perm (fun k => by simp only [List.mem_append]; exact ⟨fun h => h.imp id (hsb.2 k), fun h => h.imp id (hall k)⟩), ⟨hci⟩⟩
            case measure => simp [intOf]
          · intro x w2 hx0 hx1 hxs hnot hrg2 hlt2 hc2 hs2 hen
            have hti2 : MapAt w2 (w.heap.size + 1) Di := hti.chg hc2 (by simp; omega)
            have hsz2 := hAi.size_le hti
            go_wp2_with (first | (at_mapUpdate; refine wp_store _ rfl _ _ _ 281 rfl 464 Tryz.underlying281 (b := w.heap.size + 1) rfl hti2 (by simp only [maxLen]; simp at hsz2; omega) rfl rfl ⟨hx0, hx1⟩ ?_; intro w3 hti3 hsz3 hc3 hs3; go_frame) | go_in)
            go_roundw
            case rel =>
              have hv : ∀ b, (Value.map r0) = .map (some b) → b ∉ [w.heap.size + 1] := fun b hb => by have := hb0 b hb; simp; omega
              refine ⟨dn ++ [x], _, (hrg2.chg hc3 hv (by simp; omega)).1, hti3, by rw [← List.append_assoc]; exact hAi.put hti2.isMap x, ?_⟩
              exact (hci.then hc2 (by simp; omega)).then hc3 (by simp)
            case measure =>
              have hv : ∀ b, (Value.map r0) = .map (some b) → b ∉ [w.heap.size + 1] := fun b hb => by have := hb0 b hb; simp; omega
              rw [(hrg2.chg hc3 hv (by simp; omega)).2]; exact hlt2
      · go_wp2_with (first | (at_range; refine wp_rangeS _ rfl _ 282 rfl Tryz.underlying282 (v := .map r1) rfl h1r ?_; intro w1 hrg1 hn1 hz1) | go_in)
        have hout1 := hout.nxt hn1
        go_loopw [6] (fun _ wi => ∃ (dn : List Int) (Di : DataW Value), RgS wi (.map r1) wr.heap.size S1 dn ∧ MapAt wi (w.heap.size + 1) Di ∧ IsSet Di (E ++ dn) ∧ Chg [] w wi) (fun _ wi => rgLeft wi (.map r1) wr.heap.size)
        case atStart => exact ⟨[], Do, hrg1, hout1, by simpa using hA, (hnx.out.nxt hn1)⟩
        case round =>
          obtain ⟨dn, Di, hrg, hti, hAi, hci⟩ := hrel
          have hsb := hrg.sub
          have hln := nodup_le hsb.1 hsb.2
          go_wp2_with (first | (at_next; refine wp_nextS _ rfl _ rfl (v := .map r1) (S := S1) (dn := dn) rfl hrg ?_ ?_) | go_in)
          · intro hall
            go_wp2
            go_roundw
            case rel =>
              exact ⟨2, E ++ S1, Di, by omega, rfl, by simp [hE], hti, hAi.perm (fun k => by simp only [List.mem_append]; exact ⟨fun h => h.imp id (hsb.2 k), fun h => h.imp id (hall k)⟩), ⟨hci⟩⟩
            case measure => simp [intOf]
          · intro x w2 hx0 hx1 hxs hnot hrg2 hlt2 hc2 hs2 hen
            have hti2 : MapAt w2 (w.heap.size + 1) Di := hti.chg hc2 (by simp; omega)
            have hsz2 := hAi.size_le hti
            go_wp2_with (first | (at_mapUpdate; refine wp_store _ rfl _ _ _ 281 rfl 464 Tryz.underlying281 (b := w.heap.size + 1) rfl hti2 (by simp only [maxLen]; simp at hsz2; omega) rfl rfl ⟨hx0, hx1⟩ ?_; intro w3 hti3 hsz3 hc3 hs3; go_frame) | go_in)
            go_roundw
            case rel =>
              have hv : ∀ b, (Value.map r1) = .map (some b) → b ∉ [w.heap.size + 1] := fun b hb => by have := hb1 b hb; simp; omega
              refine ⟨dn ++ [x], _, (hrg2.chg hc3 hv (by simp; omega)).1, hti3, by rw [← List.append_assoc]; exact hAi.put hti2.isMap x, ?_⟩
              exact (hci.then hc2 (by simp; omega)).then hc3 (by simp)
            case measure =>
              have hv : ∀ b, (Value.map r1) = .map (some b) → b ∉ [w.heap.size + 1] := fun b hb => by have := hb1 b hb; simp; omega
              rw [(hrg2.chg hc3 hv (by simp; omega)).2]; exact hlt2
    · have : k = 2 := by omega
      subst this
      go_wp2
      go_ret
      exact ⟨_, Do, rfl, by omega, hout, by simpa [hE] using hA, hnx⟩
end Go.Proofs.YtalhhplphlobbaaGreat
namespace Go.Proofs.YtalhhplphlobbaaGreat
open Go.RowKit
set_option maxRecDepth 100000 in
set_option maxHeartbeats 400000 in
theorem outgoing_any (w : World) (r0 r1 : Option Nat) : Calls Tryz.prog 367 #[.agg #[.map r0, .map r1]] w fun y w' => y = .returned (.map r1) ∧ Nxt w w' := by
  go_enter Tryz.func367, Tryz.ntmps367
  go_wp2
  go_ret
  exact ⟨rfl, ⟨(Chg.refl _ _).alloc _⟩⟩
set_option maxRecDepth 100000 in
set_option maxHeartbeats 400000 in
theorem incoming_any (w : World) (r0 r1 : Option Nat) : Calls Tryz.prog 368 #[.agg #[.map r0, .map r1]] w fun y w' => y = .returned (.map r0) ∧ Nxt w w' := by
  go_enter Tryz.func368, Tryz.ntmps368
  go_wp2
  go_ret
  exact ⟨rfl, ⟨(Chg.refl _ _).alloc _⟩⟩
set_option maxRecDepth 100000 in
set_option maxHeartbeats 400000 in
theorem joint_no (w : World) (r0 : Option Nat) (al : Bool) (v2 v3 : Value) : Calls Tryz.prog 365 #[.agg #[.map r0, .map none, .bool al, v2, v3]] w fun y w' => y = .returned (.bool false) ∧ Nxt w w' := by
  have hl := fun (w : World) (ty : TypeId) => Maps.len_nil (P := Tryz.prog) (w := w) Tryz.underlying282 ty
  go_enter Tryz.func365, Tryz.ntmps365
  go_wp2_with (first | (go_at_call 367; (with_reducible refine Calls.mono (outgoing_any _ _ _) ?_); (focus (first | with_reducible assumption | ((repeat (first | with_reducible exact Chg.refl _ _ | with_reducible assumption | refine Chg.drew ?_ | refine Chg.alloc ?_ _)); done))); rintro e w1 ⟨rfl, hn1⟩; obtain ⟨qc1, qf1, qz1⟩ := hn1.rules; (try simp at qz1)) | go_in)
  go_ret
  exact ⟨rfl, ⟨((Chg.refl _ _).alloc _).alloc _⟩⟩
/-- A change of one member in memory. -/
def CcAt (w : World) (v : Value) (t n : Int) : Prop := ∃ b bt bn, v = .pointer (some ⟨b, 0, none⟩) ∧ Blk w b 438 #[.pointer (some ⟨bt, 0, none⟩), .pointer (some ⟨bn, 0, none⟩)] ∧ Blk w bt 343 #[.int .i32 t] ∧ Blk w bn 22 #[.int .u64 n]
theorem CcAt.nxt {w w' : World} {v : Value} {t n : Int} (h : CcAt w v t n) (hn : Nxt w w') : CcAt w' v t n := by
  obtain ⟨b, bt, bn, e, h0, h1, h2⟩ := h
  exact ⟨b, bt, bn, e, h0.nxt hn, h1.nxt hn, h2.nxt hn⟩
set_option maxRecDepth 100000 in
set_option maxHeartbeats 400000 in
theorem ccNode_any {w : World} {v : Value} {t n : Int} (h : CcAt w v t n) : Calls Tryz.prog 405 #[v] w fun y w' => y = .returned (.int .u64 n) ∧ w = w' := by
  obtain ⟨b, bt, bn, rfl, h0, h1, h2⟩ := h
  have c0 := h0.cell 0
  have c1 := h0.cell 1
  have c2 := h1.cell 0
  have c3 := h2.cell 0
  clear h0 h1 h2
  simp at c0 c1 c2 c3
  go_enter Tryz.func405, Tryz.ntmps405
  go_wp2
  go_ret
  exact ⟨rfl, rfl⟩
set_option maxRecDepth 100000 in
set_option maxHeartbeats 400000 in
theorem ccType_any {w : World} {v : Value} {t n : Int} (h : CcAt w v t n) : Calls Tryz.prog 406 #[v] w fun y w' => y = .returned (.int .i32 t) ∧ w = w' := by
  obtain ⟨b, bt, bn, rfl, h0, h1, h2⟩ := h
  have c0 := h0.cell 0
  have c1 := h0.cell 1
  have c2 := h1.cell 0
  have c3 := h2.cell 0
  clear h0 h1 h2
  simp at c0 c1 c2 c3
  go_enter Tryz.func406, Tryz.ntmps406
  go_wp2
  go_ret
  exact ⟨rfl, rfl⟩
section
variable {w : World} {c t o b : Nat} {cs : Array Value} {k : Int} {D : DataW Value} {S : List Int}
set_option maxRecDepth 100000 in
set_option maxHeartbeats 400000 in
theorem nilAdd_none (hB : Blk w c t cs) (ho : cs[o]? = some (.map none)) (hk : 0 ≤ k ∧ k < 2 ^ 64) :
    Calls Tryz.prog 366 #[.pointer (some ⟨c, o, none⟩), .int .u64 k] w fun y w' => y = .returned (.tuple #[]) ∧ ∃ b D, w.heap.size ≤ b ∧ Blk w' c t (cs.setIfInBounds o (.map (some b))) ∧ MapAt w' b D ∧ IsSet D [k] ∧ Chg [c] w w' := by
  have hc := (hB.cell o).trans ho
  have hf := hB.frozen o
  have hq := eql281
  have hmm := @run_makeMap Tryz.prog
  have hlt := hB.lt
  go_enter Tryz.func366, Tryz.ntmps366
  have hn : MapAt ((w.setCell ⟨c, o, none⟩ (.map (some w.heap.size))).alloc (.map #[] 0)) w.heap.size (.map []) := by simpa using MapAt.new (w.setCell ⟨c, o, none⟩ (.map (some w.heap.size)))
  go_wp2_with (first | (at_mapUpdate; refine wp_store _ rfl _ _ _ 281 rfl 464 Tryz.underlying281 (b := w.heap.size) (val := .agg #[]) rfl hn (by simp [maxLen, Maps.size]) rfl rfl hk ?_; intro w3 hti3 hsz3 hc3 hs3; go_frame) | go_in)
  go_end0
  refine ⟨rfl, _, _, Nat.le_refl _, ?_, hti3, IsSet.nil.put Maps.isMap_empty k, ?_⟩
  · exact ((hB.set_ o _).alloc _).chg hc3 (by simp; omega)
  · exact (((Chg.refl [c] w).setCell (by simp) _).alloc _).then hc3 (by simp)
set_option maxRecDepth 100000 in
set_option maxHeartbeats 400000 in
theorem nilAdd_some (hB : Blk w c t cs) (ho : cs[o]? = some (.map (some b))) (hm : MapAt w b D) (hs : IsSet D S) (hl : S.length ≤ 1000) (hk : 0 ≤ k ∧ k < 2 ^ 64) :
    Calls Tryz.prog 366 #[.pointer (some ⟨c, o, none⟩), .int .u64 k] w fun y w' => y = .returned (.tuple #[]) ∧ ∃ D, MapAt w' b D ∧ IsSet D (S ++ [k]) ∧ Chg [b] w w' := by
  have hc := (hB.cell o).trans ho
  have hf := hB.frozen o
  have hq := eql281
  have hsz := hs.size_le hm
  go_enter Tryz.func366, Tryz.ntmps366
  go_wp2_with (first | (at_mapUpdate; refine wp_store _ rfl _ _ _ 281 rfl 464 Tryz.underlying281 (b := b) rfl hm (by simp only [maxLen]; omega) rfl rfl hk ?_; intro w3 hti3 hsz3 hc3 hs3; go_frame) | go_in)
  go_end0
  exact ⟨rfl, _, hti3, hs.put hm.isMap k, hc3⟩
end
end Go.Proofs.YtalhhplphlobbaaGreat
namespace Go.Proofs.YtalhhplphlobbaaGreat
open Go.RowKit
/-- The fields of a progress. -/
structure PrS where
  m : Int
  n : Int
  sc : Int
  st : Int
  ps : Int
  ra : Bool
  mp : Bool
  inf : Nat
  il : Bool
def PrS.cells (s : PrS) : Array Value := #[.int .u64 s.m, .int .u64 s.n, .int .u64 s.sc, .int .u64 s.st, .int .u64 s.ps, .bool s.ra, .bool s.mp, .pointer (some ⟨s.inf, 0, none⟩), .bool s.il]
/-- A progress map: f the progress of a member, p where it lies. -/
structure PrgAt (w : World) (b : Nat) (f : Int → Option PrS) (p : Int → Nat) : Prop where
  map : ∃ D, MapAt w b D ∧ ∀ k, mget D k = (f k).map fun _ => .pointer (some ⟨p k, 0, none⟩)
  blk : ∀ k s, f k = some s → Blk w (p k) 461 s.cells
  inj : ∀ k k' s s', f k = some s → f k' = some s' → p k = p k' → k = k'
set_option maxRecDepth 100000 in
theorem upon_store {W : World} {o : Oper} {a : Act} {K : Act → World → Prop} {Q : Exit → Act → World → Prop} {t e : TypeId} (ht : Tryz.prog.underlying t = some (.map 22 e)) {b : Nat} {D : DataW Value} (hown : MapAt W b D) (hn : Maps.size D < maxLen) {k : Int} {val : Value} (hk : 0 ≤ k ∧ k < 2 ^ 64)
    (hK : ∀ w', MapAt w' b (D.put (.int .u64 k) (.held val)) → Maps.size (D.put (.int .u64 k) (.held val)) ≤ Maps.size D + 1 → Chg [b] W w' → w'.heap.size = W.heap.size → Oper.upon Tryz.prog o a K Q (.ok Next.skip w')) :
    Oper.upon Tryz.prog o a K Q (((Instr.mapUpdate t (.map (some b)) (.int .u64 k) val).run Tryz.prog W).andThen fun _ w' => .ok Next.skip w') := by
  obtain ⟨w', hrun, r1, r2⟩ := World.ownsMap.store hown u64K ht hn (key_u64 hk) (d := .held val) (ps := []) rfl
  rw [hrun]
  exact hK w' (MapAt.of_own r1) (World.ownsMap.size_le r1) (Chg.turned r2) (by obtain ⟨_, _, _, _, _, rfl⟩ := r2; simp [ChangeMaps.setBlock])
theorem newInfl_nxt (w : World) (n m : Int) : Calls Tryz.prog 344 #[.int .i64 n, .int .u64 m] w fun y w' => ∃ b, y = .returned (.pointer (some ⟨b, 0, none⟩)) ∧ w.heap.size ≤ b ∧ b < w'.heap.size ∧ Nxt w w' := by
  refine Calls.mono (newInfl_any w n m) ?_
  rintro e w' ⟨b, rfl, rfl, rfl⟩
  exact ⟨_, rfl, Nat.le_refl _, by simp, ⟨(Chg.refl _ _).alloc _⟩⟩
set_option maxRecDepth 100000 in
set_option maxHeartbeats 1000000 in
theorem initPrg_voter {w : World} {c b0 bp : Nat} {r1 r2 r3 : Option Nat} {al : Bool} {q0 q1 : Option Nat} {qa : Bool} {q2 q3 : Value} {p5 p6 : Value} {mi mb li k : Int} {S0 : List Int} {D0 : DataW Value} {D : DataW Value}
    (hB : Blk w c 286 #[.map (some b0), .map r1, .bool al, .map r2, .map r3]) (h0 : MapAt w b0 D0) (hs0 : IsSet D0 S0) (hl0 : S0.length ≤ 1000) (hm : MapAt w bp D) (hl : Maps.size D ≤ 1000) (hk : 0 ≤ k ∧ k < 2 ^ 64) (hne : b0 ≠ bp) :
    Calls Tryz.prog 435 #[.agg #[.map q0, .map q1, .bool qa, q2, q3, p5, p6, .int .i64 mi, .int .u64 mb, .int .u64 li], .pointer (some ⟨c, 0, none⟩), .map (some bp), .int .u64 k, .bool false] w fun y w' =>
      y = .returned (.tuple #[]) ∧ ∃ D0' D' bi b, MapAt w' b0 D0' ∧ IsSet D0' (S0 ++ [k]) ∧ w.heap.size ≤ bi ∧ w.heap.size ≤ b ∧ bi ≠ b ∧ D' = D.put (.int .u64 k) (.held (.pointer (some ⟨b, 0, none⟩))) ∧ MapAt w' bp D' ∧
        Blk w' b 461 #[.int .u64 0, .int .u64 (max li 1), .int .u64 0, .int .u64 0, .int .u64 0, .bool true, .bool false, .pointer (some ⟨bi, 0, none⟩), .bool false] ∧ Chg [b0, bp] w w' := by
  have c0 := hB.cell 0
  have c1 := hB.cell 1
  have hsz := hs0.size_le h0
  have hlt := hB.lt
  have hne0 : c ≠ w.heap.size := by omega
  have hlb0 := h0.lt
  have hlbp := hm.lt
  simp at c0 c1
  go_enter Tryz.func435, Tryz.ntmps435
  have hch : ∀ o1 o2, Chg [] w ((w.alloc o1).alloc o2) := fun o1 o2 => ((Chg.refl [] w).alloc _).alloc _
  go_wp2_with (first | (at_mapUpdate; refine wp_store _ rfl _ _ _ 282 rfl 464 Tryz.underlying282 (b := b0) (val := .agg #[]) rfl (h0.chg (hch _ _) (by simp)) (by simp only [maxLen]; omega) rfl rfl hk ?_; intro w3 hti3 hsz3 hc3 hs3; go_frame) | go_in)
  have hs4 : w3.heap.size = w.heap.size + 2 := by simpa using hs3
  have hB5 := ((Blk.new w 414 #[.map q0, .map q1, .bool qa, q2, q3, p5, p6, .int .i64 mi, .int .u64 mb, .int .u64 li]).alloc (.cells #[.map (some b0), .map r1] 284)).chg hc3 (by simp; omega)
  have d7 := hB5.cell 7
  have d8 := hB5.cell 8
  have d9 := hB5.cell 9
  simp at d7 d8 d9
  have hm3 : MapAt w3 bp D := (hm.chg (hch _ _) (by simp)).chg hc3 (by simp; omega)
  have hcw : Chg [b0] w w3 := ((hch _ _).mono (by simp)).trans hc3
  clear hc3 hs3 hB5
  have hmb : w.heap.size ≠ bp := by omega
  by_cases hli : li < 1
  all_goals
    go_region_held3 (fun wx => wx.cell? ⟨w.heap.size, 7, none⟩ = some (.int .i64 mi) ∧ wx.cell? ⟨w.heap.size, 8, none⟩ = some (.int .u64 mb) ∧ wx.cell? ⟨w.heap.size, 9, none⟩ = some (.int .u64 li) ∧ Chg [bp] w3 wx)
      ((repeat' apply And.intro) <;> (first | with_reducible assumption | (refine Chg.at_ hc4 ?_ (by simp; omega); ((repeat (refine cell_alloc ?_ _)); (first | with_reducible assumption | (refine Chg.at0 (Nxt.out (by with_reducible assumption)) ?_; (first | with_reducible assumption | (simp; done) | (simp [*]; done))) | (simp [*]; done)))) | (refine Chg.trans ?_ hc4; ((repeat (first | with_reducible exact Chg.refl _ _ | with_reducible assumption | refine Chg.drew ?_ | refine Chg.drewN ?_ _ | refine Chg.alloc ?_ _ | refine Chg.nxt ?_ (by with_reducible assumption))); done)) | ((repeat (refine cell_alloc ?_ _)); (first | with_reducible assumption | (refine Chg.at0 (Nxt.out (by with_reducible assumption)) ?_; (first | with_reducible assumption | (simp; done) | (simp [*]; done))) | (simp [*]; done))) | ((repeat (first | with_reducible exact Chg.refl _ _ | with_reducible assumption | refine Chg.drew ?_ | refine Chg.drewN ?_ _ | refine Chg.alloc ?_ _ | refine Chg.nxt ?_ (by with_reducible assumption))); done)))
      (first | (refine upon_store Tryz.underlying288 (b := bp) (hm3.chg (L := []) (by (repeat (first | with_reducible exact Chg.refl _ _ | with_reducible assumption | refine Chg.alloc ?_ _ | refine Chg.drew ?_ | refine Chg.nxt ?_ (by with_reducible assumption)))) (by simp)) (by simp only [maxLen]; omega) hk ?_; intro w4 hti4 hsz4 hc4 hs4) | (go_at_call 344; (with_reducible refine Calls.mono (newInfl_nxt _ _ _) ?_); rintro e w5 ⟨b5, rfl, hb5, hb6, hn5⟩))
    all_goals
      have hz5 := hn5.out.size
      have hz6 : w3.drew.heap.size = w3.heap.size := rfl
      have hch5 : Chg [bp] w3 w4 := ((((Chg.refl [bp] w3).drew).nxt hn5).alloc _).trans hc4
      go_end0
      refine ⟨rfl, _, _, b5, w5.heap.size, hti3.chg hch5 (by simp [hne]), hs0.put h0.isMap k, by omega, by omega, by omega, rfl, hti4, ?_, ?_⟩
      · have hmx : max li 1 = 1 ∨ max li 1 = li := by omega
        first
          | (have hmx : max li 1 = 1 := by omega
             rw [hmx]
             exact (Blk.new w5 461 _).chg hc4 (by simp; omega))
          | (have hmx : max li 1 = li := by omega
             have hb := (Blk.new w5 461 _).chg hc4 (by simp; omega)
             try rw [if_neg (show ¬ li < 1 by omega)] at hb
             rw [hmx]
             exact hb)
      · exact (hcw.mono (by simp)).trans (hch5.mono (by simp))
end Go.Proofs.YtalhhplphlobbaaGreat
namespace Go.Proofs.YtalhhplphlobbaaGreat
open Go.RowKit
theorem MapAt.size_le {w : World} {b : Nat} {D : DataW Value} {S : List Int} (hm : MapAt w b D) (h : ∀ k, (mget D k).isSome = true → k ∈ S) : Maps.size D ≤ S.length := by
  obtain ⟨ks, hn, hk, e, _⟩ := hm.keys
  rw [e]
  exact nodup_le hn (fun k hk' => h k ((hk k).1 hk'))
theorem MapAt.ne_blk {w : World} {b g t : Nat} {D : DataW Value} {cs : Array Value} (hm : MapAt w b D) (hb : Blk w g t cs) : b ≠ g := by
  rintro rfl
  obtain ⟨es, clock, hh, _⟩ := hm
  unfold Blk at hb
  rw [hb] at hh
  cases hh
theorem cloneSet_from {M : List Nat} (W w : World) {r : Option Nat} {S : List Int} (h : SetAt W (.map r) S) (hl : S.length ≤ 1000) (hr : ∀ k, r = some k → k ∉ M) (hW : Chg M W w) :
    Calls Tryz.prog 434 #[.map r] w fun y w' => ∃ r', y = .returned (.map r') ∧ SetAt w' (.map r') S ∧ (∀ k, r' = some k → w.heap.size ≤ k) ∧ r'.isSome = r.isSome ∧ Chg M W w' ∧ Nxt w w' := by
  obtain ⟨hn, ⟨e, rfl⟩ | ⟨b, D, e, hm, hs⟩⟩ := h
  · cases e
    refine (cloneSet_nil w).mono ?_
    rintro y w' ⟨rfl, rfl⟩
    exact ⟨none, rfl, SetAt.nil _, by simp, rfl, hW, ⟨Chg.refl _ _⟩⟩
  · cases e
    refine (cloneSet_some (hm.chg hW (hr _ rfl)) hs hn hl).mono ?_
    rintro y w' ⟨b', D', rfl, hb, hm', hs', hn'⟩
    exact ⟨some b', rfl, ⟨hn, .inr ⟨b', D', rfl, hm', hs'⟩⟩, by rintro k ⟨⟩; exact hb, rfl, hW.nxt hn', hn'⟩
theorem cloneNil_from {M : List Nat} (W w : World) (hW : Chg M W w) : Calls Tryz.prog 434 #[.map none] w fun y w' => y = .returned (.map none) ∧ Chg M W w' ∧ Nxt w w' := by
  refine (cloneSet_nil w).mono ?_
  rintro y w' ⟨rfl, rfl⟩
  exact ⟨rfl, hW, ⟨Chg.refl _ _⟩⟩
theorem isSome_nxt {w w' : World} {b o : Nat} (h : Nxt w w') (hs : (w.cell? ⟨b, o, none⟩).isSome = true) : (w'.cell? ⟨b, o, none⟩).isSome = true := by
  obtain ⟨v, hv⟩ := Option.isSome_iff_exists.1 hs
  rw [h.out.at0 hv]
  rfl
theorem frozen_nxt {w w' : World} {b o : Nat} (h : Nxt w w') (hb : b < w.heap.size) (hs : w.frozen? ⟨b, o, none⟩ = false) : w'.frozen? ⟨b, o, none⟩ = false :=
  (h.rules.2.1 b o hb).trans hs
theorem size_nxt {w w' : World} {n : Nat} (h : Nxt w w') (hs : n < w.heap.size) : n < w'.heap.size := Nat.lt_of_lt_of_le hs h.out.size
theorem cell_nxt {w w' : World} {b o : Nat} {v : Value} (h : Nxt w w') (hs : w.cell? ⟨b, o, none⟩ = some v) : w'.cell? ⟨b, o, none⟩ = some v := h.out.at0 hs

section
variable {b n0 : Nat} {r0 r2 : Option Nat} {B w w' : World}
theorem heldC_nxt (hn : Nxt w w') (hc : Chg [n0] B w') (h : (w).cell? ⟨b, 0, none⟩ = some (.map r0) ∧ (w).cell? ⟨b, 1, none⟩ = some (.map none) ∧ (w).cell? ⟨b, 3, none⟩ = some (.map r2) ∧ (w).cell? ⟨b, 4, none⟩ = some (.map none) ∧
      ((w).cell? ⟨n0, 0, none⟩).isSome = true ∧ ((w).cell? ⟨n0, 1, none⟩).isSome = true ∧ ((w).cell? ⟨n0, 2, none⟩).isSome = true ∧ ((w).cell? ⟨n0, 3, none⟩).isSome = true ∧ ((w).cell? ⟨n0, 4, none⟩).isSome = true ∧
      (w).frozen? ⟨n0, 0, none⟩ = false ∧ (w).frozen? ⟨n0, 1, none⟩ = false ∧ (w).frozen? ⟨n0, 2, none⟩ = false ∧ (w).frozen? ⟨n0, 3, none⟩ = false ∧ (w).frozen? ⟨n0, 4, none⟩ = false ∧ n0 < (w).heap.size ∧ b ≠ n0 ∧ Chg [n0] B (w)) : (w').cell? ⟨b, 0, none⟩ = some (.map r0) ∧ (w').cell? ⟨b, 1, none⟩ = some (.map none) ∧ (w').cell? ⟨b, 3, none⟩ = some (.map r2) ∧ (w').cell? ⟨b, 4, none⟩ = some (.map none) ∧
      ((w').cell? ⟨n0, 0, none⟩).isSome = true ∧ ((w').cell? ⟨n0, 1, none⟩).isSome = true ∧ ((w').cell? ⟨n0, 2, none⟩).isSome = true ∧ ((w').cell? ⟨n0, 3, none⟩).isSome = true ∧ ((w').cell? ⟨n0, 4, none⟩).isSome = true ∧
      (w').frozen? ⟨n0, 0, none⟩ = false ∧ (w').frozen? ⟨n0, 1, none⟩ = false ∧ (w').frozen? ⟨n0, 2, none⟩ = false ∧ (w').frozen? ⟨n0, 3, none⟩ = false ∧ (w').frozen? ⟨n0, 4, none⟩ = false ∧ n0 < (w').heap.size ∧ b ≠ n0 ∧ Chg [n0] B (w') := by
  obtain ⟨a0, a1, a2, a3, i0, i1, i2, i3, i4, f0, f1, f2, f3, f4, hz, hb, _⟩ := h
  exact ⟨cell_nxt hn a0, cell_nxt hn a1, cell_nxt hn a2, cell_nxt hn a3, isSome_nxt hn i0, isSome_nxt hn i1, isSome_nxt hn i2, isSome_nxt hn i3, isSome_nxt hn i4, frozen_nxt hn hz f0, frozen_nxt hn hz f1, frozen_nxt hn hz f2, frozen_nxt hn hz f3, frozen_nxt hn hz f4, size_nxt hn hz, hb, hc⟩
theorem heldC_vals (h : (w).cell? ⟨b, 0, none⟩ = some (.map r0) ∧ (w).cell? ⟨b, 1, none⟩ = some (.map none) ∧ (w).cell? ⟨b, 3, none⟩ = some (.map r2) ∧ (w).cell? ⟨b, 4, none⟩ = some (.map none) ∧
      ((w).cell? ⟨n0, 0, none⟩).isSome = true ∧ ((w).cell? ⟨n0, 1, none⟩).isSome = true ∧ ((w).cell? ⟨n0, 2, none⟩).isSome = true ∧ ((w).cell? ⟨n0, 3, none⟩).isSome = true ∧ ((w).cell? ⟨n0, 4, none⟩).isSome = true ∧
      (w).frozen? ⟨n0, 0, none⟩ = false ∧ (w).frozen? ⟨n0, 1, none⟩ = false ∧ (w).frozen? ⟨n0, 2, none⟩ = false ∧ (w).frozen? ⟨n0, 3, none⟩ = false ∧ (w).frozen? ⟨n0, 4, none⟩ = false ∧ n0 < (w).heap.size ∧ b ≠ n0 ∧ Chg [n0] B (w)) : ∃ v0 v1 v2 v3 v4, w.cell? ⟨n0, 0, none⟩ = some v0 ∧ w.cell? ⟨n0, 1, none⟩ = some v1 ∧ w.cell? ⟨n0, 2, none⟩ = some v2 ∧ w.cell? ⟨n0, 3, none⟩ = some v3 ∧ w.cell? ⟨n0, 4, none⟩ = some v4 := by
  obtain ⟨a0, a1, a2, a3, i0, i1, i2, i3, i4, _⟩ := h
  obtain ⟨v0, h0⟩ := Option.isSome_iff_exists.1 i0
  obtain ⟨v1, h1⟩ := Option.isSome_iff_exists.1 i1
  obtain ⟨v2, h2⟩ := Option.isSome_iff_exists.1 i2
  obtain ⟨v3, h3⟩ := Option.isSome_iff_exists.1 i3
  obtain ⟨v4, h4⟩ := Option.isSome_iff_exists.1 i4
  exact ⟨v0, v1, v2, v3, v4, h0, h1, h2, h3, h4⟩
theorem heldC_set (u0 u1 u2 u3 u4 : Value) (h : (w).cell? ⟨b, 0, none⟩ = some (.map r0) ∧ (w).cell? ⟨b, 1, none⟩ = some (.map none) ∧ (w).cell? ⟨b, 3, none⟩ = some (.map r2) ∧ (w).cell? ⟨b, 4, none⟩ = some (.map none) ∧
      ((w).cell? ⟨n0, 0, none⟩).isSome = true ∧ ((w).cell? ⟨n0, 1, none⟩).isSome = true ∧ ((w).cell? ⟨n0, 2, none⟩).isSome = true ∧ ((w).cell? ⟨n0, 3, none⟩).isSome = true ∧ ((w).cell? ⟨n0, 4, none⟩).isSome = true ∧
      (w).frozen? ⟨n0, 0, none⟩ = false ∧ (w).frozen? ⟨n0, 1, none⟩ = false ∧ (w).frozen? ⟨n0, 2, none⟩ = false ∧ (w).frozen? ⟨n0, 3, none⟩ = false ∧ (w).frozen? ⟨n0, 4, none⟩ = false ∧ n0 < (w).heap.size ∧ b ≠ n0 ∧ Chg [n0] B (w)) : ((((((w.setCell ⟨n0, 0, none⟩ u0).setCell ⟨n0, 1, none⟩ u1).setCell ⟨n0, 2, none⟩ u2).setCell ⟨n0, 3, none⟩ u3).setCell ⟨n0, 4, none⟩ u4)).cell? ⟨b, 0, none⟩ = some (.map r0) ∧ ((((((w.setCell ⟨n0, 0, none⟩ u0).setCell ⟨n0, 1, none⟩ u1).setCell ⟨n0, 2, none⟩ u2).setCell ⟨n0, 3, none⟩ u3).setCell ⟨n0, 4, none⟩ u4)).cell? ⟨b, 1, none⟩ = some (.map none) ∧ ((((((w.setCell ⟨n0, 0, none⟩ u0).setCell ⟨n0, 1, none⟩ u1).setCell ⟨n0, 2, none⟩ u2).setCell ⟨n0, 3, none⟩ u3).setCell ⟨n0, 4, none⟩ u4)).cell? ⟨b, 3, none⟩ = some (.map r2) ∧ ((((((w.setCell ⟨n0, 0, none⟩ u0).setCell ⟨n0, 1, none⟩ u1).setCell ⟨n0, 2, none⟩ u2).setCell ⟨n0, 3, none⟩ u3).setCell ⟨n0, 4, none⟩ u4)).cell? ⟨b, 4, none⟩ = some (.map none) ∧
      (((((((w.setCell ⟨n0, 0, none⟩ u0).setCell ⟨n0, 1, none⟩ u1).setCell ⟨n0, 2, none⟩ u2).setCell ⟨n0, 3, none⟩ u3).setCell ⟨n0, 4, none⟩ u4)).cell? ⟨n0, 0, none⟩).isSome = true ∧ (((((((w.setCell ⟨n0, 0, none⟩ u0).setCell ⟨n0, 1, none⟩ u1).setCell ⟨n0, 2, none⟩ u2).setCell ⟨n0, 3, none⟩ u3).setCell ⟨n0, 4, none⟩ u4)).cell? ⟨n0, 1, none⟩).isSome = true ∧ (((((((w.setCell ⟨n0, 0, none⟩ u0).setCell ⟨n0, 1, none⟩ u1).setCell ⟨n0, 2, none⟩ u2).setCell ⟨n0, 3, none⟩ u3).setCell ⟨n0, 4, none⟩ u4)).cell? ⟨n0, 2, none⟩).isSome = true ∧ (((((((w.setCell ⟨n0, 0, none⟩ u0).setCell ⟨n0, 1, none⟩ u1).setCell ⟨n0, 2, none⟩ u2).setCell ⟨n0, 3, none⟩ u3).setCell ⟨n0, 4, none⟩ u4)).cell? ⟨n0, 3, none⟩).isSome = true ∧ (((((((w.setCell ⟨n0, 0, none⟩ u0).setCell ⟨n0, 1, none⟩ u1).setCell ⟨n0, 2, none⟩ u2).setCell ⟨n0, 3, none⟩ u3).setCell ⟨n0, 4, none⟩ u4)).cell? ⟨n0, 4, none⟩).isSome = true ∧
      ((((((w.setCell ⟨n0, 0, none⟩ u0).setCell ⟨n0, 1, none⟩ u1).setCell ⟨n0, 2, none⟩ u2).setCell ⟨n0, 3, none⟩ u3).setCell ⟨n0, 4, none⟩ u4)).frozen? ⟨n0, 0, none⟩ = false ∧ ((((((w.setCell ⟨n0, 0, none⟩ u0).setCell ⟨n0, 1, none⟩ u1).setCell ⟨n0, 2, none⟩ u2).setCell ⟨n0, 3, none⟩ u3).setCell ⟨n0, 4, none⟩ u4)).frozen? ⟨n0, 1, none⟩ = false ∧ ((((((w.setCell ⟨n0, 0, none⟩ u0).setCell ⟨n0, 1, none⟩ u1).setCell ⟨n0, 2, none⟩ u2).setCell ⟨n0, 3, none⟩ u3).setCell ⟨n0, 4, none⟩ u4)).frozen? ⟨n0, 2, none⟩ = false ∧ ((((((w.setCell ⟨n0, 0, none⟩ u0).setCell ⟨n0, 1, none⟩ u1).setCell ⟨n0, 2, none⟩ u2).setCell ⟨n0, 3, none⟩ u3).setCell ⟨n0, 4, none⟩ u4)).frozen? ⟨n0, 3, none⟩ = false ∧ ((((((w.setCell ⟨n0, 0, none⟩ u0).setCell ⟨n0, 1, none⟩ u1).setCell ⟨n0, 2, none⟩ u2).setCell ⟨n0, 3, none⟩ u3).setCell ⟨n0, 4, none⟩ u4)).frozen? ⟨n0, 4, none⟩ = false ∧ n0 < ((((((w.setCell ⟨n0, 0, none⟩ u0).setCell ⟨n0, 1, none⟩ u1).setCell ⟨n0, 2, none⟩ u2).setCell ⟨n0, 3, none⟩ u3).setCell ⟨n0, 4, none⟩ u4)).heap.size ∧ b ≠ n0 ∧ Chg [n0] B ((((((w.setCell ⟨n0, 0, none⟩ u0).setCell ⟨n0, 1, none⟩ u1).setCell ⟨n0, 2, none⟩ u2).setCell ⟨n0, 3, none⟩ u3).setCell ⟨n0, 4, none⟩ u4)) := by
  obtain ⟨v0, v1, v2, v3, v4, k0, k1, k2, k3, k4⟩ := heldC_vals h
  obtain ⟨a0, a1, a2, a3, i0, i1, i2, i3, i4, f0, f1, f2, f3, f4, hz, hb, hc⟩ := h
  have hb' := Ne.symm hb
  refine ⟨?_, ?_, ?_, ?_, ?_, ?_, ?_, ?_, ?_, ?_, ?_, ?_, ?_, ?_, ?_, hb, ?_⟩
  case _ => simp [go_sem, *]
  case _ => simp [go_sem, *]
  case _ => simp [go_sem, *]
  case _ => simp [go_sem, *]
  case _ => simp [go_sem, *]
  case _ => simp [go_sem, *]
  case _ => simp [go_sem, *]
  case _ => simp [go_sem, *]
  case _ => simp [go_sem, *]
  case _ => simp [go_sem, *]
  case _ => simp [go_sem, *]
  case _ => simp [go_sem, *]
  case _ => simp [go_sem, *]
  case _ => simp [go_sem, *]
  case _ => simp [go_sem, *]
  case _ => exact ((((hc.setCell (.inr (by simp)) _).setCell (.inr (by simp)) _).setCell (.inr (by simp)) _).setCell (.inr (by simp)) _).setCell (.inr (by simp)) _
end

set_option maxRecDepth 100000 in
set_option maxHeartbeats 1000000 in
theorem cfgClone_any {w : World} {b : Nat} {r0 r2 : Option Nat} {V L : List Int}
    (c0 : w.cell? ⟨b, 0, none⟩ = some (.map r0)) (c1 : w.cell? ⟨b, 1, none⟩ = some (.map none)) (c3 : w.cell? ⟨b, 3, none⟩ = some (.map r2)) (c4 : w.cell? ⟨b, 4, none⟩ = some (.map none))
    (hV : SetAt w (.map r0) V) (hL : SetAt w (.map r2) L) (lV : V.length ≤ 1000) (lL : L.length ≤ 1000) :
    Calls Tryz.prog 403 #[.pointer (some ⟨b, 0, none⟩)] w fun y w' => ∃ x0 x2, y = .returned (.agg #[.map x0, .map none, .bool false, .map x2, .map none]) ∧ SetAt w' (.map x0) V ∧ SetAt w' (.map x2) L ∧
      (∀ k, x0 = some k → w.heap.size ≤ k) ∧ (∀ k, x2 = some k → w.heap.size ≤ k) ∧ (∀ k, x0 = some k → x2 ≠ some k) ∧ x0.isSome = r0.isSome ∧ Nxt w w' := by
  have hmf : ∀ (fn : Fn) (first cap : Array Value) (w : World), (Instr.makeFunc fn first cap).run Tryz.prog w = .ok (.func fn first cap) w := fun _ _ _ _ => rfl
  have hN := SetAt.nil w
  go_enter Tryz.func403, Tryz.ntmps403
  go_wp2_with fail
  have hAl : Nxt w (w.alloc (.cells #[.map none, .map none, .bool false, .map none, .map none] 286)) := ⟨(Chg.refl _ _).alloc _⟩
  have hVB := hV.nxt hAl
  have hLB := hL.nxt hAl
  have hBk := Blk.new w 286 #[.map none, .map none, .bool false, .map none, .map none]
  have hcs := hAl.rules.1
  have d0 := (hcs b 0 (World.block_lt_of_cell? w _ c0)).trans c0
  have d1 := (hcs b 1 (World.block_lt_of_cell? w _ c0)).trans c1
  have d3 := (hcs b 3 (World.block_lt_of_cell? w _ c0)).trans c3
  have d4 := (hcs b 4 (World.block_lt_of_cell? w _ c0)).trans c4
  have hz : w.heap.size ≤ (w.alloc (.cells #[.map none, .map none, .bool false, .map none, .map none] 286)).heap.size := by simp
  have hb0 := World.block_lt_of_cell? w _ c0
  simp at hb0
  clear hcs c0 c1 c3 c4
  obtain ⟨n0, hn00⟩ : ∃ n0, n0 = w.heap.size := ⟨_, rfl⟩
  rw [← hn00] at hBk hz hb0 ⊢
  generalize w.alloc (.cells #[.map none, .map none, .bool false, .map none, .map none] 286) = B at hAl hVB hLB hBk d0 d1 d3 d4 hz ⊢
  have e0 : (B.cell? ⟨n0, 0, none⟩).isSome = true := by rw [hBk.cell 0]; rfl
  have e1 : (B.cell? ⟨n0, 1, none⟩).isSome = true := by rw [hBk.cell 1]; rfl
  have e2 : (B.cell? ⟨n0, 2, none⟩).isSome = true := by rw [hBk.cell 2]; rfl
  have e3 : (B.cell? ⟨n0, 3, none⟩).isSome = true := by rw [hBk.cell 3]; rfl
  have e4 : (B.cell? ⟨n0, 4, none⟩).isSome = true := by rw [hBk.cell 4]; rfl
  have f0 := hBk.frozen 0
  have f1 := hBk.frozen 1
  have f2 := hBk.frozen 2
  have f3 := hBk.frozen 3
  have f4 := hBk.frozen 4
  have hn0 := hBk.lt
  have hbn : b ≠ n0 := by omega
  have hr0 : ∀ k, r0 = some k → k ∉ [n0] := fun k hk => by have := hV.blk k (by rw [hk]); simp; omega
  have hr2 : ∀ k, r2 = some k → k ∉ [n0] := fun k hk => by have := hL.blk k (by rw [hk]); simp; omega
  have HN0 := Lib.hid hn00
  clear hn00
  have HR0 := Lib.hid hr0
  have HR2 := Lib.hid hr2
  have HA := Lib.hid hAl
  have HVB := Lib.hid hVB
  have HLB := Lib.hid hLB
  have HBK := Lib.hid hBk
  have HZ := Lib.hid hz
  clear hAl hVB hLB hBk hz hr0 hr2 hV hL
  have hS0 : (B.drew).cell? ⟨b, 0, none⟩ = some (.map r0) ∧ (B.drew).cell? ⟨b, 1, none⟩ = some (.map none) ∧ (B.drew).cell? ⟨b, 3, none⟩ = some (.map r2) ∧ (B.drew).cell? ⟨b, 4, none⟩ = some (.map none) ∧
      ((B.drew).cell? ⟨n0, 0, none⟩).isSome = true ∧ ((B.drew).cell? ⟨n0, 1, none⟩).isSome = true ∧ ((B.drew).cell? ⟨n0, 2, none⟩).isSome = true ∧ ((B.drew).cell? ⟨n0, 3, none⟩).isSome = true ∧ ((B.drew).cell? ⟨n0, 4, none⟩).isSome = true ∧
      (B.drew).frozen? ⟨n0, 0, none⟩ = false ∧ (B.drew).frozen? ⟨n0, 1, none⟩ = false ∧ (B.drew).frozen? ⟨n0, 2, none⟩ = false ∧ (B.drew).frozen? ⟨n0, 3, none⟩ = false ∧ (B.drew).frozen? ⟨n0, 4, none⟩ = false ∧ n0 < (B.drew).heap.size ∧ b ≠ n0 ∧ Chg [n0] B (B.drew) := ⟨d0, d1, d3, d4, e0, e1, e2, e3, e4, f0, f1, f2, f3, f4, hn0, hbn, (Chg.refl _ _).drew⟩
  clear d0 d1 d3 d4 e0 e1 e2 e3 e4 f0 f1 f2 f3 f4 hn0 hbn
  have HS0 := Lib.hid hS0
  clear hS0
  go_region_held3 (fun wx => (wx).cell? ⟨b, 0, none⟩ = some (.map r0) ∧ (wx).cell? ⟨b, 1, none⟩ = some (.map none) ∧ (wx).cell? ⟨b, 3, none⟩ = some (.map r2) ∧ (wx).cell? ⟨b, 4, none⟩ = some (.map none) ∧
      ((wx).cell? ⟨n0, 0, none⟩).isSome = true ∧ ((wx).cell? ⟨n0, 1, none⟩).isSome = true ∧ ((wx).cell? ⟨n0, 2, none⟩).isSome = true ∧ ((wx).cell? ⟨n0, 3, none⟩).isSome = true ∧ ((wx).cell? ⟨n0, 4, none⟩).isSome = true ∧
      (wx).frozen? ⟨n0, 0, none⟩ = false ∧ (wx).frozen? ⟨n0, 1, none⟩ = false ∧ (wx).frozen? ⟨n0, 2, none⟩ = false ∧ (wx).frozen? ⟨n0, 3, none⟩ = false ∧ (wx).frozen? ⟨n0, 4, none⟩ = false ∧ n0 < (wx).heap.size ∧ b ≠ n0 ∧ Chg [n0] B (wx))
    ((first | with_reducible exact HS0.out | exact heldC_nxt (by with_reducible assumption) (by with_reducible assumption) (by with_reducible assumption) | exact heldC_set _ _ _ _ _ (by with_reducible assumption)))
    (first | (go_at_call 434; (with_reducible refine Calls.mono (cloneSet_from (M := [n0]) B _ (r := r0) HVB.out lV HR0.out ?_) ?_); (first | with_reducible assumption | with_reducible exact HS0.out.2.2.2.2.2.2.2.2.2.2.2.2.2.2.2.2 | (simp [*]; done)); rintro e w1 ⟨x0, rfl, s0, f0, i0, hc1, hn1⟩) | (go_at_call 434; (with_reducible refine Calls.mono (cloneSet_from (M := [n0]) B _ (r := r2) HLB.out lL HR2.out ?_) ?_); (first | with_reducible assumption | (simp [*]; done)); rintro e w3 ⟨x2, rfl, s2, f2, i2, hc3, hn3⟩; have q13 : Chg [] w1 w3 := hn9.out.trans hn3.out; have f2' : ∀ k, x2 = some k → w1.heap.size ≤ k := fun k hk => Nat.le_trans hn9.out.size (f2 k hk)) | (go_at_call 434; (with_reducible refine Calls.mono (cloneNil_from (M := [n0]) B _ ?_) ?_); (first | with_reducible assumption | (simp [*]; done)); rintro e w9 ⟨rfl, hc9, hn9⟩; obtain ⟨v0, v1, v2, v3, v4, k0, k1, k2, k3, k4⟩ := heldC_vals (heldC_nxt hn9 hc9 (by with_reducible assumption))))
  have g0 := HBK.out.lt
  have g1 := HZ.out
  have g2 := HN0.out
  have g3 := hc3.size
  have g4 := hn3.out.size
  have g5 := hn1.out.size
  have g6 := q13.size
  have hF : ∀ u0 u1 u2 u3 u4, Chg [n0] w9 (((((w9.setCell ⟨n0, 0, none⟩ u0).setCell ⟨n0, 1, none⟩ u1).setCell ⟨n0, 2, none⟩ u2).setCell ⟨n0, 3, none⟩ u3).setCell ⟨n0, 4, none⟩ u4) := fun u0 u1 u2 u3 u4 =>
    (((((Chg.refl _ _).setCell (.inr (by simp)) _).setCell (.inr (by simp)) _).setCell (.inr (by simp)) _).setCell (.inr (by simp)) _).setCell (.inr (by simp)) _
  have hb1 := s0.blk
  have z0 : B.drew.heap.size = B.heap.size := rfl
  go_wp2
  refine bodyPost_ret (v := .agg #[.map x0, .map none, .bool false, .map x2, .map none]) (by simp [results, Tryz.results403, go_sem, k0, k1, k2, k3, k4]) rfl ⟨x0, x2, rfl, ?_, ?_, ?_, ?_, ?_, i0, ⟨?_⟩⟩
  · exact ((s0.chg q13 (by simp)).chg hn9.out (by simp)).chg (hF _ _ _ _ _) (fun k hk => by cases hk; have := f0 _ rfl; simp; omega)
  · exact (s2.chg hn9.out (by simp)).chg (hF _ _ _ _ _) (fun k hk => by cases hk; have := f2' _ rfl; simp; omega)
  · intro k hk
    have := f0 k hk
    omega
  · intro k hk
    have := f2' k hk
    omega
  · intro k hk hk2
    have h1 := f2' k hk2
    have h2 := hb1 k (by rw [hk])
    omega
  · have e1 : Chg [n0] B w9 := by assumption
    have e2 : Chg [n0] w w9 := (HA.out.out.mono (by simp)).trans e1
    exact (e2.trans (hF _ _ _ _ _)).fresh (fun x hx hl => by simp at hx; omega)
end Go.Proofs.YtalhhplphlobbaaGreat
namespace Go.Proofs.YtalhhplphlobbaaGreat
open Go.RowKit
/-- A configuration that is not joint (voters V, learners L), with its progress map: f the progress of a member, p where it lies. -/
structure TrkAt (w : World) (r0 r2 : Option Nat) (bp : Nat) (V L : List Int) (f : Int → Option PrS) (p : Int → Nat) : Prop where
  sv : SetAt w (.map r0) V
  sl : SetAt w (.map r2) L
  prg : PrgAt w bp f p
  dom : ∀ k, (f k).isSome = true ↔ k ∈ V ∨ k ∈ L
  lrn : ∀ k s, f k = some s → s.il = decide (k ∈ L)
  dis : ∀ k ∈ L, k ∉ V
  lv : V.length ≤ 100
  ll : L.length ≤ 100
  rng : ∀ k, k ∈ V ∨ k ∈ L → 0 < k ∧ k < 2 ^ 64
  some0 : r0.isSome = true
  a1 : r0 ≠ some bp
  a2 : r2 ≠ some bp
  a3 : ∀ b, r0 = some b → r2 ≠ some b
section
variable {w w' : World} {r0 r2 : Option Nat} {bp : Nat} {V L : List Int} {f : Int → Option PrS} {p : Int → Nat}
theorem PrgAt.nxt (h : PrgAt w bp f p) (hn : Nxt w w') : PrgAt w' bp f p := by
  obtain ⟨⟨D, hD, hg⟩, hb, hi⟩ := h
  exact ⟨⟨D, hD.nxt hn, hg⟩, fun k s hk => (hb k s hk).nxt hn, hi⟩
theorem TrkAt.nxt (h : TrkAt w r0 r2 bp V L f p) (hn : Nxt w w') : TrkAt w' r0 r2 bp V L f p :=
  { h with sv := h.sv.nxt hn, sl := h.sl.nxt hn, prg := h.prg.nxt hn }
theorem TrkAt.chg {M : List Nat} (h : TrkAt w r0 r2 bp V L f p) (hc : Chg M w w') (h0 : ∀ k, r0 = some k → k ∉ M) (h2 : ∀ k, r2 = some k → k ∉ M) (hb : bp ∉ M) (hp : ∀ k s, f k = some s → p k ∉ M) : TrkAt w' r0 r2 bp V L f p := by
  obtain ⟨⟨D, hD, hg⟩, hk, hi⟩ := h.prg
  exact { h with sv := h.sv.chg hc (fun b e => by cases e; exact h0 _ rfl), sl := h.sl.chg hc (fun b e => by cases e; exact h2 _ rfl), prg := ⟨⟨D, hD.chg hc hb, hg⟩, fun k s hs => (hk k s hs).chg hc (hp k s hs), hi⟩ }
theorem TrkAt.get (h : TrkAt w r0 r2 bp V L f p) {k : Int} (hk : k ∈ V ∨ k ∈ L) : ∃ s, f k = some s ∧ s.il = decide (k ∈ L) ∧ Blk w (p k) 461 s.cells := by
  have := (h.dom k).2 hk
  obtain ⟨s, hs⟩ := Option.isSome_iff_exists.1 this
  exact ⟨s, hs, h.lrn k s hs, h.prg.blk k s hs⟩
end
end Go.Proofs.YtalhhplphlobbaaGreat
