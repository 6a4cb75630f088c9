/- Sets of uint64 in memory, nil maps; the copy of a set. Conditions: a set's size is bounded. Sets in memory, nil or not: range, lookup and length at the operations. Conditions: none. Quorum's joint configuration: its IDs; a progress map in memory. Conditions: sizes. The halves of a joint configuration; a change's getters; a set is grown or shrunk where it lies. Conditions: sizes. A progress map in memory; a new member's progress. Conditions: sizes. -/
import Derived.WalkSpells
import Derived.Test.YtalhhplphlobbaaGreatP06
set_option linter.unusedVariables false
set_option linter.unusedSimpArgs false
namespace Go.Proofs.YtalhhplphlobbaaGreat
open Go.RowKit
section
variable {w w' : World} {b : Nat} {D : DataW Value} {L : List Nat}

theorem MapAt.keys (h : MapAt w b D) : ∃ ks : List Int, ks.Nodup ∧ (∀ k, k ∈ ks ↔ (mget D k).isSome = true) ∧ Maps.size D = ks.length ∧ ∀ k ∈ ks, 0 ≤ k ∧ k < 2 ^ 64 := by
  have hk := h.look
  obtain ⟨es, hes, hp, hl⟩ := World.ownsMap.entries h u64K
  have kinds : ∀ p ∈ es, ∃ k : Int, p.1 = .int .u64 k ∧ 0 ≤ k ∧ k < 2 ^ 64 := by
    intro p hp
    obtain ⟨fs, clock, hb, F, hs, hD⟩ := h
    rw [hes] at hD
    cases hD
    obtain ⟨x, hx, rfl⟩ := List.mem_map.1 (mem_sorted.1 hp)
    obtain ⟨y, hy⟩ := F.reads x hx
    rw [WideElems.rg_of hy]
    obtain ⟨k, _, hk, hw⟩ := Maps.keyOf_int_inv Tryz.underlying22 (WideElems.rd_key hy)
    refine ⟨k, hk, ?_⟩
    simp [Lit.wf, IntKind.min, IntKind.max, IntKind.bits, IntKind.signed] at hw
    omega
  have hlist : ∀ es : List (Lit × DataW Value), es.Pairwise (fun p q => p.1 ≠ q.1) → (∀ p ∈ es, ∃ k : Int, p.1 = .int .u64 k ∧ 0 ≤ k ∧ k < 2 ^ 64) → ∃ ks : List Int, es.map (·.1) = ks.map (Lit.int .u64) ∧ ks.Nodup ∧ ∀ k ∈ ks, 0 ≤ k ∧ k < 2 ^ 64 := by
    intro es
    induction es with
    | nil => exact fun _ _ => ⟨[], rfl, List.nodup_nil, by simp⟩
    | cons p r ih =>
      intro h1 h2
      obtain ⟨h3, h4⟩ := List.pairwise_cons.1 h1
      obtain ⟨ks, e1, e2, e3⟩ := ih h4 (fun q hq => h2 q (List.mem_cons_of_mem _ hq))
      obtain ⟨k, ek, hb⟩ := h2 p (List.mem_cons_self)
      refine ⟨k :: ks, by simp [e1, ek], List.nodup_cons.2 ⟨fun hm => ?_, e2⟩, fun x hx => ?_⟩
      · have : Lit.int .u64 k ∈ r.map (·.1) := by rw [e1]; exact List.mem_map.2 ⟨k, hm, rfl⟩
        obtain ⟨q, hq, eq⟩ := List.mem_map.1 this
        exact h3 q hq (ek.trans eq.symm)
      · rcases List.mem_cons.1 hx with rfl | hx
        · exact hb
        · exact e3 x hx
  obtain ⟨ks, e1, e2, e3⟩ := hlist es hp kinds
  refine ⟨ks, e2, fun k => ?_, ?_, e3⟩
  · rw [← (hk k).1, hes]
    constructor
    · intro hm
      have : Lit.int .u64 k ∈ es.map (·.1) := by rw [e1]; exact List.mem_map.2 ⟨k, hm, rfl⟩
      obtain ⟨q, hq, eq⟩ := List.mem_map.1 this
      exact List.any_eq_true.2 ⟨q, hq, by rw [eq]; exact WideAt.sameKey_self (key_lit k)⟩
    · intro hm
      obtain ⟨q, hq, eq⟩ := List.any_eq_true.1 hm
      have : Lit.int .u64 k ∈ es.map (·.1) := List.mem_map.2 ⟨q, hq, WideAt.sameKey_eq eq⟩
      rw [e1] at this
      obtain ⟨k', hk', e⟩ := List.mem_map.1 this
      cases e
      exact hk'
  · rw [hes]
    have : (es.map (·.1)).length = (ks.map (Lit.int .u64)).length := by rw [e1]
    simpa [Maps.size] using this

/-- A map reads as a set. -/
def IsSet (D : DataW Value) (S : List Int) : Prop := ∀ k, mget D k = if k ∈ S then some (.agg #[]) else none
theorem IsSet.perm {S S' : List Int} (h : IsSet D S) (hp : ∀ k, k ∈ S ↔ k ∈ S') : IsSet D S' := fun k => by rw [h k]; simp [hp]
theorem MapAt.size_keys {ks : List Int} (h : MapAt w b D) (hn : ks.Nodup) (hk : ∀ k, k ∈ ks ↔ (mget D k).isSome = true) : Maps.size D = ks.length := by
  obtain ⟨ks', n', m', e, _⟩ := h.keys
  rw [e]
  exact (List.Perm.length_eq ((List.perm_ext_iff_of_nodup n' hn).2 (fun k => (m' k).trans (hk k).symm)))
theorem IsSet.size {S : List Int} (h : IsSet D S) (hm : MapAt w b D) (hn : S.Nodup) : Maps.size D = S.length :=
  hm.size_keys hn (fun k => by rw [h k]; split <;> simp [*])
theorem IsSet.nil : IsSet (.map []) [] := fun k => by simp [mget_nil]
theorem IsSet.put {S : List Int} (h : IsSet D S) (hD : Maps.IsMap D) (k : Int) : IsSet (D.put (.int .u64 k) (.held (.agg #[]))) (S ++ [k]) := fun k' => by
  rw [mget_put hD, h k']
  by_cases e : k' = k
  · simp [e]
  · simp [e]
theorem IsSet.del {S : List Int} (h : IsSet D S) (k : Int) : IsSet (D.del (.int .u64 k)) (S.filter (· ≠ k)) := fun k' => by
  rw [mget_del, h k']
  by_cases e : k' = k
  · simp [e]
  · simp [e]

/-- A set in memory: nil, where it is empty, or a block. -/
def SetAt (w : World) (v : Value) (S : List Int) : Prop := S.Nodup ∧ ((v = .map none ∧ S = []) ∨ ∃ b D, v = .map (some b) ∧ MapAt w b D ∧ IsSet D S)
theorem SetAt.nxt {v : Value} {S : List Int} (h : SetAt w v S) (hc : Nxt w w') : SetAt w' v S := by
  obtain ⟨hn, h | ⟨b, D, rfl, hm, hs⟩⟩ := h
  · exact ⟨hn, .inl h⟩
  · exact ⟨hn, .inr ⟨b, D, rfl, hm.nxt hc, hs⟩⟩
theorem SetAt.nil (w : World) : SetAt w (.map none) [] := ⟨List.nodup_nil, .inl ⟨rfl, rfl⟩⟩
theorem wf_u64 {k : Int} (hk : 0 ≤ k ∧ k < 2 ^ 64) : (Lit.int .u64 k).wf = true := by simp [Lit.wf, IntKind.min, IntKind.max, IntKind.bits, IntKind.signed]; omega

theorem nodup_le : ∀ {l S : List Int}, l.Nodup → (∀ k ∈ l, k ∈ S) → l.length ≤ S.length
  | [], _, _, _ => by simp
  | a :: r, S, hn, hs => by
    obtain ⟨h1, h2⟩ := List.nodup_cons.1 hn
    have ha : a ∈ S := hs a List.mem_cons_self
    have := nodup_le (S := S.erase a) h2 (fun k hk => (List.mem_erase_of_ne (fun (e : k = a) => h1 (by rw [← e]; exact hk))).2 (hs k (List.mem_cons_of_mem _ hk)))
    rw [List.length_erase_of_mem ha] at this
    have := List.length_pos_of_mem ha
    simp
    omega
theorem run_makeMap_hint {t k e : TypeId} (ht : Tryz.prog.underlying t = some (.map k e)) (n : Int) (w : World) : (Instr.makeMap t (some (.int .i64 n))).run Tryz.prog w = .ok (.map (some w.heap.size)) (w.alloc (.map #[] 0)) := by
  simp [Instr.makeMap, run_underlying ht, asInt, asIntOf, Result.andThen]
theorem eql281 (w : World) (r : Option Nat) : (binOp .eql 281 (.map r) (.map none)).run Tryz.prog w = .ok (.bool r.isNone) w := run_eql_map_nil w _ _ _ r Tryz.underlying281

set_option maxRecDepth 100000 in
set_option maxHeartbeats 1000000 in
theorem cloneSet_nil (w : World) : Calls Tryz.prog 434 #[.map none] w fun y w' => y = .returned (.map none) ∧ w = w' := by
  have hq := eql281
  go_enter Tryz.func434, Tryz.ntmps434
  go_wp2
  go_ret
  exact ⟨rfl, rfl⟩

set_option maxRecDepth 100000 in
set_option maxHeartbeats 1000000 in
theorem cloneSet_some {w : World} {b : Nat} {D : DataW Value} {S : List Int} (hm : MapAt w b D) (hs : IsSet D S) (hn : S.Nodup) (hl : S.length ≤ 1000) :
    Calls Tryz.prog 434 #[.map (some b)] w fun y w' => ∃ b' D', y = .returned (.map (some b')) ∧ w.heap.size ≤ b' ∧ MapAt w' b' D' ∧ IsSet D' S ∧ Nxt w w' := by
  have hq := eql281
  have hmm := @run_makeMap_hint 281 _ _ Tryz.underlying281
  have hsz := hs.size hm hn
  have hlb := hm.lt
  go_enter Tryz.func434, Tryz.ntmps434
  go_wp2_with (first | (at_len; refine wp_mlen _ rfl _ 281 rfl 464 Tryz.underlying281 rfl hm ?_) | (at_range; refine wp_range _ rfl _ 281 rfl 464 Tryz.underlying281 rfl (hm.chg ((Chg.refl [] w).alloc _) (by simp)) ?_; intro w1 hrg1 hn1 hz1) | go_in)
  go_frame
  have e1 : (w.alloc (.map #[] 0)).heap.size = w.heap.size + 1 := by simp
  rw [e1] at hrg1 hz1 ⊢
  go_loopw [4] (fun _ wr => ∃ (dn : List Int) (Do : DataW Value), Rg wr b (w.heap.size + 1) D dn ∧ MapAt wr w.heap.size Do ∧ IsSet Do dn ∧ Nxt w wr) (fun _ wr => wr.rangeLeft b (w.heap.size + 1))
  case atStart => exact ⟨[], .map [], hrg1, (MapAt.new w).nxt hn1, IsSet.nil, ⟨((Chg.refl _ _).alloc _).nxt hn1⟩⟩
  case round =>
    obtain ⟨dn, Do, hrg, hout, hA, hnx⟩ := hrel
    go_wp2_with (first | (at_next; refine wp_next _ rfl _ rfl (b := b) (r := w.heap.size + 1) (D := D) (dn := dn) rfl hrg ?_ ?_) | go_in)
    · intro hall
      go_wp2
      go_ret
      refine ⟨_, Do, rfl, by omega, hout, hA.perm (fun k => ⟨fun hk => ?_, fun hk => ?_⟩), hnx⟩
      · obtain ⟨lf, _, _, _, h4⟩ := hrg
        have := (h4 k hk).1
        rw [hs k] at this
        split at this
        · assumption
        · cases this
      · exact hall k (by rw [hs k]; simp [hk])
    · intro x c w2 hx0 hx1 hg hnot hrg2 hlt hc2 hs2 hen
      have hout2 : MapAt w2 w.heap.size Do := hout.chg hc2 (by simp)
      have hsz2 : Maps.size Do ≤ S.length := by
        obtain ⟨lf, _, _, hnd, h4⟩ := hrg
        rw [hA.size hout hnd]
        refine nodup_le hnd (fun k hk => ?_)
        have := (h4 k hk).1
        rw [hs k] at this
        split at this
        · assumption
        · cases this
      go_wp2_with (first | (at_mapUpdate; refine wp_store _ rfl _ _ _ 281 rfl 464 Tryz.underlying281 rfl hout2 (by simp only [maxLen]; omega) rfl rfl ⟨hx0, hx1⟩ ?_; intro w3 hout3 hsz3 hc3 hs3; go_frame) | go_in)
      go_roundw
      case rel =>
        refine ⟨dn ++ [x], _, (hrg2.chg hc3 (by simp; omega) (by simp)).1, hout3, hA.put hout2.isMap x, ⟨?_⟩⟩
        exact (hnx.out.then hc2 (by simp)).then hc3 (by simp)
      case measure => rw [(hrg2.chg hc3 (by simp; omega) (by simp)).2]; exact hlt
end
end Go.Proofs.YtalhhplphlobbaaGreat
namespace Go.Proofs.YtalhhplphlobbaaGreat
open Go.RowKit
/-- A range loop over a set, nil or not. -/
def RgS (w : World) (v : Value) (r : Nat) (S dn : List Int) : Prop :=
  (v = .map none ∧ S = [] ∧ dn = [] ∧ w.heap[r]? = some (.mapIter none 0 #[] 0)) ∨ ∃ b D, v = .map (some b) ∧ IsSet D S ∧ Rg w b r D dn
def rgLeft (w : World) (v : Value) (r : Nat) : Nat := match v with | .map (some b) => w.rangeLeft b r | _ => 0
section
variable {w w' : World} {v : Value} {r : Nat} {S dn : List Int} {L : List Nat}
theorem RgS.chg (h : RgS w v r S dn) (hc : Chg L w w') (hb : ∀ b, v = .map (some b) → b ∉ L) (hr : r ∉ L) : RgS w' v r S dn ∧ rgLeft w' v r = rgLeft w v r := by
  rcases h with ⟨rfl, rfl, rfl, h⟩ | ⟨b, D, rfl, hs, h⟩
  · have hlt : r < w.heap.size := (Array.getElem?_eq_some_iff.1 h).1
    exact ⟨.inl ⟨rfl, rfl, rfl, (hc.block r hlt hr).trans h⟩, rfl⟩
  · have := h.chg hc (hb b rfl) hr
    exact ⟨.inr ⟨b, D, rfl, hs, this.1⟩, this.2⟩
theorem RgS.nxt (h : RgS w v r S dn) (hc : Nxt w w') : RgS w' v r S dn ∧ rgLeft w' v r = rgLeft w v r := h.chg hc.out (by simp) (by simp)
theorem RgS.sub (h : RgS w v r S dn) : dn.Nodup ∧ ∀ k ∈ dn, k ∈ S := by
  rcases h with ⟨rfl, rfl, rfl, h⟩ | ⟨b, D, rfl, hs, lf, _, _, hn, hd⟩
  · exact ⟨List.nodup_nil, by simp⟩
  · refine ⟨hn, fun k hk => ?_⟩
    have := (hd k hk).1
    rw [hs k] at this
    split at this
    · assumption
    · cases this
theorem SetAt.chg (h : SetAt w v S) (hc : Chg L w w') (hb : ∀ b, v = .map (some b) → b ∉ L) : SetAt w' v S := by
  obtain ⟨hn, h | ⟨b, D, rfl, hm, hs⟩⟩ := h
  · exact ⟨hn, .inl h⟩
  · exact ⟨hn, .inr ⟨b, D, rfl, hm.chg hc (hb b rfl), hs⟩⟩
end
section
variable (w : World) {ops : Array Oper} {rest : List Oper} {o : Oper} {a : Act} {Q : Exit → Act → World → Prop}
theorem wp_rangeS (hg : o.guard = none) (m : Operand) (t : TypeId) (hop : o.op = Op.range t m) (ht : Tryz.prog.underlying t = some (.map 22 464)) {v : Value} {S : List Int}
    (hm : a.eval m = v) (hown : SetAt w v S)
    (hK : ∀ w', RgS w' v w.heap.size S [] → Nxt w w' → w'.heap.size = w.heap.size + 1 → wpList Tryz.prog ops Q rest (a.put o.dst (.pointer (some ⟨w.heap.size, 0, none⟩))) w') :
    wpList Tryz.prog ops Q (o :: rest) a w := by
  obtain ⟨hn, ⟨rfl, rfl⟩ | ⟨b, D, rfl, h, hs⟩⟩ := hown
  · refine wpList_plain hg fun K' hK' => ?_
    unfold Oper.wp
    simp [execOp, hop, hm, run_range_nilMap w t 22 464 ht, Result.andThen]
    exact hK' _ _ (hK _ (.inl ⟨rfl, rfl, rfl, (MapKept.heap_alloc w _).1⟩) ⟨(Chg.refl _ _).alloc _⟩ (by simp))
  · exact wp_range w hg m t hop 464 ht hm h (fun w' h1 h2 h3 => hK w' (.inr ⟨b, D, rfl, hs, h1⟩) h2 h3)
theorem wp_nextS (hg : o.guard = none) (it : Operand) (hop : o.op = Op.next it false) {v : Value} {r : Nat} {S dn : List Int} (hit : a.eval it = .pointer (some ⟨r, 0, none⟩)) (h : RgS w v r S dn)
    (hDone : (∀ k ∈ S, k ∈ dn) → wpList Tryz.prog ops Q rest (a.put o.dst (.tuple #[.bool false])) w)
    (hMore : ∀ (k : Int) (w' : World), 0 ≤ k → k < 2 ^ 64 → k ∈ S → k ∉ dn → RgS w' v r S (dn ++ [k]) → rgLeft w' v r < rgLeft w v r → Chg [r] w w' → w'.heap.size = w.heap.size →
      (Instr.entry (.pointer (some ⟨r, 0, none⟩))).run Tryz.prog w' = .ok (.tuple #[.int .u64 k, .agg #[]]) w' → wpList Tryz.prog ops Q rest (a.put o.dst (.tuple #[.bool true, .int .u64 k, .agg #[]])) w') :
    wpList Tryz.prog ops Q (o :: rest) a w := by
  rcases h with ⟨rfl, rfl, rfl, h⟩ | ⟨b, D, rfl, hs, h⟩
  · refine wpList_plain hg fun K' hK' => ?_
    have hrun : (Instr.next (.pointer (some ⟨r, 0, none⟩)) false o.type).run Tryz.prog w = .ok (.tuple #[.bool false]) w := by
      simp only [Instr.next, getObj, Sem.run_bind, Sem.run, h, Result.andThen]
      rfl
    unfold Oper.wp
    simp [execOp, hop, hit, hrun, Result.andThen]
    exact hK' _ _ (hDone (by simp))
  · refine wp_next w hg it hop hit h (fun hd => hDone (fun k hk => hd k (by rw [hs k]; simp [hk]))) ?_
    intro k u w' h0 h1 hget hnot hrg hlt hc hz hen
    have hkS : k ∈ S := by
      rw [hs k] at hget
      split at hget
      · assumption
      · cases hget
    have hu : u = .agg #[] := by
      rw [hs k] at hget
      simp [hkS] at hget
      exact hget.symm
    subst hu
    exact hMore k w' h0 h1 hkS hnot (.inr ⟨b, D, rfl, hs, hrg⟩) hlt hc hz hen
theorem wp_lookokS (hg : o.guard = none) (m x : Operand) (t : TypeId) (hop : o.op = Op.lookup t m x true) (ht : Tryz.prog.underlying t = some (.map 22 464)) {v : Value} {S : List Int}
    (hm : a.eval m = v) (hown : SetAt w v S) {k : Int} (hx : a.eval x = .int .u64 k) (hk : 0 ≤ k ∧ k < 2 ^ 64)
    (hK : wpList Tryz.prog ops Q rest (a.put o.dst (.tuple #[.agg #[], .bool (decide (k ∈ S))])) w) : wpList Tryz.prog ops Q (o :: rest) a w := by
  have hz : (zeroValue 464).run Tryz.prog w = .ok (.agg #[]) w := by simp [go_sem]
  obtain ⟨hn, ⟨rfl, rfl⟩ | ⟨b, D, rfl, h, hs⟩⟩ := hown
  · refine wpList_plain hg fun K' hK' => ?_
    have := Maps.look_nil (w := w) true u64K ht hz (key_u64 hk)
    unfold Oper.wp
    simp [execOp, hop, hm, hx, this, Result.andThen]
    exact hK' _ _ (by simpa using hK)
  · refine wp_lookok w hg m x t hop 464 ht hz hm h hx hk (hs k) ?_
    by_cases e : k ∈ S <;> simpa [e] using hK
theorem wp_lenS (hg : o.guard = none) (m : Operand) (t : TypeId) (hop : o.op = Op.call { callee := Callee.builtin Builtin.len, args := #[m], argTypes := #[t] }) (ht : Tryz.prog.underlying t = some (.map 22 464)) {v : Value} {S : List Int}
    (hm : a.eval m = v) (hown : SetAt w v S)
    (hK : wpList Tryz.prog ops Q rest (a.put o.dst (.int .i64 S.length)) w) : wpList Tryz.prog ops Q (o :: rest) a w := by
  obtain ⟨hn, ⟨rfl, rfl⟩ | ⟨b, D, rfl, h, hs⟩⟩ := hown
  · refine wpList_plain hg fun K' hK' => ?_
    have := Maps.len_nil (P := Tryz.prog) (w := w) ht o.type
    unfold Oper.wp
    simp [execOp, hop, resolve, invoke, builtin, hm, this, Result.andThen]
    exact hK' _ _ (by simpa using hK)
  · refine wp_mlen w hg m t hop 464 ht hm h ?_
    rw [hs.size h hn]
    exact hK
end
end Go.Proofs.YtalhhplphlobbaaGreat
namespace Go.Proofs.YtalhhplphlobbaaGreat
open Go.RowKit
theorem IsSet.size_le {w : World} {b : Nat} {D : DataW Value} {S : List Int} (h : IsSet D S) (hm : MapAt w b D) : Maps.size D ≤ S.length := by
  obtain ⟨ks, hn, hk, e, _⟩ := hm.keys
  rw [e]
  refine nodup_le hn (fun k hk' => ?_)
  have := (hk k).1 hk'
  rw [h k] at this
  split at this
  · assumption
  · cases this
theorem SetAt.blk {w : World} {v : Value} {S : List Int} (h : SetAt w v S) : ∀ b, v = .map (some b) → b < w.heap.size := by
  obtain ⟨_, ⟨rfl, _⟩ | ⟨b, D, rfl, hm, _⟩⟩ := h
  · intro b hb; cases hb
  · intro b' hb; cases hb; exact hm.lt

theorem index284_0 (w : World) (r0 r1 : Option Nat) : (Instr.index 284 (.agg #[.map r0, .map r1]) (.int .i64 0)).run Tryz.prog w = .ok (.map r0) w := by
  simp [Instr.index, go_sem]
theorem index284_1 (w : World) (r0 r1 : Option Nat) : (Instr.index 284 (.agg #[.map r0, .map r1]) (.int .i64 1)).run Tryz.prog w = .ok (.map r1) w := by
  simp [Instr.index, go_sem]
set_option maxRecDepth 100000 in
set_option maxHeartbeats 1000000 in
theorem jointIDs_any {w : World} {r0 r1 : Option Nat} {S0 S1 : List Int} (h0 : SetAt w (.map r0) S0) (h1 : SetAt w (.map r1) S1) (hl0 : S0.length ≤ 1000) (hl1 : S1.length ≤ 1000) :
    Calls Tryz.prog 336 #[.agg #[.map r0, .map r1]] w fun y w' => ∃ b' D', y = .returned (.map (some b')) ∧ w.heap.size ≤ b' ∧ MapAt w' b' D' ∧ IsSet D' (S0 ++ S1) ∧ Nxt w w' := by
  have hmm := @run_makeMap Tryz.prog
  have hix0 := index284_0
  have hix1 := index284_1
  have hb0 := h0.blk
  have hb1 := h1.blk
  go_enter Tryz.func336, Tryz.ntmps336
  go_wp2_with fail
  go_loopw [9] (fun iv wr => ∃ (k : Nat) (E : List Int) (Do : DataW Value), k ≤ 2 ∧ iv = .int .i64 k ∧ E = (if k = 0 then [] else if k = 1 then S0 else S0 ++ S1) ∧ MapAt wr (w.heap.size + 1) Do ∧ IsSet Do E ∧ Nxt w wr) (fun iv _ => 2 - (intOf iv).toNat)
  case atStart => exact ⟨0, [], .map [], by omega, rfl, rfl, by simpa using MapAt.new (w.alloc (.cells #[.map r0, .map r1] 284)), IsSet.nil, ⟨((Chg.refl _ _).alloc _).alloc _⟩⟩
  case round =>
    obtain ⟨k, E, Do, hk, rfl, hE, hout, hA, hnx⟩ := hrel
    by_cases hlt : k < 2
    · have h0r := h0.nxt hnx
      have h1r := h1.nxt hnx
      have hE0 : E.length ≤ 1000 := by
        match k, hlt with
        | 0, _ => simp [hE]
        | 1, _ => simp [hE]; omega
      have hk2 : k = 0 ∨ k = 1 := by omega
      have hqz := hnx.out.size
      have hlo := hout.lt
      rcases hk2 with rfl | rfl
      · go_wp2_with (first | (at_range; refine wp_rangeS _ rfl _ 282 rfl Tryz.underlying282 (v := .map r0) rfl h0r ?_; intro w1 hrg1 hn1 hz1) | go_in)
        have hout1 := hout.nxt hn1
        go_loopw [6] (fun _ wi => ∃ (dn : List Int) (Di : DataW Value), RgS wi (.map r0) wr.heap.size S0 dn ∧ MapAt wi (w.heap.size + 1) Di ∧ IsSet Di (E ++ dn) ∧ Chg [] w wi) (fun _ wi => rgLeft wi (.map r0) wr.heap.size)
        case atStart => exact ⟨[], Do, hrg1, hout1, by simpa using hA, (hnx.out.nxt hn1)⟩
        case round =>
          obtain ⟨dn, Di, hrg, hti, hAi, hci⟩ := hrel
          have hsb := hrg.sub
          have hln := nodup_le hsb.1 hsb.2
          go_wp2_with (first | (at_next; refine wp_nextS _ rfl _ rfl (v := .map r0) (S := S0) (dn := dn) rfl hrg ?_ ?_) | go_in)
          · intro hall
            go_wp2
            go_roundw
            case rel =>
              exact ⟨1, E ++ S0, Di, by omega, rfl, by simp [hE], hti, hAi.perm (fun k => by simp only [List.mem_append]; exact ⟨fun h => h.imp id (hsb.2 k), fun h => h.imp id (hall k)⟩), ⟨hci⟩⟩
            case measure => simp [intOf]
          · intro x w2 hx0 hx1 hxs hnot hrg2 hlt2 hc2 hs2 hen
            have hti2 : MapAt w2 (w.heap.size + 1) Di := hti.chg hc2 (by simp; omega)
            have hsz2 := hAi.size_le hti
            go_wp2_with (first | (at_mapUpdate; refine wp_store _ rfl _ _ _ 281 rfl 464 Tryz.underlying281 (b := w.heap.size + 1) rfl hti2 (by simp only [maxLen]; simp at hsz2; omega) rfl rfl ⟨hx0, hx1⟩ ?_; intro w3 hti3 hsz3 hc3 hs3; go_frame) | go_in)
            go_roundw
            case rel =>
              have hv : ∀ b, (Value.map r0) = .map (some b) → b ∉ [w.heap.size + 1] := fun b hb => by have := hb0 b hb; simp; omega
              refine ⟨dn ++ [x], _, (hrg2.chg hc3 hv (by simp; omega)).1, hti3, by rw [← List.append_assoc]; exact hAi.put hti2.isMap x, ?_⟩
              exact (hci.then hc2 (by simp; omega)).then hc3 (by simp)
            case measure =>
              have hv : ∀ b, (Value.map r0) = .map (some b) → b ∉ [w.heap.size + 1] := fun b hb => by have := hb0 b hb; simp; omega
              rw [(hrg2.chg hc3 hv (by simp; omega)).2]; exact hlt2
      · go_wp2_with (first | (at_range; refine wp_rangeS _ rfl _ 282 rfl Tryz.underlying282 (v := .map r1) rfl h1r ?_; intro w1 hrg1 hn1 hz1) | go_in)
        have hout1 := hout.nxt hn1
        go_loopw [6] (fun _ wi => ∃ (dn : List Int) (Di : DataW Value), RgS wi (.map r1) wr.heap.size S1 dn ∧ MapAt wi (w.heap.size + 1) Di ∧ IsSet Di (E ++ dn) ∧ Chg [] w wi) (fun _ wi => rgLeft wi (.map r1) wr.heap.size)
        case atStart => exact ⟨[], Do, hrg1, hout1, by simpa using hA, (hnx.out.nxt hn1)⟩
        case round =>
          obtain ⟨dn, Di, hrg, hti, hAi, hci⟩ := hrel
          have hsb := hrg.sub
          have hln := nodup_le hsb.1 hsb.2
          go_wp2_with (first | (at_next; refine wp_nextS _ rfl _ rfl (v := .map r1) (S := S1) (dn := dn) rfl hrg ?_ ?_) | go_in)
          · intro hall
            go_wp2
            go_roundw
            case rel =>
              exact ⟨2, E ++ S1, Di, by omega, rfl, by simp [hE], hti, hAi.perm (fun k => by simp only [List.mem_append]; exact ⟨fun h => h.imp id (hsb.2 k), fun h => h.imp id (hall k)⟩), ⟨hci⟩⟩
            case measure => simp [intOf]
          · intro x w2 hx0 hx1 hxs hnot hrg2 hlt2 hc2 hs2 hen
            have hti2 : MapAt w2 (w.heap.size + 1) Di := hti.chg hc2 (by simp; omega)
            have hsz2 := hAi.size_le hti
            go_wp2_with (first | (at_mapUpdate; refine wp_store _ rfl _ _ _ 281 rfl 464 Tryz.underlying281 (b := w.heap.size + 1) rfl hti2 (by simp only [maxLen]; simp at hsz2; omega) rfl rfl ⟨hx0, hx1⟩ ?_; intro w3 hti3 hsz3 hc3 hs3; go_frame) | go_in)
            go_roundw
            case rel =>
              have hv : ∀ b, (Value.map r1) = .map (some b) → b ∉ [w.heap.size + 1] := fun b hb => by have := hb1 b hb; simp; omega
              refine ⟨dn ++ [x], _, (hrg2.chg hc3 hv (by simp; omega)).1, hti3, by rw [← List.append_assoc]; exact hAi.put hti2.isMap x, ?_⟩
              exact (hci.then hc2 (by simp; omega)).then hc3 (by simp)
            case measure =>
              have hv : ∀ b, (Value.map r1) = .map (some b) → b ∉ [w.heap.size + 1] := fun b hb => by have := hb1 b hb; simp; omega
              rw [(hrg2.chg hc3 hv (by simp; omega)).2]; exact hlt2
    · have : k = 2 := by omega
      subst this
      go_wp2
      go_ret
      exact ⟨_, Do, rfl, by omega, hout, by simpa [hE] using hA, hnx⟩
end Go.Proofs.YtalhhplphlobbaaGreat
namespace Go.Proofs.YtalhhplphlobbaaGreat
open Go.RowKit
set_option maxRecDepth 100000 in
set_option maxHeartbeats 400000 in
theorem outgoing_any (w : World) (r0 r1 : Option Nat) : Calls Tryz.prog 367 #[.agg #[.map r0, .map r1]] w fun y w' => y = .returned (.map r1) ∧ Nxt w w' := by
  go_enter Tryz.func367, Tryz.ntmps367
  go_wp2
  go_ret
  exact ⟨rfl, ⟨(Chg.refl _ _).alloc _⟩⟩
set_option maxRecDepth 100000 in
set_option maxHeartbeats 400000 in
theorem incoming_any (w : World) (r0 r1 : Option Nat) : Calls Tryz.prog 368 #[.agg #[.map r0, .map r1]] w fun y w' => y = .returned (.map r0) ∧ Nxt w w' := by
  go_enter Tryz.func368, Tryz.ntmps368
  go_wp2
  go_ret
  exact ⟨rfl, ⟨(Chg.refl _ _).alloc _⟩⟩
set_option maxRecDepth 100000 in
set_option maxHeartbeats 400000 in
theorem joint_no (w : World) (r0 : Option Nat) (al : Bool) (v2 v3 : Value) : Calls Tryz.prog 365 #[.agg #[.map r0, .map none, .bool al, v2, v3]] w fun y w' => y = .returned (.bool false) ∧ Nxt w w' := by
  have hl := fun (w : World) (ty : TypeId) => Maps.len_nil (P := Tryz.prog) (w := w) Tryz.underlying282 ty
  go_enter Tryz.func365, Tryz.ntmps365
  go_wp2_with (first | (go_at_call 367; (with_reducible refine Calls.mono (outgoing_any _ _ _) ?_); (focus (first | with_reducible assumption | ((repeat (first | with_reducible exact Chg.refl _ _ | with_reducible assumption | refine Chg.drew ?_ | refine Chg.alloc ?_ _)); done))); rintro e w1 ⟨rfl, hn1⟩; obtain ⟨qc1, qf1, qz1⟩ := hn1.rules; (try simp at qz1)) | go_in)
  go_ret
  exact ⟨rfl, ⟨((Chg.refl _ _).alloc _).alloc _⟩⟩
/-- A change of one member in memory. -/
def CcAt (w : World) (v : Value) (t n : Int) : Prop := ∃ b bt bn, v = .pointer (some ⟨b, 0, none⟩) ∧ Blk w b 438 #[.pointer (some ⟨bt, 0, none⟩), .pointer (some ⟨bn, 0, none⟩)] ∧ Blk w bt 343 #[.int .i32 t] ∧ Blk w bn 22 #[.int .u64 n]
theorem CcAt.nxt {w w' : World} {v : Value} {t n : Int} (h : CcAt w v t n) (hn : Nxt w w') : CcAt w' v t n := by
  obtain ⟨b, bt, bn, e, h0, h1, h2⟩ := h
  exact ⟨b, bt, bn, e, h0.nxt hn, h1.nxt hn, h2.nxt hn⟩
set_option maxRecDepth 100000 in
set_option maxHeartbeats 400000 in
theorem ccNode_any {w : World} {v : Value} {t n : Int} (h : CcAt w v t n) : Calls Tryz.prog 405 #[v] w fun y w' => y = .returned (.int .u64 n) ∧ w = w' := by
  obtain ⟨b, bt, bn, rfl, h0, h1, h2⟩ := h
  have c0 := h0.cell 0
  have c1 := h0.cell 1
  have c2 := h1.cell 0
  have c3 := h2.cell 0
  clear h0 h1 h2
  simp at c0 c1 c2 c3
  go_enter Tryz.func405, Tryz.ntmps405
  go_wp2
  go_ret
  exact ⟨rfl, rfl⟩
set_option maxRecDepth 100000 in
set_option maxHeartbeats 400000 in
theorem ccType_any {w : World} {v : Value} {t n : Int} (h : CcAt w v t n) : Calls Tryz.prog 406 #[v] w fun y w' => y = .returned (.int .i32 t) ∧ w = w' := by
  obtain ⟨b, bt, bn, rfl, h0, h1, h2⟩ := h
  have c0 := h0.cell 0
  have c1 := h0.cell 1
  have c2 := h1.cell 0
  have c3 := h2.cell 0
  clear h0 h1 h2
  simp at c0 c1 c2 c3
  go_enter Tryz.func406, Tryz.ntmps406
  go_wp2
  go_ret
  exact ⟨rfl, rfl⟩
section
variable {w : World} {c t o b : Nat} {cs : Array Value} {k : Int} {D : DataW Value} {S : List Int}
set_option maxRecDepth 100000 in
set_option maxHeartbeats 400000 in
theorem nilAdd_none (hB : Blk w c t cs) (ho : cs[o]? = some (.map none)) (hk : 0 ≤ k ∧ k < 2 ^ 64) :
    Calls Tryz.prog 366 #[.pointer (some ⟨c, o, none⟩), .int .u64 k] w fun y w' => y = .returned (.tuple #[]) ∧ ∃ b D, w.heap.size ≤ b ∧ Blk w' c t (cs.setIfInBounds o (.map (some b))) ∧ MapAt w' b D ∧ IsSet D [k] ∧ Chg [c] w w' := by
  have hc := (hB.cell o).trans ho
  have hf := hB.frozen o
  have hq := eql281
  have hmm := @run_makeMap Tryz.prog
  have hlt := hB.lt
  go_enter Tryz.func366, Tryz.ntmps366
  have hn : MapAt ((w.setCell ⟨c, o, none⟩ (.map (some w.heap.size))).alloc (.map #[] 0)) w.heap.size (.map []) := by simpa using MapAt.new (w.setCell ⟨c, o, none⟩ (.map (some w.heap.size)))
  go_wp2_with (first | (at_mapUpdate; refine wp_store _ rfl _ _ _ 281 rfl 464 Tryz.underlying281 (b := w.heap.size) (val := .agg #[]) rfl hn (by simp [maxLen, Maps.size]) rfl rfl hk ?_; intro w3 hti3 hsz3 hc3 hs3; go_frame) | go_in)
  go_end0
  refine ⟨rfl, _, _, Nat.le_refl _, ?_, hti3, IsSet.nil.put Maps.isMap_empty k, ?_⟩
  · exact ((hB.set_ o _).alloc _).chg hc3 (by simp; omega)
  · exact (((Chg.refl [c] w).setCell (by simp) _).alloc _).then hc3 (by simp)
set_option maxRecDepth 100000 in
set_option maxHeartbeats 400000 in
theorem nilAdd_some (hB : Blk w c t cs) (ho : cs[o]? = some (.map (some b))) (hm : MapAt w b D) (hs : IsSet D S) (hl : S.length ≤ 1000) (hk : 0 ≤ k ∧ k < 2 ^ 64) :
    Calls Tryz.prog 366 #[.pointer (some ⟨c, o, none⟩), .int .u64 k] w fun y w' => y = .returned (.tuple #[]) ∧ ∃ D, MapAt w' b D ∧ IsSet D (S ++ [k]) ∧ Chg [b] w w' := by
  have hc := (hB.cell o).trans ho
  have hf := hB.frozen o
  have hq := eql281
  have hsz := hs.size_le hm
  go_enter Tryz.func366, Tryz.ntmps366
  go_wp2_with (first | (at_mapUpdate; refine wp_store _ rfl _ _ _ 281 rfl 464 Tryz.underlying281 (b := b) rfl hm (by simp only [maxLen]; omega) rfl rfl hk ?_; intro w3 hti3 hsz3 hc3 hs3; go_frame) | go_in)
  go_end0
  exact ⟨rfl, _, hti3, hs.put hm.isMap k, hc3⟩
end
end Go.Proofs.YtalhhplphlobbaaGreat
namespace Go.Proofs.YtalhhplphlobbaaGreat
open Go.RowKit
/-- The fields of a progress. -/
structure PrS where
  m : Int
  n : Int
  sc : Int
  st : Int
  ps : Int
  ra : Bool
  mp : Bool
  inf : Nat
  il : Bool
def PrS.cells (s : PrS) : Array Value := #[.int .u64 s.m, .int .u64 s.n, .int .u64 s.sc, .int .u64 s.st, .int .u64 s.ps, .bool s.ra, .bool s.mp, .pointer (some ⟨s.inf, 0, none⟩), .bool s.il]
/-- A progress map: f the progress of a member, p where it lies. -/
structure PrgAt (w : World) (b : Nat) (f : Int → Option PrS) (p : Int → Nat) : Prop where
  map : ∃ D, MapAt w b D ∧ ∀ k, mget D k = (f k).map fun _ => .pointer (some ⟨p k, 0, none⟩)
  blk : ∀ k s, f k = some s → Blk w (p k) 461 s.cells
  inj : ∀ k k' s s', f k = some s → f k' = some s' → p k = p k' → k = k'
set_option maxRecDepth 100000 in
theorem upon_store {W : World} {o : Oper} {a : Act} {K : Act → World → Prop} {Q : Exit → Act → World → Prop} {t e : TypeId} (ht : Tryz.prog.underlying t = some (.map 22 e)) {b : Nat} {D : DataW Value} (hown : MapAt W b D) (hn : Maps.size D < maxLen) {k : Int} {val : Value} (hk : 0 ≤ k ∧ k < 2 ^ 64)
    (hK : ∀ w', MapAt w' b (D.put (.int .u64 k) (.held val)) → Maps.size (D.put (.int .u64 k) (.held val)) ≤ Maps.size D + 1 → Chg [b] W w' → w'.heap.size = W.heap.size → Oper.upon Tryz.prog o a K Q (.ok Next.skip w')) :
    Oper.upon Tryz.prog o a K Q (((Instr.mapUpdate t (.map (some b)) (.int .u64 k) val).run Tryz.prog W).andThen fun _ w' => .ok Next.skip w') := by
  obtain ⟨w', hrun, r1, r2⟩ := World.ownsMap.store hown u64K ht hn (key_u64 hk) (d := .held val) (ps := []) rfl
  rw [hrun]
  exact hK w' (MapAt.of_own r1) (World.ownsMap.size_le r1) (Chg.turned r2) (by obtain ⟨_, _, _, _, _, rfl⟩ := r2; simp [ChangeMaps.setBlock])
theorem newInfl_nxt (w : World) (n m : Int) : Calls Tryz.prog 344 #[.int .i64 n, .int .u64 m] w fun y w' => ∃ b, y = .returned (.pointer (some ⟨b, 0, none⟩)) ∧ w.heap.size ≤ b ∧ b < w'.heap.size ∧ Nxt w w' := by
  refine Calls.mono (newInfl_any w n m) ?_
  rintro e w' ⟨b, rfl, rfl, rfl⟩
  exact ⟨_, rfl, Nat.le_refl _, by simp, ⟨(Chg.refl _ _).alloc _⟩⟩
set_option maxRecDepth 100000 in
set_option maxHeartbeats 1000000 in
theorem initPrg_voter {w : World} {c b0 bp : Nat} {r1 r2 r3 : Option Nat} {al : Bool} {q0 q1 : Option Nat} {qa : Bool} {q2 q3 : Value} {p5 p6 : Value} {mi mb li k : Int} {S0 : List Int} {D0 : DataW Value} {D : DataW Value}
    (hB : Blk w c 286 #[.map (some b0), .map r1, .bool al, .map r2, .map r3]) (h0 : MapAt w b0 D0) (hs0 : IsSet D0 S0) (hl0 : S0.length ≤ 1000) (hm : MapAt w bp D) (hl : Maps.size D ≤ 1000) (hk : 0 ≤ k ∧ k < 2 ^ 64) (hne : b0 ≠ bp) :
    Calls Tryz.prog 435 #[.agg #[.map q0, .map q1, .bool qa, q2, q3, p5, p6, .int .i64 mi, .int .u64 mb, .int .u64 li], .pointer (some ⟨c, 0, none⟩), .map (some bp), .int .u64 k, .bool false] w fun y w' =>
      y = .returned (.tuple #[]) ∧ ∃ D0' D' bi b, MapAt w' b0 D0' ∧ IsSet D0' (S0 ++ [k]) ∧ w.heap.size ≤ bi ∧ w.heap.size ≤ b ∧ bi ≠ b ∧ D' = D.put (.int .u64 k) (.held (.pointer (some ⟨b, 0, none⟩))) ∧ MapAt w' bp D' ∧
        Blk w' b 461 #[.int .u64 0, .int .u64 (max li 1), .int .u64 0, .int .u64 0, .int .u64 0, .bool true, .bool false, .pointer (some ⟨bi, 0, none⟩), .bool false] ∧ Chg [b0, bp] w w' := by
  have c0 := hB.cell 0
  have c1 := hB.cell 1
  have hsz := hs0.size_le h0
  have hlt := hB.lt
  have hne0 : c ≠ w.heap.size := by omega
  have hlb0 := h0.lt
  have hlbp := hm.lt
  simp at c0 c1
  go_enter Tryz.func435, Tryz.ntmps435
  have hch : ∀ o1 o2, Chg [] w ((w.alloc o1).alloc o2) := fun o1 o2 => ((Chg.refl [] w).alloc _).alloc _
  go_wp2_with (first | (at_mapUpdate; refine wp_store _ rfl _ _ _ 282 rfl 464 Tryz.underlying282 (b := b0) (val := .agg #[]) rfl (h0.chg (hch _ _) (by simp)) (by simp only [maxLen]; omega) rfl rfl hk ?_; intro w3 hti3 hsz3 hc3 hs3; go_frame) | go_in)
  have hs4 : w3.heap.size = w.heap.size + 2 := by simpa using hs3
  have hB5 := ((Blk.new w 414 #[.map q0, .map q1, .bool qa, q2, q3, p5, p6, .int .i64 mi, .int .u64 mb, .int .u64 li]).alloc (.cells #[.map (some b0), .map r1] 284)).chg hc3 (by simp; omega)
  have d7 := hB5.cell 7
  have d8 := hB5.cell 8
  have d9 := hB5.cell 9
  simp at d7 d8 d9
  have hm3 : MapAt w3 bp D := (hm.chg (hch _ _) (by simp)).chg hc3 (by simp; omega)
  have hcw : Chg [b0] w w3 := ((hch _ _).mono (by simp)).trans hc3
  clear hc3 hs3 hB5
  have hmb : w.heap.size ≠ bp := by omega
  by_cases hli : li < 1
  all_goals
    go_region_held3 (fun wx => wx.cell? ⟨w.heap.size, 7, none⟩ = some (.int .i64 mi) ∧ wx.cell? ⟨w.heap.size, 8, none⟩ = some (.int .u64 mb) ∧ wx.cell? ⟨w.heap.size, 9, none⟩ = some (.int .u64 li) ∧ Chg [bp] w3 wx)
      ((repeat' apply And.intro) <;> (first | with_reducible assumption | (refine Chg.at_ hc4 ?_ (by simp; omega); ((repeat (refine cell_alloc ?_ _)); (first | with_reducible assumption | (refine Chg.at0 (Nxt.out (by with_reducible assumption)) ?_; (first | with_reducible assumption | (simp; done) | (simp [*]; done))) | (simp [*]; done)))) | (refine Chg.trans ?_ hc4; ((repeat (first | with_reducible exact Chg.refl _ _ | with_reducible assumption | refine Chg.drew ?_ | refine Chg.drewN ?_ _ | refine Chg.alloc ?_ _ | refine Chg.nxt ?_ (by with_reducible assumption))); done)) | ((repeat (refine cell_alloc ?_ _)); (first | with_reducible assumption | (refine Chg.at0 (Nxt.out (by with_reducible assumption)) ?_; (first | with_reducible assumption | (simp; done) | (simp [*]; done))) | (simp [*]; done))) | ((repeat (first | with_reducible exact Chg.refl _ _ | with_reducible assumption | refine Chg.drew ?_ | refine Chg.drewN ?_ _ | refine Chg.alloc ?_ _ | refine Chg.nxt ?_ (by with_reducible assumption))); done)))
      (first | (refine upon_store Tryz.underlying288 (b := bp) (hm3.chg (L := []) (by (repeat (first | with_reducible exact Chg.refl _ _ | with_reducible assumption | refine Chg.alloc ?_ _ | refine Chg.drew ?_ | refine Chg.nxt ?_ (by with_reducible assumption)))) (by simp)) (by simp only [maxLen]; omega) hk ?_; intro w4 hti4 hsz4 hc4 hs4) | (go_at_call 344; (with_reducible refine Calls.mono (newInfl_nxt _ _ _) ?_); rintro e w5 ⟨b5, rfl, hb5, hb6, hn5⟩))
    all_goals
      have hz5 := hn5.out.size
      have hz6 : w3.drew.heap.size = w3.heap.size := rfl
      have hch5 : Chg [bp] w3 w4 := ((((Chg.refl [bp] w3).drew).nxt hn5).alloc _).trans hc4
      go_end0
      refine ⟨rfl, _, _, b5, w5.heap.size, hti3.chg hch5 (by simp [hne]), hs0.put h0.isMap k, by omega, by omega, by omega, rfl, hti4, ?_, ?_⟩
      · have hmx : max li 1 = 1 ∨ max li 1 = li := by omega
        first
          | (have hmx : max li 1 = 1 := by omega
             rw [hmx]
             exact (Blk.new w5 461 _).chg hc4 (by simp; omega))
          | (have hmx : max li 1 = li := by omega
             have hb := (Blk.new w5 461 _).chg hc4 (by simp; omega)
             try rw [if_neg (show ¬ li < 1 by omega)] at hb
             rw [hmx]
             exact hb)
      · exact (hcw.mono (by simp)).trans (hch5.mono (by simp))
end Go.Proofs.YtalhhplphlobbaaGreat
