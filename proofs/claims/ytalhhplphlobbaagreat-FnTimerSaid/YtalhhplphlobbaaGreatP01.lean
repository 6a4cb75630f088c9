/- Words for the walks of this seat: what a call may have changed (Chg), slices that read as a list (Sl). Conditions: none. append(nil, xs...), append(xs, x) on a slice of the call's own: laws in this seat's words. Conditions: sizes. pb structs in memory: what a value of the package reads as; impl.confTo. Conditions: sizes. -/
import Derived.Test.YtalhhplphlobbaaGreatProg
import Derived.WalkKit
import Derived.WalkSpells
import Derived.WalkLawsBesides
import Derived.Handy
import Derived.Below
import Derived.Laws.OwnMore
import Derived.Laws.Rows
import Derived.Deep.AppendLies
import Derived.Deep.Draws
import Derived.Deep.QuietTactic
import Derived.BigQuiet
import Derived.Deep.RegionHeld3
import Derived.Maps.AppendAt
import Derived.Lib.Hide
set_option linter.unusedVariables false
set_option linter.unusedSimpArgs false
namespace Go.Proofs.YtalhhplphlobbaaGreat
open Go.RowKit

/-- From w to w' no block that was there has turned, but for those of L; new ones may have come. -/
structure Chg (L : List Nat) (w w' : World) : Prop where
  os : w'.os = w.os
  tape : w'.tape = w.tape
  output : w'.output = w.output
  size : w.heap.size ≤ w'.heap.size
  block : ∀ k, k < w.heap.size → k ∉ L → w'.heap[k]? = w.heap[k]?

theorem Chg.refl (L : List Nat) (w : World) : Chg L w w := ⟨rfl, rfl, rfl, Nat.le_refl _, fun _ _ _ => rfl⟩
theorem Chg.trans {L : List Nat} {a b c : World} (h : Chg L a b) (k : Chg L b c) : Chg L a c :=
  ⟨k.os.trans h.os, k.tape.trans h.tape, k.output.trans h.output, Nat.le_trans h.size k.size,
   fun i hi hn => (k.block i (Nat.lt_of_lt_of_le hi h.size) hn).trans (h.block i hi hn)⟩
theorem Chg.mono {L L' : List Nat} {w w' : World} (h : Chg L w w') (hL : ∀ x ∈ L, x ∈ L') : Chg L' w w' :=
  ⟨h.os, h.tape, h.output, h.size, fun k hk hn => h.block k hk (fun hx => hn (hL k hx))⟩
/-- Of the blocks that may have turned those count alone that were there. -/
theorem Chg.fresh {L L' : List Nat} {w w' : World} (h : Chg L w w') (hL : ∀ x ∈ L, x < w.heap.size → x ∈ L') : Chg L' w w' :=
  ⟨h.os, h.tape, h.output, h.size, fun k hk hn => h.block k hk (fun hx => hn (hL k hx hk))⟩
/-- A step behind: what it turned is either new, or in L. -/
theorem Chg.then {L L' : List Nat} {a b c : World} (h : Chg L a b) (k : Chg L' b c) (hL : ∀ x ∈ L', x < a.heap.size → x ∈ L) : Chg L a c :=
  ⟨k.os.trans h.os, k.tape.trans h.tape, k.output.trans h.output, Nat.le_trans h.size k.size,
   fun i hi hn => (k.block i (Nat.lt_of_lt_of_le hi h.size) (fun hx => hn (hL i hx hi))).trans (h.block i hi hn)⟩
theorem Chg.drew {L : List Nat} {a w : World} (h : Chg L a w) : Chg L a w.drew := ⟨h.os, h.tape, h.output, h.size, h.block⟩
theorem Chg.drewN {L : List Nat} {a w : World} (h : Chg L a w) (n : Nat) : Chg L a (w.drewN n) := ⟨h.os, h.tape, h.output, h.size, h.block⟩
theorem Chg.alloc {L : List Nat} {a w : World} (h : Chg L a w) (o : Obj) : Chg L a (w.alloc o) :=
  ⟨h.os, h.tape, h.output, by rw [World.size_alloc]; exact Nat.le_succ_of_le h.size,
   fun k hk hn => (Below.heap_alloc w o k (Nat.lt_of_lt_of_le hk h.size)).trans (h.block k hk hn)⟩
theorem Chg.setCell {L : List Nat} {a w : World} (h : Chg L a w) {p : Addr} (hp : a.heap.size ≤ p.block ∨ p.block ∈ L) (u : Value) : Chg L a (w.setCell p u) :=
  ⟨h.os, h.tape, h.output, by rw [World.size_setCell]; exact h.size,
   fun k hk hn => (Below.heap_setCell w p u k (by rintro rfl; rcases hp with hp | hp; exact absurd hk (by omega); exact hn hp)).trans (h.block k hk hn)⟩
theorem Chg.cell {L : List Nat} {w w' : World} (h : Chg L w w') {p : Addr} (hp : p.block < w.heap.size) (hn : p.block ∉ L) : w'.cell? p = w.cell? p :=
  World.cell?_of_block (w := w) (h.block p.block hp hn)
theorem Chg.frozen {L : List Nat} {w w' : World} (h : Chg L w w') {p : Addr} (hp : p.block < w.heap.size) (hn : p.block ∉ L) : w'.frozen? p = w.frozen? p :=
  World.frozen?_of_block (w := w) (h.block p.block hp hn)
/-- A cell that was there and may not have turned. -/
theorem Chg.at_ {L : List Nat} {w w' : World} (h : Chg L w w') {b o : Nat} {u : Value} (hc : w.cell? ⟨b, o, none⟩ = Option.some u) (hn : b ∉ L) : w'.cell? ⟨b, o, none⟩ = Option.some u :=
  (h.cell (p := ⟨b, o, none⟩) (World.block_lt_of_cell? w _ hc) hn).trans hc
theorem Chg.at0 {w w' : World} (h : Chg [] w w') {b o : Nat} {u : Value} (hc : w.cell? ⟨b, o, none⟩ = Option.some u) : w'.cell? ⟨b, o, none⟩ = Option.some u := h.at_ hc (by simp)
theorem cell_alloc {w : World} {b o : Nat} {u : Value} (hc : w.cell? ⟨b, o, none⟩ = some u) (x : Obj) : (w.alloc x).cell? ⟨b, o, none⟩ = some u :=
  (World.cell?_alloc_lt w x ⟨b, o, none⟩ (World.block_lt_of_cell? w _ hc)).trans hc
/-- The walk's rewrite rules behind a call. -/
theorem Chg.cells {L : List Nat} {w w' : World} (h : Chg L w w') :
    (∀ b o, b < w.heap.size → b ∉ L → w'.cell? ⟨b, o, none⟩ = w.cell? ⟨b, o, none⟩) ∧
    (∀ b o, b < w.heap.size → b ∉ L → w'.frozen? ⟨b, o, none⟩ = w.frozen? ⟨b, o, none⟩) :=
  ⟨fun b o hb hn => h.cell (p := ⟨b, o, none⟩) hb hn, fun b o hb hn => h.frozen (p := ⟨b, o, none⟩) hb hn⟩
theorem Chg.below {w w' : World} (h : Chg [] w w') : Below w.heap.size w w' := ⟨h.os, h.tape, h.output, h.size, fun k hk => h.block k hk (by simp)⟩
theorem Chg.of_below {w w' : World} (h : Below w.heap.size w w') : Chg [] w w' := ⟨h.os, h.tape, h.output, h.size, fun k hk _ => h.block k hk⟩
theorem Chg.of_grown {L : List Nat} {w w' : World} {row : Option Nat} (h : w.grownBy w' row) (hr : ∀ k, row = some k → w.heap.size ≤ k ∨ k ∈ L) : Chg L w w' :=
  ⟨h.os, h.tape, h.output, h.size, fun k hk hn => h.block k hk (fun e => by rcases hr k e.symm with h1 | h1; omega; exact hn h1)⟩

/-- Chg [] under a name of its own (so that 'assumption' tells the two apart): from the world ahead of a call to the one behind it. -/
structure Nxt (w w' : World) : Prop where
  out : Chg [] w w'

theorem Chg.nxt {L : List Nat} {a b c : World} (h : Chg L a b) (k : Nxt b c) : Chg L a c := h.trans (k.out.mono (by simp))
theorem Nxt.rules {w w' : World} (h : Nxt w w') :
    (∀ b o, b < w.heap.size → w'.cell? ⟨b, o, none⟩ = w.cell? ⟨b, o, none⟩) ∧ (∀ b o, b < w.heap.size → w'.frozen? ⟨b, o, none⟩ = w.frozen? ⟨b, o, none⟩) ∧ w.heap.size ≤ w'.heap.size :=
  ⟨fun _ _ hb => h.out.cell hb (by simp), fun _ _ hb => h.out.frozen hb (by simp), h.out.size⟩

/-- A block's number is below what the heap grows to: the side conditions of the walk's rules on new blocks. -/
theorem lts {a b : Nat} (h : a < b) : a < b ∧ a < b + 1 ∧ a < b + 1 + 1 ∧ a < b + 1 + 1 + 1 ∧ a < b + 1 + 1 + 1 + 1 ∧ a < b + 1 + 1 + 1 + 1 + 1 ∧ a < b + 1 + 1 + 1 + 1 + 1 + 1 := by omega
/-- Block g is just the cells cs of element type t; none is frozen. -/
def Blk (w : World) (g : Nat) (t : TypeId) (cs : Array Value) : Prop := w.heap[g]? = some (.cells cs t (0, 0))
section
variable {w w' : World} {g : Nat} {t : TypeId} {cs : Array Value}
theorem Blk.lt (h : Blk w g t cs) : g < w.heap.size := by
  rcases Nat.lt_or_ge g w.heap.size with hlt | hge
  · exact hlt
  · unfold Blk at h; rw [Array.getElem?_eq_none hge] at h; cases h
theorem Blk.cell (h : Blk w g t cs) (i : Nat) : w.cell? ⟨g, i, none⟩ = cs[i]? := cell_of_row w g i cs t (0, 0) h
theorem Blk.frozen (h : Blk w g t cs) (i : Nat) : w.frozen? ⟨g, i, none⟩ = false := by
  unfold Blk at h
  simp [World.frozen?, h]
theorem Blk.new (w : World) (t : TypeId) (cs : Array Value) : Blk (w.alloc (.cells cs t)) w.heap.size t cs := heap_alloc_new w _
theorem Blk.drew (h : Blk w g t cs) : Blk w.drew g t cs := h
theorem Blk.drewN (h : Blk w g t cs) (n : Nat) : Blk (w.drewN n) g t cs := h
theorem Blk.alloc (h : Blk w g t cs) (o : Obj) : Blk (w.alloc o) g t cs := (Below.heap_alloc w o g h.lt).trans h
theorem Blk.set_ (h : Blk w g t cs) (i : Nat) (u : Value) : Blk (w.setCell ⟨g, i, none⟩ u) g t (cs.setIfInBounds i u) := by
  unfold Blk at h ⊢
  simp [World.setCell, Array.getElem?_modify, h]
theorem Blk.far (h : Blk w g t cs) {p : Addr} (hp : g ≠ p.block) (u : Value) : Blk (w.setCell p u) g t cs := (Below.heap_setCell w p u g hp).trans h
theorem Blk.chg {L : List Nat} (h : Blk w g t cs) (hc : Chg L w w') (hg : g ∉ L) : Blk w' g t cs := (hc.block g h.lt hg).trans h
theorem Blk.nxt (h : Blk w g t cs) (hc : Nxt w w') : Blk w' g t cs := h.chg hc.out (by simp)
end

/-- The slice value v reads as the cells xs; its row lies in a block that is none of M. -/
def Sl (M : List Nat) (w : World) (v : Value) (xs : List Value) : Prop :=
  ∃ A n c, v = .slice A n c ∧ xs.length = n ∧ n ≤ c ∧ (A = none → c = 0) ∧
    (∀ b o s, A = some ⟨b, o, s⟩ → s = none ∧ b ∉ M ∧ b < w.heap.size ∧ ∀ j u, xs[j]? = some u → w.cell? ⟨b, o + j, none⟩ = some u)

section
variable {M L : List Nat} {w w' : World} {v : Value} {xs : List Value}
theorem Sl.nil (M : List Nat) (w : World) : Sl M w (.slice none 0 0) [] := ⟨none, 0, 0, rfl, rfl, Nat.le_refl _, fun _ => rfl, fun _ _ _ h => by cases h⟩
theorem Sl.form (h : Sl M w v xs) : ∃ A n c, v = .slice A n c := by
  obtain ⟨A, n, c, hv, _⟩ := h
  exact ⟨A, n, c, hv⟩
theorem Sl.keep (h : Sl M w v xs) (hs : w.heap.size ≤ w'.heap.size) (hk : ∀ b o, b < w.heap.size → b ∉ M → w'.cell? ⟨b, o, none⟩ = w.cell? ⟨b, o, none⟩) : Sl M w' v xs := by
  obtain ⟨A, n, c, rfl, hl, hc, h0, ha⟩ := h
  refine ⟨A, n, c, rfl, hl, hc, h0, fun b o s e => ?_⟩
  obtain ⟨h1, h2, h3, h4⟩ := ha b o s e
  exact ⟨h1, h2, Nat.lt_of_lt_of_le h3 hs, fun j u hu => (hk b (o + j) h3 h2).trans (h4 j u hu)⟩
theorem Sl.chg (h : Sl M w v xs) (hc : Chg L w w') (hL : ∀ x ∈ L, x ∈ M) : Sl M w' v xs :=
  h.keep hc.size fun b o hb hn => hc.cell (p := ⟨b, o, none⟩) hb (fun hx => hn (hL b hx))
theorem Sl.chg0 (h : Sl M w v xs) (hc : Chg [] w w') : Sl M w' v xs := h.chg hc (fun _ hx => by cases hx)
/-- New blocks may be counted among those that turn. -/
theorem Sl.more {M' : List Nat} (h : Sl M w v xs) (hM : ∀ x ∈ M', x ∈ M ∨ w.heap.size ≤ x) : Sl M' w v xs := by
  obtain ⟨A, n, c, rfl, hl, hc, h0, ha⟩ := h
  refine ⟨A, n, c, rfl, hl, hc, h0, fun b o s e => ?_⟩
  obtain ⟨h1, h2, h3, h4⟩ := ha b o s e
  exact ⟨h1, fun hb => by rcases hM b hb with h5 | h5; exact h2 h5; omega, h3, h4⟩
theorem Sl.of_own {base : Nat} {e : TypeId} {n : Nat} (h : w.ownsRow base e 1 v n xs) (hM : ∀ x ∈ M, x < base) : Sl M w v xs := by
  obtain ⟨hl, h⟩ := h
  rcases h with ⟨rfl, rfl⟩ | ⟨g, cap, cur, rfl, hg, hh, hn, _, hsz, ht⟩
  · have : xs = [] := List.eq_nil_of_length_eq_zero (by simpa using hl)
    subst this
    exact Sl.nil M w
  · refine ⟨some ⟨g, 0, none⟩, n, cap, rfl, by simpa using hl, hn, by simp, fun b o s e => ?_⟩
    simp only [Option.some.injEq, Addr.mk.injEq] at e
    obtain ⟨rfl, rfl, rfl⟩ := e
    refine ⟨rfl, fun hb => by have := hM _ hb; omega, ?_, fun j u hu => ?_⟩
    · rcases Nat.lt_or_ge g w.heap.size with hlt | hge
      · exact hlt
      · rw [Array.getElem?_eq_none hge] at hh; cases hh
    · rw [Nat.zero_add, cell_of_row w g j cur e (0, 0) hh]
      have hj : j < xs.length := by
        rcases Nat.lt_or_ge j xs.length with h1 | h1
        · exact h1
        · rw [List.getElem?_eq_none h1] at hu; cases hu
      rw [← ht, List.getElem?_take, if_pos (by omega)] at hu
      simpa using hu
end
end Go.Proofs.YtalhhplphlobbaaGreat
namespace Go.Proofs.YtalhhplphlobbaaGreat
open Go.RowKit
section
variable {P : Program} (w : World)

theorem own_nil (w : World) (base : Nat) (e : TypeId) (size : Nat) : w.ownsRow base e size (.slice none 0 0) 0 [] := ⟨by simp, .inl ⟨rfl, rfl⟩⟩

theorem own_chg {L : List Nat} {w w' : World} {base : Nat} {e : TypeId} {size : Nat} {v : Value} {n : Nat} {xs : List Value} (h : w.ownsRow base e size v n xs) (hc : Chg L w w') (hL : ∀ g ∈ L, g < base) : w'.ownsRow base e size v n xs := by
  obtain ⟨h1, h2⟩ := h
  refine ⟨h1, ?_⟩
  rcases h2 with h2 | ⟨g, cap, cur, hv, hg, hh, r⟩
  · exact .inl h2
  · refine .inr ⟨g, cap, cur, hv, hg, ?_, r⟩
    have hlt : g < w.heap.size := by
      rcases Nat.lt_or_ge g w.heap.size with hlt | hge
      · exact hlt
      · rw [Array.getElem?_eq_none hge] at hh; cases hh
    rw [hc.block g hlt (fun hm => by have := hL g hm; omega)]
    exact hh
theorem own_chg0 {w w' : World} {base : Nat} {e : TypeId} {size : Nat} {v : Value} {n : Nat} {xs : List Value} (h : w.ownsRow base e size v n xs) (hc : Chg [] w w') : w'.ownsRow base e size v n xs := own_chg h hc (by simp)
/-- The block of a row, as a list. -/
def rowL (v : Value) : List Nat := v.ownBlock.toList
theorem mem_rowL {v : Value} {g : Nat} : g ∈ rowL v ↔ v.ownBlock = some g := by simp [rowL]
theorem own_lt {w : World} {base : Nat} {e : TypeId} {size : Nat} {v : Value} {n : Nat} {xs : List Value} (h : w.ownsRow base e size v n xs) {g : Nat} (hg : g ∈ rowL v) : base ≤ g ∧ g < w.heap.size := by
  rw [mem_rowL] at hg
  rcases h.2 with ⟨rfl, _⟩ | ⟨g', cap, cur, rfl, hb, hh, _⟩
  · simp [Value.ownBlock] at hg
  · have : g' = g := by simpa [Value.ownBlock] using hg
    subst this
    refine ⟨hb, ?_⟩
    rcases Nat.lt_or_ge g' w.heap.size with hlt | hge
    · exact hlt
    · rw [Array.getElem?_eq_none hge] at hh; cases hh
/-- Behind an append onto a row: that row's block alone may have turned. -/
theorem chg_row {w w' : World} {v : Value} (hg : w.grownBy w' v.ownBlock) : Chg (rowL v) w w' := Chg.of_grown hg (fun _ hk => .inr (mem_rowL.2 hk))
theorem chg_row0 {a w w' : World} {v : Value} (h : Chg [] a w) (hg : w.grownBy w' v.ownBlock) (hb : ∀ g ∈ rowL v, a.heap.size ≤ g) : Chg [] a w' :=
  h.then (chg_row hg) (fun x hx hl => by have := hb x hx; omega)
/-- The row behind the append: the old one, or a new block. -/
theorem rowL_after {v v' : Value} {s : Nat} (h : v'.ownBlock = v.ownBlock ∨ v'.ownBlock = some s) {x : Nat} (hx : x ∈ rowL v') : x ∈ rowL v ∨ s ≤ x := by
  rw [mem_rowL] at hx ⊢
  rcases h with h | h
  · left; rw [← h]; exact hx
  · right; rw [h] at hx; injection hx with hx; omega

/-- A slice of one, just made. -/
theorem Sl.new1 (w : World) (x : Value) (e : TypeId) : Sl [] (w.alloc (.cells #[x] e)) (.slice (some ⟨w.heap.size, 0, none⟩) 1 1) [x] := by
  refine ⟨_, _, _, rfl, by simp, Nat.le_refl _, by simp, fun b o s h => ?_⟩
  simp only [Option.some.injEq, Addr.mk.injEq] at h
  obtain ⟨rfl, rfl, rfl⟩ := h
  refine ⟨rfl, by simp, by simp, fun j u hu => ?_⟩
  rcases j with _ | j
  · simp only [List.getElem?_cons_zero, Option.some.injEq] at hu
    subst hu
    go_cell
  · simp at hu

/-- append(v, x...) where v is a row of the call's own (nil let in), x any slice that reads. -/
theorem run_append_sl (M : List Nat) (base : Nat) (t ty e : TypeId) (i : TypeInfo) (z : Value) (bytes : Nat) (ht : P.underlying t = some (.slice e)) (hi : P.info? e = some i) (hz : i.zero = some z)
    (hsize : i.size = 1) (hby : i.bytes = bytes) (hzs : z.cells.size = 1)
    (v : Value) (n : Nat) (xs : List Value) (hown : w.ownsRow base e 1 v n xs)
    (x : Value) (news : List Value) (hr : Sl M w x news) (h1 : ∀ u ∈ news, u.oneCell' = true)
    (h63 : n + news.length ≤ maxLen) (hbytes : (n + news.length) * bytes ≤ 140737488355328) (hbase : base ≤ w.heap.size) :
    ∃ v' w', (Builtin.append_ #[t, t] ty #[v, x]).run P w = .ok v' w' ∧ w'.ownsRow base e 1 v' (n + news.length) (xs ++ news) ∧ w.grownBy w' v.ownBlock ∧
      (v'.ownBlock = v.ownBlock ∨ v'.ownBlock = some w.heap.size) := by
  obtain ⟨A, m, c, rfl, hl, hc, h0, ha⟩ := hr
  rcases A with _ | ⟨b, o, s⟩
  · have hm : c = 0 := h0 rfl
    subst hm
    have hm : m = 0 := by omega
    subst hm
    have hn : news = [] := List.eq_nil_of_length_eq_zero hl
    subst hn
    refine ⟨v, w, ?_, by simpa using hown, World.grownBy.refl w _, .inl rfl⟩
    rcases hown.2 with ⟨rfl, rfl⟩ | ⟨g, cap, cur, rfl, _, _, hnc, _⟩
    · simp [Builtin.append_, run_underlying ht, sizeOf, typeInfo, hi, Builtin.lenOf, Builtin.firstCells]
    · simp [Builtin.append_, run_underlying ht, sizeOf, typeInfo, hi, Builtin.lenOf, Builtin.firstCells, hnc, storeCells]
  · obtain ⟨rfl, hM, hb, hcell⟩ := ha b o s rfl
    subst hl
    obtain ⟨v', w', hrun, h2, h3, _, h5⟩ := run_append_own_at (P := P) w base t ty e i z 1 bytes ht hi hz hsize hby hzs (by omega) v n xs hown ⟨b, o, none⟩ news.length c news (by simp)
      (fun j u hu => by rw [show (Addr.add ⟨b, o, none⟩ j) = ⟨b, o + j, none⟩ from by unfold Addr.add; split <;> simp_all]; exact hcell j u hu) h1 h63 hbytes hbase
    exact ⟨v', w', hrun, h2, h3, h5⟩

theorem wp_append_sl {o : Oper} {a : Act} {K : Act → World → Prop} {Q : Exit → Act → World → Prop} (M : List Nat) (s x : Operand) (t : TypeId)
    (ho : o.op = .call { callee := .builtin .append, args := #[s, x], argTypes := #[t, t] })
    (base : Nat) (e : TypeId) (i : TypeInfo) (z : Value) (bytes : Nat) (ht : P.underlying t = some (.slice e)) (hi : P.info? e = some i) (hz : i.zero = some z)
    (hsize : i.size = 1) (hby : i.bytes = bytes) (hzs : z.cells.size = 1)
    (v : Value) (n : Nat) (xs : List Value) (hs : a.eval s = v) (hown : w.ownsRow base e 1 v n xs)
    (xv : Value) (news : List Value) (hx : a.eval x = xv) (hr : Sl M w xv news) (h1 : ∀ u ∈ news, u.oneCell' = true)
    (h63 : n + news.length ≤ maxLen) (hbytes : (n + news.length) * bytes ≤ 140737488355328) (hbase : base ≤ w.heap.size)
    (h : ∀ v' w', w'.ownsRow base e 1 v' (n + news.length) (xs ++ news) → w.grownBy w' v.ownBlock → (v'.ownBlock = v.ownBlock ∨ v'.ownBlock = some w.heap.size) → K (a.put o.dst v') w') : o.wp P a w K Q := by
  obtain ⟨v', w', hrun, h2, h3, h4⟩ := run_append_sl (P := P) w M base t o.type e i z bytes ht hi hz hsize hby hzs v n xs hown xv news hr h1 h63 hbytes hbase
  unfold Oper.wp execOp
  simp only [ho, resolve, invoke, builtin, Sem.run_bind, Sem.run_pure, Result.andThen_ok, List.map_toArray, List.map_cons, List.map_nil, hs, hx, hrun]
  exact h v' w' h2 h3 h4

theorem wpList_append_sl {ops : Array Oper} {rest : List Oper} {o : Oper} {a : Act} {Q : Exit → Act → World → Prop} (M : List Nat) (hgd : o.guard = none) (s x : Operand) (t : TypeId)
    (ho : o.op = .call { callee := .builtin .append, args := #[s, x], argTypes := #[t, t] })
    (base : Nat) (e : TypeId) (i : TypeInfo) (z : Value) (bytes : Nat) (ht : P.underlying t = some (.slice e)) (hi : P.info? e = some i) (hz : i.zero = some z)
    (hsize : i.size = 1) (hby : i.bytes = bytes) (hzs : z.cells.size = 1)
    (v : Value) (n : Nat) (xs : List Value) (hs : a.eval s = v) (hown : w.ownsRow base e 1 v n xs)
    (xv : Value) (news : List Value) (hx : a.eval x = xv) (hr : Sl M w xv news) (h1 : ∀ u ∈ news, u.oneCell' = true)
    (h63 : n + news.length ≤ maxLen) (hbytes : (n + news.length) * bytes ≤ 140737488355328) (hbase : base ≤ w.heap.size)
    (h : ∀ v' w', w'.ownsRow base e 1 v' (n + news.length) (xs ++ news) → w.grownBy w' v.ownBlock → (v'.ownBlock = v.ownBlock ∨ v'.ownBlock = some w.heap.size) → wpList P ops Q rest (a.put o.dst v') w') : wpList P ops Q (o :: rest) a w :=
  wpList_plain hgd fun _ hK => wp_append_sl w M s x t ho base e i z bytes ht hi hz hsize hby hzs v n xs hs hown xv news hx hr h1 h63 hbytes hbase fun v' w' h2 h3 h4 => hK _ _ (h v' w' h2 h3 h4)
end

theorem info22 : (Tryz.prog.info? 22).map (fun i => (i.zero, i.size, i.bytes)) = some (some (.int .u64 0), 1, 8) := by kernel_rfl

def U64s (l : List Int) : List Value := l.map (Value.int .u64)

set_option maxHeartbeats 400000 in
/-- 156 impl.numbers: a copy. -/
theorem numbers_any (M : List Nat) (w : World) (v : Value) (l : List Int) (h : Sl M w v (U64s l)) (hM : ∀ x ∈ M, x < w.heap.size) (hl : l.length ≤ 1000000000) :
    Calls Tryz.prog 156 #[v] w fun e w' => ∃ A n c, e = .returned (.slice A n c) ∧ Sl M w' (.slice A n c) (U64s l) ∧ Chg [] w w' := by
  obtain ⟨i0, hi, hz0, hz1, hz2⟩ := info_parts info22
  go_enter Tryz.func156, Tryz.ntmps156
  go_wp2_with (at_builtin; refine wpList_append_sl w M rfl _ _ 24 rfl w.heap.size 22 i0 (.int .u64 0) 8 Tryz.underlying24 hi hz0 hz1 hz2 rfl _ 0 [] rfl (own_nil _ _ _ _) v (U64s l) rfl h ?c1 ?c2 ?c3 ?c4 ?_)
  case c1 => intro u hu; simp only [U64s, List.mem_map] at hu; obtain ⟨a, _, rfl⟩ := hu; rfl
  case c2 => simp only [U64s, List.length_map, maxLen]; omega
  case c3 => simp only [U64s, List.length_map]; omega
  case c4 => exact Nat.le_refl _
  intro v' w' hown hg _
  go_wp2
  go_ret
  have hs : Sl M w' v' (U64s l) := by simpa using Sl.of_own (M := M) hown hM
  obtain ⟨A, n, c, rfl, _⟩ := id hs
  refine ⟨A, n, c, rfl, hs, ?_⟩
  · exact Chg.of_grown hg (fun k hk => by simp [Value.ownBlock] at hk)
end Go.Proofs.YtalhhplphlobbaaGreat
namespace Go.Proofs.YtalhhplphlobbaaGreat
open Go.RowKit

/-- A pointer to one cell that holds x, in a block that is none of M. -/
def Ptr1 (M : List Nat) (w : World) (v x : Value) : Prop := ∃ b o, v = .pointer (some ⟨b, o, none⟩) ∧ b ∉ M ∧ b < w.heap.size ∧ w.cell? ⟨b, o, none⟩ = some x
/-- A pb.ConfState. -/
def ConfAt (M : List Nat) (w : World) (v : Value) (vs ls os ns : List Int) (al : Bool) : Prop :=
  ∃ b s1 s2 s3 s4 p, v = .pointer (some ⟨b, 0, none⟩) ∧ b ∉ M ∧ b < w.heap.size ∧
    w.cell? ⟨b, 0, none⟩ = some s1 ∧ w.cell? ⟨b, 1, none⟩ = some s2 ∧ w.cell? ⟨b, 2, none⟩ = some s3 ∧ w.cell? ⟨b, 3, none⟩ = some s4 ∧ w.cell? ⟨b, 4, none⟩ = some p ∧
    Sl M w s1 (U64s vs) ∧ Sl M w s2 (U64s ls) ∧ Sl M w s3 (U64s os) ∧ Sl M w s4 (U64s ns) ∧ Ptr1 M w p (.bool al)

section
variable {M L : List Nat} {w w' : World} {v x : Value}
theorem Ptr1.keep (h : Ptr1 M w v x) (hs : w.heap.size ≤ w'.heap.size) (hk : ∀ b o, b < w.heap.size → b ∉ M → w'.cell? ⟨b, o, none⟩ = w.cell? ⟨b, o, none⟩) : Ptr1 M w' v x := by
  obtain ⟨b, o, rfl, hb, hl, hc⟩ := h
  exact ⟨b, o, rfl, hb, Nat.lt_of_lt_of_le hl hs, (hk b o hl hb).trans hc⟩
theorem Ptr1.more {M' : List Nat} (h : Ptr1 M w v x) (hM : ∀ x ∈ M', x ∈ M ∨ w.heap.size ≤ x) : Ptr1 M' w v x := by
  obtain ⟨b, o, rfl, hb, hl, hc⟩ := h
  exact ⟨b, o, rfl, fun hx => by rcases hM b hx with h1 | h1; exact hb h1; omega, hl, hc⟩
theorem Ptr1.chg (h : Ptr1 M w v x) (hc : Chg L w w') (hL : ∀ x ∈ L, x ∈ M) : Ptr1 M w' v x :=
  h.keep hc.size fun b o hb hn => hc.cell (p := ⟨b, o, none⟩) hb (fun hx => hn (hL b hx))
theorem Ptr1.chg0 (h : Ptr1 M w v x) (hc : Chg [] w w') : Ptr1 M w' v x := h.chg hc (fun _ hx => by cases hx)
theorem ConfAt.keep {vs ls os ns : List Int} {al : Bool} (h : ConfAt M w v vs ls os ns al) (hs : w.heap.size ≤ w'.heap.size)
    (hk : ∀ b o, b < w.heap.size → b ∉ M → w'.cell? ⟨b, o, none⟩ = w.cell? ⟨b, o, none⟩) : ConfAt M w' v vs ls os ns al := by
  obtain ⟨b, s1, s2, s3, s4, p, rfl, hb, hl, c0, c1, c2, c3, c4, h1, h2, h3, h4, h5⟩ := h
  exact ⟨b, s1, s2, s3, s4, p, rfl, hb, Nat.lt_of_lt_of_le hl hs, (hk b 0 hl hb).trans c0, (hk b 1 hl hb).trans c1, (hk b 2 hl hb).trans c2, (hk b 3 hl hb).trans c3, (hk b 4 hl hb).trans c4,
    h1.keep hs hk, h2.keep hs hk, h3.keep hs hk, h4.keep hs hk, h5.keep hs hk⟩
theorem ConfAt.chg {vs ls os ns : List Int} {al : Bool} (h : ConfAt M w v vs ls os ns al) (hc : Chg L w w') (hL : ∀ x ∈ L, x ∈ M) : ConfAt M w' v vs ls os ns al :=
  h.keep hc.size fun b o hb hn => hc.cell (p := ⟨b, o, none⟩) hb (fun hx => hn (hL b hx))
theorem ConfAt.chg0 {vs ls os ns : List Int} {al : Bool} (h : ConfAt M w v vs ls os ns al) (hc : Chg [] w w') : ConfAt M w' v vs ls os ns al := h.chg hc (fun _ hx => by cases hx)
end

/-- numbers at a world that came of W. -/
theorem numbers_from (M : List Nat) (W w : World) (v : Value) (l : List Int) (h : Sl M W v (U64s l)) (hM : ∀ x ∈ M, x < W.heap.size) (hl : l.length ≤ 1000000000) (hc : Chg [] W w) :
    Calls Tryz.prog 156 #[v] w fun e w' => ∃ A n c, e = .returned (.slice A n c) ∧ Sl M w' (.slice A n c) (U64s l) ∧ Chg [] W w' ∧ Nxt w w' :=
  (numbers_any M w v l (h.chg0 hc) (fun x hx => Nat.lt_of_lt_of_le (hM x hx) hc.size) hl).mono fun _ _ ⟨A, n, c, he, hs, hk⟩ => ⟨A, n, c, he, hs, hc.trans hk, ⟨hk⟩⟩

set_option maxRecDepth 100000 in
set_option maxHeartbeats 2000000 in
theorem confTo_any (M : List Nat) (w : World) (s1 s2 s3 s4 : Value) (vs ls os ns : List Int) (al : Bool)
    (h1 : Sl M w s1 (U64s vs)) (h2 : Sl M w s2 (U64s ls)) (h3 : Sl M w s3 (U64s os)) (h4 : Sl M w s4 (U64s ns)) (hM : ∀ x ∈ M, x < w.heap.size)
    (l1 : vs.length ≤ 1000000000) (l2 : ls.length ≤ 1000000000) (l3 : os.length ≤ 1000000000) (l4 : ns.length ≤ 1000000000) :
    Calls Tryz.prog 103 #[.agg #[s1, s2, s3, s4, .bool al]] w fun e w' => ∃ v', e = .returned v' ∧ ConfAt M w' v' vs ls os ns al ∧ Chg [] w w' := by
  have hC0 : Chg [] w (w.alloc (.cells #[s1, s2, s3, s4, .bool al] 26)) := (Chg.refl _ _).alloc _
  have hM0 : ∀ x ∈ M, x < (w.alloc (.cells #[s1, s2, s3, s4, .bool al] 26)).heap.size := fun x hx => by have := hM x hx; simp; omega
  go_enter Tryz.func103, Tryz.ntmps103
  go_wp2_with fail
  go_region_held3 (fun wx => wx.cell? ⟨w.heap.size, 0, none⟩ = some s1 ∧ wx.cell? ⟨w.heap.size, 1, none⟩ = some s2 ∧ wx.cell? ⟨w.heap.size, 2, none⟩ = some s3 ∧ wx.cell? ⟨w.heap.size, 3, none⟩ = some s4 ∧ wx.cell? ⟨w.heap.size, 4, none⟩ = some (.bool al) ∧ Chg [] (w.alloc (.cells #[s1, s2, s3, s4, .bool al] 26)) wx)
    ((repeat' apply And.intro) <;> (first | assumption | (simp; done) | ((repeat (refine cell_alloc ?_ _)); (refine Chg.at0 (by assumption) ?_; (simp; done))) | ((repeat (first | with_reducible exact Chg.refl _ _ | assumption | refine Chg.drew ?_ | refine Chg.alloc ?_ _)); done)))
    (first | (go_at_call 156; (with_reducible refine Calls.mono (numbers_from M (w.alloc (.cells #[s1, s2, s3, s4, .bool al] 26)) _ s1 vs (h1.chg0 hC0) hM0 l1 ?_) ?_); (first | assumption | exact Chg.drew (Chg.refl _ _) | exact Chg.refl _ _ | exact Chg.drew (by assumption)); rintro e w1 ⟨A1, n1, c1, rfl, hs1, hc1, hn1⟩) | (go_at_call 156; (with_reducible refine Calls.mono (numbers_from M (w.alloc (.cells #[s1, s2, s3, s4, .bool al] 26)) _ s2 ls (h2.chg0 hC0) hM0 l2 ?_) ?_); (first | assumption | exact Chg.drew (Chg.refl _ _) | exact Chg.refl _ _ | exact Chg.drew (by assumption)); rintro e w2 ⟨A2, n2, c2, rfl, hs2, hc2, hn2⟩) | (go_at_call 156; (with_reducible refine Calls.mono (numbers_from M (w.alloc (.cells #[s1, s2, s3, s4, .bool al] 26)) _ s3 os (h3.chg0 hC0) hM0 l3 ?_) ?_); (first | assumption | exact Chg.drew (Chg.refl _ _) | exact Chg.refl _ _ | exact Chg.drew (by assumption)); rintro e w3 ⟨A3, n3, c3, rfl, hs3, hc3, hn3⟩) | (go_at_call 156; (with_reducible refine Calls.mono (numbers_from M (w.alloc (.cells #[s1, s2, s3, s4, .bool al] 26)) _ s4 ns (h4.chg0 hC0) hM0 l4 ?_) ?_); (first | assumption | exact Chg.drew (Chg.refl _ _) | exact Chg.refl _ _ | exact Chg.drew (by assumption)); rintro e w4 ⟨A4, n4, c4, rfl, hs4, hc4, hn4⟩))
  go_wp2
  go_ret
  have q2 := hn2.out
  have q3 := hn3.out
  have q4 := hn4.out
  have z := hc4.size
  simp only [World.size_alloc] at z
  have hf : ∀ o1 o2, Chg [] w4 ((w4.alloc o1).alloc o2) := fun o1 o2 => ((Chg.refl _ _).alloc _).alloc _
  refine ⟨_, rfl, ⟨w4.heap.size + 1, _, _, _, _, _, rfl, fun hm => ?_, by simp, by simp, by simp, by simp, by simp, by simp, (((hs1.chg0 q2).chg0 q3).chg0 q4).chg0 (hf _ _), ((hs2.chg0 q3).chg0 q4).chg0 (hf _ _), (hs3.chg0 q4).chg0 (hf _ _), hs4.chg0 (hf _ _), ⟨w4.heap.size, 0, rfl, fun hm => ?_, by simp; omega, by simp⟩⟩, (hC0.trans hc4).trans (hf _ _)⟩
  all_goals have := hM _ hm; omega
end Go.Proofs.YtalhhplphlobbaaGreat
