/- A configuration's copy, a progress map's copy. Conditions: sizes. A tracker in memory: its sets and its progress map; the copy of the progress map. Conditions: sizes. -/
import Derived.Test.YtalhhplphlobbaaGreatP07
set_option linter.unusedVariables false
set_option linter.unusedSimpArgs false
namespace Go.Proofs.YtalhhplphlobbaaGreat
open Go.RowKit
theorem MapAt.size_le {w : World} {b : Nat} {D : DataW Value} {S : List Int} (hm : MapAt w b D) (h : ∀ k, (mget D k).isSome = true → k ∈ S) : Maps.size D ≤ S.length := by
  obtain ⟨ks, hn, hk, e, _⟩ := hm.keys
  rw [e]
  exact nodup_le hn (fun k hk' => h k ((hk k).1 hk'))
theorem MapAt.ne_blk {w : World} {b g t : Nat} {D : DataW Value} {cs : Array Value} (hm : MapAt w b D) (hb : Blk w g t cs) : b ≠ g := by
  rintro rfl
  obtain ⟨es, clock, hh, _⟩ := hm
  unfold Blk at hb
  rw [hb] at hh
  cases hh
theorem cloneSet_from {M : List Nat} (W w : World) {r : Option Nat} {S : List Int} (h : SetAt W (.map r) S) (hl : S.length ≤ 1000) (hr : ∀ k, r = some k → k ∉ M) (hW : Chg M W w) :
    Calls Tryz.prog 434 #[.map r] w fun y w' => ∃ r', y = .returned (.map r') ∧ SetAt w' (.map r') S ∧ (∀ k, r' = some k → w.heap.size ≤ k) ∧ r'.isSome = r.isSome ∧ Chg M W w' ∧ Nxt w w' := by
  obtain ⟨hn, ⟨e, rfl⟩ | ⟨b, D, e, hm, hs⟩⟩ := h
  · cases e
    refine (cloneSet_nil w).mono ?_
    rintro y w' ⟨rfl, rfl⟩
    exact ⟨none, rfl, SetAt.nil _, by simp, rfl, hW, ⟨Chg.refl _ _⟩⟩
  · cases e
    refine (cloneSet_some (hm.chg hW (hr _ rfl)) hs hn hl).mono ?_
    rintro y w' ⟨b', D', rfl, hb, hm', hs', hn'⟩
    exact ⟨some b', rfl, ⟨hn, .inr ⟨b', D', rfl, hm', hs'⟩⟩, by rintro k ⟨⟩; exact hb, rfl, hW.nxt hn', hn'⟩
theorem cloneNil_from {M : List Nat} (W w : World) (hW : Chg M W w) : Calls Tryz.prog 434 #[.map none] w fun y w' => y = .returned (.map none) ∧ Chg M W w' ∧ Nxt w w' := by
  refine (cloneSet_nil w).mono ?_
  rintro y w' ⟨rfl, rfl⟩
  exact ⟨rfl, hW, ⟨Chg.refl _ _⟩⟩
theorem isSome_nxt {w w' : World} {b o : Nat} (h : Nxt w w') (hs : (w.cell? ⟨b, o, none⟩).isSome = true) : (w'.cell? ⟨b, o, none⟩).isSome = true := by
  obtain ⟨v, hv⟩ := Option.isSome_iff_exists.1 hs
  rw [h.out.at0 hv]
  rfl
theorem frozen_nxt {w w' : World} {b o : Nat} (h : Nxt w w') (hb : b < w.heap.size) (hs : w.frozen? ⟨b, o, none⟩ = false) : w'.frozen? ⟨b, o, none⟩ = false :=
  (h.rules.2.1 b o hb).trans hs
theorem size_nxt {w w' : World} {n : Nat} (h : Nxt w w') (hs : n < w.heap.size) : n < w'.heap.size := Nat.lt_of_lt_of_le hs h.out.size
theorem cell_nxt {w w' : World} {b o : Nat} {v : Value} (h : Nxt w w') (hs : w.cell? ⟨b, o, none⟩ = some v) : w'.cell? ⟨b, o, none⟩ = some v := h.out.at0 hs

section
variable {b n0 : Nat} {r0 r2 : Option Nat} {B w w' : World}
theorem heldC_nxt (hn : Nxt w w') (hc : Chg [n0] B w') (h : (w).cell? ⟨b, 0, none⟩ = some (.map r0) ∧ (w).cell? ⟨b, 1, none⟩ = some (.map none) ∧ (w).cell? ⟨b, 3, none⟩ = some (.map r2) ∧ (w).cell? ⟨b, 4, none⟩ = some (.map none) ∧
      ((w).cell? ⟨n0, 0, none⟩).isSome = true ∧ ((w).cell? ⟨n0, 1, none⟩).isSome = true ∧ ((w).cell? ⟨n0, 2, none⟩).isSome = true ∧ ((w).cell? ⟨n0, 3, none⟩).isSome = true ∧ ((w).cell? ⟨n0, 4, none⟩).isSome = true ∧
      (w).frozen? ⟨n0, 0, none⟩ = false ∧ (w).frozen? ⟨n0, 1, none⟩ = false ∧ (w).frozen? ⟨n0, 2, none⟩ = false ∧ (w).frozen? ⟨n0, 3, none⟩ = false ∧ (w).frozen? ⟨n0, 4, none⟩ = false ∧ n0 < (w).heap.size ∧ b ≠ n0 ∧ Chg [n0] B (w)) : (w').cell? ⟨b, 0, none⟩ = some (.map r0) ∧ (w').cell? ⟨b, 1, none⟩ = some (.map none) ∧ (w').cell? ⟨b, 3, none⟩ = some (.map r2) ∧ (w').cell? ⟨b, 4, none⟩ = some (.map none) ∧
      ((w').cell? ⟨n0, 0, none⟩).isSome = true ∧ ((w').cell? ⟨n0, 1, none⟩).isSome = true ∧ ((w').cell? ⟨n0, 2, none⟩).isSome = true ∧ ((w').cell? ⟨n0, 3, none⟩).isSome = true ∧ ((w').cell? ⟨n0, 4, none⟩).isSome = true ∧
      (w').frozen? ⟨n0, 0, none⟩ = false ∧ (w').frozen? ⟨n0, 1, none⟩ = false ∧ (w').frozen? ⟨n0, 2, none⟩ = false ∧ (w').frozen? ⟨n0, 3, none⟩ = false ∧ (w').frozen? ⟨n0, 4, none⟩ = false ∧ n0 < (w').heap.size ∧ b ≠ n0 ∧ Chg [n0] B (w') := by
  obtain ⟨a0, a1, a2, a3, i0, i1, i2, i3, i4, f0, f1, f2, f3, f4, hz, hb, _⟩ := h
  exact ⟨cell_nxt hn a0, cell_nxt hn a1, cell_nxt hn a2, cell_nxt hn a3, isSome_nxt hn i0, isSome_nxt hn i1, isSome_nxt hn i2, isSome_nxt hn i3, isSome_nxt hn i4, frozen_nxt hn hz f0, frozen_nxt hn hz f1, frozen_nxt hn hz f2, frozen_nxt hn hz f3, frozen_nxt hn hz f4, size_nxt hn hz, hb, hc⟩
theorem heldC_vals (h : (w).cell? ⟨b, 0, none⟩ = some (.map r0) ∧ (w).cell? ⟨b, 1, none⟩ = some (.map none) ∧ (w).cell? ⟨b, 3, none⟩ = some (.map r2) ∧ (w).cell? ⟨b, 4, none⟩ = some (.map none) ∧
      ((w).cell? ⟨n0, 0, none⟩).isSome = true ∧ ((w).cell? ⟨n0, 1, none⟩).isSome = true ∧ ((w).cell? ⟨n0, 2, none⟩).isSome = true ∧ ((w).cell? ⟨n0, 3, none⟩).isSome = true ∧ ((w).cell? ⟨n0, 4, none⟩).isSome = true ∧
      (w).frozen? ⟨n0, 0, none⟩ = false ∧ (w).frozen? ⟨n0, 1, none⟩ = false ∧ (w).frozen? ⟨n0, 2, none⟩ = false ∧ (w).frozen? ⟨n0, 3, none⟩ = false ∧ (w).frozen? ⟨n0, 4, none⟩ = false ∧ n0 < (w).heap.size ∧ b ≠ n0 ∧ Chg [n0] B (w)) : ∃ v0 v1 v2 v3 v4, w.cell? ⟨n0, 0, none⟩ = some v0 ∧ w.cell? ⟨n0, 1, none⟩ = some v1 ∧ w.cell? ⟨n0, 2, none⟩ = some v2 ∧ w.cell? ⟨n0, 3, none⟩ = some v3 ∧ w.cell? ⟨n0, 4, none⟩ = some v4 := by
  obtain ⟨a0, a1, a2, a3, i0, i1, i2, i3, i4, _⟩ := h
  obtain ⟨v0, h0⟩ := Option.isSome_iff_exists.1 i0
  obtain ⟨v1, h1⟩ := Option.isSome_iff_exists.1 i1
  obtain ⟨v2, h2⟩ := Option.isSome_iff_exists.1 i2
  obtain ⟨v3, h3⟩ := Option.isSome_iff_exists.1 i3
  obtain ⟨v4, h4⟩ := Option.isSome_iff_exists.1 i4
  exact ⟨v0, v1, v2, v3, v4, h0, h1, h2, h3, h4⟩
theorem heldC_set (u0 u1 u2 u3 u4 : Value) (h : (w).cell? ⟨b, 0, none⟩ = some (.map r0) ∧ (w).cell? ⟨b, 1, none⟩ = some (.map none) ∧ (w).cell? ⟨b, 3, none⟩ = some (.map r2) ∧ (w).cell? ⟨b, 4, none⟩ = some (.map none) ∧
      ((w).cell? ⟨n0, 0, none⟩).isSome = true ∧ ((w).cell? ⟨n0, 1, none⟩).isSome = true ∧ ((w).cell? ⟨n0, 2, none⟩).isSome = true ∧ ((w).cell? ⟨n0, 3, none⟩).isSome = true ∧ ((w).cell? ⟨n0, 4, none⟩).isSome = true ∧
      (w).frozen? ⟨n0, 0, none⟩ = false ∧ (w).frozen? ⟨n0, 1, none⟩ = false ∧ (w).frozen? ⟨n0, 2, none⟩ = false ∧ (w).frozen? ⟨n0, 3, none⟩ = false ∧ (w).frozen? ⟨n0, 4, none⟩ = false ∧ n0 < (w).heap.size ∧ b ≠ n0 ∧ Chg [n0] B (w)) : ((((((w.setCell ⟨n0, 0, none⟩ u0).setCell ⟨n0, 1, none⟩ u1).setCell ⟨n0, 2, none⟩ u2).setCell ⟨n0, 3, none⟩ u3).setCell ⟨n0, 4, none⟩ u4)).cell? ⟨b, 0, none⟩ = some (.map r0) ∧ ((((((w.setCell ⟨n0, 0, none⟩ u0).setCell ⟨n0, 1, none⟩ u1).setCell ⟨n0, 2, none⟩ u2).setCell ⟨n0, 3, none⟩ u3).setCell ⟨n0, 4, none⟩ u4)).cell? ⟨b, 1, none⟩ = some (.map none) ∧ ((((((w.setCell ⟨n0, 0, none⟩ u0).setCell ⟨n0, 1, none⟩ u1).setCell ⟨n0, 2, none⟩ u2).setCell ⟨n0, 3, none⟩ u3).setCell ⟨n0, 4, none⟩ u4)).cell? ⟨b, 3, none⟩ = some (.map r2) ∧ ((((((w.setCell ⟨n0, 0, none⟩ u0).setCell ⟨n0, 1, none⟩ u1).setCell ⟨n0, 2, none⟩ u2).setCell ⟨n0, 3, none⟩ u3).setCell ⟨n0, 4, none⟩ u4)).cell? ⟨b, 4, none⟩ = some (.map none) ∧
      (((((((w.setCell ⟨n0, 0, none⟩ u0).setCell ⟨n0, 1, none⟩ u1).setCell ⟨n0, 2, none⟩ u2).setCell ⟨n0, 3, none⟩ u3).setCell ⟨n0, 4, none⟩ u4)).cell? ⟨n0, 0, none⟩).isSome = true ∧ (((((((w.setCell ⟨n0, 0, none⟩ u0).setCell ⟨n0, 1, none⟩ u1).setCell ⟨n0, 2, none⟩ u2).setCell ⟨n0, 3, none⟩ u3).setCell ⟨n0, 4, none⟩ u4)).cell? ⟨n0, 1, none⟩).isSome = true ∧ (((((((w.setCell ⟨n0, 0, none⟩ u0).setCell ⟨n0, 1, none⟩ u1).setCell ⟨n0, 2, none⟩ u2).setCell ⟨n0, 3, none⟩ u3).setCell ⟨n0, 4, none⟩ u4)).cell? ⟨n0, 2, none⟩).isSome = true ∧ (((((((w.setCell ⟨n0, 0, none⟩ u0).setCell ⟨n0, 1, none⟩ u1).setCell ⟨n0, 2, none⟩ u2).setCell ⟨n0, 3, none⟩ u3).setCell ⟨n0, 4, none⟩ u4)).cell? ⟨n0, 3, none⟩).isSome = true ∧ (((((((w.setCell ⟨n0, 0, none⟩ u0).setCell ⟨n0, 1, none⟩ u1).setCell ⟨n0, 2, none⟩ u2).setCell ⟨n0, 3, none⟩ u3).setCell ⟨n0, 4, none⟩ u4)).cell? ⟨n0, 4, none⟩).isSome = true ∧
      ((((((w.setCell ⟨n0, 0, none⟩ u0).setCell ⟨n0, 1, none⟩ u1).setCell ⟨n0, 2, none⟩ u2).setCell ⟨n0, 3, none⟩ u3).setCell ⟨n0, 4, none⟩ u4)).frozen? ⟨n0, 0, none⟩ = false ∧ ((((((w.setCell ⟨n0, 0, none⟩ u0).setCell ⟨n0, 1, none⟩ u1).setCell ⟨n0, 2, none⟩ u2).setCell ⟨n0, 3, none⟩ u3).setCell ⟨n0, 4, none⟩ u4)).frozen? ⟨n0, 1, none⟩ = false ∧ ((((((w.setCell ⟨n0, 0, none⟩ u0).setCell ⟨n0, 1, none⟩ u1).setCell ⟨n0, 2, none⟩ u2).setCell ⟨n0, 3, none⟩ u3).setCell ⟨n0, 4, none⟩ u4)).frozen? ⟨n0, 2, none⟩ = false ∧ ((((((w.setCell ⟨n0, 0, none⟩ u0).setCell ⟨n0, 1, none⟩ u1).setCell ⟨n0, 2, none⟩ u2).setCell ⟨n0, 3, none⟩ u3).setCell ⟨n0, 4, none⟩ u4)).frozen? ⟨n0, 3, none⟩ = false ∧ ((((((w.setCell ⟨n0, 0, none⟩ u0).setCell ⟨n0, 1, none⟩ u1).setCell ⟨n0, 2, none⟩ u2).setCell ⟨n0, 3, none⟩ u3).setCell ⟨n0, 4, none⟩ u4)).frozen? ⟨n0, 4, none⟩ = false ∧ n0 < ((((((w.setCell ⟨n0, 0, none⟩ u0).setCell ⟨n0, 1, none⟩ u1).setCell ⟨n0, 2, none⟩ u2).setCell ⟨n0, 3, none⟩ u3).setCell ⟨n0, 4, none⟩ u4)).heap.size ∧ b ≠ n0 ∧ Chg [n0] B ((((((w.setCell ⟨n0, 0, none⟩ u0).setCell ⟨n0, 1, none⟩ u1).setCell ⟨n0, 2, none⟩ u2).setCell ⟨n0, 3, none⟩ u3).setCell ⟨n0, 4, none⟩ u4)) := by
  obtain ⟨v0, v1, v2, v3, v4, k0, k1, k2, k3, k4⟩ := heldC_vals h
  obtain ⟨a0, a1, a2, a3, i0, i1, i2, i3, i4, f0, f1, f2, f3, f4, hz, hb, hc⟩ := h
  have hb' := Ne.symm hb
  refine ⟨?_, ?_, ?_, ?_, ?_, ?_, ?_, ?_, ?_, ?_, ?_, ?_, ?_, ?_, ?_, hb, ?_⟩
  case _ => simp [go_sem, *]
  case _ => simp [go_sem, *]
  case _ => simp [go_sem, *]
  case _ => simp [go_sem, *]
  case _ => simp [go_sem, *]
  case _ => simp [go_sem, *]
  case _ => simp [go_sem, *]
  case _ => simp [go_sem, *]
  case _ => simp [go_sem, *]
  case _ => simp [go_sem, *]
  case _ => simp [go_sem, *]
  case _ => simp [go_sem, *]
  case _ => simp [go_sem, *]
  case _ => simp [go_sem, *]
  case _ => simp [go_sem, *]
  case _ => exact ((((hc.setCell (.inr (by simp)) _).setCell (.inr (by simp)) _).setCell (.inr (by simp)) _).setCell (.inr (by simp)) _).setCell (.inr (by simp)) _
end

set_option maxRecDepth 100000 in
set_option maxHeartbeats 1000000 in
theorem cfgClone_any {w : World} {b : Nat} {r0 r2 : Option Nat} {V L : List Int}
    (c0 : w.cell? ⟨b, 0, none⟩ = some (.map r0)) (c1 : w.cell? ⟨b, 1, none⟩ = some (.map none)) (c3 : w.cell? ⟨b, 3, none⟩ = some (.map r2)) (c4 : w.cell? ⟨b, 4, none⟩ = some (.map none))
    (hV : SetAt w (.map r0) V) (hL : SetAt w (.map r2) L) (lV : V.length ≤ 1000) (lL : L.length ≤ 1000) :
    Calls Tryz.prog 403 #[.pointer (some ⟨b, 0, none⟩)] w fun y w' => ∃ x0 x2, y = .returned (.agg #[.map x0, .map none, .bool false, .map x2, .map none]) ∧ SetAt w' (.map x0) V ∧ SetAt w' (.map x2) L ∧
      (∀ k, x0 = some k → w.heap.size ≤ k) ∧ (∀ k, x2 = some k → w.heap.size ≤ k) ∧ (∀ k, x0 = some k → x2 ≠ some k) ∧ x0.isSome = r0.isSome ∧ Nxt w w' := by
  have hmf : ∀ (fn : Fn) (first cap : Array Value) (w : World), (Instr.makeFunc fn first cap).run Tryz.prog w = .ok (.func fn first cap) w := fun _ _ _ _ => rfl
  have hN := SetAt.nil w
  go_enter Tryz.func403, Tryz.ntmps403
  go_wp2_with fail
  have hAl : Nxt w (w.alloc (.cells #[.map none, .map none, .bool false, .map none, .map none] 286)) := ⟨(Chg.refl _ _).alloc _⟩
  have hVB := hV.nxt hAl
  have hLB := hL.nxt hAl
  have hBk := Blk.new w 286 #[.map none, .map none, .bool false, .map none, .map none]
  have hcs := hAl.rules.1
  have d0 := (hcs b 0 (World.block_lt_of_cell? w _ c0)).trans c0
  have d1 := (hcs b 1 (World.block_lt_of_cell? w _ c0)).trans c1
  have d3 := (hcs b 3 (World.block_lt_of_cell? w _ c0)).trans c3
  have d4 := (hcs b 4 (World.block_lt_of_cell? w _ c0)).trans c4
  have hz : w.heap.size ≤ (w.alloc (.cells #[.map none, .map none, .bool false, .map none, .map none] 286)).heap.size := by simp
  have hb0 := World.block_lt_of_cell? w _ c0
  simp at hb0
  clear hcs c0 c1 c3 c4
  obtain ⟨n0, hn00⟩ : ∃ n0, n0 = w.heap.size := ⟨_, rfl⟩
  rw [← hn00] at hBk hz hb0 ⊢
  generalize w.alloc (.cells #[.map none, .map none, .bool false, .map none, .map none] 286) = B at hAl hVB hLB hBk d0 d1 d3 d4 hz ⊢
  have e0 : (B.cell? ⟨n0, 0, none⟩).isSome = true := by rw [hBk.cell 0]; rfl
  have e1 : (B.cell? ⟨n0, 1, none⟩).isSome = true := by rw [hBk.cell 1]; rfl
  have e2 : (B.cell? ⟨n0, 2, none⟩).isSome = true := by rw [hBk.cell 2]; rfl
  have e3 : (B.cell? ⟨n0, 3, none⟩).isSome = true := by rw [hBk.cell 3]; rfl
  have e4 : (B.cell? ⟨n0, 4, none⟩).isSome = true := by rw [hBk.cell 4]; rfl
  have f0 := hBk.frozen 0
  have f1 := hBk.frozen 1
  have f2 := hBk.frozen 2
  have f3 := hBk.frozen 3
  have f4 := hBk.frozen 4
  have hn0 := hBk.lt
  have hbn : b ≠ n0 := by omega
  have hr0 : ∀ k, r0 = some k → k ∉ [n0] := fun k hk => by have := hV.blk k (by rw [hk]); simp; omega
  have hr2 : ∀ k, r2 = some k → k ∉ [n0] := fun k hk => by have := hL.blk k (by rw [hk]); simp; omega
  have HN0 := Lib.hid hn00
  clear hn00
  have HR0 := Lib.hid hr0
  have HR2 := Lib.hid hr2
  have HA := Lib.hid hAl
  have HVB := Lib.hid hVB
  have HLB := Lib.hid hLB
  have HBK := Lib.hid hBk
  have HZ := Lib.hid hz
  clear hAl hVB hLB hBk hz hr0 hr2 hV hL
  have hS0 : (B.drew).cell? ⟨b, 0, none⟩ = some (.map r0) ∧ (B.drew).cell? ⟨b, 1, none⟩ = some (.map none) ∧ (B.drew).cell? ⟨b, 3, none⟩ = some (.map r2) ∧ (B.drew).cell? ⟨b, 4, none⟩ = some (.map none) ∧
      ((B.drew).cell? ⟨n0, 0, none⟩).isSome = true ∧ ((B.drew).cell? ⟨n0, 1, none⟩).isSome = true ∧ ((B.drew).cell? ⟨n0, 2, none⟩).isSome = true ∧ ((B.drew).cell? ⟨n0, 3, none⟩).isSome = true ∧ ((B.drew).cell? ⟨n0, 4, none⟩).isSome = true ∧
      (B.drew).frozen? ⟨n0, 0, none⟩ = false ∧ (B.drew).frozen? ⟨n0, 1, none⟩ = false ∧ (B.drew).frozen? ⟨n0, 2, none⟩ = false ∧ (B.drew).frozen? ⟨n0, 3, none⟩ = false ∧ (B.drew).frozen? ⟨n0, 4, none⟩ = false ∧ n0 < (B.drew).heap.size ∧ b ≠ n0 ∧ Chg [n0] B (B.drew) := ⟨d0, d1, d3, d4, e0, e1, e2, e3, e4, f0, f1, f2, f3, f4, hn0, hbn, (Chg.refl _ _).drew⟩
  clear d0 d1 d3 d4 e0 e1 e2 e3 e4 f0 f1 f2 f3 f4 hn0 hbn
  have HS0 := Lib.hid hS0
  clear hS0
  go_region_held3 (fun wx => (wx).cell? ⟨b, 0, none⟩ = some (.map r0) ∧ (wx).cell? ⟨b, 1, none⟩ = some (.map none) ∧ (wx).cell? ⟨b, 3, none⟩ = some (.map r2) ∧ (wx).cell? ⟨b, 4, none⟩ = some (.map none) ∧
      ((wx).cell? ⟨n0, 0, none⟩).isSome = true ∧ ((wx).cell? ⟨n0, 1, none⟩).isSome = true ∧ ((wx).cell? ⟨n0, 2, none⟩).isSome = true ∧ ((wx).cell? ⟨n0, 3, none⟩).isSome = true ∧ ((wx).cell? ⟨n0, 4, none⟩).isSome = true ∧
      (wx).frozen? ⟨n0, 0, none⟩ = false ∧ (wx).frozen? ⟨n0, 1, none⟩ = false ∧ (wx).frozen? ⟨n0, 2, none⟩ = false ∧ (wx).frozen? ⟨n0, 3, none⟩ = false ∧ (wx).frozen? ⟨n0, 4, none⟩ = false ∧ n0 < (wx).heap.size ∧ b ≠ n0 ∧ Chg [n0] B (wx))
    ((first | with_reducible exact HS0.out | exact heldC_nxt (by with_reducible assumption) (by with_reducible assumption) (by with_reducible assumption) | exact heldC_set _ _ _ _ _ (by with_reducible assumption)))
    (first | (go_at_call 434; (with_reducible refine Calls.mono (cloneSet_from (M := [n0]) B _ (r := r0) HVB.out lV HR0.out ?_) ?_); (first | with_reducible assumption | with_reducible exact HS0.out.2.2.2.2.2.2.2.2.2.2.2.2.2.2.2.2 | (simp [*]; done)); rintro e w1 ⟨x0, rfl, s0, f0, i0, hc1, hn1⟩) | (go_at_call 434; (with_reducible refine Calls.mono (cloneSet_from (M := [n0]) B _ (r := r2) HLB.out lL HR2.out ?_) ?_); (first | with_reducible assumption | (simp [*]; done)); rintro e w3 ⟨x2, rfl, s2, f2, i2, hc3, hn3⟩; have q13 : Chg [] w1 w3 := hn9.out.trans hn3.out; have f2' : ∀ k, x2 = some k → w1.heap.size ≤ k := fun k hk => Nat.le_trans hn9.out.size (f2 k hk)) | (go_at_call 434; (with_reducible refine Calls.mono (cloneNil_from (M := [n0]) B _ ?_) ?_); (first | with_reducible assumption | (simp [*]; done)); rintro e w9 ⟨rfl, hc9, hn9⟩; obtain ⟨v0, v1, v2, v3, v4, k0, k1, k2, k3, k4⟩ := heldC_vals (heldC_nxt hn9 hc9 (by with_reducible assumption))))
  have g0 := HBK.out.lt
  have g1 := HZ.out
  have g2 := HN0.out
  have g3 := hc3.size
  have g4 := hn3.out.size
  have g5 := hn1.out.size
  have g6 := q13.size
  have hF : ∀ u0 u1 u2 u3 u4, Chg [n0] w9 (((((w9.setCell ⟨n0, 0, none⟩ u0).setCell ⟨n0, 1, none⟩ u1).setCell ⟨n0, 2, none⟩ u2).setCell ⟨n0, 3, none⟩ u3).setCell ⟨n0, 4, none⟩ u4) := fun u0 u1 u2 u3 u4 =>
    (((((Chg.refl _ _).setCell (.inr (by simp)) _).setCell (.inr (by simp)) _).setCell (.inr (by simp)) _).setCell (.inr (by simp)) _).setCell (.inr (by simp)) _
  have hb1 := s0.blk
  have z0 : B.drew.heap.size = B.heap.size := rfl
  go_wp2
  refine bodyPost_ret (v := .agg #[.map x0, .map none, .bool false, .map x2, .map none]) (by simp [results, Tryz.results403, go_sem, k0, k1, k2, k3, k4]) rfl ⟨x0, x2, rfl, ?_, ?_, ?_, ?_, ?_, i0, ⟨?_⟩⟩
  · exact ((s0.chg q13 (by simp)).chg hn9.out (by simp)).chg (hF _ _ _ _ _) (fun k hk => by cases hk; have := f0 _ rfl; simp; omega)
  · exact (s2.chg hn9.out (by simp)).chg (hF _ _ _ _ _) (fun k hk => by cases hk; have := f2' _ rfl; simp; omega)
  · intro k hk
    have := f0 k hk
    omega
  · intro k hk
    have := f2' k hk
    omega
  · intro k hk hk2
    have h1 := f2' k hk2
    have h2 := hb1 k (by rw [hk])
    omega
  · have e1 : Chg [n0] B w9 := by assumption
    have e2 : Chg [n0] w w9 := (HA.out.out.mono (by simp)).trans e1
    exact (e2.trans (hF _ _ _ _ _)).fresh (fun x hx hl => by simp at hx; omega)
end Go.Proofs.YtalhhplphlobbaaGreat
namespace Go.Proofs.YtalhhplphlobbaaGreat
open Go.RowKit
/-- A configuration that is not joint (voters V, learners L), with its progress map: f the progress of a member, p where it lies. -/
structure TrkAt (w : World) (r0 r2 : Option Nat) (bp : Nat) (V L : List Int) (f : Int → Option PrS) (p : Int → Nat) : Prop where
  sv : SetAt w (.map r0) V
  sl : SetAt w (.map r2) L
  prg : PrgAt w bp f p
  dom : ∀ k, (f k).isSome = true ↔ k ∈ V ∨ k ∈ L
  lrn : ∀ k s, f k = some s → s.il = decide (k ∈ L)
  dis : ∀ k ∈ L, k ∉ V
  lv : V.length ≤ 100
  ll : L.length ≤ 100
  rng : ∀ k, k ∈ V ∨ k ∈ L → 0 < k ∧ k < 2 ^ 64
  some0 : r0.isSome = true
  a1 : r0 ≠ some bp
  a2 : r2 ≠ some bp
  a3 : ∀ b, r0 = some b → r2 ≠ some b
section
variable {w w' : World} {r0 r2 : Option Nat} {bp : Nat} {V L : List Int} {f : Int → Option PrS} {p : Int → Nat}
theorem PrgAt.nxt (h : PrgAt w bp f p) (hn : Nxt w w') : PrgAt w' bp f p := by
  obtain ⟨⟨D, hD, hg⟩, hb, hi⟩ := h
  exact ⟨⟨D, hD.nxt hn, hg⟩, fun k s hk => (hb k s hk).nxt hn, hi⟩
theorem TrkAt.nxt (h : TrkAt w r0 r2 bp V L f p) (hn : Nxt w w') : TrkAt w' r0 r2 bp V L f p :=
  { h with sv := h.sv.nxt hn, sl := h.sl.nxt hn, prg := h.prg.nxt hn }
theorem TrkAt.chg {M : List Nat} (h : TrkAt w r0 r2 bp V L f p) (hc : Chg M w w') (h0 : ∀ k, r0 = some k → k ∉ M) (h2 : ∀ k, r2 = some k → k ∉ M) (hb : bp ∉ M) (hp : ∀ k s, f k = some s → p k ∉ M) : TrkAt w' r0 r2 bp V L f p := by
  obtain ⟨⟨D, hD, hg⟩, hk, hi⟩ := h.prg
  exact { h with sv := h.sv.chg hc (fun b e => by cases e; exact h0 _ rfl), sl := h.sl.chg hc (fun b e => by cases e; exact h2 _ rfl), prg := ⟨⟨D, hD.chg hc hb, hg⟩, fun k s hs => (hk k s hs).chg hc (hp k s hs), hi⟩ }
theorem TrkAt.get (h : TrkAt w r0 r2 bp V L f p) {k : Int} (hk : k ∈ V ∨ k ∈ L) : ∃ s, f k = some s ∧ s.il = decide (k ∈ L) ∧ Blk w (p k) 461 s.cells := by
  have := (h.dom k).2 hk
  obtain ⟨s, hs⟩ := Option.isSome_iff_exists.1 this
  exact ⟨s, hs, h.lrn k s hs, h.prg.blk k s hs⟩
end
end Go.Proofs.YtalhhplphlobbaaGreat
