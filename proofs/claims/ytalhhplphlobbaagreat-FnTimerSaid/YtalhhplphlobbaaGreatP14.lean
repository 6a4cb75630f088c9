/- slices.Sort at uint64: rows in a block; the pivot's choice. Conditions: sizes. slices.Sort at uint64: the test for sortedness, the partition, of thirteen. Conditions: sizes. slices.Sort at uint64: the partition. Conditions: sizes. -/
import Derived.IntWalk
import Derived.Test.YtalhhplphlobbaaGreatP13
set_option linter.unusedVariables false
set_option linter.unusedSimpArgs false
namespace Go.Proofs.YtalhhplphlobbaaGreat
open Go.RowKit Go.Sort
/-- Block b holds the numbers d, then the cells r. -/
def Rw (w : World) (b t : Nat) (d : Array Int) (r : List Value) : Prop := Blk w b t (d.toList.map (Value.int .u64) ++ r).toArray
section
variable {w w' : World} {b t : Nat} {d d' : Array Int} {r : List Value}
theorem Rw.cell (h : Rw w b t d r) (i : Nat) (hi : i < d.size) : w.cell? ⟨b, i, none⟩ = some (.int .u64 d[i]!) := by
  rw [Blk.cell h]
  rw [List.getElem?_toArray, List.getElem?_append_left (by simpa using hi), List.getElem?_map]
  simp [hi]
theorem Rw.holds (h : Rw w b t d r) : Holds (Value.int .u64) w b 0 d := fun j hj => by
  rw [Nat.zero_add]
  exact ⟨h.cell j hj, Blk.frozen h j⟩
theorem Rw.put (h : Rw w b t d r) (n : Nat) (hs : d'.size = d.size) : Rw (putRow (Value.int .u64) (Sort.ahead w n) b 0 d') b t d' r := by
  have hb : (Sort.ahead w n).heap[b]? = some (.cells (d.toList.map (Value.int .u64) ++ r).toArray t (0, 0)) := h
  unfold Rw Blk putRow mapBlock
  simp only [Array.getElem?_modify, if_true, hb, Option.map_some, onCells]
  congr 2
  apply Array.ext_getElem?
  intro i
  unfold putCells
  rw [Array.getElem?_mapIdx, List.getElem?_toArray, List.getElem?_toArray]
  by_cases hi : i < d.size
  · rw [List.getElem?_append_left (by simpa using hi), List.getElem?_append_left (by simpa [hs] using hi), List.getElem?_map, List.getElem?_map]
    simp [hi, hs]
  · rw [List.getElem?_append_right (by simpa using hi), List.getElem?_append_right (by simpa [hs] using hi)]
    simp only [List.length_map, Array.length_toList, hs]
    cases hr : r[i - d.size]? with
    | none => rfl
    | some v =>
      simp only [Option.map_some]
      rw [if_neg (by omega)]
theorem Rw.chg (h : Rw w b t d r) (hc : Chg [] w w') : Rw w' b t d r := Blk.chg h hc (by simp)
theorem chg_put (w : World) (n b : Nat) (d : Array Int) : Chg [b] w (putRow (Value.int .u64) (Sort.ahead w n) b 0 d) := by
  refine ⟨rfl, rfl, rfl, ?_, fun k hk hn => ?_⟩
  · simp [putRow, mapBlock, Sort.ahead, World.drewN]
  · unfold putRow mapBlock
    simp only [Array.getElem?_modify]
    rw [if_neg (by rintro rfl; simp at hn)]
    rfl
theorem perm_of (h : PermIn 0 d.size d d') : d'.toList.Perm d.toList := by
  obtain ⟨h1, _, h3⟩ := h
  have e1 : d'.extract 0 d.size = d' := by rw [← h1]; simp
  have e2 : d.extract 0 d.size = d := by simp
  rwa [e1, e2] at h3
end

set_option maxRecDepth 100000 in
set_option maxHeartbeats 1000000 in
theorem order2_u64 {w : World} {b t sb : Nat} {d : Array Int} {r : List Value} {x y s : Nat} {cap : Nat} (h : Rw w b t d r) (hs : Blk w sb 3 #[.int .i64 s]) (hx : x < d.size) (hy : y < d.size) (hsz : d.size ≤ 100) (h100 : s ≤ 100) :
    Calls Tryz.prog 475 #[.slice (some ⟨b, 0, none⟩) d.size cap, .int .i64 x, .int .i64 y, .pointer (some ⟨sb, 0, none⟩)] w fun e w' => ∃ x' y' s' : Nat, e = .returned (.tuple #[.int .i64 x', .int .i64 y']) ∧ x' < d.size ∧ y' < d.size ∧ s' ≤ s + 1 ∧ Blk w' sb 3 #[.int .i64 s'] ∧ Chg [sb] w w' := by
  have c0 := hs.cell 0
  have f0 := hs.frozen 0
  simp at c0
  obtain ⟨X, hX⟩ : ∃ X : Int, X = d[x]! := ⟨_, rfl⟩
  obtain ⟨Y, hY⟩ : ∃ Y : Int, Y = d[y]! := ⟨_, rfl⟩
  have cx : w.cell? ⟨b, x, none⟩ = some (.int .u64 X) := by rw [hX]; exact h.cell x hx
  have cy : w.cell? ⟨b, y, none⟩ = some (.int .u64 Y) := by rw [hY]; exact h.cell y hy
  clear hX hY
  have b1 : (x : Int) < (d.size : Int) := by omega
  have b2 : (y : Int) < (d.size : Int) := by omega
  have H := Lib.hid hs
  clear hs h
  go_enter Tryz.func475, Tryz.ntmps475
  go_wp2_with fail
  go_quiet ((go_at_call 428; exact Calls.quiet_of_same (less_u64 _ _ _)))
  go_wp2
  · go_ret2
    exact ⟨y, x, s + 1, rfl, hy, hx, by omega, by simpa using (H.out.drewN nq).set_ 0 (.int .i64 ((s : Int) + 1)), ((Chg.refl [sb] _).drewN nq).setCell (.inr (by simp)) _⟩
  · go_ret2
    exact ⟨x, y, s, rfl, hx, hy, by omega, H.out.drewN nq, (Chg.refl _ _).drewN nq⟩

set_option maxRecDepth 100000 in
set_option maxHeartbeats 1000000 in
theorem median_u64 {w : World} {b t sb : Nat} {d : Array Int} {r : List Value} {x y z s : Nat} {cap : Nat} (h : Rw w b t d r) (hs : Blk w sb 3 #[.int .i64 s]) (hne : b ≠ sb) (hx : x < d.size) (hy : y < d.size) (hz : z < d.size) (hsz : d.size ≤ 100) (h3 : s ≤ 10) :
    Calls Tryz.prog 453 #[.slice (some ⟨b, 0, none⟩) d.size cap, .int .i64 x, .int .i64 y, .int .i64 z, .pointer (some ⟨sb, 0, none⟩)] w fun e w' => ∃ y' s' : Nat, e = .returned (.int .i64 y') ∧ y' < d.size ∧ s' ≤ s + 3 ∧ Blk w' sb 3 #[.int .i64 s'] ∧ Chg [sb] w w' := by
  have H := Lib.hid h
  have HS := Lib.hid hs
  clear h hs
  have hne' : b ∉ [sb] := by simpa using hne
  go_enter Tryz.func453, Tryz.ntmps453
  go_wp2_with fail
  (go_at_call 475; refine (order2_u64 H.out HS.out hx hy hsz (by omega)).mono ?_)
  rintro e w1 ⟨x1, y1, s1, rfl, hx1, hy1, hs1, hb1, hc1⟩
  have H1 := Lib.hid (Blk.chg H.out hc1 hne')
  have HS1 := Lib.hid hb1
  clear hb1
  go_wp2_with fail
  (go_at_call 475; refine (order2_u64 (d := d) (r := r) (t := t) H1.out HS1.out hy1 hz hsz (by omega)).mono ?_)
  rintro e w2 ⟨x2, y2, s2, rfl, hx2, hy2, hs2, hb2, hc2⟩
  have H2 := Lib.hid (Blk.chg H1.out hc2 hne')
  have HS2 := Lib.hid hb2
  clear hb2
  go_wp2_with fail
  (go_at_call 475; refine (order2_u64 (d := d) (r := r) (t := t) H2.out HS2.out hx1 hx2 hsz (by omega)).mono ?_)
  rintro e w3 ⟨x3, y3, s3, rfl, hx3, hy3, hs3, hb3, hc3⟩
  go_wp2
  go_ret
  exact ⟨y3, s3, rfl, hy3, by omega, hb3, (hc1.trans hc2).trans hc3⟩

set_option maxRecDepth 100000 in
set_option maxHeartbeats 1000000 in
theorem pivot_u64 {w : World} {b t : Nat} {d : Array Int} {r : List Value} {cap : Nat} (h : Rw w b t d r) (hsz : d.size = 13) :
    Calls Tryz.prog 425 #[.slice (some ⟨b, 0, none⟩) d.size cap, .int .i64 0, .int .i64 13] w fun e w' => ∃ (y : Nat) (k : Int), e = .returned (.tuple #[.int .i64 y, .int .i64 k]) ∧ y < 13 ∧ (k = 0 ∨ k = 1) ∧ Chg [] w w' := by
  have hne : b ≠ w.heap.size := by have := Blk.lt h; omega
  have H := Lib.hid (h.chg ((Chg.refl [] w).alloc (.cells #[.int .i64 0] 3)))
  have HS := Lib.hid (Blk.new w 3 #[.int .i64 0])
  have hz : d.size ≤ 100 := by omega
  have l3 : 3 < d.size := by omega
  have l6 : 6 < d.size := by omega
  have l9 : 9 < d.size := by omega
  have HZ := Lib.hid hsz
  clear h hsz
  go_enter Tryz.func425, Tryz.ntmps425
  go_wp2_with fail
  (go_at_call 453; refine (median_u64 (x := 3) (y := 6) (z := 9) (s := 0) H.out HS.out hne l3 l6 l9 hz (by omega)).mono ?_)
  rintro e w1 ⟨y, s, rfl, hy, hs, hb, hc⟩
  have c0 := hb.cell 0
  simp at c0
  have hc' : Chg [] w w1 := ((Chg.refl [] w).alloc _).then hc (by simp)
  have e12 : ((s : Int) == 12) = false := by simp; omega
  have hs' := hs
  clear hb hc
  by_cases h0 : s = 0
  · subst h0
    go_wp2
    go_ret2
    exact ⟨y, 1, rfl, by have := HZ.out; omega, .inr rfl, hc'⟩
  · have e0 : ((s : Int) == 0) = false := by simp; omega
    go_wp2
    go_ret2
    exact ⟨y, 0, rfl, by have := HZ.out; omega, .inl rfl, hc'⟩
end Go.Proofs.YtalhhplphlobbaaGreat
namespace Go.Proofs.YtalhhplphlobbaaGreat
open Go.RowKit Go.Sort
section
variable {w w' : World} {b t : Nat} {d d' : Array Int} {r : List Value}
theorem Rw.set (h : Rw w b t d r) (i : Nat) (x : Int) (hi : i < d.size) : Rw (w.setCell ⟨b, i, none⟩ (.int .u64 x)) b t (d.setIfInBounds i x) r := by
  have h1 := Blk.set_ h i (.int .u64 x)
  have e : (d.toList.map (Value.int .u64) ++ r).toArray.setIfInBounds i (.int .u64 x) = ((d.setIfInBounds i x).toList.map (Value.int .u64) ++ r).toArray := by
    rw [List.setIfInBounds_toArray, List.set_append_left _ _ (by simpa using hi)]
    simp
  rw [e] at h1
  exact h1
theorem Rw.swp (h : Rw w b t d r) (i j : Nat) (hi : i < d.size) (hj : j < d.size) : Rw ((w.setCell ⟨b, i, none⟩ (.int .u64 d[j]!)).setCell ⟨b, j, none⟩ (.int .u64 d[i]!)) b t (swp d i j) r :=
  (h.set i _ hi).set j _ (by simpa using hj)
theorem swp_perm (d : Array Int) (i j : Nat) (hi : i < d.size) (hj : j < d.size) : (swp d i j).toList.Perm d.toList :=
  perm_of (swp_permIn d 0 d.size i j (by omega) hi (by omega) hj (Nat.le_refl _))
theorem Rw.drewN (h : Rw w b t d r) (n : Nat) : Rw (w.drewN n) b t d r := Blk.drewN h n
/-- What a walk needs of a row. -/
theorem Rw.facts (h : Rw w b t d r) (n : Nat) (hn : d.size = n) : ∃ G : Nat → Int, (∀ t, G t = d[t]!) ∧ (∀ t, t < n → w.cell? ⟨b, t, none⟩ = some (.int .u64 (G t))) ∧ ∀ t, w.frozen? ⟨b, t, none⟩ = false :=
  ⟨fun t => d[t]!, fun _ => rfl, fun t ht => h.cell t (by omega), fun t => Blk.frozen h t⟩
end

theorem drewN_drewN (w : World) (m n : Nat) : (w.drewN m).drewN n = w.drewN (m + n) := by
  unfold World.drewN
  simp [Nat.add_assoc]

set_option maxRecDepth 100000 in
set_option maxHeartbeats 1000000 in
theorem partIns_u64 {w : World} {b t n : Nat} {d : Array Int} {r : List Value} {cap : Nat} (h : Rw w b t d r) (hsz : d.size = n) (h1 : 1 < n) (hn : n < 50) :
    Calls Tryz.prog 427 #[.slice (some ⟨b, 0, none⟩) n cap, .int .i64 0, .int .i64 n] w fun e w' => ∃ (v : Bool) (m : Nat), e = .returned (.bool v) ∧ w' = w.drewN m := by
  obtain ⟨G, hG, hc, hf⟩ := h.facts n hsz
  clear hG hf h hsz
  have b50 : (n : Int) < 50 := by omega
  go_enter Tryz.func427, Tryz.ntmps427
  go_wp2_with fail
  go_loopw [7, 8] (fun vi vs wr => vi = .int .i64 1 ∧ vs = .int .i64 0 ∧ w = wr) (fun vi vs _ => 0)
  case atStart => exact ⟨rfl, rfl, rfl⟩
  case round =>
    obtain ⟨rfl, rfl, rfl⟩ := hrel
    go_wp2_with fail
    go_loopw [7] (fun vi wi => ∃ (k m : Nat), vi = .int .i64 k ∧ 1 ≤ k ∧ k ≤ n ∧ wi = w.drewN m) (fun vi _ => n - (intOf vi).toNat)
    case atStart => exact ⟨1, 0, rfl, by omega, by omega, rfl⟩
    case round =>
      obtain ⟨k, m, rfl, hk1, hk2, hw⟩ := hrel
      have hcw : ∀ t, t < n → wr.cell? ⟨b, t, none⟩ = some (.int .u64 (G t)) := by rw [hw]; exact hc
      have HW := Lib.hid hw
      clear hw hc
      go_wp2_with fail
      by_cases hk : k < n
      · have q1 : 1 ≤ (k : Int) := by omega
        have g1 := hcw k hk
        have g2 := hcw (k - 1) (by omega)
        clear hcw
        have p1 : (0 : Int) ≤ (k : Int) - 1 := by omega
        have p2 : (k : Int) - 1 < (n : Int) := by omega
        have q2 : ((k : Int) - 1).toNat = k - 1 := by omega
        have q3 : IntKind.i64.wrap ((k : Int) - 1) = (k : Int) - 1 := IntWalk.i64_in _ (by omega)
        go_quiet (first | (go_at_call 428; refine Calls.quiet_of_same (less_u64 _ _ _)))
        clear q2 q3
        go_wp2
        · go_roundw
          case rel => exact ⟨k + 1, m + nq, by go_num, by omega, by omega, by rw [HW.out, drewN_drewN]⟩
          case measure => simp [intOf]; omega
        · go_ret
          exact ⟨false, m + nq, rfl, by rw [HW.out, drewN_drewN]⟩
      · obtain rfl : k = n := by omega
        go_quiet (first | (go_at_call 428; refine Calls.quiet_of_same (less_u64 _ _ _)))
        go_wp2
        go_ret
        exact ⟨true, m + nq, rfl, by rw [HW.out, drewN_drewN]⟩
end Go.Proofs.YtalhhplphlobbaaGreat
namespace Go.Proofs.YtalhhplphlobbaaGreat
open Go.RowKit Go.Sort

set_option maxRecDepth 100000 in
set_option maxHeartbeats 12800000 in
theorem partition_u64 {w : World} {b t n pv : Nat} {d : Array Int} {r : List Value} {cap : Nat} (h : Rw w b t d r) (hsz : d.size = n) (h1 : 1 < n) (hn : n < 50) (hp : pv < n) :
    Calls Tryz.prog 430 #[.slice (some ⟨b, 0, none⟩) n cap, .int .i64 0, .int .i64 n, .int .i64 pv] w fun e w' => ∃ (j : Nat) (v : Bool) (d' : Array Int), e = .returned (.tuple #[.int .i64 j, .bool v]) ∧ j < n ∧ d'.size = n ∧ d'.toList.Perm d.toList ∧ Rw w' b t d' r ∧ Chg [b] w w' := by
  obtain ⟨G, hG, hcw, hfw⟩ := h.facts n hsz
  have H := Lib.hid h
  have HG := Lib.hid hG
  have HZ := Lib.hid hsz
  clear h hG hsz
  obtain ⟨v', hy'⟩ := cell?_setCell_some (w := w) (p := ⟨b, 0, none⟩) (x := .int .u64 (G pv)) (q := ⟨b, pv, none⟩) (hcw pv (by omega))
  have gx := hcw 0 (by omega)
  have gy := hcw pv (by omega)
  have fx := hfw 0
  have fy := hfw pv
  clear hcw hfw
  go_enter Tryz.func430, Tryz.ntmps430
  go_wp2
  go_region
  go_wp2
  have hR : Rw ((w.setCell ⟨b, 0, none⟩ (.int .u64 (G pv))).setCell ⟨b, pv, none⟩ (.int .u64 (G 0))).drew b t (swp d 0 pv) r := by
    rw [HG.out, HG.out]
    exact Blk.drew (H.out.swp 0 pv (by have := HZ.out; omega) (by have := HZ.out; omega))
  have hC : Chg [b] w ((w.setCell ⟨b, 0, none⟩ (.int .u64 (G pv))).setCell ⟨b, pv, none⟩ (.int .u64 (G 0))).drew := (((Chg.refl _ _).setCell (.inr (by simp)) _).setCell (.inr (by simp)) _).drew
  generalize ((w.setCell ⟨b, 0, none⟩ (.int .u64 (G pv))).setCell ⟨b, pv, none⟩ (.int .u64 (G 0))).drew = W at hR hC ⊢
  have hP := swp_perm d 0 pv (by have := HZ.out; omega) (by have := HZ.out; omega)
  have hS : (swp d 0 pv).size = n := by rw [size_swp]; exact HZ.out
  generalize swp d 0 pv = dk at hR hP hS
  clear gx gy fx fy hy' v'
  clear HG
  obtain ⟨G, hG, hc, hf⟩ := hR.facts n hS
  have HR := Lib.hid hR
  have HG := Lib.hid hG
  have HC := Lib.hid hC
  have HP := Lib.hid hP
  have HS := Lib.hid hS
  clear hR hG hC hP hS
  have e2 : ((n : Int) - 1) = ((n - 1 : Nat) : Int) := by omega
  rw [e2]
  clear e2
  obtain ⟨J, hJ⟩ : ∃ J : Nat, J = n - 1 := ⟨_, rfl⟩
  rw [← hJ]
  have hJ1 : J + 1 ≤ n := by omega
  have hJ2 : n ≤ J + 1 := by omega
  have hJ3 : (J : Int) < (n : Int) := by omega
  clear hJ
  go_loopw [10] (fun vi wa => ∃ (i ma : Nat), vi = .int .i64 i ∧ 1 ≤ i ∧ i ≤ J + 1 ∧ wa = W.drewN ma) (fun vi _ => J + 1 - (intOf vi).toNat)
  case atStart => exact ⟨1, 0, rfl, Nat.le_refl _, by omega, rfl⟩
  case round =>
    obtain ⟨i, ma, rfl, hii, hij, hwa⟩ := hrel
    have hcw : ∀ t, t < n → wr.cell? ⟨b, t, none⟩ = some (.int .u64 (G t)) := by rw [hwa]; exact hc
    have HWA := Lib.hid hwa
    clear hwa
    go_wp2_with fail
    by_cases hle : i ≤ J
    · have g1 := hcw i (by omega)
      have g2 := hcw 0 (by omega)
      clear hcw
      go_quiet (first | (go_at_call 428; refine Calls.quiet_of_same (less_u64 _ _ _)))
      go_wp2
      · go_roundw
        case rel => exact ⟨i + 1, ma + nq, by go_num, by omega, by omega, by rw [HWA.out, drewN_drewN]⟩
        case measure => simp [intOf]; omega
      · have hA0 : ltInt (G i) (G 0) = false := by assumption
        have hA : i ≤ J → ltInt (G i) (G 0) = false := fun _ => hA0
        have HA := Lib.hid hA
        clear hA hA0 g1 g2
        have hwA : wr.drewN nq = W.drewN (ma + nq) := by rw [HWA.out, drewN_drewN]
        go_loopw [11] (fun vj wb => ∃ (j' mb : Nat), vj = .int .i64 j' ∧ j' ≤ J ∧ i ≤ j' + 1 ∧ wb = W.drewN mb) (fun vj _ => (intOf vj).toNat)
        case atStart => exact ⟨J, _, rfl, Nat.le_refl _, by omega, hwA⟩
        case round =>
          obtain ⟨j', mb, rfl, hjj, hij', hwb⟩ := hrel
          have hcw : ∀ t, t < n → wr.cell? ⟨b, t, none⟩ = some (.int .u64 (G t)) := by rw [hwb]; exact hc
          have hfw : ∀ t, wr.frozen? ⟨b, t, none⟩ = false := by rw [hwb]; exact hf
          have HWB := Lib.hid hwb
          clear hwb hwA
          go_wp2_with fail
          by_cases hle2 : i ≤ j'
          · have g1 := hcw j' (by omega)
            have g2 := hcw 0 (by omega)
            go_quiet (first | (go_at_call 428; refine Calls.quiet_of_same (less_u64 _ _ _)))
            go_wp2
            · go_roundw
              case rel =>
                refine ⟨j' - 1, mb + nq, ?_, by omega, by omega, by rw [HWB.out, drewN_drewN]⟩
                congr 1
                omega
              case measure => simp [intOf]; omega
            · have hB : ltInt (G j') (G 0) = true := by
                have h : (!ltInt (G j') (G 0)) = false := by assumption
                simpa using h
              have hne : i ≠ j' := by
                rintro rfl
                rw [HA.out (by omega)] at hB
                cases hB
              clear g1 g2 hB
              have hwB : wr.drewN nq = W.drewN (mb + nq) := by rw [HWB.out, drewN_drewN]
              generalize wr.drewN nq = wz at hwB ⊢
              have hcz : ∀ t, t < n → wz.cell? ⟨b, t, none⟩ = some (.int .u64 (G t)) := by rw [hwB]; exact hc
              have hfz : ∀ t, wz.frozen? ⟨b, t, none⟩ = false := by rw [hwB]; exact hf
              have hRz : Rw wz b t dk r := by rw [hwB]; exact HR.out.drewN _
              have hCz : Chg [b] w wz := by rw [hwB]; exact HC.out.drewN _
              have HRz := Lib.hid hRz
              have HCz := Lib.hid hCz
              clear hwB hcw hfw hRz hCz hc hf
              go_wp2_with fail
              obtain ⟨v', hy'⟩ := cell?_setCell_some (w := wz) (p := ⟨b, i, none⟩) (x := .int .u64 (G j')) (q := ⟨b, j', none⟩) (hcz j' (by omega))
              have gx := hcz i (by omega)
              have gy := hcz j' (by omega)
              have fx := hfz i
              have fy := hfz j'
              clear hcz hfz
              go_region
              go_wp2_with fail
              have hR : Rw ((wz.setCell ⟨b, i, none⟩ (.int .u64 (G j'))).setCell ⟨b, j', none⟩ (.int .u64 (G i))).drew b t (swp dk i j') r := by
                rw [HG.out, HG.out]
                exact Blk.drew (HRz.out.swp i j' (by have := HS.out; omega) (by have := HS.out; omega))
              have hC : Chg [b] w ((wz.setCell ⟨b, i, none⟩ (.int .u64 (G j'))).setCell ⟨b, j', none⟩ (.int .u64 (G i))).drew := (((HCz.out).setCell (.inr (by simp)) _).setCell (.inr (by simp)) _).drew
              have hP := (swp_perm dk i j' (by have := HS.out; omega) (by have := HS.out; omega)).trans HP.out
              have hS : (swp dk i j').size = n := by rw [size_swp]; exact HS.out
              go_loopw [10, 11] (fun vi vj wr => ∃ (i2 j2 : Nat) (d2 : Array Int), vi = .int .i64 i2 ∧ vj = .int .i64 j2 ∧ 1 ≤ i2 ∧ i2 ≤ j2 + 1 ∧ j2 < n ∧ Rw wr b t d2 r ∧ d2.size = n ∧ d2.toList.Perm d.toList ∧ Chg [b] w wr) (fun vi vj _ => n + (intOf vj).toNat - (intOf vi).toNat)
              case atStart => exact ⟨i + 1, j' - 1, swp dk i j', by go_num, by congr 1; omega, by omega, by omega, by omega, hR, hS, hP, hC⟩
              case round =>
                clear gx gy fx fy hy' hR hC hP hS
                clear HR HG HC HP HS HRz HCz
                obtain ⟨i2, j2, dk, rfl, rfl, h12, h22, h32, hR, hS, hP, hC⟩ := hrel
                obtain ⟨G, hG, hc, hf⟩ := hR.facts n hS
                obtain ⟨W, rfl⟩ : ∃ W : World, W = wr := ⟨_, rfl⟩
                have HR := Lib.hid hR
                have HG := Lib.hid hG
                have HC := Lib.hid hC
                have HP := Lib.hid hP
                have HS := Lib.hid hS
                clear hR hG hC hP hS
                clear hle hle2
                go_wp2_with fail
                go_loopw [10] (fun vi wa => ∃ (i ma : Nat), vi = .int .i64 i ∧ i2 ≤ i ∧ i ≤ j2 + 1 ∧ wa = W.drewN ma) (fun vi _ => j2 + 1 - (intOf vi).toNat)
                case atStart => exact ⟨i2, 0, rfl, Nat.le_refl _, by omega, rfl⟩
                case round =>
                  obtain ⟨i, ma, rfl, hii, hij, hwa⟩ := hrel
                  have hcw : ∀ t, t < n → wr.cell? ⟨b, t, none⟩ = some (.int .u64 (G t)) := by rw [hwa]; exact hc
                  have HWA := Lib.hid hwa
                  clear hwa
                  go_wp2_with fail
                  by_cases hle : i ≤ j2
                  · have g1 := hcw i (by omega)
                    have g2 := hcw 0 (by omega)
                    clear hcw
                    go_quiet (first | (go_at_call 428; refine Calls.quiet_of_same (less_u64 _ _ _)))
                    go_wp2
                    · go_roundw
                      case rel => exact ⟨i + 1, ma + nq, by go_num, by omega, by omega, by rw [HWA.out, drewN_drewN]⟩
                      case measure => simp [intOf]; omega
                    · have hA0 : ltInt (G i) (G 0) = false := by assumption
                      have hA : i ≤ j2 → ltInt (G i) (G 0) = false := fun _ => hA0
                      have HA := Lib.hid hA
                      clear hA hA0 g1 g2
                      have hwA : wr.drewN nq = W.drewN (ma + nq) := by rw [HWA.out, drewN_drewN]
                      go_loopw [11] (fun vj wb => ∃ (j' mb : Nat), vj = .int .i64 j' ∧ j' ≤ j2 ∧ i ≤ j' + 1 ∧ wb = W.drewN mb) (fun vj _ => (intOf vj).toNat)
                      case atStart => exact ⟨j2, _, rfl, Nat.le_refl _, by omega, hwA⟩
                      case round =>
                        obtain ⟨j', mb, rfl, hjj, hij', hwb⟩ := hrel
                        have hcw : ∀ t, t < n → wr.cell? ⟨b, t, none⟩ = some (.int .u64 (G t)) := by rw [hwb]; exact hc
                        have hfw : ∀ t, wr.frozen? ⟨b, t, none⟩ = false := by rw [hwb]; exact hf
                        have HWB := Lib.hid hwb
                        clear hwb hwA
                        go_wp2_with fail
                        by_cases hle2 : i ≤ j'
                        · have g1 := hcw j' (by omega)
                          have g2 := hcw 0 (by omega)
                          go_quiet (first | (go_at_call 428; refine Calls.quiet_of_same (less_u64 _ _ _)))
                          go_wp2
                          · go_roundw
                            case rel =>
                              refine ⟨j' - 1, mb + nq, ?_, by omega, by omega, by rw [HWB.out, drewN_drewN]⟩
                              congr 1
                              omega
                            case measure => simp [intOf]; omega
                          · have hB : ltInt (G j') (G 0) = true := by
                              have h : (!ltInt (G j') (G 0)) = false := by assumption
                              simpa using h
                            have hne : i ≠ j' := by
                              rintro rfl
                              rw [HA.out (by omega)] at hB
                              cases hB
                            clear g1 g2 hB
                            have hwB : wr.drewN nq = W.drewN (mb + nq) := by rw [HWB.out, drewN_drewN]
                            generalize wr.drewN nq = wz at hwB ⊢
                            have hcz : ∀ t, t < n → wz.cell? ⟨b, t, none⟩ = some (.int .u64 (G t)) := by rw [hwB]; exact hc
                            have hfz : ∀ t, wz.frozen? ⟨b, t, none⟩ = false := by rw [hwB]; exact hf
                            have hRz : Rw wz b t dk r := by rw [hwB]; exact HR.out.drewN _
                            have hCz : Chg [b] w wz := by rw [hwB]; exact HC.out.drewN _
                            have HRz := Lib.hid hRz
                            have HCz := Lib.hid hCz
                            clear hwB hcw hfw hRz hCz hc hf
                            go_wp2_with fail
                            obtain ⟨v', hy'⟩ := cell?_setCell_some (w := wz) (p := ⟨b, i, none⟩) (x := .int .u64 (G j')) (q := ⟨b, j', none⟩) (hcz j' (by omega))
                            have gx := hcz i (by omega)
                            have gy := hcz j' (by omega)
                            have fx := hfz i
                            have fy := hfz j'
                            clear hcz hfz
                            go_region
                            go_wp2_with fail
                            have hR : Rw ((wz.setCell ⟨b, i, none⟩ (.int .u64 (G j'))).setCell ⟨b, j', none⟩ (.int .u64 (G i))).drew b t (swp dk i j') r := by
                              rw [HG.out, HG.out]
                              exact Blk.drew (HRz.out.swp i j' (by have := HS.out; omega) (by have := HS.out; omega))
                            have hC : Chg [b] w ((wz.setCell ⟨b, i, none⟩ (.int .u64 (G j'))).setCell ⟨b, j', none⟩ (.int .u64 (G i))).drew := (((HCz.out).setCell (.inr (by simp)) _).setCell (.inr (by simp)) _).drew
                            have hP := (swp_perm dk i j' (by have := HS.out; omega) (by have := HS.out; omega)).trans HP.out
                            have hS : (swp dk i j').size = n := by rw [size_swp]; exact HS.out
                            go_roundw
                            case rel => exact ⟨i + 1, j' - 1, swp dk i j', by go_num, by congr 1; omega, by omega, by omega, by omega, hR, hS, hP, hC⟩
                            case measure => simp [intOf]; omega
                        · go_quiet (first | (go_at_call 428; refine Calls.quiet_of_same (less_u64 _ _ _)))
                          go_wp2_with fail
                          have hwB : wr.drewN nq = W.drewN (mb + nq) := by rw [HWB.out, drewN_drewN]
                          generalize wr.drewN nq = wz at hwB ⊢
                          have hcz : ∀ t, t < n → wz.cell? ⟨b, t, none⟩ = some (.int .u64 (G t)) := by rw [hwB]; exact hc
                          have hfz : ∀ t, wz.frozen? ⟨b, t, none⟩ = false := by rw [hwB]; exact hf
                          have hRz : Rw wz b t dk r := by rw [hwB]; exact HR.out.drewN _
                          have hCz : Chg [b] w wz := by rw [hwB]; exact HC.out.drewN _
                          have HRz := Lib.hid hRz
                          have HCz := Lib.hid hCz
                          clear hwB hcw hfw hRz hCz hc hf
                          go_wp2_with fail
                          obtain ⟨v', hy'⟩ := cell?_setCell_some (w := wz) (p := ⟨b, j', none⟩) (x := .int .u64 (G 0)) (q := ⟨b, 0, none⟩) (hcz 0 (by omega))
                          have gx := hcz j' (by omega)
                          have gy := hcz 0 (by omega)
                          have fx := hfz j'
                          have fy := hfz 0
                          clear hcz hfz
                          go_region
                          go_wp2
                          go_ret2
                          refine ⟨j', false, swp dk j' 0, rfl, by omega, by rw [size_swp]; exact HS.out, (swp_perm dk j' 0 (by have := HS.out; omega) (by have := HS.out; omega)).trans HP.out, ?_, (((HCz.out).setCell (.inr (by simp)) _).setCell (.inr (by simp)) _).drew⟩
                          rw [HG.out, HG.out]
                          exact Blk.drew (HRz.out.swp j' 0 (by have := HS.out; omega) (by have := HS.out; omega))
                  · go_quiet (first | (go_at_call 428; refine Calls.quiet_of_same (less_u64 _ _ _)))
                    go_wp2_with fail
                    have hwA : wr.drewN nq = W.drewN (ma + nq) := by rw [HWA.out, drewN_drewN]
                    go_loopw [11] (fun vj wb => ∃ (j' mb : Nat), vj = .int .i64 j' ∧ j' ≤ j2 ∧ i ≤ j' + 1 ∧ wb = W.drewN mb) (fun vj _ => (intOf vj).toNat)
                    case atStart => exact ⟨j2, _, rfl, Nat.le_refl _, by omega, hwA⟩
                    case round =>
                      obtain ⟨j', mb, rfl, hjj, hij', hwb⟩ := hrel
                      have hcw : ∀ t, t < n → wr.cell? ⟨b, t, none⟩ = some (.int .u64 (G t)) := by rw [hwb]; exact hc
                      have hfw : ∀ t, wr.frozen? ⟨b, t, none⟩ = false := by rw [hwb]; exact hf
                      have HWB := Lib.hid hwb
                      clear hwb hwA
                      go_wp2_with fail
                      by_cases hle2 : i ≤ j'
                      · exfalso; omega
                      · go_quiet (first | (go_at_call 428; refine Calls.quiet_of_same (less_u64 _ _ _)))
                        go_wp2_with fail
                        have hwB : wr.drewN nq = W.drewN (mb + nq) := by rw [HWB.out, drewN_drewN]
                        generalize wr.drewN nq = wz at hwB ⊢
                        have hcz : ∀ t, t < n → wz.cell? ⟨b, t, none⟩ = some (.int .u64 (G t)) := by rw [hwB]; exact hc
                        have hfz : ∀ t, wz.frozen? ⟨b, t, none⟩ = false := by rw [hwB]; exact hf
                        have hRz : Rw wz b t dk r := by rw [hwB]; exact HR.out.drewN _
                        have hCz : Chg [b] w wz := by rw [hwB]; exact HC.out.drewN _
                        have HRz := Lib.hid hRz
                        have HCz := Lib.hid hCz
                        clear hwB hcw hfw hRz hCz hc hf
                        go_wp2_with fail
                        obtain ⟨v', hy'⟩ := cell?_setCell_some (w := wz) (p := ⟨b, j', none⟩) (x := .int .u64 (G 0)) (q := ⟨b, 0, none⟩) (hcz 0 (by omega))
                        have gx := hcz j' (by omega)
                        have gy := hcz 0 (by omega)
                        have fx := hfz j'
                        have fy := hfz 0
                        clear hcz hfz
                        go_region
                        go_wp2
                        go_ret2
                        refine ⟨j', false, swp dk j' 0, rfl, by omega, by rw [size_swp]; exact HS.out, (swp_perm dk j' 0 (by have := HS.out; omega) (by have := HS.out; omega)).trans HP.out, ?_, (((HCz.out).setCell (.inr (by simp)) _).setCell (.inr (by simp)) _).drew⟩
                        rw [HG.out, HG.out]
                        exact Blk.drew (HRz.out.swp j' 0 (by have := HS.out; omega) (by have := HS.out; omega))
          · go_quiet (first | (go_at_call 428; refine Calls.quiet_of_same (less_u64 _ _ _)))
            go_wp2_with fail
            have hwB : wr.drewN nq = W.drewN (mb + nq) := by rw [HWB.out, drewN_drewN]
            generalize wr.drewN nq = wz at hwB ⊢
            have hcz : ∀ t, t < n → wz.cell? ⟨b, t, none⟩ = some (.int .u64 (G t)) := by rw [hwB]; exact hc
            have hfz : ∀ t, wz.frozen? ⟨b, t, none⟩ = false := by rw [hwB]; exact hf
            have hRz : Rw wz b t dk r := by rw [hwB]; exact HR.out.drewN _
            have hCz : Chg [b] w wz := by rw [hwB]; exact HC.out.drewN _
            have HRz := Lib.hid hRz
            have HCz := Lib.hid hCz
            clear hwB hcw hfw hRz hCz hc hf
            go_wp2_with fail
            obtain ⟨v', hy'⟩ := cell?_setCell_some (w := wz) (p := ⟨b, j', none⟩) (x := .int .u64 (G 0)) (q := ⟨b, 0, none⟩) (hcz 0 (by omega))
            have gx := hcz j' (by omega)
            have gy := hcz 0 (by omega)
            have fx := hfz j'
            have fy := hfz 0
            clear hcz hfz
            go_region
            go_wp2
            go_ret2
            refine ⟨j', true, swp dk j' 0, rfl, by omega, by rw [size_swp]; exact HS.out, (swp_perm dk j' 0 (by have := HS.out; omega) (by have := HS.out; omega)).trans HP.out, ?_, (((HCz.out).setCell (.inr (by simp)) _).setCell (.inr (by simp)) _).drew⟩
            rw [HG.out, HG.out]
            exact Blk.drew (HRz.out.swp j' 0 (by have := HS.out; omega) (by have := HS.out; omega))
    · go_quiet (first | (go_at_call 428; refine Calls.quiet_of_same (less_u64 _ _ _)))
      go_wp2_with fail
      have hwA : wr.drewN nq = W.drewN (ma + nq) := by rw [HWA.out, drewN_drewN]
      go_loopw [11] (fun vj wb => ∃ (j' mb : Nat), vj = .int .i64 j' ∧ j' ≤ J ∧ i ≤ j' + 1 ∧ wb = W.drewN mb) (fun vj _ => (intOf vj).toNat)
      case atStart => exact ⟨J, _, rfl, Nat.le_refl _, by omega, hwA⟩
      case round =>
        obtain ⟨j', mb, rfl, hjj, hij', hwb⟩ := hrel
        have hcw : ∀ t, t < n → wr.cell? ⟨b, t, none⟩ = some (.int .u64 (G t)) := by rw [hwb]; exact hc
        have hfw : ∀ t, wr.frozen? ⟨b, t, none⟩ = false := by rw [hwb]; exact hf
        have HWB := Lib.hid hwb
        clear hwb hwA
        go_wp2_with fail
        by_cases hle2 : i ≤ j'
        · exfalso; omega
        · go_quiet (first | (go_at_call 428; refine Calls.quiet_of_same (less_u64 _ _ _)))
          go_wp2_with fail
          have hwB : wr.drewN nq = W.drewN (mb + nq) := by rw [HWB.out, drewN_drewN]
          generalize wr.drewN nq = wz at hwB ⊢
          have hcz : ∀ t, t < n → wz.cell? ⟨b, t, none⟩ = some (.int .u64 (G t)) := by rw [hwB]; exact hc
          have hfz : ∀ t, wz.frozen? ⟨b, t, none⟩ = false := by rw [hwB]; exact hf
          have hRz : Rw wz b t dk r := by rw [hwB]; exact HR.out.drewN _
          have hCz : Chg [b] w wz := by rw [hwB]; exact HC.out.drewN _
          have HRz := Lib.hid hRz
          have HCz := Lib.hid hCz
          clear hwB hcw hfw hRz hCz hc hf
          go_wp2_with fail
          obtain ⟨v', hy'⟩ := cell?_setCell_some (w := wz) (p := ⟨b, j', none⟩) (x := .int .u64 (G 0)) (q := ⟨b, 0, none⟩) (hcz 0 (by omega))
          have gx := hcz j' (by omega)
          have gy := hcz 0 (by omega)
          have fx := hfz j'
          have fy := hfz 0
          clear hcz hfz
          go_region
          go_wp2
          go_ret2
          refine ⟨j', true, swp dk j' 0, rfl, by omega, by rw [size_swp]; exact HS.out, (swp_perm dk j' 0 (by have := HS.out; omega) (by have := HS.out; omega)).trans HP.out, ?_, (((HCz.out).setCell (.inr (by simp)) _).setCell (.inr (by simp)) _).drew⟩
          rw [HG.out, HG.out]
          exact Blk.drew (HRz.out.swp j' 0 (by have := HS.out; omega) (by have := HS.out; omega))
end Go.Proofs.YtalhhplphlobbaaGreat
