/- Visit: every member's progress, once. Conditions: sizes. reset: a raft's state at the beginning of a term. Conditions: sizes. -/
import Derived.Test.YtalhhplphlobbaaGreatP15
import Derived.Test.YtalhhplphlobbaaGreatP16
set_option linter.unusedVariables false
set_option linter.unusedSimpArgs false
namespace Go.Proofs.YtalhhplphlobbaaGreat
open Go.RowKit
theorem rev_row (m : Nat) (dn : List Int) (k : Int) : (List.replicate (m + 1) (0 : Int) ++ dn.reverse).toArray.setIfInBounds m k = (List.replicate m (0 : Int) ++ (dn ++ [k]).reverse).toArray := by
  rw [List.setIfInBounds_toArray, List.set_append_left _ _ (by simp)]
  congr 1
  rw [List.reverse_append, List.reverse_singleton, List.singleton_append]
  rw [List.replicate_succ', List.set_append_right _ _ (by simp)]
  simp
theorem rw_array (w : World) (n : Nat) (h : n ≤ 7) : Rw (w.alloc (.cells #[.int .u64 0, .int .u64 0, .int .u64 0, .int .u64 0, .int .u64 0, .int .u64 0, .int .u64 0] 499)) w.heap.size 499 (List.replicate n (0 : Int) ++ []).toArray (List.replicate (7 - n) (.int .u64 0)) := by
  have hb := Blk.new w 499 #[.int .u64 0, .int .u64 0, .int .u64 0, .int .u64 0, .int .u64 0, .int .u64 0, .int .u64 0]
  unfold Rw
  have e : ((List.replicate n (0 : Int) ++ []).toArray.toList.map (Value.int .u64) ++ List.replicate (7 - n) (Value.int .u64 0)).toArray = #[.int .u64 0, .int .u64 0, .int .u64 0, .int .u64 0, .int .u64 0, .int .u64 0, .int .u64 0] := by
    have : ((List.replicate n (0 : Int) ++ []).toArray.toList.map (Value.int .u64) ++ List.replicate (7 - n) (Value.int .u64 0)) = List.replicate 7 (Value.int .u64 0) := by
      rw [List.append_nil]
      simp only [List.map_replicate, List.replicate_append_replicate]
      rw [show n + (7 - n) = 7 from by omega]
    rw [this]
    rfl
  rw [e]
  exact hb
theorem rw_made (w : World) (n : Nat) : Rw (w.alloc (.cells (madeCells #[.int .u64 0] n) 22)) w.heap.size 22 (List.replicate n (0 : Int) ++ []).toArray [] := by
  have hb := Blk.new w 22 (madeCells #[.int .u64 0] n)
  unfold Rw
  have e : ((List.replicate n (0 : Int) ++ []).toArray.toList.map (Value.int .u64) ++ []).toArray = madeCells #[.int .u64 0] n := by
    apply Array.toList_inj.1
    rw [toList_madeCells_one]
    simp
  rw [e]
  exact hb
set_option maxRecDepth 100000 in
set_option maxHeartbeats 8000000 in
theorem visit_any {w : World} {rb bt : Nat} {K : List Int} {S : Int → Nat} {D : DataW Value} {cv : Value} (J : List Int → World → Prop)
    (c12 : w.cell? ⟨rb, 12, none⟩ = some (.map (some bt))) (hD : MapAt w bt D) (hK : K.Nodup) (hg : ∀ k, mget D k = if k ∈ K then some (.pointer (some ⟨S k, 0, none⟩)) else none) (hr : ∀ k ∈ K, 0 ≤ k ∧ k < 2 ^ 64) (lK : K.length ≤ 13)
    (hJ : ∀ w1, Nxt w w1 → J [] w1) (hJc : ∀ dn w1, J dn w1 → w1.cell? ⟨rb, 12, none⟩ = some (.map (some bt)) ∧ MapAt w1 bt D)
    (hstep : ∀ dn k w1 g t cs, J dn w1 → k ∈ K → k ∉ dn → (t = 499 ∨ t = 22) → Blk w1 g t cs → Calls Tryz.prog 343 #[.int .u64 k, .pointer (some ⟨S k, 0, none⟩), cv] w1 fun y w' => y = .returned (.tuple #[]) ∧ J (dn ++ [k]) w' ∧ Blk w' g t cs) :
    Calls Tryz.prog 333 #[.pointer (some ⟨rb, 7, none⟩), .func (.func 343) #[] #[cv]] w fun y w' => y = .returned (.tuple #[]) ∧ ∃ K', K'.Perm K ∧ (K.length ≤ 12 → K'.Pairwise (· ≤ ·)) ∧ J K' w' := by
  obtain ⟨i0, hi, hz0, hz1, hz2⟩ := info_parts info22
  have hsz : Maps.size D = K.length := by
    obtain ⟨ks, h1, h2, h3, h4⟩ := hD.keys
    rw [h3]
    exact ((List.perm_ext_iff_of_nodup h1 hK).2 (fun k => by rw [h2 k, hg k]; split <;> simp [*])).length_eq
  obtain ⟨n, hn⟩ : ∃ n, n = K.length := ⟨_, rfl⟩
  have hsz2 : Maps.size D = n := hsz.trans hn.symm
  have hmk := fun wx => run_make (P := Tryz.prog) wx 24 22 i0 (.int .u64 0) Tryz.underlying24 hi hz0 .i64 .i64 (n : Int) (n : Int) (by omega) (by omega) (by rw [hz2]; omega) (by omega)
  have HG := Lib.hid hg
  have HK := Lib.hid hK
  have HR := Lib.hid hr
  have HJ := Lib.hid hJ
  have HJC := Lib.hid hJc
  have HSTEP := Lib.hid hstep
  have HN := Lib.hid hn
  have n13 : n ≤ 13 := by omega
  have cl := World.block_lt_of_cell? w _ c12
  simp at cl
  have HSZ2 := Lib.hid hsz2
  clear hg hK hr hJ hJc hstep hn hsz lK hsz2
  by_cases h7 : n ≤ 7
  · have h7' : (n : Int) ≤ 7 := by omega
    go_enter Tryz.func333, Tryz.ntmps333
    go_wp2_with (first | (at_len; refine wp_mlen _ rfl _ 288 rfl 304 Tryz.underlying288 rfl hD ?_; rw [HSZ2.out]) | (at_range; refine wp_range _ rfl _ 288 rfl 304 Tryz.underlying288 rfl (hD.nxt ⟨(Chg.refl _ _).alloc _⟩) ?_; intro w2 hrg hn2 hs2) | go_in)
    have hR2 : Rw w2 w.heap.size 499 (List.replicate n (0 : Int) ++ ([] : List Int).reverse).toArray (List.replicate (7 - n) (.int .u64 0)) := Blk.nxt (rw_array w n h7) hn2
    have hN2 : Nxt w w2 := ⟨((Chg.refl [] w).alloc _).trans hn2.out⟩
    obtain ⟨rI, hrI⟩ : ∃ rI, rI = (w.alloc (.cells #[.int .u64 0, .int .u64 0, .int .u64 0, .int .u64 0, .int .u64 0, .int .u64 0, .int .u64 0] 499)).heap.size := ⟨_, rfl⟩
    rw [← hrI] at hrg
    have hrI2 : rI = w.heap.size + 1 := by rw [hrI]; simp
    (try go_frame)
    (try simp only [World.size_alloc])
    (try simp only [World.size_alloc] at hrI)
    (try rw [← hrI])
    clear hrI
    obtain ⟨g, hgE⟩ : ∃ g, g = w.heap.size := ⟨_, rfl⟩
    have zg : w.heap.size ≤ g := by omega
    have zgr : g < rI := by omega
    clear hrI2
    rw [← hgE] at hR2
    (try rw [← hgE])
    clear hgE
    obtain ⟨rr, hrE⟩ : ∃ rr : List Value, rr = (List.replicate (7 - n) (.int .u64 0)) := ⟨_, rfl⟩
    rw [← hrE] at hR2
    clear hrE
    go_loopw [4] (fun nv wi => ∃ (dn : List Int) (m : Nat), dn.length + m = n ∧ nv = .int .i64 m ∧ Rg wi bt rI D dn ∧ Rw wi g 499 (List.replicate m (0 : Int) ++ dn.reverse).toArray rr ∧ Chg [] w wi) (fun _ wi => wi.rangeLeft bt rI)
    case atStart => exact ⟨[], n, by simp, rfl, hrg, hR2, hN2.out⟩
    case round =>
      obtain ⟨dn, m, hdm, rfl, hrgi, hRi, hCi⟩ := hrel
      have hsub : dn.Nodup ∧ ∀ k ∈ dn, k ∈ K := by
        obtain ⟨lf, _, _, h1, h2⟩ := hrgi
        exact ⟨h1, fun k hk => by have := (h2 k hk).1; rw [HG.out k] at this; split at this; assumption; cases this⟩
      have HRW := Lib.hid hRi
      have HCI := Lib.hid hCi
      have HSUB := Lib.hid hsub
      have HDM := Lib.hid hdm
      clear hRi hCi hsub hdm
      go_wp2_with (first | (at_next; refine wp_next _ rfl _ rfl rfl hrgi ?_ ?_) | go_in)
      · intro hall
        have hp : dn.Perm K := (List.perm_ext_iff_of_nodup HSUB.out.1 HK.out).2 (fun k => ⟨HSUB.out.2 k, fun hk => hall k (by rw [HG.out k]; simp [hk])⟩)
        have hm0 : m = 0 := by have h1 := hp.length_eq; have h2 := HDM.out; have h3 := HN.out; omega
        subst hm0
        have hRs : Rw wr g 499 dn.reverse.toArray rr := by simpa using HRW.out
        have hln : dn.reverse.toArray.size = n := by have h2 := HDM.out; simp; omega
        have HP := Lib.hid hp
        have HRS := Lib.hid hRs
        have HLN := Lib.hid hln
        clear hall hp hRs hln hrgi HRW HDM
        go_wp2_with (first | (go_at_call 351; refine (sort_any HRS.out HLN.out (by omega)).mono ?_; rintro e w5 ⟨d', rfl, hd1, hd2, hd3, hd4, hd5⟩))
        have hN5 : Nxt w w5 := ⟨HCI.out.then hd5 (fun x hx hl => by simp at hx; omega)⟩
        have hPK : d'.toList.Perm K := hd3.trans ((List.reverse_perm dn).trans HP.out)
        have hSO : K.length ≤ 12 → d'.toList.Pairwise (· ≤ ·) := fun h => sorted_list hd2 (hd4 (by have := HN.out; omega))
        have hND := hPK.nodup_iff.2 HK.out
        have hJ0 := HJ.out w5 hN5
        have HD1 := Lib.hid hd1
        have HD2 := Lib.hid hd2
        have HPK := Lib.hid hPK
        have HSO := Lib.hid hSO
        have HND := Lib.hid hND
        have HJ0 := Lib.hid hJ0
        clear hd1 hd2 hd3 hd4 hd5 hN5 hPK hSO hND hJ0 HRS HLN HP HCI HSUB
        go_loopw [40] (fun iv wi => ∃ i : Nat, i ≤ n ∧ iv = .int .i64 i ∧ J (d'.toList.take i) wi ∧ Rw wi g 499 d' rr) (fun iv _ => n - (intOf iv).toNat)
        case atStart => exact ⟨0, by omega, rfl, by simpa using HJ0.out, HD1.out⟩
        case round =>
          obtain ⟨i, hin, rfl, hJi, hRi⟩ := hrel
          have HJI := Lib.hid hJi
          have HRI2 := Lib.hid hRi
          clear hJi hRi
          by_cases hlt : i < n
          · have hiz : i < d'.size := by have := HD2.out; omega
            obtain ⟨k, hk⟩ : ∃ k, k = d'[i]! := ⟨_, rfl⟩
            have cI := HRI2.out.cell i hiz
            rw [← hk] at cI
            have hkl : d'.toList[i]? = some k := by rw [hk, Array.getElem?_toList]; simp [hiz]
            have hkK : k ∈ K := HPK.out.mem_iff.1 (List.mem_of_getElem? hkl)
            have hnk : k ∉ d'.toList.take i := by
              intro hm
              obtain ⟨j, hj⟩ := List.mem_iff_getElem?.1 hm
              rw [List.getElem?_take] at hj
              split at hj
              · rename_i hji
                have := (List.getElem?_inj (by simpa using hiz) HND.out).1 (hkl.trans hj.symm)
                omega
              · cases hj
            have htk : d'.toList.take (i + 1) = d'.toList.take i ++ [k] := by rw [List.take_add_one, hkl]; rfl
            obtain ⟨c12, hDm⟩ := HJC.out _ _ HJI.out
            have hlk := HG.out k
            rw [if_pos hkK] at hlk
            have hkr := HR.out k hkK
            have hST := HSTEP.out _ k wr g 499 _ HJI.out hkK hnk (by simp) HRI2.out
            have HST := Lib.hid hST
            have HTK := Lib.hid htk
            have HLK := Lib.hid hlk
            have HKR := Lib.hid hkr
            have i1 : (0 : Int) ≤ i ∧ (i : Int) < n := by omega
            clear hk hkl hkK hnk htk hlk hkr hST
            go_wp2_with (first | (at_lookup; refine wp_look _ rfl _ _ 288 rfl 304 Tryz.underlying288 (Tryz.zeroValue304 _) rfl hDm rfl HKR.out HLK.out ?_) | (go_at_call 343; (with_reducible refine Calls.mono HST.out ?_); rintro e w7 ⟨rfl, hJ7, hB7⟩) | go_in)
            go_roundw
            case rel => exact ⟨i + 1, by omega, by go_num, by rw [HTK.out]; exact hJ7, hB7⟩
            case measure => simp [intOf]; omega
          · have hin' : i = n := by omega
            subst hin'
            go_wp2
            go_end0
            have e1 : d'.toList.take i = d'.toList := List.take_of_length_le (by have := HD2.out; simp; omega)
            have h9 := HJI.out
            rw [e1] at h9
            exact ⟨rfl, d'.toList, HPK.out, HSO.out, h9⟩
      · intro x v w3 hx0 hx1 hxg hnot hrg3 hlt3 hc3 hs3 hen
        have hm1 : 0 < m := by
          have hxK : x ∈ K := by rw [HG.out x] at hxg; split at hxg; assumption; cases hxg
          have h1 := nodup_le (List.nodup_cons.2 ⟨hnot, HSUB.out.1⟩) (S := K) (by intro k hk; rcases List.mem_cons.1 hk with rfl | hk; exact hxK; exact HSUB.out.2 k hk)
          have h2 := HDM.out
          have h3 := HN.out
          simp at h1
          omega
        obtain ⟨m', rfl⟩ : ∃ m', m = m' + 1 := ⟨m - 1, by omega⟩
        have hR3 : Rw w3 g 499 (List.replicate (m' + 1) (0 : Int) ++ dn.reverse).toArray rr := Blk.chg HRW.out hc3 (by simp; omega)
        have hC3 : Chg [] w w3 := HCI.out.then hc3 (by simp; omega)
        have hmn : m' < n := by have := HDM.out; omega
        have hmn' : (m' : Int) < n := by omega
        have cM := hR3.cell m' (by simp; omega)
        have cF := Blk.frozen hR3 m'
        have hq : Rw (w3.setCell ⟨g, m', none⟩ (.int .u64 x)) g 499 (List.replicate m' (0 : Int) ++ (dn ++ [x]).reverse).toArray rr := by
          have z := hR3.set m' x (by simp; omega)
          rw [rev_row] at z
          exact z
        have hcq : Chg [g] w3 (w3.setCell ⟨g, m', none⟩ (.int .u64 x)) := (Chg.refl _ _).setCell (.inr (by simp)) _
        have hbg : bt ≠ g := by have := hD.lt; omega
        have hrg4 := hrg3.chg hcq (by simpa using hbg) (by simp; omega)
        have hC4 := hC3.then hcq (by simp; omega)
        have HQ := Lib.hid hq
        have HRG4 := Lib.hid hrg4
        have HC4 := Lib.hid hC4
        have HR3 := Lib.hid hR3
        have HLT3 := Lib.hid hlt3
        clear hR3 hC3 hq hcq hrg4 hC4 hrgi hrg3 HRW HCI hxg hnot hc3 hs3 hlt3
        go_wp2
        go_roundw
        case rel => exact ⟨dn ++ [x], m', by have := HDM.out; simp; omega, rfl, HRG4.out.1, HQ.out, HC4.out⟩
        case measure => rw [HRG4.out.2]; exact HLT3.out

  · have h7' : ¬ (n : Int) ≤ 7 := by omega
    go_enter Tryz.func333, Tryz.ntmps333
    go_wp2_with (first | (at_len; refine wp_mlen _ rfl _ 288 rfl 304 Tryz.underlying288 rfl hD ?_; rw [HSZ2.out]) | (at_range; refine wp_range _ rfl _ 288 rfl 304 Tryz.underlying288 rfl (hD.nxt ⟨((Chg.refl _ _).alloc _).alloc _⟩) ?_; intro w2 hrg hn2 hs2) | go_in)
    have hR2 : Rw w2 (w.heap.size + 1) 22 (List.replicate n (0 : Int) ++ ([] : List Int).reverse).toArray [] := Blk.nxt ((by have z := rw_made (w.alloc (.cells #[.int .u64 0, .int .u64 0, .int .u64 0, .int .u64 0, .int .u64 0, .int .u64 0, .int .u64 0] 499)) n; rw [World.size_alloc] at z; exact z)) hn2
    have hN2 : Nxt w w2 := ⟨(((Chg.refl [] w).alloc _).alloc _).trans hn2.out⟩
    obtain ⟨rI, hrI⟩ : ∃ rI, rI = ((w.alloc (.cells #[.int .u64 0, .int .u64 0, .int .u64 0, .int .u64 0, .int .u64 0, .int .u64 0, .int .u64 0] 499)).alloc (.cells (madeCells #[.int .u64 0] n) 22)).heap.size := ⟨_, rfl⟩
    rw [← hrI] at hrg
    have hrI2 : rI = (w.heap.size + 1) + 1 := by rw [hrI]; simp
    (try go_frame)
    (try simp only [World.size_alloc])
    (try simp only [World.size_alloc] at hrI)
    (try rw [← hrI])
    clear hrI
    obtain ⟨g, hgE⟩ : ∃ g, g = (w.heap.size + 1) := ⟨_, rfl⟩
    have zg : w.heap.size ≤ g := by omega
    have zgr : g < rI := by omega
    clear hrI2
    rw [← hgE] at hR2
    (try rw [← hgE])
    clear hgE
    obtain ⟨rr, hrE⟩ : ∃ rr : List Value, rr = [] := ⟨_, rfl⟩
    rw [← hrE] at hR2
    clear hrE
    go_loopw [4] (fun nv wi => ∃ (dn : List Int) (m : Nat), dn.length + m = n ∧ nv = .int .i64 m ∧ Rg wi bt rI D dn ∧ Rw wi g 22 (List.replicate m (0 : Int) ++ dn.reverse).toArray rr ∧ Chg [] w wi) (fun _ wi => wi.rangeLeft bt rI)
    case atStart => exact ⟨[], n, by simp, rfl, hrg, hR2, hN2.out⟩
    case round =>
      obtain ⟨dn, m, hdm, rfl, hrgi, hRi, hCi⟩ := hrel
      have hsub : dn.Nodup ∧ ∀ k ∈ dn, k ∈ K := by
        obtain ⟨lf, _, _, h1, h2⟩ := hrgi
        exact ⟨h1, fun k hk => by have := (h2 k hk).1; rw [HG.out k] at this; split at this; assumption; cases this⟩
      have HRW := Lib.hid hRi
      have HCI := Lib.hid hCi
      have HSUB := Lib.hid hsub
      have HDM := Lib.hid hdm
      clear hRi hCi hsub hdm
      go_wp2_with (first | (at_next; refine wp_next _ rfl _ rfl rfl hrgi ?_ ?_) | go_in)
      · intro hall
        have hp : dn.Perm K := (List.perm_ext_iff_of_nodup HSUB.out.1 HK.out).2 (fun k => ⟨HSUB.out.2 k, fun hk => hall k (by rw [HG.out k]; simp [hk])⟩)
        have hm0 : m = 0 := by have h1 := hp.length_eq; have h2 := HDM.out; have h3 := HN.out; omega
        subst hm0
        have hRs : Rw wr g 22 dn.reverse.toArray rr := by simpa using HRW.out
        have hln : dn.reverse.toArray.size = n := by have h2 := HDM.out; simp; omega
        have HP := Lib.hid hp
        have HRS := Lib.hid hRs
        have HLN := Lib.hid hln
        clear hall hp hRs hln hrgi HRW HDM
        go_wp2_with (first | (go_at_call 351; refine (sort_any HRS.out HLN.out (by omega)).mono ?_; rintro e w5 ⟨d', rfl, hd1, hd2, hd3, hd4, hd5⟩))
        have hN5 : Nxt w w5 := ⟨HCI.out.then hd5 (fun x hx hl => by simp at hx; omega)⟩
        have hPK : d'.toList.Perm K := hd3.trans ((List.reverse_perm dn).trans HP.out)
        have hSO : K.length ≤ 12 → d'.toList.Pairwise (· ≤ ·) := fun h => sorted_list hd2 (hd4 (by have := HN.out; omega))
        have hND := hPK.nodup_iff.2 HK.out
        have hJ0 := HJ.out w5 hN5
        have HD1 := Lib.hid hd1
        have HD2 := Lib.hid hd2
        have HPK := Lib.hid hPK
        have HSO := Lib.hid hSO
        have HND := Lib.hid hND
        have HJ0 := Lib.hid hJ0
        clear hd1 hd2 hd3 hd4 hd5 hN5 hPK hSO hND hJ0 HRS HLN HP HCI HSUB
        go_loopw [40] (fun iv wi => ∃ i : Nat, i ≤ n ∧ iv = .int .i64 i ∧ J (d'.toList.take i) wi ∧ Rw wi g 22 d' rr) (fun iv _ => n - (intOf iv).toNat)
        case atStart => exact ⟨0, by omega, rfl, by simpa using HJ0.out, HD1.out⟩
        case round =>
          obtain ⟨i, hin, rfl, hJi, hRi⟩ := hrel
          have HJI := Lib.hid hJi
          have HRI2 := Lib.hid hRi
          clear hJi hRi
          by_cases hlt : i < n
          · have hiz : i < d'.size := by have := HD2.out; omega
            obtain ⟨k, hk⟩ : ∃ k, k = d'[i]! := ⟨_, rfl⟩
            have cI := HRI2.out.cell i hiz
            rw [← hk] at cI
            have hkl : d'.toList[i]? = some k := by rw [hk, Array.getElem?_toList]; simp [hiz]
            have hkK : k ∈ K := HPK.out.mem_iff.1 (List.mem_of_getElem? hkl)
            have hnk : k ∉ d'.toList.take i := by
              intro hm
              obtain ⟨j, hj⟩ := List.mem_iff_getElem?.1 hm
              rw [List.getElem?_take] at hj
              split at hj
              · rename_i hji
                have := (List.getElem?_inj (by simpa using hiz) HND.out).1 (hkl.trans hj.symm)
                omega
              · cases hj
            have htk : d'.toList.take (i + 1) = d'.toList.take i ++ [k] := by rw [List.take_add_one, hkl]; rfl
            obtain ⟨c12, hDm⟩ := HJC.out _ _ HJI.out
            have hlk := HG.out k
            rw [if_pos hkK] at hlk
            have hkr := HR.out k hkK
            have hST := HSTEP.out _ k wr g 22 _ HJI.out hkK hnk (by simp) HRI2.out
            have HST := Lib.hid hST
            have HTK := Lib.hid htk
            have HLK := Lib.hid hlk
            have HKR := Lib.hid hkr
            have i1 : (0 : Int) ≤ i ∧ (i : Int) < n := by omega
            clear hk hkl hkK hnk htk hlk hkr hST
            go_wp2_with (first | (at_lookup; refine wp_look _ rfl _ _ 288 rfl 304 Tryz.underlying288 (Tryz.zeroValue304 _) rfl hDm rfl HKR.out HLK.out ?_) | (go_at_call 343; (with_reducible refine Calls.mono HST.out ?_); rintro e w7 ⟨rfl, hJ7, hB7⟩) | go_in)
            go_roundw
            case rel => exact ⟨i + 1, by omega, by go_num, by rw [HTK.out]; exact hJ7, hB7⟩
            case measure => simp [intOf]; omega
          · have hin' : i = n := by omega
            subst hin'
            go_wp2
            go_end0
            have e1 : d'.toList.take i = d'.toList := List.take_of_length_le (by have := HD2.out; simp; omega)
            have h9 := HJI.out
            rw [e1] at h9
            exact ⟨rfl, d'.toList, HPK.out, HSO.out, h9⟩
      · intro x v w3 hx0 hx1 hxg hnot hrg3 hlt3 hc3 hs3 hen
        have hm1 : 0 < m := by
          have hxK : x ∈ K := by rw [HG.out x] at hxg; split at hxg; assumption; cases hxg
          have h1 := nodup_le (List.nodup_cons.2 ⟨hnot, HSUB.out.1⟩) (S := K) (by intro k hk; rcases List.mem_cons.1 hk with rfl | hk; exact hxK; exact HSUB.out.2 k hk)
          have h2 := HDM.out
          have h3 := HN.out
          simp at h1
          omega
        obtain ⟨m', rfl⟩ : ∃ m', m = m' + 1 := ⟨m - 1, by omega⟩
        have hR3 : Rw w3 g 22 (List.replicate (m' + 1) (0 : Int) ++ dn.reverse).toArray rr := Blk.chg HRW.out hc3 (by simp; omega)
        have hC3 : Chg [] w w3 := HCI.out.then hc3 (by simp; omega)
        have hmn : m' < n := by have := HDM.out; omega
        have hmn' : (m' : Int) < n := by omega
        have cM := hR3.cell m' (by simp; omega)
        have cF := Blk.frozen hR3 m'
        have hq : Rw (w3.setCell ⟨g, m', none⟩ (.int .u64 x)) g 22 (List.replicate m' (0 : Int) ++ (dn ++ [x]).reverse).toArray rr := by
          have z := hR3.set m' x (by simp; omega)
          rw [rev_row] at z
          exact z
        have hcq : Chg [g] w3 (w3.setCell ⟨g, m', none⟩ (.int .u64 x)) := (Chg.refl _ _).setCell (.inr (by simp)) _
        have hbg : bt ≠ g := by have := hD.lt; omega
        have hrg4 := hrg3.chg hcq (by simpa using hbg) (by simp; omega)
        have hC4 := hC3.then hcq (by simp; omega)
        have HQ := Lib.hid hq
        have HRG4 := Lib.hid hrg4
        have HC4 := Lib.hid hC4
        have HR3 := Lib.hid hR3
        have HLT3 := Lib.hid hlt3
        clear hR3 hC3 hq hcq hrg4 hC4 hrgi hrg3 HRW HCI hxg hnot hc3 hs3 hlt3
        go_wp2
        go_roundw
        case rel => exact ⟨dn ++ [x], m', by have := HDM.out; simp; omega, rfl, HRG4.out.1, HQ.out, HC4.out⟩
        case measure => rw [HRG4.out.2]; exact HLT3.out

end Go.Proofs.YtalhhplphlobbaaGreat
namespace Go.Proofs.YtalhhplphlobbaaGreat
open Go.RowKit
def infl0 (s : RaftS) : Array Value := #[.int .i64 0, .int .i64 0, .int .u64 0, .int .i64 s.mif, .int .u64 s.mib, .slice none 0 0]
/-- While reset visits the members: those of dn are done. -/
structure RsJ (M : List Nat) (w0 : World) (g rb rl ms bt : Nat) (s : RaftS) (l : RLog) (hv sv ev : Value) (e : Ent) (r : List Ent) (D : DataW Value) (f : Int → Option PrS) (p : Int → Nat) (dn : List Int) (w : World) (bi : Int → Nat) : Prop where
  ra : RaftAt w rb s
  la : RlAt w rl ms l
  sa : StAt M w ms hv sv ev e r
  ga : Blk w g 272 #[.pointer (some ⟨rb, 0, none⟩)]
  ma : MapAt w bt D
  pa : ∀ k st, f k = some st → Blk w (p k) 461 (if k ∈ dn then (st.fresh (e.i + r.length) (decide (k = s.id)) (bi k)).cells else st.cells)
  ia : ∀ k ∈ dn, w0.heap.size ≤ bi k ∧ Blk w (bi k) 509 (infl0 s)
  ja : ∀ k ∈ dn, ∀ k' ∈ dn, bi k = bi k' → k = k'
  ca : ∀ x, x < w0.heap.size → x ≠ ms → (∀ k st, f k = some st → x ≠ p k) → w.heap[x]? = w0.heap[x]?
  na : w.os = w0.os ∧ w.tape = w0.tape ∧ w.output = w0.output ∧ w0.heap.size ≤ w.heap.size
section
variable {M : List Nat} {w0 w w' : World} {g rb rl ms bt : Nat} {s : RaftS} {l : RLog} {hv sv ev : Value} {e : Ent} {r : List Ent} {D : DataW Value} {f : Int → Option PrS} {p : Int → Nat} {dn : List Int} {bi : Int → Nat}
theorem RsJ.step (h : RsJ M w0 g rb rl ms bt s l hv sv ev e r D f p dn w bi) (hrl : s.rl = rl) (hcalm : l.calm) (hpi : ∀ k k' st st', f k = some st → f k' = some st' → p k = p k' → k = k') (hpM : ∀ k st, f k = some st → p k ∈ M) {k : Int} {st : PrS} (hk : f k = some st) (hn : k ∉ dn)
    {gg t : Nat} {cs : Array Value} (ht : t = 499 ∨ t = 22) (hb : Blk w gg t cs) :
    Calls Tryz.prog 343 #[.int .u64 k, .pointer (some ⟨p k, 0, none⟩), .pointer (some ⟨g, 0, none⟩)] w fun y w' => y = .returned (.tuple #[]) ∧ (∃ bi, RsJ M w0 g rb rl ms bt s l hv sv ev e r D f p (dn ++ [k]) w' bi) ∧ Blk w' gg t cs := by
  have hp := h.pa k st hk
  rw [if_neg hn] at hp
  have hms := h.sa.at_
  refine (resetOne_any (id := k) h.ra hrl h.la hcalm h.sa h.ga hp (hpM k st hk)).mono ?_
  rintro y w' ⟨b0, rfl, hb0, hP, hI, hm, hc⟩
  have nb : ∀ {x : Nat} {t' : TypeId} {cs' : Array Value}, Blk w x t' cs' → t' ≠ 246 → t' ≠ 461 → x ∉ [ms, p k] := fun hx h1 h2 => by
    have a1 := hms.ne hx h1
    have a2 := hx.ne hp h2
    simp
    exact ⟨a1, a2⟩
  have nm : bt ∉ [ms, p k] := by
    have a1 := h.ma.ne_blk hp
    obtain ⟨_, _, _, _, _, _, hmb⟩ := hms
    have a2 := h.ma.ne_blk hmb
    simp
    exact ⟨a2, a1⟩
  refine ⟨rfl, ⟨fun x => if x = k then b0 else bi x, ?_⟩, hb.chg hc (nb hb (by rcases ht with rfl | rfl <;> decide) (by rcases ht with rfl | rfl <;> decide))⟩
  constructor
  · exact h.ra.chg hc (nb h.ra (by decide) (by decide))
  · exact h.la.chg hc (nb h.la (by decide) (by decide))
  · exact ⟨hm, h.sa.mem, h.sa.ents.chg hc (by simp; exact ⟨h.sa.mem, hpM k st hk⟩), h.sa.i0, h.sa.i1, h.sa.len⟩
  · exact h.ga.chg hc (nb h.ga (by decide) (by decide))
  · exact h.ma.chg hc nm
  · intro k' st' hk'
    by_cases hkk : k' = k
    · subst hkk
      rw [hk] at hk'
      cases hk'
      simp only [List.mem_append, List.mem_singleton, or_true, if_true]
      exact hP
    · have hpp : p k' ∉ [ms, p k] := by
        have a1 := hms.ne (h.pa k' st' hk') (by decide)
        simp
        exact ⟨a1, fun e => hkk (hpi k' k st' st hk' hk e)⟩
      have z := (h.pa k' st' hk').chg hc hpp
      simp only [List.mem_append, List.mem_singleton, hkk, or_false, if_false]
      exact z
  · intro x hx
    by_cases hxk : x = k
    · subst hxk
      simp only [if_true]
      exact ⟨Nat.le_trans h.na.2.2.2 hb0, hI⟩
    · have hxd : x ∈ dn := by simpa [hxk] using hx
      simp only [hxk, if_false]
      obtain ⟨q1, q2⟩ := h.ia x hxd
      exact ⟨q1, q2.chg hc (nb q2 (by decide) (by decide))⟩
  · intro x hx x' hx' hxx
    have lo : ∀ z ∈ dn, bi z < b0 := fun z hz => Nat.lt_of_lt_of_le (h.ia z hz).2.lt hb0
    by_cases h1 : x = k <;> by_cases h2 : x' = k
    · exact h1.trans h2.symm
    · simp only [h1, if_true, h2, if_false] at hxx
      have := lo x' (by simpa [h2] using hx')
      omega
    · simp only [h1, if_false, h2, if_true] at hxx
      have := lo x (by simpa [h1] using hx)
      omega
    · simp only [h1, h2, if_false] at hxx
      exact h.ja x (by simpa [h1] using hx) x' (by simpa [h2] using hx') hxx
  · intro x hx h1 h2
    refine (hc.block x (Nat.lt_of_lt_of_le hx h.na.2.2.2) ?_).trans (h.ca x hx h1 h2)
    simp
    exact ⟨h1, h2 k st hk⟩
  · exact ⟨hc.os.trans h.na.1, hc.tape.trans h.na.2.1, hc.output.trans h.na.2.2.1, Nat.le_trans h.na.2.2.2 hc.size⟩
end
end Go.Proofs.YtalhhplphlobbaaGreat
