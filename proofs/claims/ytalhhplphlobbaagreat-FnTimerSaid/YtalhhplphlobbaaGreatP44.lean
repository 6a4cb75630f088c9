/- Of: the node that a setup stands for. Conditions: none but the shapes. Last: the last index and term of a node. Conditions: the log follows the snapshot. -/
import Derived.Laws.OwnMore
import Derived.BigQuiet
import Derived.Test.YtalhhplphlobbaaGreatP31
import Derived.Test.YtalhhplphlobbaaGreatP43
set_option linter.unusedVariables false
set_option linter.unusedSimpArgs false
namespace Go.Proofs.YtalhhplphlobbaaGreat
open Go.RowKit
/-- The cells of a spec.Node. -/
def ofL (s : SetS) (st : Int) (v : Value) : List Value := [.int .u64 s.id, .int .u64 st, .int .u64 s.hT, .int .u64 s.hV, .int .u64 s.hC, .string s.bd, .int .u64 s.bi, .int .u64 s.bt, s.b1, s.b2, s.b3, s.b4, .bool s.bal, v]
/-- The cells of a setup in memory. -/
structure SetC (X : World) (t : Nat) (s : SetS) : Prop where
  c0 : X.cell? ⟨t, 0, none⟩ = some (.int .u64 s.id)
  c1 : X.cell? ⟨t, 1, none⟩ = some (.int .i64 s.et)
  c2 : X.cell? ⟨t, 2, none⟩ = some (.int .i64 s.ht)
  c3 : X.cell? ⟨t, 3, none⟩ = some (s.rd)
  c4 : X.cell? ⟨t, 4, none⟩ = some (.bool s.pv)
  c5 : X.cell? ⟨t, 5, none⟩ = some (.bool s.cq)
  c6 : X.cell? ⟨t, 6, none⟩ = some (.bool s.le)
  c7 : X.cell? ⟨t, 7, none⟩ = some (.bool s.nf)
  c8 : X.cell? ⟨t, 8, none⟩ = some (.bool s.sd)
  c9 : X.cell? ⟨t, 9, none⟩ = some (.int .u64 s.msz)
  c10 : X.cell? ⟨t, 10, none⟩ = some (.int .u64 s.mco)
  c11 : X.cell? ⟨t, 11, none⟩ = some (.int .u64 s.mun)
  c12 : X.cell? ⟨t, 12, none⟩ = some (.int .i64 s.inf)
  c13 : X.cell? ⟨t, 13, none⟩ = some (.string s.bd)
  c14 : X.cell? ⟨t, 14, none⟩ = some (.int .u64 s.bi)
  c15 : X.cell? ⟨t, 15, none⟩ = some (.int .u64 s.bt)
  c16 : X.cell? ⟨t, 16, none⟩ = some (s.b1)
  c17 : X.cell? ⟨t, 17, none⟩ = some (s.b2)
  c18 : X.cell? ⟨t, 18, none⟩ = some (s.b3)
  c19 : X.cell? ⟨t, 19, none⟩ = some (s.b4)
  c20 : X.cell? ⟨t, 20, none⟩ = some (.bool s.bal)
  c21 : X.cell? ⟨t, 21, none⟩ = some (s.lg)
  c22 : X.cell? ⟨t, 22, none⟩ = some (.int .u64 s.hT)
  c23 : X.cell? ⟨t, 23, none⟩ = some (.int .u64 s.hV)
  c24 : X.cell? ⟨t, 24, none⟩ = some (.int .u64 s.hC)
  c25 : X.cell? ⟨t, 25, none⟩ = some (.int .u64 s.apd)
theorem SetC.of {X : World} {t : Nat} {s : SetS} {SL : List Value} (h : Blk X t 33 SL.toArray) (hs : SL = s.list) : SetC X t s := by
  subst hs
  exact ⟨h.cell 0, h.cell 1, h.cell 2, h.cell 3, h.cell 4, h.cell 5, h.cell 6, h.cell 7, h.cell 8, h.cell 9, h.cell 10, h.cell 11, h.cell 12, h.cell 13, h.cell 14, h.cell 15, h.cell 16, h.cell 17, h.cell 18, h.cell 19, h.cell 20, h.cell 21, h.cell 22, h.cell 23, h.cell 24, h.cell 25⟩
structure OfS (w0 : World) (t1 t2 : Nat) (SL : List Value) (v : Value) (l : List Ent) (X : World) : Prop where
  b1 : Blk X t1 33 SL.toArray
  b2 : ∃ FY : List Value, FY.length = 14 ∧ Blk X t2 51 FY.toArray
  lg : LogAt X v l
  lo : ∀ a n c, v = .slice (some a) n c → a.block < w0.heap.size
  ch : Chg [] w0 X
theorem LogAt.lo {w : World} {v : Value} {l : List Ent} (h : LogAt w v l) : ∀ a n c, v = .slice (some a) n c → a.block < w.heap.size := by
  obtain ⟨A, n, c, rfl, hl, hc, h0, ha⟩ := h
  intro a n' c' hv
  injection hv with e1 e2 e3
  subst e1
  obtain ⟨b, o, sx⟩ := a
  exact (ha b o sx rfl).2.1
theorem LogAt.nxt0 {w w' : World} {v : Value} {l : List Ent} (h : LogAt w v l) (hn : Chg [] w w') : LogAt w' v l := by
  obtain ⟨A, n, c, rfl, hl, hc, h0, ha⟩ := h
  refine ⟨A, n, c, rfl, hl, hc, h0, fun b o s e => ?_⟩
  obtain ⟨h1, h2, h3⟩ := ha b o s e
  exact ⟨h1, Nat.lt_of_lt_of_le h2 hn.size, fun j x hx => by
    obtain ⟨k1, k2, k3, k4⟩ := h3 j x hx
    exact ⟨hn.at0 k1, hn.at0 k2, hn.at0 k3, hn.at0 k4⟩⟩
theorem OfS.nxt {w0 X Y : World} {t1 t2 : Nat} {SL : List Value} {v : Value} {l : List Ent} (h : OfS w0 t1 t2 SL v l X) (hc : Chg [] X Y) : OfS w0 t1 t2 SL v l Y := by
  obtain ⟨FY, h1, h2⟩ := h.b2
  exact ⟨h.b1.chg hc (by simp), ⟨FY, h1, h2.chg hc (by simp)⟩, h.lg.nxt0 hc, h.lo, h.ch.trans hc⟩
theorem size51 : (Tryz.prog.info? 51).map (·.size) = some 14 := by kernel_rfl
theorem ECells_one (l : List Ent) : ∀ u ∈ ECells l, u.oneCell' = true := by
  intro u hu
  simp only [ECells, List.mem_flatMap, List.mem_cons, List.not_mem_nil, or_false] at hu
  obtain ⟨e, _, h⟩ := hu
  rcases h with rfl | rfl | rfl | rfl <;> rfl
/-- A log's cells, one by one. -/
theorem LogAt.cells {w : World} {b o n c : Nat} {l : List Ent} (h : LogAt w (.slice (some ⟨b, o, none⟩) n c) l) : ∀ j u, (ECells l)[j]? = some u → w.cell? ⟨b, o + j, none⟩ = some u := by
  intro j u hu
  obtain ⟨A, n', c', hv, hl, hc, h0, ha⟩ := h
  injection hv with e1 e2 e3
  subst e1 e2 e3
  obtain ⟨_, _, h3⟩ := ha b o none rfl
  have hj : j < (ECells l).length := (List.getElem?_eq_some_iff.1 hu).1
  rw [ECells_len] at hj
  have hq : j / 4 < l.length := by omega
  obtain ⟨x, hx⟩ : ∃ x, l[j / 4]? = some x := ⟨_, List.getElem?_eq_getElem hq⟩
  obtain ⟨k1, k2, k3, k4⟩ := h3 _ _ hx
  obtain ⟨m1, m2, m3, m4⟩ := ECells_at hx
  obtain ⟨r, hr, hjr⟩ : ∃ r, r < 4 ∧ j = j / 4 * 4 + r := ⟨j % 4, by omega, by omega⟩
  rw [hjr] at hu ⊢
  rcases r with _ | _ | _ | _ | r
  · rw [Nat.add_zero] at hu ⊢; rw [m1] at hu; rw [← hu]; exact k1
  · rw [m2] at hu; rw [← hu]; exact k2
  · rw [m3] at hu; rw [← hu]; exact k3
  · rw [m4] at hu; rw [← hu]; exact k4
  · omega
section
variable (w : World)
/-- append(v, x...) of a log. -/
theorem run_append_log (base : Nat) (ty : TypeId) (i : TypeInfo) (hi : Tryz.prog.info? 65 = some i) (hz : i.zero = some (.agg #[.int .u64 0, .int .u64 0, .int .i64 0, .string ⟨#[]⟩])) (hsize : i.size = 4) (hby : i.bytes = 40)
    (v : Value) (n : Nat) (xs : List Value) (hown : w.ownsRow base 65 4 v n xs) (x : Value) (l : List Ent) (hr : LogAt w x l) (h63 : n + l.length ≤ 1000000) (hbase : base ≤ w.heap.size) :
    ∃ v' w', (Builtin.append_ #[29, 29] ty #[v, x]).run Tryz.prog w = .ok v' w' ∧ w'.ownsRow base 65 4 v' (n + l.length) (xs ++ ECells l) ∧ w.grownBy w' v.ownBlock ∧
      (v'.ownBlock = v.ownBlock ∨ v'.ownBlock = some w.heap.size) := by
  have HR := Lib.hid hr
  obtain ⟨A, m, c, rfl, hl, hc, h0, ha⟩ := hr
  rcases A with _ | ⟨b, o, s⟩
  · have hm : c = 0 := h0 rfl
    subst hm
    have hm : m = 0 := by omega
    subst hm
    have hn : l = [] := List.eq_nil_of_length_eq_zero hl
    subst hn
    exact ⟨v, w, run_append_owned_none (P := Tryz.prog) w base 29 ty 65 i 4 Tryz.underlying29 hi v n xs hown, by simpa [ECells] using hown, World.grownBy.refl w _, .inl rfl⟩
  · obtain ⟨rfl, hb, hcell⟩ := ha b o s rfl
    subst hl
    obtain ⟨v', w', hrun, h2, h3, _, h5⟩ := run_append_own_at (P := Tryz.prog) w base 29 ty 65 i _ 4 40 Tryz.underlying29 hi hz hsize hby rfl (by omega) v n xs hown ⟨b, o, none⟩ l.length c (ECells l) (ECells_len l)
      (fun j u hu => by rw [show (Addr.add ⟨b, o, none⟩ j) = ⟨b, o + j, none⟩ from by unfold Addr.add; split <;> simp_all]; exact HR.out.cells j u hu) (ECells_one l) (by simp only [maxLen]; omega) (by omega) hbase
    exact ⟨v', w', hrun, h2, h3, h5⟩
end
/-- A row of the call's own that holds a log's cells is a log. -/
theorem logAt_own {w : World} {base n : Nat} {v : Value} {l : List Ent} (h : w.ownsRow base 65 4 v n (ECells l)) : LogAt w v l := by
  obtain ⟨h1, h2⟩ := h
  rw [ECells_len] at h1
  have hn : l.length = n := by omega
  rcases h2 with ⟨rfl, rfl⟩ | ⟨g, cap, cur, rfl, _, hg, hnc, _, hcs, htake⟩
  · have : l = [] := List.eq_nil_of_length_eq_zero hn
    subst this
    exact ⟨none, 0, 0, rfl, rfl, Nat.le_refl _, fun _ => rfl, fun b o s e => by cases e⟩
  · have hB : Blk w g 65 cur := hg
    refine ⟨_, _, _, rfl, hn, hnc, (by simp), fun b o s e => ?_⟩
    injection e with e
    injection e with e1 e2 e3
    subst e1 e2 e3
    refine ⟨rfl, hB.lt, fun j x hx => ?_⟩
    have hjl := (List.getElem?_eq_some_iff.1 hx).1
    obtain ⟨m1, m2, m3, m4⟩ := ECells_at hx
    have hc : ∀ q u, (ECells l)[q]? = some u → w.cell? ⟨g, 0 + q, none⟩ = some u := by
      intro q u hu
      rw [Nat.zero_add, Blk.cell hB q]
      rw [← htake, List.getElem?_take] at hu
      split at hu
      · simpa using hu
      · cases hu
    exact ⟨hc _ _ m1, hc _ _ m2, hc _ _ m3, hc _ _ m4⟩
theorem wp_append_log {o : Oper} {a : Act} {K : Act → World → Prop} {Q : Exit → Act → World → Prop} (w : World) (s x : Operand)
    (ho : o.op = .call { callee := .builtin .append, args := #[s, x], argTypes := #[29, 29] }) (base : Nat)
    (v : Value) (n : Nat) (xs : List Value) (hs : a.eval s = v) (hown : w.ownsRow base 65 4 v n xs) (xv : Value) (l : List Ent) (hx : a.eval x = xv) (hr : LogAt w xv l) (h63 : n + l.length ≤ 1000000) (hbase : base ≤ w.heap.size)
    (h : ∀ v' w', w'.ownsRow base 65 4 v' (n + l.length) (xs ++ ECells l) → w.grownBy w' v.ownBlock → K (a.put o.dst v') w') : o.wp Tryz.prog a w K Q := by
  obtain ⟨i0, hi, hz0, hz1, hz2⟩ := info_parts info65
  obtain ⟨v', w', hrun, h2, h3, h4⟩ := run_append_log w base o.type i0 hi hz0 hz1 hz2 v n xs hown xv l hr h63 hbase
  unfold Oper.wp execOp
  simp only [ho, resolve, invoke, builtin, Sem.run_bind, Sem.run_pure, Result.andThen_ok, List.map_toArray, List.map_cons, List.map_nil, hs, hx, hrun]
  exact h v' w' h2 h3
set_option maxRecDepth 100000 in
set_option maxHeartbeats 4000000 in
theorem of_any {w : World} {s : SetS} {l : List Ent} (h : LogAt w s.lg l) (hl : l.length ≤ 1000) (hb : (∃ A n c, s.b1 = .slice A n c) ∧ (∃ A n c, s.b2 = .slice A n c) ∧ (∃ A n c, s.b3 = .slice A n c) ∧ (∃ A n c, s.b4 = .slice A n c)) :
    Calls Tryz.prog 19 #[.agg s.list.toArray] w fun y w' => ∃ v, y = .returned (.agg (ofL s 0 v).toArray) ∧ LogAt w' v l ∧ Nxt w w' := by
  obtain ⟨⟨A1, n1, k1, e1⟩, ⟨A2, n2, k2, e2⟩, ⟨A3, n3, k3, e3⟩, ⟨A4, n4, k4, e4⟩⟩ := hb
  obtain ⟨SL, hSL⟩ : ∃ SL, SL = s.list := ⟨_, rfl⟩
  obtain ⟨lg, hlg⟩ : ∃ lg, lg = s.lg := ⟨_, rfl⟩
  rw [← hSL]
  rw [← hlg] at h
  have HSL := Lib.hid hSL
  have HLG := Lib.hid hlg
  clear hSL hlg
  have hb0 := Blk.new w 33 SL.toArray
  have hl0 := h.nxt0 (((Chg.refl [] w).alloc (.cells SL.toArray 33)))
  have hX : Chg [] w (w.alloc (.cells SL.toArray 33)) := (Chg.refl _ _).alloc _
  have hzX : (w.alloc (.cells SL.toArray 33)).heap.size = w.heap.size + 1 := by simp
  have HLO := Lib.hid h.lo
  clear h
  go_enter Tryz.func19, Tryz.ntmps19
  go_upto_region 1 with fail
  rename_i K0 a0
  have hm : OfS w w.heap.size (w.heap.size + 1) SL lg l ((w.alloc (.cells SL.toArray 33)).alloc (.cells #[.int .u64 0, .int .u64 0, .int .u64 0, .int .u64 0, .int .u64 0, .string ⟨#[]⟩, .int .u64 0, .int .u64 0, .slice none 0 0, .slice none 0 0, .slice none 0 0, .slice none 0 0, .bool false, .slice none 0 0] 51)) := by
    refine ⟨hb0.alloc _, ⟨Array.toList #[.int .u64 0, .int .u64 0, .int .u64 0, .int .u64 0, .int .u64 0, .string ⟨#[]⟩, .int .u64 0, .int .u64 0, .slice none 0 0, .slice none 0 0, .slice none 0 0, .slice none 0 0, .bool false, .slice none 0 0], rfl, ?_⟩, hl0.nxt0 ((Chg.refl _ _).alloc _), HLO.out, hX.alloc _⟩
    exact Blk.newAt (by simp)
  generalize (w.alloc (.cells SL.toArray 33)).alloc (.cells #[.int .u64 0, .int .u64 0, .int .u64 0, .int .u64 0, .int .u64 0, .string ⟨#[]⟩, .int .u64 0, .int .u64 0, .slice none 0 0, .slice none 0 0, .slice none 0 0, .slice none 0 0, .bool false, .slice none 0 0] 51) = X at hm ⊢
  obtain ⟨t1, ht1⟩ : ∃ t1, t1 = w.heap.size := ⟨_, rfl⟩
  rw [← ht1] at hm ⊢
  have HT := Lib.hid ht1
  clear hX hzX hl0 hb0 ht1
  have hd : OfS w t1 (t1 + 1) SL lg l X.drew := hm.nxt ((Chg.refl _ _).drew)
  refine wp_region_held_drew (S := OfS w t1 (t1 + 1) SL lg l) (by kernel_rfl) hd (fun hHeld => ?_)
  refine wpAnyH_take (i := 0) (v := .pointer (some ⟨t1, 0, none⟩)) rfl (by kernel_rfl) (by kernel_rfl) (by kernel_rfl) (fun _ _ _ h => h) (Or.inl ⟨by rfl, fun w hw => by go_simp⟩) hHeld ?_
  simp only [Act.put, List.setIfInBounds_toArray, List.set_cons_zero, List.set_cons_succ]
  refine wpAnyH_take (i := 1) (v := .int .u64 s.id) rfl (by kernel_rfl) (by kernel_rfl) (by kernel_rfl) (fun _ _ _ h => h) (Or.inl ⟨by rfl, fun w hw => ?_⟩) hHeld ?_
  · have z := SetC.of hw.b1 HSL.out
    have y0 := z.c0
    clear z hw hd hHeld hm
    go_simp
  simp only [Act.put, List.setIfInBounds_toArray, List.set_cons_zero, List.set_cons_succ]
  refine wpAnyH_take (i := 2) (v := .pointer (some ⟨t1, 22, none⟩)) rfl (by kernel_rfl) (by kernel_rfl) (by kernel_rfl) (fun _ _ _ h => h) (Or.inl ⟨by rfl, fun w hw => ?_⟩) hHeld ?_
  · go_simp
  simp only [Act.put, List.setIfInBounds_toArray, List.set_cons_zero, List.set_cons_succ]
  refine wpAnyH_take (i := 3) (v := .agg #[.int .u64 s.hT, .int .u64 s.hV, .int .u64 s.hC]) rfl (by kernel_rfl) (by kernel_rfl) (by kernel_rfl) (fun _ _ _ h => h) (Or.inl ⟨by rfl, fun w hw => ?_⟩) hHeld ?_
  · have z := SetC.of hw.b1 HSL.out
    have y22 := z.c22
    have y23 := z.c23
    have y24 := z.c24
    clear z hw hd hHeld hm
    go_simp
  simp only [Act.put, List.setIfInBounds_toArray, List.set_cons_zero, List.set_cons_succ]
  refine wpAnyH_take (i := 4) (v := .pointer (some ⟨t1, 13, none⟩)) rfl (by kernel_rfl) (by kernel_rfl) (by kernel_rfl) (fun _ _ _ h => h) (Or.inl ⟨by rfl, fun w hw => ?_⟩) hHeld ?_
  · go_simp
  simp only [Act.put, List.setIfInBounds_toArray, List.set_cons_zero, List.set_cons_succ]
  refine wpAnyH_take (i := 5) (v := .agg #[.string s.bd, .int .u64 s.bi, .int .u64 s.bt, s.b1, s.b2, s.b3, s.b4, .bool s.bal]) rfl (by kernel_rfl) (by kernel_rfl) (by kernel_rfl) (fun _ _ _ h => h) (Or.inl ⟨by rfl, fun w hw => ?_⟩) hHeld ?_
  · have z := SetC.of hw.b1 HSL.out
    have y13 := z.c13
    have y14 := z.c14
    have y15 := z.c15
    have y16 := z.c16
    have y17 := z.c17
    have y18 := z.c18
    have y19 := z.c19
    have y20 := z.c20
    clear z hw hd hHeld hm
    go_simp
  simp only [Act.put, List.setIfInBounds_toArray, List.set_cons_zero, List.set_cons_succ]
  refine wpAnyH_take (i := 7) (v := .pointer (some ⟨t1, 21, none⟩)) rfl (by kernel_rfl) (by kernel_rfl) (by kernel_rfl) (fun _ _ _ h => h) (Or.inl ⟨by rfl, fun w hw => ?_⟩) hHeld ?_
  · go_simp
  simp only [Act.put, List.setIfInBounds_toArray, List.set_cons_zero, List.set_cons_succ]
  refine wpAnyH_take (i := 8) (v := lg) rfl (by kernel_rfl) (by kernel_rfl) (by kernel_rfl) (fun _ _ _ h => h) (Or.inl ⟨by rfl, fun w hw => ?_⟩) hHeld ?_
  · have z := SetC.of hw.b1 HSL.out
    have y21 := z.c21
    clear z hw hd hHeld hm
    rw [← HLG.out] at y21
    go_simp
  simp only [Act.put, List.setIfInBounds_toArray, List.set_cons_zero, List.set_cons_succ]
  refine wpAnyH_ready (rs := [6]) (by kernel_rfl) (by simp) ?_
  refine AllReadyH.cons rfl (fun K hK => ?_) AllReadyH.nil
  go_simp
  have hd2 := hm.nxt (((Chg.refl _ X).alloc (Obj.cells #[] 65)).drew)
  have ho2 : ((X.alloc (Obj.cells #[] 65)).drew).ownsRow X.heap.size 65 4 (.slice (some ⟨X.heap.size, 0, none⟩) 0 0) 0 [] := own_chg0 (World.ownsRow_lit (e := 65) (size := 4) (base := X.heap.size) X #[] 0 (Nat.le_refl _) (by decide) rfl) ((Chg.refl _ _).drew)
  have hXY : Chg [] X ((X.alloc (Obj.cells #[] 65)).drew) := ((Chg.refl [] X).alloc (Obj.cells #[] 65)).drew
  generalize (X.alloc (Obj.cells #[] 65)).drew = Y at hd2 ho2 hXY ⊢
  refine hK.out _ _ hd2 (fun hHeld => ?_)
  clear hK K
  refine wpAnyH_ready (rs := [9]) (by kernel_rfl) (by simp) ?_
  refine AllReadyH.cons rfl (fun K hK => ?_) AllReadyH.nil
  rw [if_pos (by rfl)]
  refine wp_append_log Y _ _ rfl X.heap.size (.slice (some ⟨X.heap.size, 0, none⟩) 0 0) 0 [] rfl ho2 lg l rfl hd2.lg (by omega) hXY.size ?_
  intro v3 Y3 ho3 hg3
  have hc3 : Chg [] X Y3 := chg_row0 hXY hg3 (fun g hg => (own_lt ho2 hg).1)
  have hm3 := hm.nxt hc3
  rw [List.nil_append, Nat.zero_add] at ho3
  simp only [Act.put, List.setIfInBounds_toArray, List.set_cons_zero, List.set_cons_succ]
  refine hK.out _ _ hm3 (fun hHeld => ?_)
  clear hK K hg3
  have hlv := logAt_own ho3
  obtain ⟨A5, n5, k5, rfl, _⟩ := id hlv
  refine wpAnyH_take (i := 10) (v := .agg (ofL s 0 (.slice A5 n5 k5)).toArray) rfl (by kernel_rfl) (by kernel_rfl) (by kernel_rfl) (fun _ _ _ h => h) (Or.inl ⟨by rfl, fun w hw => ?_⟩) hHeld ?_
  · simp only [ofL]
    rw [e1, e2, e3, e4]
    go_simp
  simp only [Act.put, List.setIfInBounds_toArray, List.set_cons_zero, List.set_cons_succ]
  refine wpAnyH_ready (rs := [11]) (by kernel_rfl) (by simp) ?_
  refine AllReadyH.cons rfl (fun K hK => ?_) AllReadyH.nil
  rw [if_pos (by rfl)]
  obtain ⟨FY, hf, hb2⟩ := hm3.b2
  have hone : ∀ u ∈ ofL s 0 (.slice A5 n5 k5), u.oneCell' = true := by
    intro u hu
    simp only [ofL, e1, e2, e3, e4, List.mem_cons, List.not_mem_nil, or_false] at hu
    rcases hu with rfl | rfl | rfl | rfl | rfl | rfl | rfl | rfl | rfl | rfl | rfl | rfl | rfl | rfl <;> rfl
  have hlen : (ofL s 0 (.slice A5 n5 k5)).length = 14 := rfl
  obtain ⟨FX, hFX⟩ : ∃ FX, FX = ofL s 0 (.slice A5 n5 k5) := ⟨_, rfl⟩
  rw [← hFX] at hone hlen ⊢
  refine wp_store_mid 51 _ _ rfl (t1 + 1) 0 FX.toArray rfl rfl (st48 hb2 (by omega)) (by rw [List.size_toArray, hlen]; exact size51) (all_oneCell_toArray hone) ?_
  have hcF := chg_setCells (t1 + 1) FX 0 Y3
  have hbF := bs48 (FX := FX) hb2 (by omega)
  have hm4 : OfS w t1 (t1 + 1) SL lg l (Y3.setCells (t1 + 1) 0 FX) := by
    have ht := HT.out
    refine ⟨hm3.b1.chg hcF (by simp), ⟨FX, hlen, hbF⟩, hm3.lg.chg hcF (fun a n c e => by have := hm3.lo a n c e; simp; omega), hm3.lo, hm3.ch.then hcF (by intro x hx hl; simp at hx; omega)⟩
  have hlv4 : LogAt (Y3.setCells (t1 + 1) 0 FX) (.slice A5 n5 k5) l := hlv.chg hcF (fun a n c e => by
    have q := own_lt ho3 (g := a.block) (by injection e with e1 e2 e3; simp [rowL, Value.ownBlock, e1])
    have := hm.b2
    obtain ⟨FZ, _, hZ⟩ := hm.b2
    have := hZ.lt
    simp; omega)
  refine hK.out _ _ hm4 (fun hHeld => ?_)
  refine wpAnyH_done (by kernel_rfl) ?_ _
  have HF := Lib.hid hFX
  clear hFX
  have hsz : (Tryz.prog.info? 51).map (·.size) = some FX.toArray.size := by rw [List.size_toArray, hlen]; exact size51
  have hN : Nxt w (Y3.setCells (t1 + 1) 0 FX) := ⟨hm4.ch⟩
  refine a0 _ _ (wp_ret ?_)
  refine bodyPost_ret (results_cell_row rfl _ _ (t1 + 1) 51 FX.toArray (0, 0) _ ?hp hbF Tryz.underlying51 rfl hsz) rfl ?_
  case hp => rfl
  exact ⟨_, by rw [HF.out], hlv4, hN⟩
end Go.Proofs.YtalhhplphlobbaaGreat
namespace Go.Proofs.YtalhhplphlobbaaGreat
open Go.RowKit
theorem LogAt.get {w : World} {A : Option Addr} {n c k : Nat} {l : List Ent} (h : LogAt w (.slice A n c) l) (hk : k < n) : ∃ b o e, A = some ⟨b, o, none⟩ ∧ l[k]? = some e ∧ b < w.heap.size ∧
    w.cell? ⟨b, o + k * 4, none⟩ = some (.int .u64 e.t) ∧ w.cell? ⟨b, o + k * 4 + 1, none⟩ = some (.int .u64 e.i) ∧ w.cell? ⟨b, o + k * 4 + 2, none⟩ = some (.int .i64 0) ∧ w.cell? ⟨b, o + k * 4 + 3, none⟩ = some (.string e.d) := by
  obtain ⟨A', n', c', hv, hl, hc, h0, ha⟩ := h
  injection hv with e1 e2 e3
  subst e1 e2 e3
  rcases A with _ | ⟨b, o, s⟩
  · have := h0 rfl
    omega
  · obtain ⟨rfl, h2, h3⟩ := ha b o s rfl
    obtain ⟨k1, k2, k3, k4⟩ := h3 k l[k] (List.getElem?_eq_getElem (by omega))
    exact ⟨b, o, l[k], rfl, List.getElem?_eq_getElem (by omega), h2, k1, k2, k3, k4⟩
set_option maxRecDepth 100000 in
set_option maxHeartbeats 4000000 in
theorem last_any {w : World} {s : SetS} {st : Int} {v : Value} {l : List Ent} (h : LogAt w v l) (hl : l.length ≤ 1000) (hb : (∃ A n c, s.b1 = .slice A n c) ∧ (∃ A n c, s.b2 = .slice A n c) ∧ (∃ A n c, s.b3 = .slice A n c) ∧ (∃ A n c, s.b4 = .slice A n c))
    (hr : ∀ (j : Nat) x, l[j]? = some x → x.i = s.bi + 1 + j) : Calls Tryz.prog 36 #[.agg (ofL s st v).toArray] w fun y w' => ∃ t, y = .returned (.tuple #[.int .u64 (s.bi + l.length), .int .u64 t]) ∧ Nxt w w' := by
  obtain ⟨⟨A1, n1, k1, e1⟩, ⟨A2, n2, k2, e2⟩, ⟨A3, n3, k3, e3⟩, ⟨A4, n4, k4, e4⟩⟩ := hb
  obtain ⟨A5, n5, k5, rfl, hn5, _⟩ := id h
  have HL := Lib.hid h
  have HN := Lib.hid hn5
  have HR := Lib.hid hr
  obtain ⟨OL, hOL⟩ : ∃ OL, OL = ofL s st (.slice A5 n5 k5) := ⟨_, rfl⟩
  rw [← hOL]
  have HOL := Lib.hid hOL
  have hn : n5 ≤ 1000 := by omega
  clear h hr hOL hn5 hl
  have hb0 := Blk.new w 51 OL.toArray
  have hX : Chg [] w (w.alloc (.cells OL.toArray 51)) := (Chg.refl _ _).alloc _
  go_enter Tryz.func36, Tryz.ntmps36
  go_upto_region 1 with fail
  obtain ⟨b, hb⟩ : ∃ b, b = w.heap.size := ⟨_, rfl⟩
  rw [← hb] at hb0 ⊢
  generalize w.alloc (.cells OL.toArray 51) = X at hb0 hX ⊢
  rw [HOL.out] at hb0
  have c6 : X.cell? ⟨b, 6, none⟩ = some (.int .u64 s.bi) := hb0.cell 6
  have c7 : X.cell? ⟨b, 7, none⟩ = some (.int .u64 s.bt) := hb0.cell 7
  have c13 : X.cell? ⟨b, 13, none⟩ = some (.slice A5 n5 k5) := hb0.cell 13
  have HX := Lib.hid hX
  clear hb hb0 hX
  by_cases h0 : n5 = 0
  · subst h0
    have hl0 : l = [] := List.eq_nil_of_length_eq_zero HN.out
    subst hl0
    go_wp2
    go_quiet (fail)
    go_wp2
    go_ret2
    exact ⟨s.bt, by simp, ⟨HX.out.drewN _⟩⟩
  · obtain ⟨m, rfl⟩ : ∃ m, n5 = m + 1 := ⟨n5 - 1, by omega⟩
    obtain ⟨b', o, e, rfl, hp, hb', k1, k2, k3, k4⟩ := HL.out.get (k := m) (by omega)
    have d1 := HX.out.at0 k1
    have d2 := HX.out.at0 k2
    have d3 := HX.out.at0 k3
    have d4 := HX.out.at0 k4
    have HE := Lib.hid (HR.out m e hp)
    have HNL := Lib.hid (show (s.bi + l.length : Int) = s.bi + 1 + m by have := HN.out; omega)
    clear k1 k2 k3 k4 hp
    go_wp2
    go_quiet (fail)
    go_wp2
    go_ret2
    exact ⟨e.t, by rw [HNL.out, ← HE.out]; rfl, ⟨(HX.out.alloc _).drewN _⟩⟩
end Go.Proofs.YtalhhplphlobbaaGreat
