/- FnTimer: Has as it is, rows of structs, the two calls, what the answers are. Conditions: none. members: a configuration as the laws let it in. Conditions: none but the shapes. row: a log as the laws let it in. Conditions: the shapes; where the log begins. -/
import Derived.StillTailTactics
import Derived.WalkKit
import Derived.Test.YtalhhplphlobbaaGreatP42
set_option linter.unusedVariables false
set_option linter.unusedSimpArgs false
namespace Go.Proofs.YtalhhplphlobbaaGreat
open Go.RowKit
def HasP (x : Int) (V : List Int) (w : World) (y : Ending) (w' : World) : Prop := y = .returned (.bool (decide (x ∈ V))) ∧ Nxt w w'
set_option maxRecDepth 100000 in
set_option maxHeartbeats 800000 in
theorem has_iff {M : List Nat} {w : World} {A : Option Addr} {n c : Nat} {V : List Int} (x : Int) (h : Sl M w (.slice A n c) (U64s V)) (hn : n < 2 ^ 62) : Calls Tryz.prog 21 #[.slice A n c, .int .u64 x] w (HasP x V w) := by
  have HS := Lib.hid h
  have HG := Lib.hid (u64_len h).1
  clear h
  go_enter Tryz.func21, Tryz.ntmps21
  go_wp2
  go_loopw [9] (fun i wr => ∃ k : Nat, k ≤ n ∧ i = .int .i64 k ∧ (∀ j y, j < k → V[j]? = some y → x ≠ y) ∧ Chg [] w wr) (fun i _ => n - (intOf i).toNat)
  case atStart => exact ⟨0, by omega, rfl, fun j y hj => by omega, Chg.refl _ _⟩
  case round =>
    obtain ⟨k, hk, rfl, hno, hcw⟩ := hrel
    have HNO := Lib.hid hno
    clear hno
    by_cases hlt : k < n
    · obtain ⟨b, o, z, rfl, hp, hcell, _⟩ := u64_at HS.out hlt
      have d1 := hcw.at0 hcell
      have HP := Lib.hid hp
      have HCW := Lib.hid hcw
      clear hcell hp hcw
      by_cases hzx : z = x
      · subst hzx
        go_wp2
        go_ret
        have : decide (z ∈ V) = true := decide_eq_true (List.mem_of_getElem? HP.out)
        exact ⟨by rw [this]; rfl, ⟨HCW.out⟩⟩
      · have hzx' : (z == x) = false := by simp [hzx]
        go_wp2
        exact ⟨⟨k + 1, by omega, by simp, fun j y hj hy => by
          rcases Nat.lt_or_ge j k with h1 | h1
          · exact HNO.out j y h1 hy
          · have : j = k := by omega
            subst this
            rw [HP.out] at hy
            injection hy with hy
            subst hy
            exact fun e => hzx e.symm, HCW.out⟩, by simp [intOf]; omega⟩
    · have hkn : k = n := by omega
      subst hkn
      go_wp2
      go_ret
      have : decide (x ∈ V) = false := decide_eq_false (fun hx => by
        obtain ⟨j, hj⟩ := List.mem_iff_getElem?.1 hx
        have hjl := (List.getElem?_eq_some_iff.1 hj).1
        exact HNO.out j x (by have := HG.out; omega) hj rfl)
      exact ⟨by rw [this]; rfl, ⟨hcw⟩⟩
theorem flatMap_get {α β : Type} {f : α → List β} {c : Nat} : ∀ (l : List α), (∀ a ∈ l, (f a).length = c) → ∀ (i j : Nat) (a : α), l[i]? = some a → j < c → (l.flatMap f)[i * c + j]? = (f a)[j]?
  | [], _, _, _, _, h, _ => by simp at h
  | x :: l, hc, 0, j, a, h, hj => by
    simp at h
    subst h
    rw [List.flatMap_cons, Nat.zero_mul, Nat.zero_add, List.getElem?_append_left (by rw [hc x (by simp)]; exact hj)]
  | x :: l, hc, i + 1, j, a, h, hj => by
    have hx := hc x (by simp)
    have e : (i + 1) * c + j = c + (i * c + j) := by rw [Nat.add_mul, Nat.one_mul]; omega
    rw [List.flatMap_cons, e, List.getElem?_append_right (by omega), hx, Nat.add_sub_cancel_left]
    exact flatMap_get l (fun a h => hc a (List.mem_cons_of_mem _ h)) i j a (by simpa using h) hj
theorem row_rng {α : Type} {f : α → List Value} {c : Nat} {l : List α} {w : World} {base : Nat} {e : TypeId} {g n cap : Nat} (h : w.ownsRow base e c (.slice (some ⟨g, 0, none⟩) n cap) n (l.flatMap f)) (hc : ∀ a ∈ l, (f a).length = c) {i : Nat} {a : α} (hi : l[i]? = some a) : w.rangeAt g (i * c) (f a) := by
  have hcl := h.cells (g := g) rfl
  intro j v hj
  have hl := (List.getElem?_eq_some_iff.1 hj).1
  rw [hc a (List.mem_of_getElem? hi)] at hl
  have z := hcl (i * c + j) v (by rw [flatMap_get l hc i j a hi hl]; exact hj)
  rw [Addr.add_mid, Nat.zero_add] at z
  exact z
def tick44 : List Value := [.int .i64 1, .int .u64 0, .string ⟨#[]⟩, .int .i64 0, .int .u64 0, .int .u64 0, .int .u64 0, .int .u64 0, .int .u64 0, .int .u64 0, .int .u64 0, .int .u64 0, .slice none 0 0, .string ⟨#[]⟩, .int .u64 0, .int .u64 0, .slice none 0 0, .slice none 0 0, .slice none 0 0, .slice none 0 0, .bool false, .bool false, .string ⟨#[]⟩, .slice none 0 0, .int .i64 0, .slice none 0 0, .string ⟨#[]⟩, .bool false]
theorem tick44_build (w : World) : (bld44 #[(0, .int .i64 1)]).run Tryz.prog w = .ok (.agg tick44.toArray) w := by kernel_rfl
theorem tick44_one : ∀ v ∈ tick44, v.oneCell' = true := by
  intro v hv
  simp only [tick44, List.mem_cons, List.not_mem_nil, or_false] at hv
  rcases hv with rfl | rfl | rfl | rfl | rfl | rfl | rfl | rfl | rfl | rfl | rfl | rfl | rfl | rfl | rfl | rfl | rfl | rfl | rfl | rfl | rfl | rfl | rfl | rfl | rfl | rfl | rfl | rfl <;> rfl
theorem info44 : (Tryz.prog.info? 44).map (fun i => (i.zero, i.size, i.bytes)) = some (some (.agg zero44.toArray), 28, 368) := by kernel_rfl
/-- FnTimer's calls. -/
def CLt (i : Nat) : List Value := if i = 0 then ready44 else tick44
theorem CLt_len (i : Nat) : (CLt i).length = 28 := by unfold CLt; split <;> rfl
theorem CLt_one (i : Nat) : ∀ v ∈ CLt i, v.oneCell' = true := by
  unfold CLt
  split
  · exact ready44_one
  · exact tick44_one
def Calls_ (k : Nat) : List Value := (List.range k).flatMap CLt
theorem Calls_one : Calls_ 1 = ready44 := by simp [Calls_, CLt, List.range_succ]
theorem Calls_succ {k : Nat} (h : 0 < k) : Calls_ k ++ tick44 = Calls_ (k + 1) := by
  unfold Calls_
  rw [List.range_succ, List.flatMap_append]
  have : CLt k = tick44 := by unfold CLt; rw [if_neg (by omega)]
  simp [this]
theorem final_of {nb n : Nat} {s : SetS} {V L : List Int} {l : List Ent} {D : List Int} {As : List SaidS} {M O : List Nat} {w : World} (h : TSt nb s V L l D n As M O w) (hl : As.length = n + 1) (hn : 0 < n) : ∀ k A, As[k]? = some A → if s.id ∈ V ∧ k = n then campS s A else plainS s A := by
  obtain ⟨_, _, _, _, _, _, _, _, _, _, _, _, _, _, _, _, _, _, _, _, _, _, _, _, _, _, hst⟩ := h
  intro k A hA
  rcases hst with ⟨e1, _⟩ | ⟨_, e2, e3, _⟩ | ⟨_, e2, Bs, B, rfl, e3, e4⟩
  · omega
  · have hV : ¬ (s.id ∈ V ∧ k = n) := fun hh => by have := e2 hh.1; omega
    rw [if_neg hV]
    exact e3 A (List.mem_of_getElem? hA)
  · have hb : Bs.length = n := by simpa using hl
    by_cases hk : k = n
    · rw [if_pos ⟨e2, hk⟩]
      rw [List.getElem?_append_right (by omega), hb, hk, Nat.sub_self] at hA
      simp at hA
      subst hA
      exact e4
    · rw [if_neg (fun hh => hk hh.2)]
      have hkl := (List.getElem?_eq_some_iff.1 hA).1
      simp at hkl
      rw [List.getElem?_append_left (by omega)] at hA
      exact e3 A (List.mem_of_getElem? hA)
end Go.Proofs.YtalhhplphlobbaaGreat
namespace Go.Proofs.YtalhhplphlobbaaGreat
open Go.RowKit
/-- What a configuration is if members says yes. -/
structure MemOk (V L V2 L2 : List Int) (bal : Bool) : Prop where
  V0 : V ≠ []
  lV : V.length ≤ 9
  lL : L.length ≤ 4
  v2 : V2 = []
  l2 : L2 = []
  al : bal = false
  kn : ∀ k ∈ V ++ L, 0 < k ∧ k < 1099511627776
  nd : (V ++ L).Nodup
structure MemS (w0 : World) (b : Nat) (v1 v2 : Value) (V L : List Int) (X : World) : Prop where
  c0 : X.cell? ⟨b, 0, none⟩ = some v1
  c1 : X.cell? ⟨b, 1, none⟩ = some v2
  s1 : Sl [] X v1 (U64s V)
  s2 : Sl [] X v2 (U64s L)
  ch : Chg [] w0 X
theorem MemS.nxt {w0 X Y : World} {b : Nat} {v1 v2 : Value} {V L : List Int} (h : MemS w0 b v1 v2 V L X) (hc : Chg [] X Y) : MemS w0 b v1 v2 V L Y := ⟨hc.at0 h.c0, hc.at0 h.c1, h.s1.chg0 hc, h.s2.chg0 hc, h.ch.trans hc⟩
theorem u64_one (V : List Int) : ∀ u ∈ U64s V, u.oneCell' = true := by
  intro u hu
  simp only [U64s, List.mem_map] at hu
  obtain ⟨a, _, rfl⟩ := hu
  rfl
set_option maxRecDepth 100000 in
set_option maxHeartbeats 4000000 in
theorem members_any {w : World} {A1 A2 A3 A4 : Option Addr} {m1 k1 m2 k2 m3 k3 m4 k4 : Nat} {bal : Bool} {V L V2 L2 : List Int}
    (h1 : Sl [] w (.slice A1 m1 k1) (U64s V)) (h2 : Sl [] w (.slice A2 m2 k2) (U64s L)) (h3 : Sl [] w (.slice A3 m3 k3) (U64s V2)) (h4 : Sl [] w (.slice A4 m4 k4) (U64s L2)) (b3 : m3 < 2 ^ 61) (b4 : m4 < 2 ^ 61) :
    Calls Tryz.prog 29 #[.agg #[.slice A1 m1 k1, .slice A2 m2 k2, .slice A3 m3 k3, .slice A4 m4 k4, .bool bal]] w (BoolP (fun b => b = true → MemOk V L V2 L2 bal) w) := by
  have H1 := Lib.hid h1
  have H2 := Lib.hid h2
  have HL := Lib.hid (show V.length = m1 ∧ L.length = m2 ∧ V2.length = m3 ∧ L2.length = m4 from ⟨(u64_len h1).1, (u64_len h2).1, (u64_len h3).1, (u64_len h4).1⟩)
  clear h1 h2 h3 h4
  have hb0 := Blk.new w 26 #[.slice A1 m1 k1, .slice A2 m2 k2, .slice A3 m3 k3, .slice A4 m4 k4, .bool bal]
  have hX : Chg [] w (w.alloc (.cells #[.slice A1 m1 k1, .slice A2 m2 k2, .slice A3 m3 k3, .slice A4 m4 k4, .bool bal] 26)) := (Chg.refl _ _).alloc _
  go_enter Tryz.func29, Tryz.ntmps29
  go_upto_region 1 with fail
  generalize w.alloc (.cells #[.slice A1 m1 k1, .slice A2 m2 k2, .slice A3 m3 k3, .slice A4 m4 k4, .bool bal] 26) = X at hb0 hX ⊢
  obtain ⟨b, hb⟩ : ∃ b, b = w.heap.size := ⟨_, rfl⟩
  rw [← hb] at hb0 ⊢
  clear hb
  have c0 : X.cell? ⟨b, 0, none⟩ = some (.slice A1 m1 k1) := hb0.cell 0
  have c1 : X.cell? ⟨b, 1, none⟩ = some (.slice A2 m2 k2) := hb0.cell 1
  have c2 : X.cell? ⟨b, 2, none⟩ = some (.slice A3 m3 k3) := hb0.cell 2
  have c3 : X.cell? ⟨b, 3, none⟩ = some (.slice A4 m4 k4) := hb0.cell 3
  have c4 : X.cell? ⟨b, 4, none⟩ = some (.bool bal) := hb0.cell 4
  have HX := Lib.hid hX
  clear hb0 hX
  go_upto_region 3 with fail
  all_goals (first | (go_ret; exact ⟨false, rfl, by simp, ⟨HX.out⟩⟩) | skip)
  rename_i r4 r3 r2 r1 r0 K0 a0
  have HK := Lib.hid (show m1 ≠ 0 ∧ m1 ≤ 9 ∧ m2 ≤ 4 ∧ m3 = 0 ∧ m4 = 0 ∧ bal = false from ⟨r4, by omega, by omega, by omega, by omega, r0.2⟩)
  clear r4 r3 r2 r1 r0
  have hm : MemS w b (.slice A1 m1 k1) (.slice A2 m2 k2) V L X := ⟨c0, c1, H1.out.chg0 HX.out, H2.out.chg0 HX.out, HX.out⟩
  have hd : MemS w b (.slice A1 m1 k1) (.slice A2 m2 k2) V L X.drew := hm.nxt ((Chg.refl _ _).drew)
  obtain ⟨i0, hi, hz0, hz1, hz2⟩ := info_parts info22
  refine wp_region_held_drew (S := MemS w b (.slice A1 m1 k1) (.slice A2 m2 k2) V L) (by kernel_rfl) hd (fun hHeld => ?_)
  refine wpAnyH_take (i := 1) (v := .pointer (some ⟨b, 0, none⟩)) rfl (by kernel_rfl) (by kernel_rfl) (by kernel_rfl) (fun _ _ _ h => h) (Or.inl ⟨by rfl, fun w hw => by go_simp⟩) hHeld ?_
  simp only [Act.put, List.setIfInBounds_toArray, List.set_cons_zero, List.set_cons_succ]
  refine wpAnyH_take (i := 2) (v := .slice A1 m1 k1) rfl (by kernel_rfl) (by kernel_rfl) (by kernel_rfl) (fun _ _ _ h => h) (Or.inl ⟨by rfl, fun w hw => ?_⟩) hHeld ?_
  · have := hw.c0
    go_simp
  simp only [Act.put, List.setIfInBounds_toArray, List.set_cons_zero, List.set_cons_succ]
  refine wpAnyH_take (i := 4) (v := .pointer (some ⟨b, 1, none⟩)) rfl (by kernel_rfl) (by kernel_rfl) (by kernel_rfl) (fun _ _ _ h => h) (Or.inl ⟨by rfl, fun w hw => by go_simp⟩) hHeld ?_
  simp only [Act.put, List.setIfInBounds_toArray, List.set_cons_zero, List.set_cons_succ]
  refine wpAnyH_take (i := 5) (v := .slice A2 m2 k2) rfl (by kernel_rfl) (by kernel_rfl) (by kernel_rfl) (fun _ _ _ h => h) (Or.inl ⟨by rfl, fun w hw => ?_⟩) hHeld ?_
  · have := hw.c1
    go_simp
  simp only [Act.put, List.setIfInBounds_toArray, List.set_cons_zero, List.set_cons_succ]
  refine wpAnyH_ready (rs := [0]) (by kernel_rfl) (by simp) ?_
  refine AllReadyH.cons rfl (fun K hK => ?_) AllReadyH.nil
  go_simp
  have hd2 := hm.nxt (((Chg.refl _ X).alloc (Obj.cells #[] 22)).drew)
  have ho2 : ((X.alloc (Obj.cells #[] 22)).drew).ownsRow X.heap.size 22 1 (.slice (some ⟨X.heap.size, 0, none⟩) 0 0) 0 [] := own_chg0 (World.ownsRow_lit (e := 22) (size := 1) (base := X.heap.size) X #[] 0 (Nat.le_refl _) (by decide) rfl) ((Chg.refl _ _).drew)
  have hs2 : X.heap.size ≤ ((X.alloc (Obj.cells #[] 22)).drew).heap.size := (((Chg.refl [] X).alloc (Obj.cells #[] 22)).drew).size
  have hXY : Chg [] X ((X.alloc (Obj.cells #[] 22)).drew) := ((Chg.refl [] X).alloc (Obj.cells #[] 22)).drew
  generalize (X.alloc (Obj.cells #[] 22)).drew = Y at hd2 ho2 hs2 hXY ⊢
  refine hK.out _ _ hd2 (fun hHeld => ?_)
  clear hK K
  refine wpAnyH_ready (rs := [3]) (by kernel_rfl) (by simp) ?_
  refine AllReadyH.cons rfl (fun K hK => ?_) AllReadyH.nil
  rw [if_pos (by rfl)]
  refine wp_append_sl Y [] _ _ 24 rfl X.heap.size 22 i0 (.int .u64 0) 8 Tryz.underlying24 hi hz0 hz1 hz2 rfl (.slice (some ⟨X.heap.size, 0, none⟩) 0 0) 0 [] rfl ho2 (.slice A1 m1 k1) (U64s V) rfl hd2.s1 (u64_one V) ?_ ?_ hs2 ?_
  · have := HK.out; have := HL.out; simp only [U64s, List.length_map, maxLen]; omega
  · have := HK.out; have := HL.out; simp only [U64s, List.length_map]; omega
  intro v3 Y3 ho3 hg3 hat3
  have hc3 : Chg [] X Y3 := chg_row0 hXY hg3 (fun g hg => (own_lt ho2 hg).1)
  have hm3 := hm.nxt hc3
  rw [List.nil_append, Nat.zero_add] at ho3
  simp only [Act.put, List.setIfInBounds_toArray, List.set_cons_zero, List.set_cons_succ]
  refine hK.out _ _ hm3 (fun hHeld => ?_)
  clear hK K hat3 hg3
  refine wpAnyH_ready (rs := [6]) (by kernel_rfl) (by simp) ?_
  refine AllReadyH.cons rfl (fun K hK => ?_) AllReadyH.nil
  rw [if_pos (by rfl)]
  refine wp_append_sl Y3 [] _ _ 24 rfl X.heap.size 22 i0 (.int .u64 0) 8 Tryz.underlying24 hi hz0 hz1 hz2 rfl v3 _ (U64s V) rfl ho3 (.slice A2 m2 k2) (U64s L) rfl hm3.s2 (u64_one L) ?_ ?_ hc3.size ?_
  · have := HK.out; have := HL.out; simp only [U64s, List.length_map, maxLen]; omega
  · have := HK.out; have := HL.out; simp only [U64s, List.length_map]; omega
  intro v4 Y4 ho4 hg4 hat4
  have hc4 : Chg [] X Y4 := chg_row0 hc3 hg4 (fun g hg => (own_lt ho3 hg).1)
  have hm4 := hm.nxt hc4
  simp only [Act.put, List.setIfInBounds_toArray, List.set_cons_zero, List.set_cons_succ]
  refine hK.out _ _ hm4 (fun hHeld => ?_)
  clear hK K hat4 hg4
  have hs4 : Sl [] Y4 v4 (U64s (V ++ L)) := by
    have z := Sl.of_own (M := []) ho4 (by simp)
    rw [show U64s (V ++ L) = U64s V ++ U64s L by simp [U64s]]
    exact z
  obtain ⟨A9, n9, k9, rfl⟩ := hs4.form
  have hl9 := (u64_len hs4).1
  refine wpAnyH_ready (rs := [7]) (by kernel_rfl) (by simp) ?_
  refine AllReadyH.cons rfl (fun K hK => ?_) AllReadyH.nil
  go_simp
  refine hK.out _ _ hm4 (fun hHeld => ?_)
  refine wpAnyH_done (by kernel_rfl) ?_ _
  have HS4 := Lib.hid hs4
  have HL9 := Lib.hid hl9
  have HC4 := Lib.hid (HX.out.trans hc4)
  have hn62 : n9 < 2 ^ 62 := by have := HK.out; have := HL.out; rw [List.length_append] at hl9; omega
  clear hK K hs4 hl9 hc4 hm4 ho4 hm3 hc3 ho3 hm hd hHeld hi hz0 hz1 hz2
  go_wp2_with fail
  go_loopw [5, 45] (fun _ i wr => ∃ k : Nat, k ≤ n9 ∧ i = .int .i64 k ∧ (∀ j y, j < k → (V ++ L)[j]? = some y → 0 < y ∧ y < 1099511627776) ∧ Chg [] Y4 wr) (fun _ i _ => n9 - (intOf i).toNat)
  case atStart => exact ⟨0, by omega, rfl, fun j y hj => by omega, Chg.refl _ _⟩
  case round =>
    obtain ⟨k, hk, rfl, hno, hcw⟩ := hrel
    have HNO := Lib.hid hno
    clear hno
    by_cases hlt : k < n9
    · obtain ⟨b', o, z, rfl, hp, hcell, _⟩ := u64_at HS4.out hlt
      have d1 := hcw.at0 hcell
      have HP := Lib.hid hp
      have HCW := Lib.hid hcw
      clear hcell hp hcw
      obtain ⟨bz, hbz⟩ : ∃ bz, bz = decide (0 < z ∧ z < 1099511627776) := ⟨_, rfl⟩
      have HBZ := Lib.hid hbz
      clear hbz
      go_wp2_with (first | (go_at_call 27; (with_reducible refine Calls.mono (known_any _ z) ?_); rintro e w1 ⟨rfl, hn1⟩; rw [← HBZ.out]; rcases bz))
      · go_ret
        exact ⟨false, rfl, by simp, ⟨(HC4.out.trans HCW.out).trans hn1.out⟩⟩
      · exact ⟨⟨k + 1, by omega, by simp, fun j y hj hy => by
          rcases Nat.lt_or_ge j k with h1 | h1
          · exact HNO.out j y h1 hy
          · have : j = k := by omega
            subst this
            rw [HP.out] at hy
            injection hy with hy
            subst hy
            exact of_decide_eq_true HBZ.out.symm, HCW.out.trans hn1.out⟩, by simp [intOf]; omega⟩
    · have hkn : k = n9 := by omega
      subst hkn
      have HCW := Lib.hid hcw
      clear hcw
      have HON := Lib.hid (once_any (HS4.out.chg0 HCW.out) hn62)
      go_wp2_with (first | (go_at_call 69; (with_reducible refine Calls.mono HON.out ?_); rintro e w1 ⟨b1, rfl, hb1, hn1⟩; have HB1 := Lib.hid hb1; clear hb1))
      go_ret
      refine ⟨b1, rfl, fun hb => ?_, ⟨(HC4.out.trans HCW.out).trans hn1.out⟩⟩
      have q := HK.out
      have q2 := HL.out
      exact ⟨by rintro rfl; simp at q2; omega, by omega, by omega, List.eq_nil_of_length_eq_zero (by omega), List.eq_nil_of_length_eq_zero (by omega), q.2.2.2.2.2, fun x hx => by
        obtain ⟨j, hj⟩ := List.mem_iff_getElem?.1 hx
        have hjl := (List.getElem?_eq_some_iff.1 hj).1
        exact HNO.out j x (by have := HL9.out; omega) hj, HB1.out hb⟩
end Go.Proofs.YtalhhplphlobbaaGreat
namespace Go.Proofs.YtalhhplphlobbaaGreat
open Go.RowKit
/-- What a log is if row says yes. -/
structure RowOk (bi hT : Int) (l : List EntK) : Prop where
  ll : l.length ≤ 30
  at_ : ∀ (j : Nat) e, l[j]? = some e → e.i = bi + 1 + j ∧ e.k = 0 ∧ e.d.size ≤ 100 ∧ e.t ≤ hT
set_option maxRecDepth 100000 in
set_option maxHeartbeats 4000000 in
theorem row_any {w : World} {v : Value} {l : List EntK} {bi bt hT : Int} (h : LogK w v l) (hn : l.length < 2 ^ 62) (h0 : 0 ≤ bi) (h1 : bi ≤ 1099511627776) :
    Calls Tryz.prog 60 #[.int .u64 bi, .int .u64 bt, v, .int .u64 hT] w (BoolP (fun b => b = true → RowOk bi hT l ∧ bt ≤ hT) w) := by
  obtain ⟨A, c, rfl⟩ := h.form
  obtain ⟨n, hnn⟩ : ∃ n, n = l.length := ⟨_, rfl⟩
  rw [← hnn] at h hn ⊢
  have HS := Lib.hid h
  have HN := Lib.hid hnn
  clear h hnn
  go_enter Tryz.func60, Tryz.ntmps60
  go_upto_region 3 with fail
  all_goals (first | (go_ret; exact ⟨false, rfl, by simp, ⟨Chg.refl _ _⟩⟩) | skip)
  rename_i r1 r0 K1 a1 K0 a0
  have hn30 : n ≤ 30 := by omega
  have HT := Lib.hid r0.2
  clear r1 r0
  have e1 : IntKind.u64.wrap (bi + 1) = bi + 1 := IntWalk.u64_in _ (by omega)
  go_wp2_with fail
  go_loopw [1, 21] (fun q i wr => ∃ (k : Nat) (T : Int), k ≤ n ∧ i = .int .i64 k ∧ q = .int .u64 T ∧ (∀ (j : Nat) e, j < k → l[j]? = some e → e.i = bi + 1 + j ∧ e.k = 0 ∧ e.d.size ≤ 100 ∧ e.t ≤ hT) ∧ Chg [] w wr) (fun _ i _ => n - (intOf i).toNat)
  case atStart => exact ⟨0, _, by omega, rfl, rfl, fun j e hj => by omega, Chg.refl _ _⟩
  case round =>
    obtain ⟨k, T, hk, rfl, rfl, hno, hcw⟩ := hrel
    have HNO := Lib.hid hno
    clear hno
    by_cases hlt : k < n
    · obtain ⟨b, o, e, rfl, hp, hb, k1, k2, k3, k4⟩ := HS.out.at_ hlt
      have d1 := hcw.at0 k1
      have d2 := hcw.at0 k2
      have d3 := hcw.at0 k3
      have d4 := hcw.at0 k4
      have HP := Lib.hid hp
      have HCW := Lib.hid hcw
      have e2 : IntKind.u64.wrap (bi + 1 + k) = bi + 1 + k := IntWalk.u64_in _ (by omega)
      have e3 : IntKind.u64.wrap (k : Int) = k := IntWalk.u64_in _ (by omega)
      clear k1 k2 k3 k4 hcw hp
      go_upto_region 8 with fail
      all_goals (first | (go_ret; exact ⟨false, rfl, by simp, ⟨HCW.out.alloc _⟩⟩) | skip)
      rename_i r4 r3 r2 r1 r0
      have HE := Lib.hid (show e.i = bi + 1 + k ∧ e.k = 0 ∧ e.d.size ≤ 100 ∧ e.t ≤ hT from ⟨r4, r1, by omega, r2⟩)
      clear r4 r3 r2 r1 r0
      go_wp2
      exact ⟨⟨k + 1, e.t, by omega, by simp, rfl, fun j x hj hx => by
          rcases Nat.lt_or_ge j k with h1 | h1
          · exact HNO.out j x h1 hx
          · have : j = k := by omega
            subst this
            rw [HP.out] at hx
            injection hx with hx
            subst hx
            exact HE.out, HCW.out.alloc _⟩, by simp [intOf]; omega⟩
    · have hkn : k = n := by omega
      subst hkn
      go_wp2
      go_ret
      exact ⟨true, rfl, fun _ => ⟨⟨by have := HN.out; omega, fun j e hj => HNO.out j e (by have := (List.getElem?_eq_some_iff.1 hj).1; have := HN.out; omega) hj⟩, HT.out⟩, ⟨hcw⟩⟩
end Go.Proofs.YtalhhplphlobbaaGreat
