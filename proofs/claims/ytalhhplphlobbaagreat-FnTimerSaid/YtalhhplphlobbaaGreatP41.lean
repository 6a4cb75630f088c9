/- Node over a script: the walk. Conditions: what a setup must be; what is asked of the script. -/
import Derived.Test.YtalhhplphlobbaaGreatP33
import Derived.Test.YtalhhplphlobbaaGreatP34
import Derived.Test.YtalhhplphlobbaaGreatP40
set_option linter.unusedVariables false
set_option linter.unusedSimpArgs false
namespace Go.Proofs.YtalhhplphlobbaaGreat
open Go.RowKit
attribute [local go_sem ↓] bld140_eq bld48_eq
/-- What Node leaves: one answer more than calls. -/
def ScriptPost (W : World) (n : Nat) (St : List SaidS → List Nat → List Nat → World → Prop) (y : Ending) (w' : World) : Prop :=
  ∃ v As M O, y = .returned v ∧ As.length = n + 1 ∧ St As M O w' ∧ w'.ownsRow W.heap.size 48 33 v (n + 1) (As.flatMap SaidS.list) ∧ Chg [] W w'
theorem own_neS {size : Nat} {w : World} {base : Nat} {e : TypeId} {v : Value} {n : Nat} {xs : List Value} (h : w.ownsRow base e size v n xs) {b t : Nat} {cs : Array Value} (hb : Blk w b t cs) (ht : t ≠ e) : b ∉ rowL v := by
  intro hm
  rw [mem_rowL] at hm
  rcases h.2 with ⟨rfl, _⟩ | ⟨g, cap, cur, rfl, _, hh, _⟩
  · simp [Value.ownBlock] at hm
  · have : g = b := by simpa [Value.ownBlock] using hm
    subst this
    unfold Blk at hb
    rw [hh] at hb
    cases hb
    exact ht rfl
theorem own_blk {w : World} {base size : Nat} {e : TypeId} {v : Value} {n : Nat} {xs : List Value} (h : w.ownsRow base e size v n xs) {x : Nat} (hx : x ∈ rowL v) : ∃ cs, Blk w x e cs := by
  rw [mem_rowL] at hx
  rcases h.2 with ⟨rfl, _⟩ | ⟨g, cap, cur, rfl, _, hh, _⟩
  · simp [Value.ownBlock] at hx
  · have : g = x := by simpa [Value.ownBlock] using hx
    subst this
    exact ⟨cur, hh⟩
/-- At the head of Node's loop. -/
def NodeI (W X1 : World) (nb t6 n : Nat) (St : List SaidS → List Nat → List Nat → World → Prop) (k : Nat) (ov : Value) (w : World) : Prop :=
  ∃ As M O, As.length = k + 1 ∧ St As M O w ∧ w.ownsRow W.heap.size 48 33 ov (k + 1) (As.flatMap SaidS.list) ∧ (∀ x ∈ rowL ov, x ∈ M ∧ x ∉ O) ∧ (∀ x ∈ O, x = nb ∨ X1.heap.size ≤ x) ∧ Blk w t6 135 #[.pointer (some ⟨nb, 0, none⟩)] ∧ Chg [] W w
set_option maxRecDepth 100000 in
set_option maxHeartbeats 8000000 in
theorem node_script {W : World} {s : SetS} {V L : List Int} {l : List Ent} {D : List Int} {lb n c : Nat} {CL : Nat → List Value} {St : List SaidS → List Nat → List Nat → World → Prop} (hi : Inp W s V L l D) (hbld : ∀ w, (bld140 #[(0, .agg s.list.toArray)]).run Tryz.prog w = .ok (.agg (single0 s).cells) w) (hone : ∀ v ∈ s.list, v.oneCell' = true)
    (hcl : ∀ i, i < n → W.rangeAt lb (i * 28) (CL i)) (hll : ∀ i, i < n → (CL i).length = 28) (hco : ∀ i, i < n → ∀ v ∈ CL i, v.oneCell' = true) (hn : n < 1000000) (hlb : lb < W.heap.size)
    (hS : Script n (W.heap.size + 1) CL St)
    (h0 : ∀ X1 w1, Nxt W X1 → X1.heap.size = W.heap.size + 3 → Begun X1 (W.heap.size + 1) s V L l D w1 → Calls Tryz.prog 64 #[.pointer (some ⟨W.heap.size + 1, 0, none⟩), .agg said0.list.toArray] w1 fun y w' => ∃ A : SaidS, A.ok ∧ y = .returned (.agg A.list.toArray) ∧ Nxt w1 w' ∧ ∃ M O, St [A] M O w' ∧ ∀ x ∈ O, x = W.heap.size + 1 ∨ X1.heap.size ≤ x) :
    Calls Tryz.prog 17 #[.agg s.list.toArray, .slice (some ⟨lb, 0, none⟩) n c] W (ScriptPost W n St) := by
  obtain ⟨SL, hSL⟩ : ∃ SL, SL = s.list := ⟨_, rfl⟩
  obtain ⟨NB, hNB⟩ : ∃ NB, NB = (single0 s).cells := ⟨_, rfl⟩
  obtain ⟨ZL, hZL⟩ : ∃ ZL, ZL = said0.list := ⟨_, rfl⟩
  rw [← hSL] at hbld hone ⊢
  rw [← hNB] at hbld
  rw [← hZL] at h0
  have hb48 : ∀ w, (bld48 #[]).run Tryz.prog w = .ok (.agg ZL.toArray) w := fun w => by rw [hZL]; exact saidBuild w
  have hSLl : SL.length = 26 := by rw [hSL]; rfl
  have HI := Lib.hid hi
  have HZ33 := Lib.hid (show (Tryz.prog.info? 33).map (·.size) = some SL.length by rw [hSLl]; exact size33)
  have HCL := Lib.hid hcl
  have HLL := Lib.hid hll
  have HCO := Lib.hid hco
  have HS := Lib.hid hS
  have H0 := Lib.hid h0
  have HSL := Lib.hid hSL
  have HNB := Lib.hid hNB
  have HZL := Lib.hid hZL
  clear hi hcl hll hco hS h0 hSL hNB hSLl
  have hb0 := Blk.new W 33 SL.toArray
  go_enter Tryz.func17, Tryz.ntmps17
  go_upto_region 3 with (first | (refine wpList_load_mid rfl 33 _ rfl W.heap.size 0 rfl SL _ (ld48 hb0) Tryz.underlying33 rfl HZ33.out ?_))
  have hX1 : Nxt W (((W.alloc (.cells SL.toArray 33)).alloc (.cells NB 140)).alloc (.cells #[.pointer (some ⟨W.heap.size + 1, 0, none⟩)] 135)) := ⟨(((Chg.refl _ _).alloc _).alloc _).alloc _⟩
  have hs1 : SinAt (((W.alloc (.cells SL.toArray 33)).alloc (.cells NB 140)).alloc (.cells #[.pointer (some ⟨W.heap.size + 1, 0, none⟩)] 135)) (W.heap.size + 1) (single0 s) := by
    have z : Blk ((W.alloc (.cells SL.toArray 33)).alloc (.cells NB 140)) (W.heap.size + 1) 140 NB := Blk.newAt (by simp)
    rw [HNB.out] at z
    have z2 := z.alloc (.cells #[.pointer (some ⟨W.heap.size + 1, 0, none⟩)] 135)
    rw [HNB.out]
    exact z2
  have h6 : (((W.alloc (.cells SL.toArray 33)).alloc (.cells NB 140)).alloc (.cells #[.pointer (some ⟨W.heap.size + 1, 0, none⟩)] 135)).cell? ⟨W.heap.size + 2, 0, none⟩ = some (.pointer (some ⟨W.heap.size + 1, 0, none⟩)) := by
    have z : Blk (((W.alloc (.cells SL.toArray 33)).alloc (.cells NB 140)).alloc (.cells #[.pointer (some ⟨W.heap.size + 1, 0, none⟩)] 135)) (W.heap.size + 2) 135 #[.pointer (some ⟨W.heap.size + 1, 0, none⟩)] := Blk.newAt (by simp)
    exact z.cell 0
  have b6 : Blk (((W.alloc (.cells SL.toArray 33)).alloc (.cells NB 140)).alloc (.cells #[.pointer (some ⟨W.heap.size + 1, 0, none⟩)] 135)) (W.heap.size + 2) 135 #[.pointer (some ⟨W.heap.size + 1, 0, none⟩)] := Blk.newAt (by simp)
  have hz1 : (((W.alloc (.cells SL.toArray 33)).alloc (.cells NB 140)).alloc (.cells #[.pointer (some ⟨W.heap.size + 1, 0, none⟩)] 135)).heap.size = W.heap.size + 3 := by simp
  obtain ⟨nb, hnb⟩ : ∃ nb, nb = W.heap.size + 1 := ⟨_, rfl⟩
  obtain ⟨t6, ht6⟩ : ∃ t6, t6 = W.heap.size + 1 + 1 := ⟨_, rfl⟩
  have h26 : W.heap.size + 2 = W.heap.size + 1 + 1 := rfl
  rw [h26] at h6 b6
  rw [← hnb] at HS H0
  rw [← ht6] at h6 b6 ⊢
  rw [← hnb] at hX1 hs1 h6 b6 hz1 ⊢
  generalize hXe : (((W.alloc (.cells SL.toArray 33)).alloc (.cells NB 140)).alloc (.cells #[.pointer (some ⟨nb, 0, none⟩)] 135)) = X1 at hX1 hs1 h6 b6 hz1 ⊢
  clear hXe h26 hb0 hbld
  have HT := Lib.hid (show nb = W.heap.size + 1 ∧ t6 = W.heap.size + 2 ∧ X1.heap.size = W.heap.size + 3 by omega)
  have HGB := Lib.hid (guardBegin HI.out hX1 (by omega) hs1 h6 (by omega))
  have HX1 := Lib.hid hX1
  have l6 := World.block_lt_of_cell? X1 _ h6
  have hmf : ∀ (fn : Fn) (first cap : Array Value) (w : World), (Instr.makeFunc fn first cap).run Tryz.prog w = .ok (.func fn first cap) w := fun _ _ _ _ => rfl
  have B6 := Lib.hid b6
  clear hX1 hs1 hz1 hnb ht6 b6
  go_upto_region 5 with (first | (go_at_call 61; (with_reducible refine Calls.mono HGB.out ?_); rintro y1 w1 ⟨rfl, hbg⟩; have hc1 := hbg.1; have k6 := hc1.at_ h6 (by have := HT.out; simp; omega); have k26 : w1.cell? ⟨nb, 26, none⟩ = some (.bool false) := (by obtain ⟨_, X, ms, cfp, cb, rn, ss, hs, rb, rl, bt, x0, x2, bv, ro, mo, bi, f, p, hv, sv, ev, _, hB⟩ := hbg; exact SinAt.cell hB.sn 26 _ rfl); have HBG := Lib.hid hbg; have HC1 := Lib.hid hc1; clear hbg hc1))
  have HSA := Lib.hid (H0.out X1 w1 HX1.out HT.out.2.2 HBG.out)
  obtain ⟨i0, hi0, hz0, hz1, hz2⟩ := info_parts info48
  have hzc : (Value.agg said0.list.toArray).cells.size = 33 := rfl
  obtain ⟨zv, hzv⟩ : ∃ zv, zv = Value.agg said0.list.toArray := ⟨_, rfl⟩
  rw [← hzv] at hz0 hzc
  have HZV := Lib.hid hzv
  have HINF := Lib.hid (show Tryz.prog.info? 48 = some i0 ∧ i0.zero = some zv ∧ i0.size = 33 ∧ i0.bytes = 472 ∧ zv.cells.size = 33 from ⟨hi0, hz0, hz1, hz2, hzc⟩)
  clear hzv hZL
  go_upto_region 6 with (first | (go_at_call 64; (with_reducible refine Calls.mono HSA.out ?_); rintro y2 w2 ⟨A0, hok, rfl, hn2, M0, O0, hst0, ho0⟩; obtain ⟨FY, hFY⟩ : ∃ FY, FY = A0.list := ⟨_, rfl⟩; rw [← hFY]; have HOK := Lib.hid (show ∀ v ∈ FY, v.oneCell' = true by rw [hFY]; exact hok); have hFl : FY.length = 33 := (by rw [hFY]; rfl); have hfold := fold48 FY hFl; have HFY := Lib.hid hFY; have HN2 := Lib.hid hn2; have HST0 := Lib.hid hst0; have HO0 := Lib.hid ho0; clear hFY hok hn2 hst0 ho0) | (at_builtin; refine wpList_append_own_at _ rfl _ _ 35 rfl w1.heap.size 48 i0 zv 33 472 Tryz.underlying35 hi0 hz0 hz1 hz2 hzc (by decide) _ 0 [] rfl (own_nil _ _ _ _) ⟨w2.heap.size, 0, none⟩ 1 1 FY rfl (by rw [hFl]) ?c1 HOK.out ?c3 ?c4 ?c5 ?_))
  case c1 =>
    intro j u hu
    have z := (Blk.new w2 48 FY.toArray).cell j
    rw [Addr.add_mid, Nat.zero_add]
    exact z.trans (by simpa using hu)
  case c3 => simp only [maxLen]; omega
  case c4 => omega
  case c5 => have := HN2.out.out.size; simp; omega
  intro v' w3 hown3 hg3 hnl3 hat3
  have hc23 : Chg [] w2 w3 := ((Chg.refl _ _).alloc _).trans (Chg.of_grown hg3 (by intro k hk; cases hk))
  have hI3 : NodeI W X1 nb t6 n St 0 v' w3 := by
    have hrow : ∀ x ∈ rowL v', w2.heap.size + 1 ≤ x := fun x hx => by
      rcases rowL_after hat3 hx with h | h
      · simp [rowL, Value.ownBlock] at h
      · exact h
    have hlt3 := fun x hx => own_lt (g := x) hown3 hx
    have h12 := HN2.out.out.size
    have hOlt : ∀ x ∈ O0, x < w2.heap.size := fun x hx => HS.out.lt HST0.out x (HS.out.osub HST0.out x hx)
    refine ⟨[A0], rowL v' ++ M0, O0, rfl, HS.out.mono HST0.out hc23 (by simp) (by simp) (fun x hx => List.mem_append_right _ hx) (fun x hx => ?_), by simpa [← HFY.out] using own_base hown3 (Nat.le_trans HX1.out.out.size HC1.out.size), fun x hx => ⟨List.mem_append_left _ hx, fun ho => ?_⟩, HO0.out, ((B6.out.chg HC1.out (by have := HT.out; simp; omega)).chg HN2.out.out (by simp)).chg hc23 (by simp), ?_⟩
    · rcases List.mem_append.1 hx with h | h
      · exact .inr ⟨by have := hrow x h; omega, (hlt3 x h).2⟩
      · exact .inl h
    · have := hOlt x ho
      have := hrow x hx
      omega
    · exact ((HX1.out.out.then HC1.out (fun x hx hl => by simp at hx; have := HT.out; omega)).trans HN2.out.out).trans hc23
  have HI3 := Lib.hid hI3
  have hfoldx := hfold
  clear hown3 hg3 hnl3 hat3 hc23 hI3 hfold hfoldx hzc hz0 hz1 hz2 hi0 HSA hb48 HST0 HO0 HOK HFY hFl
  go_wp2_with fail
  go_loopw [5, 29] (fun ov idx wi => ∃ k : Nat, k ≤ n ∧ idx = .int .i64 k ∧ NodeI W X1 nb t6 n St k ov wi) (fun _ idx _ => n - (intOf idx).toNat)
  case atStart => exact ⟨0, by omega, rfl, HI3.out⟩
  case round =>
    obtain ⟨k, hk, rfl, As, M, O, hAl, hst, hown, hrow, hO, hb6, hW⟩ := hrel
    have p6 : wr.cell? ⟨t6, 0, none⟩ = some (.pointer (some ⟨nb, 0, none⟩)) := hb6.cell 0
    have HB6 := Lib.hid hb6
    clear hb6
    have HST := Lib.hid hst
    have HOWN := Lib.hid hown
    have HROW := Lib.hid hrow
    have HO := Lib.hid hO
    have HW := Lib.hid hW
    have HAL := Lib.hid hAl
    clear HI3 hst hown hrow hO hW hAl
    by_cases hlt : k < n
    · have hClen := HLL.out k hlt
      have hclk : wr.rangeAt lb (k * 28) (CL k) := fun j v hj => HW.out.at_ (HCL.out k hlt j v hj) (by simp)
      obtain ⟨CK, hCK⟩ : ∃ CK, CK = CL k := ⟨_, rfl⟩
      rw [← hCK] at hClen hclk
      have HCLK := Lib.hid hclk
      have HI44 := Lib.hid (show (Tryz.prog.info? 44).map (·.size) = some CK.length by rw [hClen]; exact size44)
      have HI44A := Lib.hid (show (Tryz.prog.info? 44).map (·.size) = some CK.toArray.size by rw [List.size_toArray, hClen]; exact size44)
      have hcok : ∀ v ∈ CK, v.oneCell' = true := by rw [hCK]; exact HCO.out k hlt
      have HCOK := Lib.hid (all_oneCell_toArray hcok)
      clear hcok
      have HCK := Lib.hid hCK
      have HCN := Lib.hid hClen
      clear hclk hCK hClen
      go_upto_region 9 with (first | (refine wpList_load_mid rfl 44 _ rfl lb (k * 28) rfl CK _ HCLK.out Tryz.underlying44 rfl HI44.out ?_) | (refine wpList_store_mid rfl 44 _ _ rfl wr.heap.size 0 CK.toArray rfl rfl ?st HI44A.out HCOK.out ?_))
      case st =>
        have z := st48 (FX := CK) (FY := #[Value.int .i64 0, .int .u64 0, .string ⟨#[]⟩, .int .i64 0, .int .u64 0, .int .u64 0, .int .u64 0, .int .u64 0, .int .u64 0, .int .u64 0, .int .u64 0, .int .u64 0, .slice none 0 0, .string ⟨#[]⟩, .int .u64 0, .int .u64 0, .slice none 0 0, .slice none 0 0, .slice none 0 0, .slice none 0 0, .bool false, .bool false, .string ⟨#[]⟩, .slice none 0 0, .int .i64 0, .slice none 0 0, .string ⟨#[]⟩, .bool false].toList) (ty := 44) (Blk.new wr 44 #[Value.int .i64 0, .int .u64 0, .string ⟨#[]⟩, .int .i64 0, .int .u64 0, .int .u64 0, .int .u64 0, .int .u64 0, .int .u64 0, .int .u64 0, .int .u64 0, .int .u64 0, .slice none 0 0, .string ⟨#[]⟩, .int .u64 0, .int .u64 0, .slice none 0 0, .slice none 0 0, .slice none 0 0, .slice none 0 0, .bool false, .bool false, .string ⟨#[]⟩, .slice none 0 0, .int .i64 0, .slice none 0 0, .string ⟨#[]⟩, .bool false]) (by rw [HCN.out]; rfl)
        exact z
      have hb8 := bs48 (FX := CK) (FY := #[Value.int .i64 0, .int .u64 0, .string ⟨#[]⟩, .int .i64 0, .int .u64 0, .int .u64 0, .int .u64 0, .int .u64 0, .int .u64 0, .int .u64 0, .int .u64 0, .int .u64 0, .slice none 0 0, .string ⟨#[]⟩, .int .u64 0, .int .u64 0, .slice none 0 0, .slice none 0 0, .slice none 0 0, .slice none 0 0, .bool false, .bool false, .string ⟨#[]⟩, .slice none 0 0, .int .i64 0, .slice none 0 0, .string ⟨#[]⟩, .bool false].toList) (ty := 44) (Blk.new wr 44 #[Value.int .i64 0, .int .u64 0, .string ⟨#[]⟩, .int .i64 0, .int .u64 0, .int .u64 0, .int .u64 0, .int .u64 0, .int .u64 0, .int .u64 0, .int .u64 0, .int .u64 0, .slice none 0 0, .string ⟨#[]⟩, .int .u64 0, .int .u64 0, .slice none 0 0, .slice none 0 0, .slice none 0 0, .slice none 0 0, .bool false, .bool false, .string ⟨#[]⟩, .slice none 0 0, .int .i64 0, .slice none 0 0, .string ⟨#[]⟩, .bool false]) (by rw [HCN.out]; rfl)
      have hc34 : Chg [] wr ((wr.alloc (.cells #[Value.int .i64 0, .int .u64 0, .string ⟨#[]⟩, .int .i64 0, .int .u64 0, .int .u64 0, .int .u64 0, .int .u64 0, .int .u64 0, .int .u64 0, .int .u64 0, .int .u64 0, .slice none 0 0, .string ⟨#[]⟩, .int .u64 0, .int .u64 0, .slice none 0 0, .slice none 0 0, .slice none 0 0, .slice none 0 0, .bool false, .bool false, .string ⟨#[]⟩, .slice none 0 0, .int .i64 0, .slice none 0 0, .string ⟨#[]⟩, .bool false] 44)).setCells wr.heap.size 0 CK) := ((Chg.refl _ _).alloc _).then (chg_setCells _ _ _ _) (by simp)
      obtain ⟨c8, hc8⟩ : ∃ c8, c8 = wr.heap.size := ⟨_, rfl⟩
      rw [← hc8] at hb8 hc34 ⊢
      generalize hYe : (wr.alloc (.cells #[Value.int .i64 0, .int .u64 0, .string ⟨#[]⟩, .int .i64 0, .int .u64 0, .int .u64 0, .int .u64 0, .int .u64 0, .int .u64 0, .int .u64 0, .int .u64 0, .int .u64 0, .slice none 0 0, .string ⟨#[]⟩, .int .u64 0, .int .u64 0, .slice none 0 0, .slice none 0 0, .slice none 0 0, .slice none 0 0, .bool false, .bool false, .string ⟨#[]⟩, .slice none 0 0, .int .i64 0, .slice none 0 0, .string ⟨#[]⟩, .bool false] 44)).setCells c8 0 CK = Y1 at hb8 hc34 ⊢
      clear hYe
      have HC8 := Lib.hid hc8
      have HB8 := Lib.hid hb8
      have HC34 := Lib.hid hc34
      clear hc8 hb8 hc34
      simp only [Act.put]
      go_upto_region 10 with fail
      have hb9 := Blk.new Y1 48 #[Value.int .i64 0, .bool false, .int .i64 0, .int .u64 0, .int .u64 0, .int .u64 0, .int .u64 0, .int .u64 0, .int .u64 0, .slice none 0 0, .slice none 0 0, .slice none 0 0, .slice none 0 0, .bool false, .bool false, .bool false, .int .u64 0, .int .u64 0, .int .u64 0, .slice none 0 0, .string ⟨#[]⟩, .int .u64 0, .int .u64 0, .slice none 0 0, .slice none 0 0, .slice none 0 0, .slice none 0 0, .bool false, .slice none 0 0, .slice none 0 0, .slice none 0 0, .bool false, .slice none 0 0]
      have hYn : Chg [] wr (Y1.alloc (.cells #[Value.int .i64 0, .bool false, .int .i64 0, .int .u64 0, .int .u64 0, .int .u64 0, .int .u64 0, .int .u64 0, .int .u64 0, .slice none 0 0, .slice none 0 0, .slice none 0 0, .slice none 0 0, .bool false, .bool false, .bool false, .int .u64 0, .int .u64 0, .int .u64 0, .slice none 0 0, .string ⟨#[]⟩, .int .u64 0, .int .u64 0, .slice none 0 0, .slice none 0 0, .slice none 0 0, .slice none 0 0, .bool false, .slice none 0 0, .slice none 0 0, .slice none 0 0, .bool false, .slice none 0 0] 48)) := HC34.out.alloc _
      have h9 : (Y1.alloc (.cells #[Value.int .i64 0, .bool false, .int .i64 0, .int .u64 0, .int .u64 0, .int .u64 0, .int .u64 0, .int .u64 0, .int .u64 0, .slice none 0 0, .slice none 0 0, .slice none 0 0, .slice none 0 0, .bool false, .bool false, .bool false, .int .u64 0, .int .u64 0, .int .u64 0, .slice none 0 0, .string ⟨#[]⟩, .int .u64 0, .int .u64 0, .slice none 0 0, .slice none 0 0, .slice none 0 0, .slice none 0 0, .bool false, .slice none 0 0, .slice none 0 0, .slice none 0 0, .bool false, .slice none 0 0] 48)).there Y1.heap.size 0 33 := there_blk (CL := #[Value.int .i64 0, .bool false, .int .i64 0, .int .u64 0, .int .u64 0, .int .u64 0, .int .u64 0, .int .u64 0, .int .u64 0, .slice none 0 0, .slice none 0 0, .slice none 0 0, .slice none 0 0, .bool false, .bool false, .bool false, .int .u64 0, .int .u64 0, .int .u64 0, .slice none 0 0, .string ⟨#[]⟩, .int .u64 0, .int .u64 0, .slice none 0 0, .slice none 0 0, .slice none 0 0, .slice none 0 0, .bool false, .slice none 0 0, .slice none 0 0, .slice none 0 0, .bool false, .slice none 0 0].toList) hb9
      have hb8' := HB8.out.alloc (.cells #[Value.int .i64 0, .bool false, .int .i64 0, .int .u64 0, .int .u64 0, .int .u64 0, .int .u64 0, .int .u64 0, .int .u64 0, .slice none 0 0, .slice none 0 0, .slice none 0 0, .slice none 0 0, .bool false, .bool false, .bool false, .int .u64 0, .int .u64 0, .int .u64 0, .slice none 0 0, .string ⟨#[]⟩, .int .u64 0, .int .u64 0, .slice none 0 0, .slice none 0 0, .slice none 0 0, .slice none 0 0, .bool false, .slice none 0 0, .slice none 0 0, .slice none 0 0, .bool false, .slice none 0 0] 48)
      have hz9 : (Y1.alloc (.cells #[Value.int .i64 0, .bool false, .int .i64 0, .int .u64 0, .int .u64 0, .int .u64 0, .int .u64 0, .int .u64 0, .int .u64 0, .slice none 0 0, .slice none 0 0, .slice none 0 0, .slice none 0 0, .bool false, .bool false, .bool false, .int .u64 0, .int .u64 0, .int .u64 0, .slice none 0 0, .string ⟨#[]⟩, .int .u64 0, .int .u64 0, .slice none 0 0, .slice none 0 0, .slice none 0 0, .slice none 0 0, .bool false, .slice none 0 0, .slice none 0 0, .slice none 0 0, .bool false, .slice none 0 0] 48)).heap.size = Y1.heap.size + 1 := by simp
      obtain ⟨c9, hc9⟩ : ∃ c9, c9 = Y1.heap.size := ⟨_, rfl⟩
      rw [← hc9] at h9 hb9 ⊢
      generalize hYe : Y1.alloc (.cells #[Value.int .i64 0, .bool false, .int .i64 0, .int .u64 0, .int .u64 0, .int .u64 0, .int .u64 0, .int .u64 0, .int .u64 0, .slice none 0 0, .slice none 0 0, .slice none 0 0, .slice none 0 0, .bool false, .bool false, .bool false, .int .u64 0, .int .u64 0, .int .u64 0, .slice none 0 0, .string ⟨#[]⟩, .int .u64 0, .int .u64 0, .slice none 0 0, .slice none 0 0, .slice none 0 0, .slice none 0 0, .bool false, .slice none 0 0, .slice none 0 0, .slice none 0 0, .bool false, .slice none 0 0] 48) = Y2 at hYn h9 hb8' hz9 hb9 ⊢
      clear hYe
      have HB9 := Lib.hid hb9
      clear hb9
      have HC9 := Lib.hid hc9
      have HZ9 := Lib.hid hz9
      have HYN := Lib.hid hYn
      have h6Y := hYn.at0 p6
      have s34 := HC34.out.size
      have hlt : ∀ x ∈ M, x < wr.heap.size := HS.out.lt HST.out
      have hOl : ∀ x ∈ O, x < wr.heap.size := fun x hx => hlt x (HS.out.osub HST.out x hx)
      have hstY : St As (c9 :: M) O Y2 := HS.out.mono HST.out hYn (by simp) (by simp) (fun x hx => List.mem_cons_of_mem _ hx) (fun x hx => by
        rcases List.mem_cons.1 hx with h | h
        · exact .inr ⟨by omega, by omega⟩
        · exact .inl h)
      have m6 : t6 ∉ O := fun hx => by have := HO.out t6 hx; have := HT.out; omega
      have l6 : t6 < wr.heap.size := World.block_lt_of_cell? wr _ p6
      have HGR := Lib.hid (guardStep HS.out hstY HAL.out (by omega) h6Y (by rw [← HCK.out]; exact rng_blk hb8') h9 (by rw [← HCK.out]; exact HCN.out) m6 (fun hx => by have := hOl _ hx; have := HC8.out; omega) (fun hx => by have := hOl _ hx; omega) (by omega) (by have := HB8.out.lt; omega) (by omega))
      have HOL := Lib.hid hOl
      have HLT := Lib.hid hlt
      have H9 := Lib.hid h9
      clear hc9 hz9 hYn h9 hb8' hstY hOl hlt
      go_upto_region 12 with (first | (go_at_call 61; (with_reducible refine Calls.mono HGR.out ?_); rintro y4 w5 ⟨rfl, A, w4, hokA, hd, hc4, rfl⟩; have HD := Lib.hid hd; have HC4 := Lib.hid hc4; have HOKA := Lib.hid hokA; clear hd hc4 hokA))
      have hs9 : wr.heap.size ≤ c9 := by rw [HC9.out]; exact s34
      have h94 : w4.there c9 0 33 := there_chg H9.out HC4.out (fun hx => by have := HOL.out _ hx; omega)
      obtain ⟨AL, hAL⟩ : ∃ AL, AL = A.list := ⟨_, rfl⟩
      have hAl : AL.length = 33 := (by rw [hAL]; rfl)
      have hokA : ∀ v ∈ AL, v.oneCell' = true := (by rw [hAL]; exact HOKA.out)
      rw [← hAL]
      have hr5 : (w4.setCells c9 0 AL).rangeAt c9 0 AL := World.rangeAt_setCells_same _ c9 0 AL (by rw [hAl]; exact h94)
      have hc45 : Chg [c9] w4 (w4.setCells c9 0 AL) := chg_setCells c9 AL 0 w4
      obtain ⟨M1, O1, hst4, hm1, ho1⟩ := HD.out
      have hc9m : c9 ∈ M1 ∧ c9 ∉ O1 := ⟨hm1 _ (by simp), fun hx => by rcases ho1 _ hx with h | h; have := HOL.out _ h; omega; have := HZ9.out; have := HC9.out; omega⟩
      have hst5 : St (As ++ [A]) M1 O1 (w4.setCells c9 0 AL) := HS.out.mono hst4 hc45 (fun x hx => by simp at hx; subst hx; exact hc9m) (fun x hx => by simp at hx; subst hx; exact ⟨_, HB9.out.chg HC4.out (fun hx => by have := HOL.out _ hx; omega)⟩) (fun _ h => h) (fun _ h => .inl h)
      generalize hY5 : w4.setCells c9 0 AL = w5 at hr5 hc45 hst5 ⊢
      clear hY5
      have hw35 : Chg O wr w5 := ((HYN.out.mono (by simp)).trans HC4.out : Chg O wr w4).then hc45 (fun x hx hl => by simp at hx; omega)
      have ho5 := own_keep HOWN.out hw35 (fun x hx => (HROW.out x hx).2)
      have HB6' := Lib.hid (HB6.out.chg hw35 m6)
      have HR5 := Lib.hid hr5
      have HC5' := Lib.hid hw35
      have HO5 := Lib.hid ho5
      have HST5 := Lib.hid hst5
      have HM1 := Lib.hid hm1
      have HO1 := Lib.hid ho1
      have HAL' := Lib.hid hAL
      have HOKL := Lib.hid hokA
      have HI48 := Lib.hid (show (Tryz.prog.info? 48).map (·.size) = some AL.length by rw [hAl]; rw [HINF.out.1]; exact congrArg some HINF.out.2.2.1)
      have hfold2 := fold48 AL hAl
      clear hr5 hc45 ho5 hAL hokA h94 hw35 hst5 hst4 hm1 ho1 hc9m
      go_upto_region 13 with (first | (refine wpList_load_mid rfl 48 _ rfl c9 0 rfl AL _ HR5.out Tryz.underlying48 rfl HI48.out ?_) | (at_builtin; refine wpList_append_own_at _ rfl _ _ 35 rfl W.heap.size 48 i0 zv 33 472 Tryz.underlying35 HINF.out.1 HINF.out.2.1 HINF.out.2.2.1 HINF.out.2.2.2.1 HINF.out.2.2.2.2 (by decide) _ (k + 1) (As.flatMap SaidS.list) rfl (own_chg0 HO5.out ((Chg.refl _ _).alloc _)) ⟨w5.heap.size, 0, none⟩ 1 1 AL rfl (by rw [hAl]) ?c1 HOKL.out ?c3 ?c4 ?c5 ?_))
      case c3 => simp only [maxLen]; omega
      case c4 => omega
      case c5 => have := HC5'.out.size; have := HW.out.size; omega
      intro v6 w6 hown6 hg6 hnl6 hat6
      have hc56 : Chg (rowL u5) w5 w6 := ((Chg.refl (rowL u5) w5).alloc _).trans (chg_row hg6)
      have hz56 := hc56.size
      have hlt6 := fun x hx => own_lt (g := x) hown6 hx
      have hrl : ∀ x ∈ rowL u5, x < wr.heap.size := fun x hx => HLT.out x (HROW.out x hx).1
      have hOl1 : ∀ x ∈ O1, x < w5.heap.size := fun x hx => HS.out.lt HST5.out x (HS.out.osub HST5.out x hx)
      have hYs : wr.heap.size ≤ Y2.heap.size := HYN.out.size
      have hrow1 : ∀ x ∈ rowL u5, x ∈ M1 ∧ x ∉ O1 := fun x hx => ⟨HM1.out x (List.mem_cons_of_mem _ (HROW.out x hx).1), fun ho => by
        rcases HO1.out x ho with h | h
        · exact (HROW.out x hx).2 h
        · have := hrl x hx
          omega⟩
      have hI6 : NodeI W X1 nb t6 n St (k + 1) v6 w6 := by
        refine ⟨As ++ [A], rowL v6 ++ M1, O1, by simp [HAL.out], HS.out.mono HST5.out hc56 hrow1 (fun x hx => own_blk HO5.out hx) (fun x hx => List.mem_append_right _ hx) (fun x hx => ?_), by rw [List.flatMap_append]; simpa [← HAL'.out] using hown6, fun x hx => ⟨List.mem_append_left _ hx, fun ho => ?_⟩, fun x hx => ?_, HB6'.out.chg hc56 (own_neS HO5.out HB6'.out (by decide)), ?_⟩
        · rcases List.mem_append.1 hx with h | h
          · rcases rowL_after hat6 h with h2 | h2
            · exact .inl (hrow1 x h2).1
            · exact .inr ⟨by omega, (hlt6 x h).2⟩
          · exact .inl h
        · rcases rowL_after hat6 hx with h2 | h2
          · exact (hrow1 x h2).2 ho
          · have := hOl1 x ho
            omega
        · rcases HO1.out x hx with h | h
          · exact HO.out x h
          · have := HT.out
            have := l6
            omega
        · exact (HW.out.then HC5'.out (fun x hx hl => by have := HO.out x hx; have := HT.out; omega)).then hc56 (fun x hx hl => by have := (own_lt HOWN.out hx).1; omega)
      have HI6 := Lib.hid hI6
      clear hown6 hg6 hnl6 hat6 hc56 hI6 hfold2 hlt6 hrl hOl1 hrow1
      go_wp2_with fail
      go_roundw
      case rel => exact ⟨k + 1, by omega, by simp, HI6.out⟩
      case measure => simp [intOf]; omega
    · go_wp2
      go_ret
      have hkn : k = n := by omega
      subst hkn
      exact ⟨_, As, M, O, rfl, HAL.out, HST.out, HOWN.out, HW.out⟩
end Go.Proofs.YtalhhplphlobbaaGreat
