/- do, where the call is to be ready. Conditions: the contract of ready. The two closures of Node. Conditions: the contracts of begin, do and said. Node with one call, that to be ready. Conditions: the contracts of begin, do and said. ready: a setup as the laws let it in. Conditions: the shapes. From what the guards say to what the walk asks. Conditions: none. SameEntries: two logs with the same entries are said to be the same. Conditions: none. stands: what a node says is as the setup has it. Conditions: the said fields. -/
import Derived.StillTailTactics
import Derived.Test.YtalhhplphlobbaaGreatP20
import Derived.Test.YtalhhplphlobbaaGreatP25
import Derived.Test.YtalhhplphlobbaaGreatP26
import Derived.Test.YtalhhplphlobbaaGreatP27
set_option linter.unusedVariables false
set_option linter.unusedSimpArgs false
namespace Go.Proofs.YtalhhplphlobbaaGreat
open Go.RowKit
theorem size44 : (Tryz.prog.info? 44).map (·.size) = some 28 := by kernel_rfl
set_option maxRecDepth 100000 in
set_option maxHeartbeats 4000000 in
theorem do_ready {w : World} {nb : Nat} {C : Array Value} {R : SaidS → World → Prop} {L : List Nat} (hc : C[0]? = some (.int .i64 5)) (hL : ∀ x ∈ L, x < w.heap.size)
    (hR : ∀ X, Nxt w X → w.heap.size + 1 < X.heap.size → Calls Tryz.prog 114 #[.pointer (some ⟨nb, 0, none⟩)] X fun y w' => ∃ A : SaidS, A.ok ∧ y = .returned (.agg A.list.toArray) ∧ R A w' ∧ Chg L X w') :
    Calls Tryz.prog 66 #[.pointer (some ⟨nb, 0, none⟩), .agg C] w fun y w' => ∃ A : SaidS, A.ok ∧ y = .returned (.agg A.list.toArray) ∧ ∃ w1, R A w1 ∧ Chg [w.heap.size + 1] w1 w' ∧ Chg L w w' := by
  obtain ⟨FX, hFX⟩ : ∃ FX, FX = said0.list := ⟨_, rfl⟩
  have hcell : (w.alloc (.cells C 44)).cell? ⟨w.heap.size, 0, none⟩ = some (.int .i64 5) := by rw [(Blk.new w 44 C).cell 0]; exact hc
  have HR := Lib.hid hR
  have HL := Lib.hid hL
  have HFX := Lib.hid hFX
  clear hc hR hL hFX
  go_enter Tryz.func66, Tryz.ntmps66
  go_upto_region 3 with fail
  have hb4 : Blk (((w.alloc (.cells C 44)).alloc (.cells #[.int .i64 0, .bool false, .int .i64 0, .int .u64 0, .int .u64 0, .int .u64 0, .int .u64 0, .int .u64 0, .int .u64 0, .slice none 0 0, .slice none 0 0, .slice none 0 0, .slice none 0 0, .bool false, .bool false, .bool false, .int .u64 0, .int .u64 0, .int .u64 0, .slice none 0 0, .string ⟨#[]⟩, .int .u64 0, .int .u64 0, .slice none 0 0, .slice none 0 0, .slice none 0 0, .slice none 0 0, .bool false, .slice none 0 0, .slice none 0 0, .slice none 0 0, .bool false, .slice none 0 0] 48)).alloc (.cells #[.int .i64 0, .bool false, .int .i64 0, .int .u64 0, .int .u64 0, .int .u64 0, .int .u64 0, .int .u64 0, .int .u64 0, .slice none 0 0, .slice none 0 0, .slice none 0 0, .slice none 0 0, .bool false, .bool false, .bool false, .int .u64 0, .int .u64 0, .int .u64 0, .slice none 0 0, .string ⟨#[]⟩, .int .u64 0, .int .u64 0, .slice none 0 0, .slice none 0 0, .slice none 0 0, .slice none 0 0, .bool false, .slice none 0 0, .slice none 0 0, .slice none 0 0, .bool false, .slice none 0 0] 48)) (w.heap.size + 1) 48 FX.toArray := by
    rw [HFX.out]
    exact (Blk.newAt (w := w.alloc (.cells C 44)) (by simp)).alloc _
  have hX : Nxt w (((w.alloc (.cells C 44)).alloc (.cells #[.int .i64 0, .bool false, .int .i64 0, .int .u64 0, .int .u64 0, .int .u64 0, .int .u64 0, .int .u64 0, .int .u64 0, .slice none 0 0, .slice none 0 0, .slice none 0 0, .slice none 0 0, .bool false, .bool false, .bool false, .int .u64 0, .int .u64 0, .int .u64 0, .slice none 0 0, .string ⟨#[]⟩, .int .u64 0, .int .u64 0, .slice none 0 0, .slice none 0 0, .slice none 0 0, .slice none 0 0, .bool false, .slice none 0 0, .slice none 0 0, .slice none 0 0, .bool false, .slice none 0 0] 48)).alloc (.cells #[.int .i64 0, .bool false, .int .i64 0, .int .u64 0, .int .u64 0, .int .u64 0, .int .u64 0, .int .u64 0, .int .u64 0, .slice none 0 0, .slice none 0 0, .slice none 0 0, .slice none 0 0, .bool false, .bool false, .bool false, .int .u64 0, .int .u64 0, .int .u64 0, .slice none 0 0, .string ⟨#[]⟩, .int .u64 0, .int .u64 0, .slice none 0 0, .slice none 0 0, .slice none 0 0, .slice none 0 0, .bool false, .slice none 0 0, .slice none 0 0, .slice none 0 0, .bool false, .slice none 0 0] 48)) := ⟨(((Chg.refl _ _).alloc _).alloc _).alloc _⟩
  have hc0 := (cell_alloc (cell_alloc hcell (.cells #[.int .i64 0, .bool false, .int .i64 0, .int .u64 0, .int .u64 0, .int .u64 0, .int .u64 0, .int .u64 0, .int .u64 0, .slice none 0 0, .slice none 0 0, .slice none 0 0, .slice none 0 0, .bool false, .bool false, .bool false, .int .u64 0, .int .u64 0, .int .u64 0, .slice none 0 0, .string ⟨#[]⟩, .int .u64 0, .int .u64 0, .slice none 0 0, .slice none 0 0, .slice none 0 0, .slice none 0 0, .bool false, .slice none 0 0, .slice none 0 0, .slice none 0 0, .bool false, .slice none 0 0] 48)) (.cells #[.int .i64 0, .bool false, .int .i64 0, .int .u64 0, .int .u64 0, .int .u64 0, .int .u64 0, .int .u64 0, .int .u64 0, .slice none 0 0, .slice none 0 0, .slice none 0 0, .slice none 0 0, .bool false, .bool false, .bool false, .int .u64 0, .int .u64 0, .int .u64 0, .slice none 0 0, .string ⟨#[]⟩, .int .u64 0, .int .u64 0, .slice none 0 0, .slice none 0 0, .slice none 0 0, .slice none 0 0, .bool false, .slice none 0 0, .slice none 0 0, .slice none 0 0, .bool false, .slice none 0 0] 48))
  generalize hXe : (((w.alloc (.cells C 44)).alloc (.cells #[.int .i64 0, .bool false, .int .i64 0, .int .u64 0, .int .u64 0, .int .u64 0, .int .u64 0, .int .u64 0, .int .u64 0, .slice none 0 0, .slice none 0 0, .slice none 0 0, .slice none 0 0, .bool false, .bool false, .bool false, .int .u64 0, .int .u64 0, .int .u64 0, .slice none 0 0, .string ⟨#[]⟩, .int .u64 0, .int .u64 0, .slice none 0 0, .slice none 0 0, .slice none 0 0, .slice none 0 0, .bool false, .slice none 0 0, .slice none 0 0, .slice none 0 0, .bool false, .slice none 0 0] 48)).alloc (.cells #[.int .i64 0, .bool false, .int .i64 0, .int .u64 0, .int .u64 0, .int .u64 0, .int .u64 0, .int .u64 0, .int .u64 0, .slice none 0 0, .slice none 0 0, .slice none 0 0, .slice none 0 0, .bool false, .bool false, .bool false, .int .u64 0, .int .u64 0, .int .u64 0, .slice none 0 0, .string ⟨#[]⟩, .int .u64 0, .int .u64 0, .slice none 0 0, .slice none 0 0, .slice none 0 0, .slice none 0 0, .bool false, .slice none 0 0, .slice none 0 0, .slice none 0 0, .bool false, .slice none 0 0] 48)) = X at hb4 hX hc0 ⊢
  clear hXe hcell
  have hz := hb4.lt
  have HX := Lib.hid hX
  have HB4 := Lib.hid hb4
  clear hX hb4
  go_wp2_with (first | (go_at_call 114; (with_reducible refine Calls.mono (HR.out _ HX.out hz) ?_); rintro e1 w1 ⟨A, hok, rfl, hr, hc1⟩; have HRA := Lib.hid hr; have HC1 := Lib.hid hc1; obtain ⟨FY, hFY⟩ : ∃ FY, FY = A.list := ⟨_, rfl⟩; rw [← hFY]; have HOK := Lib.hid hok; have HFY := Lib.hid hFY; have HZA := Lib.hid (show (Tryz.prog.info? 48).map (·.size) = some FY.toArray.size by rw [hFY]; exact size48.trans rfl); have HONE := Lib.hid (show FY.toArray.all (·.oneCell') = true by rw [hFY]; exact all_oneCell_toArray hok); clear hFY hr hc1 hok) | (refine wpList_store_mid rfl 48 _ _ rfl (w.heap.size + 1) 0 FY.toArray rfl rfl ?_ HZA.out HONE.out ?_))
  · exact st48 (FX := FY) (FY := FX) (ty := 48) (HB4.out.chg HC1.out (fun hx => by have := HL.out _ hx; omega)) (by rw [HFX.out, HFY.out]; rfl)
  · have hbF := bs48 (HB4.out.chg HC1.out (fun hx => by have := HL.out _ hx; omega)) (FX := FY) (FY := FX) (by rw [HFX.out, HFY.out]; rfl)
    have hcF := chg_setCells (w.heap.size + 1) FY 0 w1
    refine bodyPost_ret (results_cell_row rfl _ _ (w.heap.size + 1) 48 FY.toArray (0, 0) _ (by rfl) hbF Tryz.underlying48 rfl HZA.out) rfl ⟨A, HOK.out, by rw [HFY.out], w1, HRA.out, hcF, ?_⟩
    exact ((HX.out.out.mono (by simp)).trans HC1.out).then hcF (by simp; omega)
end Go.Proofs.YtalhhplphlobbaaGreat
namespace Go.Proofs.YtalhhplphlobbaaGreat
open Go.RowKit
set_option maxRecDepth 100000 in
set_option maxHeartbeats 1000000 in
theorem node1_any {w : World} {c6 nb : Nat} {R : World → Prop} (hc : w.cell? ⟨c6, 0, none⟩ = some (.pointer (some ⟨nb, 0, none⟩)))
    (hB : ∀ X, Nxt w X → Calls Tryz.prog 63 #[.pointer (some ⟨nb, 0, none⟩)] X fun y w' => y = .returned (.bool false) ∧ R w' ∧ w'.cell? ⟨nb, 26, none⟩ = some (.bool false) ∧ (∀ i, w'.frozen? ⟨nb, i, none⟩ = false) ∧ w'.cell? ⟨c6, 0, none⟩ = some (.pointer (some ⟨nb, 0, none⟩))) :
    Calls Tryz.prog 62 #[.pointer (some ⟨c6, 0, none⟩)] w fun y w' => y = .returned (.tuple #[]) ∧ R w' := by
  have HB := Lib.hid (hB w.drew ⟨(Chg.refl _ _).drew⟩)
  clear hB
  go_enter Tryz.func62, Tryz.ntmps62
  go_region_held3 (fun wx => wx.cell? ⟨c6, 0, none⟩ = some (.pointer (some ⟨nb, 0, none⟩))) (first | with_reducible assumption | (simp [go_sem, *]; done))
    (first | (go_at_call 63; (with_reducible refine Calls.mono HB.out ?_); rintro e1 w1 ⟨rfl, hr, k26, kf, k6⟩; have HR := Lib.hid hr; have nl : nb < w1.heap.size := World.block_lt_of_cell? w1 _ k26; have hq := setCell_same k26; have HQ := Lib.hid hq; clear hr hq))
  rw [HQ.out]
  go_end0
  exact ⟨rfl, HR.out⟩
theorem rng_blk {w : World} {b t : Nat} {CL : List Value} (h : Blk w b t CL.toArray) : w.rangeAt b 0 CL := ld48 h
theorem there_blk {w : World} {b t : Nat} {CL : List Value} (h : Blk w b t CL.toArray) : w.there b 0 CL.length := fun j hj => st48 (FX := CL) (FY := CL) h rfl j (by simpa using hj)
theorem rng_chg {w w' : World} {L : List Nat} {b : Nat} {CL : List Value} (h : w.rangeAt b 0 CL) (hc : Chg L w w') (hb : b ∉ L) : w'.rangeAt b 0 CL := fun j v hj => hc.at_ (h j v hj) hb
theorem there_chg {w w' : World} {L : List Nat} {b n : Nat} (h : w.there b 0 n) (hc : Chg L w w') (hb : b ∉ L) : w'.there b 0 n := fun j hj => by
  obtain ⟨h1, h2⟩ := h j hj
  obtain ⟨v, hv⟩ := Option.isSome_iff_exists.1 h1
  have hl := World.block_lt_of_cell? w _ hv
  exact ⟨by rw [hc.at_ hv hb]; rfl, (hc.frozen (p := ⟨b, 0 + j, none⟩) hl hb).trans h2⟩
/-- What Node's second closure reads and writes. -/
structure N2S (c6 nb c8 c9 : Nat) (CL : List Value) (w : World) : Prop where
  k6 : w.cell? ⟨c6, 0, none⟩ = some (.pointer (some ⟨nb, 0, none⟩))
  k8 : w.rangeAt c8 0 CL
  k9 : w.there c9 0 33
theorem N2S.chg {c6 nb c8 c9 : Nat} {CL : List Value} {w w' : World} {L : List Nat} (h : N2S c6 nb c8 c9 CL w) (hc : Chg L w w') (m6 : c6 ∉ L) (m8 : c8 ∉ L) (m9 : c9 ∉ L) : N2S c6 nb c8 c9 CL w' :=
  ⟨hc.at_ h.k6 m6, rng_chg h.k8 hc m8, there_chg h.k9 hc m9⟩
set_option maxRecDepth 100000 in
set_option maxHeartbeats 8000000 in
theorem node2_any {w : World} {c6 c8 c9 nb : Nat} {CL : List Value} {R1 R2 : SaidS → World → Prop} {L : List Nat} (h0 : N2S c6 nb c8 c9 CL w) (hl : CL.length = 28)
    (m6 : c6 ∉ L) (m8 : c8 ∉ L) (m9 : c9 ∉ L) (n69 : c6 ≠ c9) (n89 : c8 ≠ c9)
    (hD : ∀ X, Nxt w X → Calls Tryz.prog 66 #[.pointer (some ⟨nb, 0, none⟩), .agg CL.toArray] X fun y w' => ∃ A : SaidS, A.ok ∧ y = .returned (.agg A.list.toArray) ∧ R1 A w' ∧ Chg L X w')
    (hS : ∀ A w1, A.ok → R1 A w1 → Calls Tryz.prog 64 #[.pointer (some ⟨nb, 0, none⟩), .agg A.list.toArray] w1 fun y w' => ∃ A' : SaidS, A'.ok ∧ y = .returned (.agg A'.list.toArray) ∧ R2 A' w' ∧ Chg L w1 w') :
    Calls Tryz.prog 65 #[.pointer (some ⟨c6, 0, none⟩), .pointer (some ⟨c8, 0, none⟩), .pointer (some ⟨c9, 0, none⟩)] w fun y w' => y = .returned (.tuple #[]) ∧ ∃ A w2, A.ok ∧ R2 A w2 ∧ Chg L w w2 ∧ w' = w2.setCells c9 0 A.list := by
  have hd : N2S c6 nb c8 c9 CL w.drew := h0.chg (L := []) ((Chg.refl _ _).drew) (by simp) (by simp) (by simp)
  have HD := Lib.hid (hD w.drew ⟨(Chg.refl _ _).drew⟩)
  have HS := Lib.hid hS
  have HI := Lib.hid (show (Tryz.prog.info? 44).map (·.size) = some CL.length by rw [hl]; exact size44)
  clear hD hS hl
  go_enter Tryz.func65, Tryz.ntmps65
  refine wp_region_held_drew (S := N2S c6 nb c8 c9 CL) (by kernel_rfl) hd (fun hHeld => ?_)
  refine wpAnyH_take (i := 0) (v := .pointer (some ⟨nb, 0, none⟩)) rfl (by kernel_rfl) (by kernel_rfl) (by kernel_rfl) (fun _ _ _ h => h) (Or.inl ⟨by rfl, fun w hw => ?_⟩) hHeld ?_
  · have := hw.k6
    go_simp
  simp only [Act.put, List.setIfInBounds_toArray, List.set_cons_zero, List.set_cons_succ]
  refine wpAnyH_take (i := 1) (v := .pointer (some ⟨nb, 0, none⟩)) rfl (by kernel_rfl) (by kernel_rfl) (by kernel_rfl) (fun _ _ _ h => h) (Or.inl ⟨by rfl, fun w hw => ?_⟩) hHeld ?_
  · have := hw.k6
    go_simp
  simp only [Act.put, List.setIfInBounds_toArray, List.set_cons_zero, List.set_cons_succ]
  refine wpAnyH_take (i := 2) (v := .agg CL.toArray) rfl (by kernel_rfl) (by kernel_rfl) (by kernel_rfl) (fun _ _ _ h => h) (yieldsIf_load_mid (by rfl) 44 _ rfl c8 0 rfl CL _ (fun w hw => hw.k8) Tryz.underlying44 rfl HI.out) hHeld ?_
  simp only [Act.put, List.setIfInBounds_toArray, List.set_cons_zero, List.set_cons_succ]
  refine wpAnyH_ready (rs := [3]) (by kernel_rfl) (by simp) ?_
  refine AllReadyH.cons rfl (fun K hK => ?_) AllReadyH.nil
  go_simp
  go_at_call 66
  with_reducible refine Calls.mono HD.out ?_
  rintro y1 w1 ⟨A, hok, rfl, hr1, hc1⟩
  have h1 := hd.chg hc1 m6 m8 m9
  go_wp2_with fail
  refine hK.out _ _ h1 (fun hHeld => ?_)
  clear hK K
  (try simp only [Act.put, List.setIfInBounds_toArray, List.set_cons_zero, List.set_cons_succ])
  refine wpAnyH_ready (rs := [4]) (by kernel_rfl) (by simp) ?_
  refine AllReadyH.cons rfl (fun K hK => ?_) AllReadyH.nil
  go_simp
  go_at_call 64
  with_reducible refine Calls.mono (HS.out _ _ hok hr1) ?_
  rintro y2 w2 ⟨A2, hok2, rfl, hr2, hc2⟩
  have h2 := h1.chg hc2 m6 m8 m9
  go_wp2_with fail
  refine hK.out _ _ h2 (fun hHeld => ?_)
  clear hK K
  (try simp only [Act.put, List.setIfInBounds_toArray, List.set_cons_zero, List.set_cons_succ])
  refine wpAnyH_ready (rs := [5]) (by kernel_rfl) (by simp) ?_
  refine AllReadyH.cons rfl (fun K hK => ?_) AllReadyH.nil
  rw [if_pos (by rfl)]
  refine wp_store_mid 48 _ _ rfl c9 0 A2.list.toArray rfl rfl (by rw [List.size_toArray, A2.len]; exact h2.k9) (size48.trans rfl) (all_oneCell_toArray hok2) ?_
  have hcF := chg_setCells c9 A2.list 0 w2
  refine hK.out _ _ ⟨hcF.at_ h2.k6 (by simpa using n69), rng_chg h2.k8 hcF (by simpa using n89), World.there_setCells h2.k9 c9 0 A2.list⟩ (fun hHeld => ?_)
  refine wpAnyH_done (by kernel_rfl) ?_ _
  go_end0
  exact ⟨rfl, A2, w2, hok2, hr2, (((Chg.refl _ _).drew).trans hc1).trans hc2, rfl⟩
end Go.Proofs.YtalhhplphlobbaaGreat
namespace Go.Proofs.YtalhhplphlobbaaGreat
open Go.RowKit
theorem info48 : (Tryz.prog.info? 48).map (fun i => (i.zero, i.size, i.bytes)) = some (some (.agg said0.list.toArray), 33, 472) := by kernel_rfl
/-- The build of a single, of a Said, under names that the walk does not unfold. -/
def bld140 (parts : Array (Nat × Value)) : Sem Value := Instr.build 140 parts
theorem bld140_eq (parts : Array (Nat × Value)) : Instr.build 140 parts = bld140 parts := rfl
def bld48 (parts : Array (Nat × Value)) : Sem Value := Instr.build 48 parts
theorem bld48_eq (parts : Array (Nat × Value)) : Instr.build 48 parts = bld48 parts := rfl
/-- A node that has not begun. -/
def single0 (s : SetS) : SinS := ⟨s, false, .pointer none, .pointer none, 0, .pointer none⟩
theorem singleBuild (w : World) (id et ht msz mco mun inf bi bt hT hV hC apd : Int) (pv cq le nf sd bal : Bool) (bd : ByteArray) (A0 A1 A2 A3 A4 A5 : Option Addr) (n0 k0 n1 k1 n2 k2 n3 k3 n4 k4 n5 k5 : Nat) :
    (bld140 #[(0, .agg (SetS.list ⟨id, et, ht, .slice A0 n0 k0, pv, cq, le, nf, sd, msz, mco, mun, inf, bd, bi, bt, .slice A1 n1 k1, .slice A2 n2 k2, .slice A3 n3 k3, .slice A4 n4 k4, bal, .slice A5 n5 k5, hT, hV, hC, apd⟩).toArray)]).run Tryz.prog w = .ok (.agg (single0 ⟨id, et, ht, .slice A0 n0 k0, pv, cq, le, nf, sd, msz, mco, mun, inf, bd, bi, bt, .slice A1 n1 k1, .slice A2 n2 k2, .slice A3 n3 k3, .slice A4 n4 k4, bal, .slice A5 n5 k5, hT, hV, hC, apd⟩).cells) w := by
  kernel_rfl
theorem saidBuild (w : World) : (bld48 #[]).run Tryz.prog w = .ok (.agg said0.list.toArray) w := by kernel_rfl
/-- What a setup must be, that a node begins by it. -/
structure Inp (W : World) (s : SetS) (V L : List Int) (l : List Ent) (D : List Int) : Prop where
  id0 : 0 < s.id
  id1 : s.id < 4611686018427387904
  ht0 : 0 < s.ht
  het : s.ht < s.et
  et1 : s.et < 1000000000
  mco0 : 1000000 ≤ s.mco
  mco1 : s.mco < 2 ^ 64
  inf0 : 0 < s.inf
  msz1 : s.msz ≤ 18446744073709551615
  lec : s.le = true → s.cq = true
  b1 : Sl [] W s.b1 (U64s V)
  b2 : Sl [] W s.b2 (U64s L)
  b3 : Sl [] W s.b3 (U64s [])
  b4 : Sl [] W s.b4 (U64s [])
  bal : s.bal = false
  bd1 : s.bd.data.size ≤ 1000000000
  lg : LogAt W s.lg l
  ll : l.length ≤ 30
  row : ∀ (j : Nat) x, l[j]? = some x → x.i = s.bi + j + 1
  fit : ∀ x ∈ l, x.fits
  small : ∀ x ∈ l, x.d.size ≤ 1000
  bi0 : 0 < s.bi
  bi1 : s.bi < 4000000000000000000
  hT0 : 0 < s.hT
  hc0 : s.bi ≤ s.hC
  hc1 : s.hC ≤ s.bi + l.length
  apd : s.apd = 0 ∨ s.bi ≤ s.apd ∧ s.apd ≤ s.hC
  nd : (V ++ L).Nodup
  V0 : V ≠ []
  rng : ∀ k ∈ V ++ L, 0 < k ∧ k < 2 ^ 64
  lV : V.length ≤ 9
  lL : L.length ≤ 4
  rd : Sl [] W s.rd (I64s D)
  Dl : D.length ≤ 1000
  Dn : ∀ x ∈ D, 0 ≤ x ∧ x < s.et
theorem LogAt.nxt' {w w' : World} {v : Value} {l : List Ent} (h : LogAt w v l) (hn : Nxt w w') : LogAt w' v l := by
  obtain ⟨A, n, c, rfl, hl, hc, h0, ha⟩ := h
  refine ⟨A, n, c, rfl, hl, hc, h0, fun b o s e => ?_⟩
  obtain ⟨h1, h2, h3⟩ := ha b o s e
  exact ⟨h1, Nat.lt_of_lt_of_le h2 hn.out.size, fun j x hx => by
    obtain ⟨k1, k2, k3, k4⟩ := h3 j x hx
    exact ⟨hn.out.at0 k1, hn.out.at0 k2, hn.out.at0 k3, hn.out.at0 k4⟩⟩
theorem Sl.toNew {W X : World} {v : Value} {xs : List Value} {nb : Nat} (h : Sl [] W v xs) (hn : Nxt W X) (hb : W.heap.size ≤ nb) : Sl [nb] X v xs :=
  (h.more (M' := [nb]) (fun x hx => .inr (by simp at hx; omega))).chg0 hn.out
theorem begin_of {W X : World} {s : SetS} {V L : List Int} {l : List Ent} {D : List Int} {nb : Nat} (h : Inp W s V L l D) (hn : Nxt W X) (hb : W.heap.size ≤ nb) (hs : SinAt X nb (single0 s)) : Calls Tryz.prog 63 #[.pointer (some ⟨nb, 0, none⟩)] X (BegPost X nb s V L l D) := by
  obtain ⟨id, et, ht, rd, pv, cq, le, nf, sd, msz, mco, mun, inf, bd, bi, bt, b1, b2, b3, b4, bal, lg, hT, hV, hC, apd⟩ := s
  obtain ⟨z1, z2, z3, z4, z5, z6, z7, z8, z9, z10, z11, z12, z13, z14, z15, z16, z17, z18, z19, z20, z21, z22, z23, z24, z25, z26, z27, z28, z29, z30, z31, z32, z33, z34, z35⟩ := h
  simp only at z1 z2 z3 z4 z5 z6 z7 z8 z9 z10 z11 z12 z13 z14 z15 z16 z17 z19 z22 z23 z24 z25 z26 z27 z33 z34 z35
  subst z15
  obtain ⟨A1, m1, k1, rfl⟩ := z11.form
  obtain ⟨A2, m2, k2, rfl⟩ := z12.form
  obtain ⟨A3, m3, k3, rfl⟩ := z13.form
  obtain ⟨A4, m4, k4, rfl⟩ := z14.form
  have hlg := z17.nxt' hn
  obtain ⟨A5, m5, k5, rfl, _, _, _, hA5⟩ := z17
  refine begin_any (ap0 := 0) (rnv := .nilIface) (cfv := .nilIface) (ref := false) (V := V) (L := L) (l := l) (D := D) hs z1 z2 z3 z4 z5 (by omega) z8 z9 z10 (z11.toNew hn hb) (z12.toNew hn hb) (z13.toNew hn hb) (z14.toNew hn hb) z16 hlg ?_ (by omega) ?_ z22 (by omega) z24 z25 z26 z27 z28 z29 z30 (by omega) (by omega) (by simp; omega) (z33.toNew hn hb) z34 z35
  · rintro ⟨b, o, sp⟩ rfl
    obtain ⟨_, hlt, _⟩ := hA5 b o sp rfl
    show b ≠ nb
    omega
  · rcases l with _ | ⟨x, l⟩
    · trivial
    · have := z19 0 x rfl
      show x.i = bi + 1
      omega
end Go.Proofs.YtalhhplphlobbaaGreat
namespace Go.Proofs.YtalhhplphlobbaaGreat
open Go.RowKit
/-- What a setup is if ready says yes. -/
structure RdyOk (s : SetS) (V L V2 L2 D : List Int) (l : List EntK) : Prop where
  id0 : 0 < s.id ∧ s.id < 1099511627776
  ht0 : 1 ≤ s.ht
  et : s.ht < s.et ∧ s.et ≤ 30
  Dl : D.length ≤ 10
  le : s.le = true → s.cq = true
  Dn : ∀ x ∈ D, 0 ≤ x ∧ x < s.et
  inf : 1 ≤ s.inf ∧ s.inf ≤ 100
  msz : 1048576 ≤ s.msz
  mco : 1048576 ≤ s.mco
  mun : s.mun = 0
  mem : MemOk V L V2 L2 s.bal
  bd : s.bd.size ≤ 100
  bi : 1 ≤ s.bi ∧ s.bi ≤ 1099511627776
  bt : 1 ≤ s.bt
  hT : s.hT ≤ 1099511627776
  hV : s.hV < 1099511627776
  row : RowOk s.bi s.hT l
  tt : s.bt ≤ s.hT
  hC : s.bi ≤ s.hC ∧ s.hC ≤ s.bi + l.length
  apd : s.apd = 0 ∨ s.bi ≤ s.apd ∧ s.apd ≤ s.hC
set_option maxRecDepth 100000 in
set_option maxHeartbeats 8000000 in
theorem ready_any {W w : World} {s : SetS} {V L V2 L2 D : List Int} {l : List EntK} (h : Arg W s V L V2 L2 D l) (hn : Chg [] W w) (b3 : V2.length < 2 ^ 61) (b4 : L2.length < 2 ^ 61) : Calls Tryz.prog 16 #[.agg s.list.toArray] w (BoolP (fun b => b = true → RdyOk s V L V2 L2 D l) w) := by
  obtain ⟨A0, m0, k0, e0⟩ := h.rd.form
  obtain ⟨A1, m1, k1, e1⟩ := h.b1.form
  obtain ⟨A2, m2, k2, e2⟩ := h.b2.form
  obtain ⟨A3, m3, k3, e3⟩ := h.b3.form
  obtain ⟨A4, m4, k4, e4⟩ := h.b4.form
  obtain ⟨A5, k5, e5⟩ := h.lg.form
  have HA := Lib.hid h
  have HN := Lib.hid hn
  have HLG := Lib.hid (h.lg.nxt hn)
  clear h hn
  obtain ⟨SL, hSL⟩ : ∃ SL, SL = s.list := ⟨_, rfl⟩
  rw [← hSL]
  have HSL := Lib.hid hSL
  clear hSL
  have hb0 := Blk.new w 33 SL.toArray
  have hX : Chg [] w (w.alloc (.cells SL.toArray 33)) := (Chg.refl _ _).alloc _
  go_enter Tryz.func16, Tryz.ntmps16
  go_upto_region 1 with fail
  generalize w.alloc (.cells SL.toArray 33) = X at hb0 hX ⊢
  obtain ⟨b, hb⟩ : ∃ b, b = w.heap.size := ⟨_, rfl⟩
  rw [← hb] at hb0 ⊢
  obtain ⟨c0, c1, c2, c3, c4, c5, c6, c7, c8, c9, c10, c11, c12, c13, c14, c15, c16, c17, c18, c19, c20, c21, c22, c23, c24, c25⟩ := SetC.of hb0 HSL.out
  rw [e0] at c3
  rw [e1] at c16
  rw [e2] at c17
  rw [e3] at c18
  rw [e4] at c19
  rw [e5] at c21
  have HX := Lib.hid hX
  have HB0 := Lib.hid hb0
  clear hb hb0 hX
  obtain ⟨le, hle⟩ : ∃ le, le = s.le := ⟨_, rfl⟩
  obtain ⟨cq, hcq⟩ : ∃ cq, cq = s.cq := ⟨_, rfl⟩
  rw [← hle] at c6
  rw [← hcq] at c5
  have HLE := Lib.hid hle
  have HCQ := Lib.hid hcq
  clear hle hcq
  go_cut [42] (fun s42 wx => ∃ g, s42 = .bool g ∧ (g = false → (0 < s.id ∧ s.id < 1099511627776) ∧ 1 ≤ s.ht ∧ s.ht < s.et ∧ s.et ≤ 30 ∧ m0 ≤ 10 ∧ (le = true → cq = true)) ∧ Nxt X wx)
  case first =>
    as_aux_lemma =>
      go_wp2_with (first | (go_at_call 27; (with_reducible refine Calls.mono (known_any _ s.id) ?_); rintro e w1 ⟨rfl, hn1⟩; have q1 := hn1.out.at0 c1; have q2 := hn1.out.at0 c2; have q3 := hn1.out.at0 c3; have q5 := hn1.out.at0 c5; have q6 := hn1.out.at0 c6; clear c1 c2 c3 c5 c6))
      all_goals (go_meet)
      all_goals (refine ⟨_, rfl, fun hg => ?_, hn1⟩)
      all_goals first | (simp at hg; done) | (simp at hg; refine ⟨by assumption, by omega, by omega, by omega, by omega, ?_⟩; first | exact fun _ => hg.2 | exact fun h => absurd h (by assumption))

  case rest =>
    obtain ⟨g, rfl, hg, hn1⟩ := hcut
    have HG := Lib.hid hg
    have HN1 := Lib.hid hn1
    have q3 := hn1.out.at0 c3
    have q1 := hn1.out.at0 c1
    have HRD := Lib.hid ((HA.out.rd.chg0 HN.out).chg0 (HX.out.trans hn1.out))
    clear c0 c1 c2 c3 c4 c5 c6 c7 c8 c9 c10 c11 c12 c13 c14 c15 c16 c17 c18 c19 c20 c21 c22 c23 c24 c25 hg hn1
    rcases g
    rotate_left
    · go_wp2
      go_ret
      exact ⟨false, rfl, by simp, ⟨HX.out.trans HN1.out.out⟩⟩
    have hm10 : m0 ≤ 10 := (HG.out rfl).2.2.2.2.1
    go_wp2_with fail
    go_loopw [4, 46] (fun _ i wr => ∃ k : Nat, k ≤ m0 ∧ i = .int .i64 k ∧ (∀ j y, j < k → D[j]? = some y → 0 ≤ y ∧ y < s.et) ∧ Chg [] wc wr) (fun _ i _ => m0 - (intOf i).toNat)
    case atStart => exact ⟨0, by omega, rfl, fun j y hj => by omega, Chg.refl _ _⟩
    case round =>
      obtain ⟨k, hk, rfl, hno, hcw⟩ := hrel
      have HNO := Lib.hid hno
      clear hno
      by_cases hlt : k < m0
      · have HRD' := HRD.out
        rw [e0] at HRD'
        obtain ⟨b', o, p, rfl, hp, hcell, _⟩ := sl_at HRD' hlt
        obtain ⟨z, hz, rfl⟩ : ∃ z, D[k]? = some z ∧ p = .int .i64 z := by
          simp only [I64s, List.getElem?_map] at hp
          cases hj : D[k]? with
          | none => rw [hj] at hp; cases hp
          | some x => rw [hj] at hp; injection hp with hp; exact ⟨x, rfl, hp.symm⟩
        have d1 := hcw.at0 hcell
        have q1' := hcw.at0 q1
        have HP := Lib.hid hz
        have HCW := Lib.hid hcw
        clear hcell hp hcw HRD' hz
        as_aux_lemma =>
          go_wp2
          all_goals first
            | (go_ret; exact ⟨false, rfl, by simp, ⟨(HX.out.trans HN1.out.out).trans HCW.out⟩⟩)
            | exact ⟨⟨k + 1, by omega, by simp, fun j y hj hy => by
                rcases Nat.lt_or_ge j k with h1 | h1
                · exact HNO.out j y h1 hy
                · have : j = k := by omega
                  subst this
                  rw [HP.out] at hy
                  injection hy with hy
                  subst hy
                  constructor <;> omega, HCW.out⟩, by simp [intOf]; omega⟩

      · have hkn : k = m0 := by omega
        subst hkn
        have hX1 : Chg [] X wr := HN1.out.out.trans hcw
        have hWr : Chg [] W wr := (HN.out.trans HX.out).trans hX1
        have HX1 := Lib.hid hX1
        have HMEM := Lib.hid (members_any (w := wr) (bal := s.bal) (by rw [← e1]; exact HA.out.b1.chg0 hWr) (by rw [← e2]; exact HA.out.b2.chg0 hWr) (by rw [← e3]; exact HA.out.b3.chg0 hWr) (by rw [← e4]; exact HA.out.b4.chg0 hWr) (by have z := HA.out.b3; rw [e3] at z; have := (u64_len z).1; omega) (by have z := HA.out.b4; rw [e4] at z; have := (u64_len z).1; omega))
        obtain ⟨c0, c1, c2, c3, c4, c5, c6, c7, c8, c9, c10, c11, c12, c13, c14, c15, c16, c17, c18, c19, c20, c21, c22, c23, c24, c25⟩ := SetC.of (HB0.out.chg hX1 (by simp)) HSL.out
        rw [e1] at c16
        rw [e2] at c17
        rw [e3] at c18
        rw [e4] at c19
        have HWR := Lib.hid hWr
        clear c0 c1 c2 c3 c4 c5 c6 c7 c8 c14 c15 c21 c22 c23 c24 c25 hcw hX1 hWr q1 q3
        go_upto_region 9 with fail
        go_cut [95] (fun s95 wx => ∃ g, s95 = .bool g ∧ (g = false → (1 ≤ s.inf ∧ s.inf ≤ 100) ∧ 1048576 ≤ s.msz ∧ 1048576 ≤ s.mco ∧ s.mun = 0 ∧ MemOk V L V2 L2 s.bal ∧ s.bd.size ≤ 100) ∧ Nxt wr wx)
        case first =>
          as_aux_lemma =>
            go_wp2_with (first | (go_at_call 29; (with_reducible refine Calls.mono HMEM.out ?_); rintro e w2 ⟨g2, rfl, hg2, hn2⟩; have q13 := hn2.out.at0 c13; have HG2 := Lib.hid hg2; have HN2 := Lib.hid hn2; clear hg2 hn2 c9 c10 c11 c12 c13 c16 c17 c18 c19 c20))
            all_goals (go_meet)
            all_goals (refine ⟨_, rfl, fun hg => ?_, by first | exact HN2.out | exact ⟨Chg.refl _ _⟩⟩)
            all_goals first | (simp at hg; done) | (simp at hg; exact ⟨⟨by omega, by omega⟩, by omega, by omega, by assumption, HG2.out (by assumption), by omega⟩)

        case rest =>
          obtain ⟨g, rfl, hg, hn9⟩ := hcut
          have HG9 := Lib.hid hg
          have hX2 : Chg [] X wc := HX1.out.trans hn9.out
          have HX2 := Lib.hid hX2
          clear c9 c10 c11 c12 c13 c16 c17 c18 c19 c20 hg hn9
          rcases g
          rotate_left
          · go_wp2
            go_ret
            exact ⟨false, rfl, by simp, ⟨HX.out.trans HX2.out⟩⟩
          have hWc : Chg [] W wc := (HN.out.trans HX.out).trans hX2
          have HLG2 := Lib.hid (show LogK wc (.slice A5 l.length k5) l by rw [← e5]; exact HA.out.lg.nxt hWc)
          have hll := HA.out.ll
          obtain ⟨c0, c1, c2, c3, c4, c5, c6, c7, c8, c9, c10, c11, c12, c13, c14, c15, c16, c17, c18, c19, c20, c21, c22, c23, c24, c25⟩ := SetC.of (HB0.out.chg hX2 (by simp)) HSL.out
          rw [e5] at c21
          have HWC := Lib.hid hWc
          clear c0 c1 c2 c3 c4 c5 c6 c7 c8 c9 c10 c11 c12 c13 c16 c17 c18 c19 c20 c24 c25 hX2 hWc
          obtain ⟨n5, hn5⟩ : ∃ n5, n5 = l.length := ⟨_, rfl⟩
          rw [← hn5] at HLG2 c21 hll
          have HN5 := Lib.hid hn5
          clear hn5
          go_upto_region 11 with fail
          go_cut [138] (fun s138 wx => ∃ g, s138 = .bool g ∧ (g = false → (1 ≤ s.bi ∧ s.bi ≤ 1099511627776) ∧ 1 ≤ s.bt ∧ s.hT ≤ 1099511627776 ∧ s.hV < 1099511627776 ∧ RowOk s.bi s.hT l ∧ s.bt ≤ s.hT) ∧ Nxt wc wx)
          case first =>
            as_aux_lemma =>
              go_wp2_with (first | (go_at_call 60; (with_reducible refine Calls.mono (row_any HLG2.out (by have := HN5.out; omega) (by omega) (by omega)) ?_); rintro e w2 ⟨g2, rfl, hg2, hn2⟩; have HG2 := Lib.hid hg2; have HN2 := Lib.hid hn2; clear hg2 hn2 c14 c15 c21 c22 c23))
              all_goals (go_meet)
              all_goals (refine ⟨_, rfl, fun hg => ?_, by first | exact HN2.out | exact ⟨Chg.refl _ _⟩⟩)
              all_goals first | (simp at hg; done) | (simp at hg; exact ⟨⟨by omega, by omega⟩, by omega, by omega, by omega, (HG2.out hg.2).1, (HG2.out hg.2).2⟩)

          case rest =>
            obtain ⟨g, rfl, hg, hn11⟩ := hcut
            have HG11 := Lib.hid hg
            have hX3 : Chg [] X wc := HX2.out.trans hn11.out
            have HX3 := Lib.hid hX3
            clear c14 c15 c21 c22 c23 hg hn11
            rcases g
            rotate_left
            · go_wp2
              go_ret
              exact ⟨false, rfl, by simp, ⟨HX.out.trans HX3.out⟩⟩
            have hWc : Chg [] W wc := (HN.out.trans HX.out).trans hX3
            have hrow : RowOk s.bi s.hT l := by have z := HG11.out; first | exact (z rfl).2.2.2.2.1 | exact (z trivial).2.2.2.2.1
            obtain ⟨l', hl'⟩ : ∃ l' : List Ent, l' = l.map fun e => ⟨e.t, e.i, e.d⟩ := ⟨_, rfl⟩
            have hlen : l'.length = l.length := by rw [hl']; simp
            have hlog : LogAt wc s.lg l' := by
              rw [hl']
              exact (HA.out.lg.nxt hWc).log (fun e he => by
                obtain ⟨j, hj⟩ := List.mem_iff_getElem?.1 he
                exact (hrow.at_ j e hj).2.1)
            have hr' : ∀ (j : Nat) x, l'[j]? = some x → x.i = s.bi + 1 + j := by
              intro j x hx
              rw [hl', List.getElem?_map] at hx
              cases hj : l[j]? with
              | none => rw [hj] at hx; cases hx
              | some e =>
                rw [hj] at hx
                injection hx with hx
                subst hx
                exact (hrow.at_ j e hj).1
            have hbs : (∃ A n c, s.b1 = .slice A n c) ∧ (∃ A n c, s.b2 = .slice A n c) ∧ (∃ A n c, s.b3 = .slice A n c) ∧ (∃ A n c, s.b4 = .slice A n c) := ⟨⟨_, _, _, e1⟩, ⟨_, _, _, e2⟩, ⟨_, _, _, e3⟩, ⟨_, _, _, e4⟩⟩
            have h30 := hrow.ll
            have HOF := Lib.hid (show Calls Tryz.prog 19 #[.agg SL.toArray] wc fun y w' => ∃ v, y = .returned (.agg (ofL s 0 v).toArray) ∧ LogAt w' v l' ∧ Nxt wc w' by rw [HSL.out]; exact of_any hlog (by omega) hbs)
            have HLA := Lib.hid (fun (w' : World) (v : Value) (h : LogAt w' v l') => last_any (w := w') (s := s) (st := 0) (v := v) h (by omega) hbs hr')
            have hb33 := HB0.out.chg hX3 (by simp)
            have HB33 := Lib.hid hb33
            have HZ33 := Lib.hid (show (Tryz.prog.info? 33).map (·.size) = some SL.length by rw [HSL.out]; exact size33)
            have HLEN := Lib.hid hlen
            have HROW := Lib.hid hrow
            have HWC3 := Lib.hid hWc
            clear hlen hrow hl' hlog hr' hbs h30 hb33 hX3 hWc
            go_upto_region 14 with (first | (refine wpList_load_mid rfl 33 _ rfl b 0 rfl SL _ (ld48 HB33.out) Tryz.underlying33 rfl HZ33.out ?_) | (go_at_call 19; (with_reducible refine Calls.mono HOF.out ?_); rintro e w2 ⟨v2, rfl, hlv2, hn2⟩; obtain ⟨OL, hOL⟩ : ∃ OL, OL = ofL s 0 v2 := ⟨_, rfl⟩; rw [← hOL]; have HOL := Lib.hid hOL; have HLV2 := Lib.hid hlv2; have HN2 := Lib.hid hn2; clear hOL hlv2 hn2) | (go_at_call 36; rw [HOL.out]; (with_reducible refine Calls.mono (HLA.out _ _ HLV2.out) ?_); rintro e w3 ⟨t3, rfl, hn3⟩; have HN3 := Lib.hid hn3; clear hn3))
            have hX4 : Chg [] X w3 := (HX3.out.trans HN2.out.out).trans HN3.out.out
            obtain ⟨c0, c1, c2, c3, c4, c5, c6, c7, c8, c9, c10, c11, c12, c13, c14, c15, c16, c17, c18, c19, c20, c21, c22, c23, c24, c25⟩ := SetC.of (HB0.out.chg hX4 (by simp)) HSL.out
            have HX4 := Lib.hid hX4
            clear c0 c1 c2 c3 c4 c5 c6 c7 c8 c9 c10 c11 c12 c13 c15 c16 c17 c18 c19 c20 c21 c22 c23 hX4
            have HBS := Lib.hid (show (s.bi ≤ s.hC ∧ s.hC ≤ s.bi + l.length) → (s.apd = 0 ∨ s.bi ≤ s.apd ∧ s.apd ≤ s.hC) → RdyOk s V L V2 L2 D l by
              intro hc ha
              obtain ⟨g1, g2, g3, g4, g5, g6⟩ := HG.out (by trivial)
              obtain ⟨i1, i2, i3, i4, i5, i6⟩ := HG9.out (by trivial)
              obtain ⟨j1, j2, j3, j4, j5, j6⟩ := HG11.out (by trivial)
              have hD := HRD.out
              rw [e0] at hD
              have hDl := (sl_len hD).2.1
              have hDk : D.length = k := by
                obtain ⟨A', n', c', he, hl, _⟩ := hD
                injection he with h1 h2 h3
                subst h2
                simpa [I64s] using hl
              exact ⟨g1, g2, ⟨g3, g4⟩, by omega, by rw [← HLE.out, ← HCQ.out]; exact g6, fun x hx => by
                obtain ⟨j, hj⟩ := List.mem_iff_getElem?.1 hx
                have hjl := (List.getElem?_eq_some_iff.1 hj).1
                exact HNO.out j x (by omega) hj, i1, i2, i3, i4, i5, i6, j1, j2, j3, j4, j5, j6, hc, ha⟩)
            go_wp2
            all_goals (go_ret; refine ⟨_, rfl, fun hb => ?_, ⟨HX.out.trans HX4.out⟩⟩)
            all_goals first
              | (simp at hb; done)
              | (exfalso; have hb3 : s.apd = 0 := (by simpa using hb); omega)
              | (refine HBS.out ⟨by omega, by have := HLEN.out; omega⟩ ?_; first | exact .inl (by assumption) | (have hb2 : s.apd = 0 ∨ s.apd ≤ s.hC := (by simpa using hb); omega))
end Go.Proofs.YtalhhplphlobbaaGreat
namespace Go.Proofs.YtalhhplphlobbaaGreat
open Go.RowKit
def EntK.ent (e : EntK) : Ent := ⟨e.t, e.i, e.d⟩
theorem inp_of {W : World} {s : SetS} {V L V2 L2 D : List Int} {l : List EntK} (h : Arg W s V L V2 L2 D l) (r : RdyOk s V L V2 L2 D l) : Inp W s V L (l.map EntK.ent) D := by
  have hx : ∀ (j : Nat) x, (l.map EntK.ent)[j]? = some x → ∃ e, l[j]? = some e ∧ x = e.ent := by
    intro j x hx
    rw [List.getElem?_map] at hx
    cases hj : l[j]? with
    | none => rw [hj] at hx; cases hx
    | some e => rw [hj] at hx; injection hx with hx; exact ⟨e, rfl, hx.symm⟩
  have hmem : ∀ x ∈ l.map EntK.ent, ∃ (j : Nat) (e : EntK), l[j]? = some e ∧ x = e.ent := by
    intro x hm
    obtain ⟨j, hj⟩ := List.mem_iff_getElem?.1 hm
    obtain ⟨e, he, hxe⟩ := hx j x hj
    exact ⟨j, e, he, hxe⟩
  have hlk : (l.map EntK.ent).length = l.length := by simp
  have hid := r.id0
  have hht := r.ht0
  have het := r.et
  have hm := r.mem
  have hbi := r.bi
  have hhT := r.hT
  have hhC := r.hC
  have hrow := r.row
  have hll := hrow.ll
  refine { id0 := hid.1, id1 := by omega, ht0 := by omega, het := het.1, et1 := by omega, mco0 := by have := r.mco; omega, mco1 := h.mco.2, inf0 := by have := r.inf; omega, msz1 := by have := h.msz.2; omega, lec := r.le, b1 := h.b1, b2 := h.b2, b3 := by have z := h.b3; rw [hm.v2] at z; exact z, b4 := by have z := h.b4; rw [hm.l2] at z; exact z, bal := hm.al, bd1 := by have z : s.bd.data.size ≤ 100 := r.bd; omega, lg := h.lg.log (fun e he => by
      obtain ⟨j, hj⟩ := List.mem_iff_getElem?.1 he
      exact (hrow.at_ j e hj).2.1), ll := by omega, row := ?_, fit := ?_, small := ?_, bi0 := by omega, bi1 := by omega, hT0 := by have := r.bt; have := r.tt; omega, hc0 := hhC.1, hc1 := by rw [hlk]; exact hhC.2, apd := r.apd, nd := hm.nd, V0 := hm.V0, rng := fun k hk => by have := hm.kn k hk; omega, lV := hm.lV, lL := hm.lL, rd := h.rd, Dl := by have := r.Dl; omega, Dn := r.Dn }
  · intro j x hj
    obtain ⟨e, he, rfl⟩ := hx j x hj
    have := (hrow.at_ j e he).1
    show e.i = _
    omega
  · intro x hxm
    obtain ⟨j, e, he, rfl⟩ := hmem x hxm
    have hjl := (List.getElem?_eq_some_iff.1 he).1
    obtain ⟨g1, g2, g3, g4⟩ := hrow.at_ j e he
    obtain ⟨k1, k2, k3⟩ := h.lr e (List.mem_of_getElem? he)
    exact ⟨k1.1, by show e.t < _; omega, k2.1, by show e.i < _; omega, by show e.d.size ≤ _; omega⟩
  · intro x hxm
    obtain ⟨j, e, he, rfl⟩ := hmem x hxm
    obtain ⟨g1, g2, g3, g4⟩ := hrow.at_ j e he
    show e.d.size ≤ _
    omega
end Go.Proofs.YtalhhplphlobbaaGreat
namespace Go.Proofs.YtalhhplphlobbaaGreat
open Go.RowKit
theorem LogAt.len {w : World} {A : Option Addr} {n c : Nat} {l : List Ent} (h : LogAt w (.slice A n c) l) : l.length = n := by
  obtain ⟨A', n', c', hv, hl, _⟩ := h
  injection hv with e1 e2 e3
  subst e2
  exact hl
set_option maxRecDepth 100000 in
set_option maxHeartbeats 4000000 in
theorem same_yes {w : World} {v1 v2 : Value} {l : List Ent} (h1 : LogAt w v1 l) (h2 : LogAt w v2 l) (hl : l.length < 2 ^ 62) : Calls Tryz.prog 20 #[v1, v2] w fun y w' => y = .returned (.bool true) ∧ Nxt w w' := by
  obtain ⟨A1, n, c1, rfl, _⟩ := id h1
  obtain ⟨A2, n2, c2, rfl, _⟩ := id h2
  have e1 := h1.len
  have e2 := h2.len
  obtain rfl : n = n2 := by omega
  have H1 := Lib.hid h1
  have H2 := Lib.hid h2
  have HN := Lib.hid e1
  have hn : n < 2 ^ 62 := by omega
  clear h1 h2 e1 e2 hl
  go_enter Tryz.func20, Tryz.ntmps20
  go_wp2_with fail
  go_loopw [5, 13] (fun _ i wr => ∃ k : Nat, k ≤ n ∧ i = .int .i64 k ∧ Chg [] w wr) (fun _ i _ => n - (intOf i).toNat)
  case atStart => exact ⟨0, by omega, rfl, Chg.refl _ _⟩
  case round =>
    obtain ⟨k, hk, rfl, hcw⟩ := hrel
    by_cases hlt : k < n
    · obtain ⟨b1, o1, e, rfl, hp1, hb1, k1, k2, k3, k4⟩ := H1.out.get (k := k) hlt
      obtain ⟨b2, o2, e', rfl, hp2, hb2, m1, m2, m3, m4⟩ := H2.out.get (k := k) hlt
      obtain rfl : e' = e := by rw [hp1] at hp2; injection hp2 with z; exact z.symm
      have d1 := hcw.at0 k1
      have d2 := hcw.at0 k2
      have d3 := hcw.at0 k3
      have d4 := hcw.at0 k4
      have f1 := hcw.at0 m1
      have f2 := hcw.at0 m2
      have f3 := hcw.at0 m3
      have f4 := hcw.at0 m4
      have HCW := Lib.hid hcw
      have i1 : (0 : Int) ≤ k ∧ (k : Int) < n := by omega
      clear k1 k2 k3 k4 m1 m2 m3 m4 hp1 hp2 hcw hb1 hb2
      go_wp2_with fail
      go_quiet (fail)
      go_wp2_with fail
      exact ⟨⟨k + 1, by omega, by simp, HCW.out.drewN _⟩, by simp [intOf]; omega⟩
    · have hkn : k = n := by omega
      subst hkn
      go_wp2
      go_ret
      exact ⟨rfl, ⟨hcw⟩⟩
end Go.Proofs.YtalhhplphlobbaaGreat
namespace Go.Proofs.YtalhhplphlobbaaGreat
open Go.RowKit
set_option maxRecDepth 100000 in
set_option maxHeartbeats 4000000 in
theorem stands_yes {w : World} {a : SaidS} {s : SetS} {v : Value} {l : List Ent} (hr : a.role = 0) (hle : a.lead = 0) (h1 : a.h1 = s.hT) (h2 : a.h2 = s.hV) (h3 : a.h3 = s.hC) (hv : LogAt w v l) (hlg : a.has = true → LogAt w a.log l) (hl : l.length < 2 ^ 62) :
    Calls Tryz.prog 18 #[.agg a.list.toArray, .agg (ofL s 0 v).toArray] w fun y w' => y = .returned (.bool true) ∧ Nxt w w' := by
  obtain ⟨A5, n5, k5, rfl, _⟩ := id hv
  have HV := Lib.hid hv
  have HLG := Lib.hid hlg
  obtain ⟨AL, hAL⟩ : ∃ AL, AL = a.list := ⟨_, rfl⟩
  obtain ⟨OL, hOL⟩ : ∃ OL, OL = ofL s 0 (.slice A5 n5 k5) := ⟨_, rfl⟩
  rw [← hAL, ← hOL]
  have HAL := Lib.hid hAL
  have HOL := Lib.hid hOL
  clear hv hlg hAL hOL
  have hb1 := (Blk.new w 48 AL.toArray).alloc (.cells OL.toArray 51)
  have hb2 : Blk ((w.alloc (.cells AL.toArray 48)).alloc (.cells OL.toArray 51)) (w.heap.size + 1) 51 OL.toArray := Blk.newAt (by simp)
  have hX : Chg [] w ((w.alloc (.cells AL.toArray 48)).alloc (.cells OL.toArray 51)) := ((Chg.refl _ _).alloc _).alloc _
  go_enter Tryz.func18, Tryz.ntmps18
  go_upto_region 1 with fail
  obtain ⟨b, hb⟩ : ∃ b, b = w.heap.size := ⟨_, rfl⟩
  rw [← hb] at hb1 hb2 ⊢
  generalize (w.alloc (.cells AL.toArray 48)).alloc (.cells OL.toArray 51) = X at hb1 hb2 hX ⊢
  rw [HAL.out] at hb1
  rw [HOL.out] at hb2
  have c2 : X.cell? ⟨b, 2, none⟩ = some (.int .i64 0) := (hb1.cell 2).trans (by rw [← hr]; rfl)
  have c3 : X.cell? ⟨b, 3, none⟩ = some (.int .u64 0) := (hb1.cell 3).trans (by rw [← hle]; rfl)
  have c4 : X.cell? ⟨b, 4, none⟩ = some (.int .u64 s.hT) := (hb1.cell 4).trans (by rw [← h1]; rfl)
  have c5 : X.cell? ⟨b, 5, none⟩ = some (.int .u64 s.hV) := (hb1.cell 5).trans (by rw [← h2]; rfl)
  have c6 : X.cell? ⟨b, 6, none⟩ = some (.int .u64 s.hC) := (hb1.cell 6).trans (by rw [← h3]; rfl)
  have c14 : X.cell? ⟨b, 14, none⟩ = some (.bool a.has) := hb1.cell 14
  have c32 : X.cell? ⟨b, 32, none⟩ = some a.log := hb1.cell 32
  have o1 : X.cell? ⟨b + 1, 1, none⟩ = some (.int .u64 0) := hb2.cell 1
  have o2 : X.cell? ⟨b + 1, 2, none⟩ = some (.int .u64 s.hT) := hb2.cell 2
  have o3 : X.cell? ⟨b + 1, 3, none⟩ = some (.int .u64 s.hV) := hb2.cell 3
  have o4 : X.cell? ⟨b + 1, 4, none⟩ = some (.int .u64 s.hC) := hb2.cell 4
  have o13 : X.cell? ⟨b + 1, 13, none⟩ = some (.slice A5 n5 k5) := hb2.cell 13
  have HX := Lib.hid hX
  clear hb hb1 hb2 hX hr hle h1 h2 h3
  obtain ⟨hs, hhs⟩ : ∃ hs, hs = a.has := ⟨_, rfl⟩
  rw [← hhs] at c14
  have HHS := Lib.hid hhs
  clear hhs
  cases hs
  · clear c32
    go_wp2
    go_ret
    exact ⟨rfl, ⟨HX.out⟩⟩
  · have hlg := (HLG.out HHS.out.symm).nxt0 HX.out
    obtain ⟨A6, n6, k6, e6, _⟩ := id hlg
    rw [e6] at c32 hlg
    have HS := Lib.hid (same_yes hlg (HV.out.nxt0 HX.out) hl)
    clear hlg e6
    go_wp2_with (first | (go_at_call 20; (with_reducible refine Calls.mono HS.out ?_); rintro e w1 ⟨rfl, hn1⟩; have HN1 := Lib.hid hn1; clear hn1))
    go_ret
    exact ⟨rfl, ⟨HX.out.trans HN1.out.out⟩⟩
end Go.Proofs.YtalhhplphlobbaaGreat
