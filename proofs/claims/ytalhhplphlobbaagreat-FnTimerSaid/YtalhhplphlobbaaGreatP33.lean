/- guarded: a function is called, and a panic is told. Conditions: it does not panic. do, where the call is to be ready. Conditions: the contract of ready. The two closures of Node. Conditions: the contracts of begin, do and said. A node's script, one call after the other: what is asked of a call. Conditions: none. Messages of the package in memory: words and getters. Conditions: none. -/
import Derived.Tactics
import Derived.Tactics2
import Derived.Defers
import Derived.Recover
import Derived.Laws.Pointers
import Derived.Laws.EntriesVeiled
import Derived.StillTailTactics
import Derived.Test.YtalhhplphlobbaaGreatP01
import Derived.Test.YtalhhplphlobbaaGreatP02
import Derived.Test.YtalhhplphlobbaaGreatP31
import Derived.Test.YtalhhplphlobbaaGreatP32
set_option linter.unusedVariables false
set_option linter.unusedSimpArgs false
namespace Go.Proofs.YtalhhplphlobbaaGreat
open Go.RowKit
theorem setCell_same {w : World} {b o : Nat} {v : Value} (h : w.cell? ⟨b, o, none⟩ = some v) : w.setCell ⟨b, o, none⟩ v = w := by
  unfold World.setCell
  have hh : (w.heap.modify b fun
      | .cells c elem frozen => .cells (if (⟨b, o, none⟩ : Addr).spot.isSome then c else c.setIfInBounds o v) elem frozen
      | o => o) = w.heap := by
    apply Array.ext_getElem?
    intro i
    rw [Array.getElem?_modify]
    split
    · rename_i hbi
      subst hbi
      unfold World.cell? at h
      cases hx : w.heap[b]? with
      | none => rfl
      | some x =>
        rw [hx] at h
        cases x with
        | cells c elem fr =>
          simp only [Option.isSome_none, Bool.false_eq_true, if_false, Option.map_some] at h ⊢
          congr 2
          apply Array.ext_getElem?
          intro j
          rw [Array.getElem?_setIfInBounds]
          split
          · rename_i hj
            subst hj
            split
            · exact h.symm
            · rename_i hlt
              rw [Array.getElem?_eq_none (by omega)]
          · rfl
        | _ => rfl
    · rfl
  obtain ⟨heap, tape, drawn, os, output⟩ := w
  exact congrArg (fun h => ({ heap := h, tape := tape, drawn := drawn, os := os, output := output } : World)) hh
theorem catch_idle (p : Addr) (x : Value) (w : World) (hc : w.cell? p = some x) (hz : w.frozen? p = false) :
    CallsD Tryz.prog 95 #[.pointer (some p)] .returning w fun e u' w' => e = .returned (.tuple #[]) ∧ u' = .returning ∧ w' = w.setCell p (.bool false) := by
  refine callsD_of_wpS Tryz.func95 rfl fun c₀ cs hu => ?_
  apply wpS_region
  simp [wpOpsS, go_sem, recoverD, hu, Tryz.ntmps95, Exit.thenS, hc, hz]
  cases c₀
  simp_all [bodyPostS, results, Tryz.results95]
set_option maxRecDepth 100000 in
set_option maxHeartbeats 400000 in
theorem guarded_62 {caps : Array Value} {w : World} {R : World → Prop} (h : Calls Tryz.prog 62 caps (w.alloc (.cells #[.bool false] 4)) fun y w' => y = .returned (.tuple #[]) ∧ Blk w' w.heap.size 4 #[.bool false] ∧ R w') :
    Calls Tryz.prog 61 #[.func (.func 62) #[] caps] w fun y w' => y = .returned (.bool false) ∧ R w' := by
  have hmf : ∀ (fn : Fn) (first cap : Array Value) (w : World), (Instr.makeFunc fn first cap).run Tryz.prog w = .ok (.func fn first cap) w := fun _ _ _ _ => rfl
  have H := Lib.hid h
  clear h
  go_enter_defers Tryz.func61, Tryz.ntmps61
  go_wp2_with (first | (go_at_call 62; (with_reducible refine Calls.mono H.out ?_); rintro e w1 ⟨rfl, hb, hr⟩; have k0 := hb.cell 0; simp at k0; have kf := hb.frozen 0))
  have kl := hb.lt
  have HR := Lib.hid hr
  refine leaves_cons (f := 95) (args := #[.pointer (some ⟨w.heap.size, 0, none⟩)]) (by simp) (by simp [go_sem]) ?_
  refine (catch_idle ⟨w.heap.size, 0, none⟩ (.bool false) _ (by simp [go_sem, k0, kl]) (by simp [go_sem, kf])).mono ?_
  rintro e u' w'' ⟨rfl, rfl, rfl⟩
  simp [Leaves, settle, results, Tryz.results61, go_sem, k0, kl]
  rw [setCell_same k0, setCell_same k0]
  exact HR.out
set_option maxRecDepth 100000 in
set_option maxHeartbeats 400000 in
theorem guarded_65 {caps : Array Value} {w : World} {R : World → Prop} (h : Calls Tryz.prog 65 caps (w.alloc (.cells #[.bool false] 4)) fun y w' => y = .returned (.tuple #[]) ∧ Blk w' w.heap.size 4 #[.bool false] ∧ R w') :
    Calls Tryz.prog 61 #[.func (.func 65) #[] caps] w fun y w' => y = .returned (.bool false) ∧ R w' := by
  have hmf : ∀ (fn : Fn) (first cap : Array Value) (w : World), (Instr.makeFunc fn first cap).run Tryz.prog w = .ok (.func fn first cap) w := fun _ _ _ _ => rfl
  have H := Lib.hid h
  clear h
  go_enter_defers Tryz.func61, Tryz.ntmps61
  go_wp2_with (first | (go_at_call 65; (with_reducible refine Calls.mono H.out ?_); rintro e w1 ⟨rfl, hb, hr⟩; have k0 := hb.cell 0; simp at k0; have kf := hb.frozen 0))
  have kl := hb.lt
  have HR := Lib.hid hr
  refine leaves_cons (f := 95) (args := #[.pointer (some ⟨w.heap.size, 0, none⟩)]) (by simp) (by simp [go_sem]) ?_
  refine (catch_idle ⟨w.heap.size, 0, none⟩ (.bool false) _ (by simp [go_sem, k0, kl]) (by simp [go_sem, kf])).mono ?_
  rintro e u' w'' ⟨rfl, rfl, rfl⟩
  simp [Leaves, settle, results, Tryz.results61, go_sem, k0, kl]
  rw [setCell_same k0, setCell_same k0]
  exact HR.out
end Go.Proofs.YtalhhplphlobbaaGreat
namespace Go.Proofs.YtalhhplphlobbaaGreat
open Go.RowKit
theorem size44 : (Tryz.prog.info? 44).map (·.size) = some 28 := by kernel_rfl
set_option maxRecDepth 100000 in
set_option maxHeartbeats 4000000 in
theorem do_ready2 {w : World} {nb : Nat} {C : Array Value} {R : SaidS → World → Prop} {L : List Nat} (hc : C[0]? = some (.int .i64 5)) (hL : ∀ x ∈ L, x < w.heap.size)
    (hR : ∀ X, Nxt w X → w.heap.size + 1 < X.heap.size → Calls Tryz.prog 114 #[.pointer (some ⟨nb, 0, none⟩)] X fun y w' => ∃ A : SaidS, A.ok ∧ y = .returned (.agg A.list.toArray) ∧ R A w' ∧ Chg L X w') :
    Calls Tryz.prog 66 #[.pointer (some ⟨nb, 0, none⟩), .agg C] w fun y w' => ∃ A : SaidS, A.ok ∧ y = .returned (.agg A.list.toArray) ∧ ∃ w1, R A w1 ∧ (∃ cs, Blk w1 (w.heap.size + 1) 48 cs) ∧ Chg [w.heap.size + 1] w1 w' ∧ Chg L w w' := by
  obtain ⟨FX, hFX⟩ : ∃ FX, FX = said0.list := ⟨_, rfl⟩
  have hcell : (w.alloc (.cells C 44)).cell? ⟨w.heap.size, 0, none⟩ = some (.int .i64 5) := by rw [(Blk.new w 44 C).cell 0]; exact hc
  have HR := Lib.hid hR
  have HL := Lib.hid hL
  have HFX := Lib.hid hFX
  clear hc hR hL hFX
  go_enter Tryz.func66, Tryz.ntmps66
  go_upto_region 3 with fail
  have hb4 : Blk (((w.alloc (.cells C 44)).alloc (.cells #[.int .i64 0, .bool false, .int .i64 0, .int .u64 0, .int .u64 0, .int .u64 0, .int .u64 0, .int .u64 0, .int .u64 0, .slice none 0 0, .slice none 0 0, .slice none 0 0, .slice none 0 0, .bool false, .bool false, .bool false, .int .u64 0, .int .u64 0, .int .u64 0, .slice none 0 0, .string ⟨#[]⟩, .int .u64 0, .int .u64 0, .slice none 0 0, .slice none 0 0, .slice none 0 0, .slice none 0 0, .bool false, .slice none 0 0, .slice none 0 0, .slice none 0 0, .bool false, .slice none 0 0] 48)).alloc (.cells #[.int .i64 0, .bool false, .int .i64 0, .int .u64 0, .int .u64 0, .int .u64 0, .int .u64 0, .int .u64 0, .int .u64 0, .slice none 0 0, .slice none 0 0, .slice none 0 0, .slice none 0 0, .bool false, .bool false, .bool false, .int .u64 0, .int .u64 0, .int .u64 0, .slice none 0 0, .string ⟨#[]⟩, .int .u64 0, .int .u64 0, .slice none 0 0, .slice none 0 0, .slice none 0 0, .slice none 0 0, .bool false, .slice none 0 0, .slice none 0 0, .slice none 0 0, .bool false, .slice none 0 0] 48)) (w.heap.size + 1) 48 FX.toArray := by
    rw [HFX.out]
    exact (Blk.newAt (w := w.alloc (.cells C 44)) (by simp)).alloc _
  have hX : Nxt w (((w.alloc (.cells C 44)).alloc (.cells #[.int .i64 0, .bool false, .int .i64 0, .int .u64 0, .int .u64 0, .int .u64 0, .int .u64 0, .int .u64 0, .int .u64 0, .slice none 0 0, .slice none 0 0, .slice none 0 0, .slice none 0 0, .bool false, .bool false, .bool false, .int .u64 0, .int .u64 0, .int .u64 0, .slice none 0 0, .string ⟨#[]⟩, .int .u64 0, .int .u64 0, .slice none 0 0, .slice none 0 0, .slice none 0 0, .slice none 0 0, .bool false, .slice none 0 0, .slice none 0 0, .slice none 0 0, .bool false, .slice none 0 0] 48)).alloc (.cells #[.int .i64 0, .bool false, .int .i64 0, .int .u64 0, .int .u64 0, .int .u64 0, .int .u64 0, .int .u64 0, .int .u64 0, .slice none 0 0, .slice none 0 0, .slice none 0 0, .slice none 0 0, .bool false, .bool false, .bool false, .int .u64 0, .int .u64 0, .int .u64 0, .slice none 0 0, .string ⟨#[]⟩, .int .u64 0, .int .u64 0, .slice none 0 0, .slice none 0 0, .slice none 0 0, .slice none 0 0, .bool false, .slice none 0 0, .slice none 0 0, .slice none 0 0, .bool false, .slice none 0 0] 48)) := ⟨(((Chg.refl _ _).alloc _).alloc _).alloc _⟩
  have hc0 := (cell_alloc (cell_alloc hcell (.cells #[.int .i64 0, .bool false, .int .i64 0, .int .u64 0, .int .u64 0, .int .u64 0, .int .u64 0, .int .u64 0, .int .u64 0, .slice none 0 0, .slice none 0 0, .slice none 0 0, .slice none 0 0, .bool false, .bool false, .bool false, .int .u64 0, .int .u64 0, .int .u64 0, .slice none 0 0, .string ⟨#[]⟩, .int .u64 0, .int .u64 0, .slice none 0 0, .slice none 0 0, .slice none 0 0, .slice none 0 0, .bool false, .slice none 0 0, .slice none 0 0, .slice none 0 0, .bool false, .slice none 0 0] 48)) (.cells #[.int .i64 0, .bool false, .int .i64 0, .int .u64 0, .int .u64 0, .int .u64 0, .int .u64 0, .int .u64 0, .int .u64 0, .slice none 0 0, .slice none 0 0, .slice none 0 0, .slice none 0 0, .bool false, .bool false, .bool false, .int .u64 0, .int .u64 0, .int .u64 0, .slice none 0 0, .string ⟨#[]⟩, .int .u64 0, .int .u64 0, .slice none 0 0, .slice none 0 0, .slice none 0 0, .slice none 0 0, .bool false, .slice none 0 0, .slice none 0 0, .slice none 0 0, .bool false, .slice none 0 0] 48))
  generalize hXe : (((w.alloc (.cells C 44)).alloc (.cells #[.int .i64 0, .bool false, .int .i64 0, .int .u64 0, .int .u64 0, .int .u64 0, .int .u64 0, .int .u64 0, .int .u64 0, .slice none 0 0, .slice none 0 0, .slice none 0 0, .slice none 0 0, .bool false, .bool false, .bool false, .int .u64 0, .int .u64 0, .int .u64 0, .slice none 0 0, .string ⟨#[]⟩, .int .u64 0, .int .u64 0, .slice none 0 0, .slice none 0 0, .slice none 0 0, .slice none 0 0, .bool false, .slice none 0 0, .slice none 0 0, .slice none 0 0, .bool false, .slice none 0 0] 48)).alloc (.cells #[.int .i64 0, .bool false, .int .i64 0, .int .u64 0, .int .u64 0, .int .u64 0, .int .u64 0, .int .u64 0, .int .u64 0, .slice none 0 0, .slice none 0 0, .slice none 0 0, .slice none 0 0, .bool false, .bool false, .bool false, .int .u64 0, .int .u64 0, .int .u64 0, .slice none 0 0, .string ⟨#[]⟩, .int .u64 0, .int .u64 0, .slice none 0 0, .slice none 0 0, .slice none 0 0, .slice none 0 0, .bool false, .slice none 0 0, .slice none 0 0, .slice none 0 0, .bool false, .slice none 0 0] 48)) = X at hb4 hX hc0 ⊢
  clear hXe hcell
  have hz := hb4.lt
  have HX := Lib.hid hX
  have HB4 := Lib.hid hb4
  clear hX hb4
  go_wp2_with (first | (go_at_call 114; (with_reducible refine Calls.mono (HR.out _ HX.out hz) ?_); rintro e1 w1 ⟨A, hok, rfl, hr, hc1⟩; have HRA := Lib.hid hr; have HC1 := Lib.hid hc1; obtain ⟨FY, hFY⟩ : ∃ FY, FY = A.list := ⟨_, rfl⟩; rw [← hFY]; have HOK := Lib.hid hok; have HFY := Lib.hid hFY; have HZA := Lib.hid (show (Tryz.prog.info? 48).map (·.size) = some FY.toArray.size by rw [hFY]; exact size48.trans rfl); have HONE := Lib.hid (show FY.toArray.all (·.oneCell') = true by rw [hFY]; exact all_oneCell_toArray hok); clear hFY hr hc1 hok) | (refine wpList_store_mid rfl 48 _ _ rfl (w.heap.size + 1) 0 FY.toArray rfl rfl ?_ HZA.out HONE.out ?_))
  · exact st48 (FX := FY) (FY := FX) (ty := 48) (HB4.out.chg HC1.out (fun hx => by have := HL.out _ hx; omega)) (by rw [HFX.out, HFY.out]; rfl)
  · have hbF := bs48 (HB4.out.chg HC1.out (fun hx => by have := HL.out _ hx; omega)) (FX := FY) (FY := FX) (by rw [HFX.out, HFY.out]; rfl)
    have hcF := chg_setCells (w.heap.size + 1) FY 0 w1
    refine bodyPost_ret (results_cell_row rfl _ _ (w.heap.size + 1) 48 FY.toArray (0, 0) _ (by rfl) hbF Tryz.underlying48 rfl HZA.out) rfl ⟨A, HOK.out, by rw [HFY.out], w1, HRA.out, ⟨_, HB4.out.chg HC1.out (fun hx => by have := HL.out _ hx; omega)⟩, hcF, ?_⟩
    exact ((HX.out.out.mono (by simp)).trans HC1.out).then hcF (by simp; omega)
theorem do_ready {w : World} {nb : Nat} {C : Array Value} {R : SaidS → World → Prop} {L : List Nat} (hc : C[0]? = some (.int .i64 5)) (hL : ∀ x ∈ L, x < w.heap.size)
    (hR : ∀ X, Nxt w X → w.heap.size + 1 < X.heap.size → Calls Tryz.prog 114 #[.pointer (some ⟨nb, 0, none⟩)] X fun y w' => ∃ A : SaidS, A.ok ∧ y = .returned (.agg A.list.toArray) ∧ R A w' ∧ Chg L X w') :
    Calls Tryz.prog 66 #[.pointer (some ⟨nb, 0, none⟩), .agg C] w fun y w' => ∃ A : SaidS, A.ok ∧ y = .returned (.agg A.list.toArray) ∧ ∃ w1, R A w1 ∧ Chg [w.heap.size + 1] w1 w' ∧ Chg L w w' := by
  refine (do_ready2 hc hL hR).mono ?_
  rintro y w' ⟨A, hok, rfl, w1, hr, _, hc1, hc2⟩
  exact ⟨A, hok, rfl, w1, hr, hc1, hc2⟩
end Go.Proofs.YtalhhplphlobbaaGreat
namespace Go.Proofs.YtalhhplphlobbaaGreat
open Go.RowKit
set_option maxRecDepth 100000 in
set_option maxHeartbeats 1000000 in
theorem node1_any {w : World} {c6 nb : Nat} {R : World → Prop} (hc : w.cell? ⟨c6, 0, none⟩ = some (.pointer (some ⟨nb, 0, none⟩)))
    (hB : ∀ X, Nxt w X → Calls Tryz.prog 63 #[.pointer (some ⟨nb, 0, none⟩)] X fun y w' => y = .returned (.bool false) ∧ R w' ∧ w'.cell? ⟨nb, 26, none⟩ = some (.bool false) ∧ (∀ i, w'.frozen? ⟨nb, i, none⟩ = false) ∧ w'.cell? ⟨c6, 0, none⟩ = some (.pointer (some ⟨nb, 0, none⟩))) :
    Calls Tryz.prog 62 #[.pointer (some ⟨c6, 0, none⟩)] w fun y w' => y = .returned (.tuple #[]) ∧ R w' := by
  have HB := Lib.hid (hB w.drew ⟨(Chg.refl _ _).drew⟩)
  clear hB
  go_enter Tryz.func62, Tryz.ntmps62
  go_region_held3 (fun wx => wx.cell? ⟨c6, 0, none⟩ = some (.pointer (some ⟨nb, 0, none⟩))) (first | with_reducible assumption | (simp [go_sem, *]; done))
    (first | (go_at_call 63; (with_reducible refine Calls.mono HB.out ?_); rintro e1 w1 ⟨rfl, hr, k26, kf, k6⟩; have HR := Lib.hid hr; have nl : nb < w1.heap.size := World.block_lt_of_cell? w1 _ k26; have hq := setCell_same k26; have HQ := Lib.hid hq; clear hr hq))
  rw [HQ.out]
  go_end0
  exact ⟨rfl, HR.out⟩
theorem rng_blk {w : World} {b t : Nat} {CL : List Value} (h : Blk w b t CL.toArray) : w.rangeAt b 0 CL := ld48 h
theorem there_blk {w : World} {b t : Nat} {CL : List Value} (h : Blk w b t CL.toArray) : w.there b 0 CL.length := fun j hj => st48 (FX := CL) (FY := CL) h rfl j (by simpa using hj)
theorem rng_chg {w w' : World} {L : List Nat} {b : Nat} {CL : List Value} (h : w.rangeAt b 0 CL) (hc : Chg L w w') (hb : b ∉ L) : w'.rangeAt b 0 CL := fun j v hj => hc.at_ (h j v hj) hb
theorem there_chg {w w' : World} {L : List Nat} {b n : Nat} (h : w.there b 0 n) (hc : Chg L w w') (hb : b ∉ L) : w'.there b 0 n := fun j hj => by
  obtain ⟨h1, h2⟩ := h j hj
  obtain ⟨v, hv⟩ := Option.isSome_iff_exists.1 h1
  have hl := World.block_lt_of_cell? w _ hv
  exact ⟨by rw [hc.at_ hv hb]; rfl, (hc.frozen (p := ⟨b, 0 + j, none⟩) hl hb).trans h2⟩
/-- What Node's second closure reads and writes. -/
structure N2S (c6 nb c8 c9 : Nat) (CL : List Value) (w : World) : Prop where
  k6 : w.cell? ⟨c6, 0, none⟩ = some (.pointer (some ⟨nb, 0, none⟩))
  k8 : w.rangeAt c8 0 CL
  k9 : w.there c9 0 33
theorem N2S.chg {c6 nb c8 c9 : Nat} {CL : List Value} {w w' : World} {L : List Nat} (h : N2S c6 nb c8 c9 CL w) (hc : Chg L w w') (m6 : c6 ∉ L) (m8 : c8 ∉ L) (m9 : c9 ∉ L) : N2S c6 nb c8 c9 CL w' :=
  ⟨hc.at_ h.k6 m6, rng_chg h.k8 hc m8, there_chg h.k9 hc m9⟩
set_option maxRecDepth 100000 in
set_option maxHeartbeats 8000000 in
theorem node2_any {w : World} {c6 c8 c9 nb : Nat} {CL : List Value} {R1 R2 : SaidS → World → Prop} {L : List Nat} (h0 : N2S c6 nb c8 c9 CL w) (hl : CL.length = 28)
    (m6 : c6 ∉ L) (m8 : c8 ∉ L) (m9 : c9 ∉ L) (n69 : c6 ≠ c9) (n89 : c8 ≠ c9)
    (hD : ∀ X, Nxt w X → Calls Tryz.prog 66 #[.pointer (some ⟨nb, 0, none⟩), .agg CL.toArray] X fun y w' => ∃ A : SaidS, A.ok ∧ y = .returned (.agg A.list.toArray) ∧ R1 A w' ∧ Chg L X w')
    (hS : ∀ A w1, A.ok → R1 A w1 → Calls Tryz.prog 64 #[.pointer (some ⟨nb, 0, none⟩), .agg A.list.toArray] w1 fun y w' => ∃ A' : SaidS, A'.ok ∧ y = .returned (.agg A'.list.toArray) ∧ R2 A' w' ∧ Chg L w1 w') :
    Calls Tryz.prog 65 #[.pointer (some ⟨c6, 0, none⟩), .pointer (some ⟨c8, 0, none⟩), .pointer (some ⟨c9, 0, none⟩)] w fun y w' => y = .returned (.tuple #[]) ∧ ∃ A w2, A.ok ∧ R2 A w2 ∧ Chg L w w2 ∧ w' = w2.setCells c9 0 A.list := by
  have hd : N2S c6 nb c8 c9 CL w.drew := h0.chg (L := []) ((Chg.refl _ _).drew) (by simp) (by simp) (by simp)
  have HD := Lib.hid (hD w.drew ⟨(Chg.refl _ _).drew⟩)
  have HS := Lib.hid hS
  have HI := Lib.hid (show (Tryz.prog.info? 44).map (·.size) = some CL.length by rw [hl]; exact size44)
  clear hD hS hl
  go_enter Tryz.func65, Tryz.ntmps65
  refine wp_region_held_drew (S := N2S c6 nb c8 c9 CL) (by kernel_rfl) hd (fun hHeld => ?_)
  refine wpAnyH_take (i := 0) (v := .pointer (some ⟨nb, 0, none⟩)) rfl (by kernel_rfl) (by kernel_rfl) (by kernel_rfl) (fun _ _ _ h => h) (Or.inl ⟨by rfl, fun w hw => ?_⟩) hHeld ?_
  · have := hw.k6
    go_simp
  simp only [Act.put, List.setIfInBounds_toArray, List.set_cons_zero, List.set_cons_succ]
  refine wpAnyH_take (i := 1) (v := .pointer (some ⟨nb, 0, none⟩)) rfl (by kernel_rfl) (by kernel_rfl) (by kernel_rfl) (fun _ _ _ h => h) (Or.inl ⟨by rfl, fun w hw => ?_⟩) hHeld ?_
  · have := hw.k6
    go_simp
  simp only [Act.put, List.setIfInBounds_toArray, List.set_cons_zero, List.set_cons_succ]
  refine wpAnyH_take (i := 2) (v := .agg CL.toArray) rfl (by kernel_rfl) (by kernel_rfl) (by kernel_rfl) (fun _ _ _ h => h) (yieldsIf_load_mid (by rfl) 44 _ rfl c8 0 rfl CL _ (fun w hw => hw.k8) Tryz.underlying44 rfl HI.out) hHeld ?_
  simp only [Act.put, List.setIfInBounds_toArray, List.set_cons_zero, List.set_cons_succ]
  refine wpAnyH_ready (rs := [3]) (by kernel_rfl) (by simp) ?_
  refine AllReadyH.cons rfl (fun K hK => ?_) AllReadyH.nil
  go_simp
  go_at_call 66
  with_reducible refine Calls.mono HD.out ?_
  rintro y1 w1 ⟨A, hok, rfl, hr1, hc1⟩
  have h1 := hd.chg hc1 m6 m8 m9
  go_wp2_with fail
  refine hK.out _ _ h1 (fun hHeld => ?_)
  clear hK K
  (try simp only [Act.put, List.setIfInBounds_toArray, List.set_cons_zero, List.set_cons_succ])
  refine wpAnyH_ready (rs := [4]) (by kernel_rfl) (by simp) ?_
  refine AllReadyH.cons rfl (fun K hK => ?_) AllReadyH.nil
  go_simp
  go_at_call 64
  with_reducible refine Calls.mono (HS.out _ _ hok hr1) ?_
  rintro y2 w2 ⟨A2, hok2, rfl, hr2, hc2⟩
  have h2 := h1.chg hc2 m6 m8 m9
  go_wp2_with fail
  refine hK.out _ _ h2 (fun hHeld => ?_)
  clear hK K
  (try simp only [Act.put, List.setIfInBounds_toArray, List.set_cons_zero, List.set_cons_succ])
  refine wpAnyH_ready (rs := [5]) (by kernel_rfl) (by simp) ?_
  refine AllReadyH.cons rfl (fun K hK => ?_) AllReadyH.nil
  rw [if_pos (by rfl)]
  refine wp_store_mid 48 _ _ rfl c9 0 A2.list.toArray rfl rfl (by rw [List.size_toArray, A2.len]; exact h2.k9) (size48.trans rfl) (all_oneCell_toArray hok2) ?_
  have hcF := chg_setCells c9 A2.list 0 w2
  refine hK.out _ _ ⟨hcF.at_ h2.k6 (by simpa using n69), rng_chg h2.k8 hcF (by simpa using n89), World.there_setCells h2.k9 c9 0 A2.list⟩ (fun hHeld => ?_)
  refine wpAnyH_done (by kernel_rfl) ?_ _
  go_end0
  exact ⟨rfl, A2, w2, hok2, hr2, (((Chg.refl _ _).drew).trans hc1).trans hc2, rfl⟩
end Go.Proofs.YtalhhplphlobbaaGreat
namespace Go.Proofs.YtalhhplphlobbaaGreat
open Go.RowKit
/-- What is asked of a script: As the answers so far, M all blocks that may turn, O those of them that a call itself may turn. -/
structure Script (n nb : Nat) (CL : Nat → List Value) (St : List SaidS → List Nat → List Nat → World → Prop) : Prop where
  mono : ∀ {As : List SaidS} {M M' O Lx : List Nat} {w w' : World}, St As M O w → Chg Lx w w' → (∀ x ∈ Lx, x ∈ M ∧ x ∉ O) → (∀ x ∈ Lx, ∃ cs, Blk w x 48 cs) → (∀ x ∈ M, x ∈ M') → (∀ x ∈ M', x ∈ M ∨ w.heap.size ≤ x ∧ x < w'.heap.size) → St As M' O w'
  osub : ∀ {As : List SaidS} {M O : List Nat} {w : World}, St As M O w → ∀ x ∈ O, x ∈ M
  lt : ∀ {As : List SaidS} {M O : List Nat} {w : World}, St As M O w → ∀ x ∈ M, x < w.heap.size
  step : ∀ {As : List SaidS} {M O : List Nat} {w : World} {i : Nat}, St As M O w → As.length = i + 1 → i < n →
    Calls Tryz.prog 66 #[.pointer (some ⟨nb, 0, none⟩), .agg (CL i).toArray] w fun y w1 => ∃ A : SaidS, A.ok ∧ y = .returned (.agg A.list.toArray) ∧ Chg O w w1 ∧
      Calls Tryz.prog 64 #[.pointer (some ⟨nb, 0, none⟩), .agg A.list.toArray] w1 fun y w2 => ∃ A' : SaidS, A'.ok ∧ y = .returned (.agg A'.list.toArray) ∧ Chg O w1 w2 ∧ ∃ M' O', St (As ++ [A']) M' O' w2 ∧ (∀ x ∈ M, x ∈ M') ∧ ∀ x ∈ O', x ∈ O ∨ w.heap.size ≤ x
section
variable {n nb : Nat} {CL : Nat → List Value} {St : List SaidS → List Nat → List Nat → World → Prop}
theorem Script.nxt (h : Script n nb CL St) {As : List SaidS} {M O : List Nat} {w w' : World} (hs : St As M O w) (hc : Chg [] w w') : St As M O w' := h.mono hs hc (by simp) (by simp) (fun _ h => h) (fun _ h => .inl h)
theorem guardStep (h : Script n nb CL St) {As : List SaidS} {M O : List Nat} {Y : World} {i t6 c8 c9 : Nat} (hs : St As M O Y) (hl : As.length = i + 1) (hi : i < n) (h6 : Y.cell? ⟨t6, 0, none⟩ = some (.pointer (some ⟨nb, 0, none⟩))) (h8 : Y.rangeAt c8 0 (CL i)) (h9 : Y.there c9 0 33) (hll : (CL i).length = 28)
    (m6 : t6 ∉ O) (m8 : c8 ∉ O) (m9 : c9 ∉ O) (n69 : t6 ≠ c9) (n89 : c8 ≠ c9) (l9 : c9 < Y.heap.size) :
    Calls Tryz.prog 61 #[.func (.func 65) #[] #[.pointer (some ⟨t6, 0, none⟩), .pointer (some ⟨c8, 0, none⟩), .pointer (some ⟨c9, 0, none⟩)]] Y fun y w' => y = .returned (.bool false) ∧ ∃ A w2, SaidS.ok A ∧ (∃ M' O', St (As ++ [A]) M' O' w2 ∧ (∀ x ∈ M, x ∈ M') ∧ ∀ x ∈ O', x ∈ O ∨ Y.heap.size ≤ x) ∧ Chg O Y w2 ∧ w' = w2.setCells c9 0 A.list := by
  have hb := Blk.new Y 4 #[.bool false]
  have hX2 : Nxt Y (Y.alloc (.cells #[.bool false] 4)) := ⟨(Chg.refl _ _).alloc _⟩
  have hOl : ∀ x ∈ O, x < Y.heap.size := fun x hx => h.lt hs x (h.osub hs x hx)
  refine guarded_65 ?_
  have hN2 : N2S t6 nb c8 c9 (CL i) (Y.alloc (.cells #[.bool false] 4)) := N2S.chg (L := []) ⟨h6, h8, h9⟩ hX2.out (by simp) (by simp) (by simp)
  refine (node2_any (L := O) (R1 := fun A w1 => Calls Tryz.prog 64 #[.pointer (some ⟨nb, 0, none⟩), .agg A.list.toArray] w1 fun y w2 => ∃ A' : SaidS, A'.ok ∧ y = .returned (.agg A'.list.toArray) ∧ (∃ M' O', St (As ++ [A']) M' O' w2 ∧ (∀ x ∈ M, x ∈ M') ∧ ∀ x ∈ O', x ∈ O ∨ Y.heap.size ≤ x) ∧ Chg O w1 w2)
    (R2 := fun A w2 => ∃ M' O', St (As ++ [A]) M' O' w2 ∧ (∀ x ∈ M, x ∈ M') ∧ ∀ x ∈ O', x ∈ O ∨ Y.heap.size ≤ x) hN2 hll m6 m8 m9 n69 n89 ?_ ?_).mono ?_
  · intro X hX
    have hYX := hX2.out.trans hX.out
    refine (h.step (h.nxt hs hYX) hl hi).mono ?_
    rintro y w1 ⟨A, hok, rfl, hc, hS⟩
    refine ⟨A, hok, rfl, hS.mono ?_, hc⟩
    rintro y w2 ⟨A', hok', rfl, hc2, M', O', hst, hm, ho⟩
    exact ⟨A', hok', rfl, ⟨M', O', hst, hm, fun x hx => (ho x hx).imp (fun h => h) (fun h => Nat.le_trans hYX.size h)⟩, hc2⟩
  · intro A w1 _ hS
    exact hS
  · rintro y w' ⟨rfl, A, w2, hok, hd, hc2, rfl⟩
    refine ⟨rfl, ?_, A, w2, hok, hd, (hX2.out.mono (by simp)).trans hc2, rfl⟩
    exact (hb.chg hc2 (fun hx => Nat.lt_irrefl _ (hOl _ hx))).chg (chg_setCells c9 A.list 0 w2) (by simp; omega)
end
end Go.Proofs.YtalhhplphlobbaaGreat
namespace Go.Proofs.YtalhhplphlobbaaGreat
open Go.RowKit
/-- A pointer to a number; nil stands for 0. -/
def PtrU (M : List Nat) (w : World) (v : Value) (n : Int) : Prop := (v = .pointer none ∧ n = 0) ∨ Ptr1 M w v (.int .u64 n)
def PtrI (M : List Nat) (w : World) (v : Value) (n : Int) : Prop := (v = .pointer none ∧ n = 0) ∨ Ptr1 M w v (.int .i32 n)
def PtrB (M : List Nat) (w : World) (v : Value) (b : Bool) : Prop := (v = .pointer none ∧ b = false) ∨ Ptr1 M w v (.bool b)
section
variable {M M' L : List Nat} {w w' : World} {v : Value} {n : Int} {b : Bool}
theorem PtrU.chg (h : PtrU M w v n) (hc : Chg L w w') (hL : ∀ x ∈ L, x ∈ M) : PtrU M w' v n := h.imp id fun h => h.chg hc hL
theorem PtrI.chg (h : PtrI M w v n) (hc : Chg L w w') (hL : ∀ x ∈ L, x ∈ M) : PtrI M w' v n := h.imp id fun h => h.chg hc hL
theorem PtrB.chg (h : PtrB M w v b) (hc : Chg L w w') (hL : ∀ x ∈ L, x ∈ M) : PtrB M w' v b := h.imp id fun h => h.chg hc hL
theorem PtrU.more (h : PtrU M w v n) (hM : ∀ x ∈ M', x ∈ M ∨ w.heap.size ≤ x) : PtrU M' w v n := h.imp id fun h => h.more hM
theorem PtrI.more (h : PtrI M w v n) (hM : ∀ x ∈ M', x ∈ M ∨ w.heap.size ≤ x) : PtrI M' w v n := h.imp id fun h => h.more hM
theorem PtrB.more (h : PtrB M w v b) (hM : ∀ x ∈ M', x ∈ M ∨ w.heap.size ≤ x) : PtrB M' w v b := h.imp id fun h => h.more hM
theorem PtrU.nil : PtrU M w (.pointer none) 0 := .inl ⟨rfl, rfl⟩
theorem PtrI.nil : PtrI M w (.pointer none) 0 := .inl ⟨rfl, rfl⟩
theorem PtrB.nil : PtrB M w (.pointer none) false := .inl ⟨rfl, rfl⟩
end
/-- The fields of a message. -/
structure MsgS where
  ty : Int
  dst : Int
  fr : Int
  te : Int
  lt : Int
  ix : Int
  en : Value
  co : Int
  vo : Int
  sn : Value
  rj : Bool
  rh : Int
  cx : Value
  rs : Value
/-- A message in memory: its block; what its fields lead to lies outside M. -/
def MsgAt (M : List Nat) (w : World) (g : Nat) (m : MsgS) : Prop :=
  ∃ p0 p1 p2 p3 p4 p5 p7 p8 p10 p11, Blk w g 301 #[p0, p1, p2, p3, p4, p5, m.en, p7, p8, m.sn, p10, p11, m.cx, m.rs] ∧ PtrI M w p0 m.ty ∧ PtrU M w p1 m.dst ∧ PtrU M w p2 m.fr ∧ PtrU M w p3 m.te ∧ PtrU M w p4 m.lt ∧
    PtrU M w p5 m.ix ∧ PtrU M w p7 m.co ∧ PtrU M w p8 m.vo ∧ PtrB M w p10 m.rj ∧ PtrU M w p11 m.rh
section
variable {M M' L : List Nat} {w w' : World} {g : Nat} {m : MsgS}
theorem MsgAt.lt (h : MsgAt M w g m) : g < w.heap.size := by
  obtain ⟨_, _, _, _, _, _, _, _, _, _, hb, _⟩ := h
  exact hb.lt
theorem MsgAt.chg (h : MsgAt M w g m) (hc : Chg L w w') (hL : ∀ x ∈ L, x ∈ M) (hg : g ∉ L) : MsgAt M w' g m := by
  obtain ⟨p0, p1, p2, p3, p4, p5, p7, p8, p10, p11, hb, h0, h1, h2, h3, h4, h5, h7, h8, h10, h11⟩ := h
  exact ⟨p0, p1, p2, p3, p4, p5, p7, p8, p10, p11, hb.chg hc hg, h0.chg hc hL, h1.chg hc hL, h2.chg hc hL, h3.chg hc hL, h4.chg hc hL, h5.chg hc hL, h7.chg hc hL, h8.chg hc hL, h10.chg hc hL, h11.chg hc hL⟩
theorem MsgAt.more (h : MsgAt M w g m) (hM : ∀ x ∈ M', x ∈ M ∨ w.heap.size ≤ x) : MsgAt M' w g m := by
  obtain ⟨p0, p1, p2, p3, p4, p5, p7, p8, p10, p11, hb, h0, h1, h2, h3, h4, h5, h7, h8, h10, h11⟩ := h
  exact ⟨p0, p1, p2, p3, p4, p5, p7, p8, p10, p11, hb, h0.more hM, h1.more hM, h2.more hM, h3.more hM, h4.more hM, h5.more hM, h7.more hM, h8.more hM, h10.more hM, h11.more hM⟩
theorem MsgAt.nxt (h : MsgAt M w g m) (hn : Nxt w w') : MsgAt M w' g m := h.chg hn.out (by simp) (by simp)

set_option maxRecDepth 100000 in
set_option maxHeartbeats 400000 in
theorem mType_any (h : MsgAt M w g m) : Calls Tryz.prog 170 #[.pointer (some ⟨g, 0, none⟩)] w fun y w' => y = .returned (.int .i32 m.ty) ∧ w = w' := by
  obtain ⟨p0, p1, p2, p3, p4, p5, p7, p8, p10, p11, hb, hp, _, _, _, _, _, _, _, _, _⟩ := h
  have k0 := hb.cell 0
  simp at k0
  clear hb
  rcases hp with ⟨rfl, e⟩ | ⟨b, o, rfl, _, _, hx⟩
  · rw [e]
    go_enter Tryz.func170, Tryz.ntmps170
    go_wp2
    go_ret
    exact ⟨rfl, rfl⟩
  · go_enter Tryz.func170, Tryz.ntmps170
    go_wp2
    go_ret
    exact ⟨rfl, rfl⟩
set_option maxRecDepth 100000 in
set_option maxHeartbeats 400000 in
theorem mTo_any (h : MsgAt M w g m) : Calls Tryz.prog 282 #[.pointer (some ⟨g, 0, none⟩)] w fun y w' => y = .returned (.int .u64 m.dst) ∧ w = w' := by
  obtain ⟨p0, p1, p2, p3, p4, p5, p7, p8, p10, p11, hb, _, hp, _, _, _, _, _, _, _, _⟩ := h
  have k0 := hb.cell 1
  simp at k0
  clear hb
  rcases hp with ⟨rfl, e⟩ | ⟨b, o, rfl, _, _, hx⟩
  · rw [e]
    go_enter Tryz.func282, Tryz.ntmps282
    go_wp2
    go_ret
    exact ⟨rfl, rfl⟩
  · go_enter Tryz.func282, Tryz.ntmps282
    go_wp2
    go_ret
    exact ⟨rfl, rfl⟩
set_option maxRecDepth 100000 in
set_option maxHeartbeats 400000 in
theorem mFrom_any (h : MsgAt M w g m) : Calls Tryz.prog 172 #[.pointer (some ⟨g, 0, none⟩)] w fun y w' => y = .returned (.int .u64 m.fr) ∧ w = w' := by
  obtain ⟨p0, p1, p2, p3, p4, p5, p7, p8, p10, p11, hb, _, _, hp, _, _, _, _, _, _, _⟩ := h
  have k0 := hb.cell 2
  simp at k0
  clear hb
  rcases hp with ⟨rfl, e⟩ | ⟨b, o, rfl, _, _, hx⟩
  · rw [e]
    go_enter Tryz.func172, Tryz.ntmps172
    go_wp2
    go_ret
    exact ⟨rfl, rfl⟩
  · go_enter Tryz.func172, Tryz.ntmps172
    go_wp2
    go_ret
    exact ⟨rfl, rfl⟩
set_option maxRecDepth 100000 in
set_option maxHeartbeats 400000 in
theorem mTerm_any (h : MsgAt M w g m) : Calls Tryz.prog 212 #[.pointer (some ⟨g, 0, none⟩)] w fun y w' => y = .returned (.int .u64 m.te) ∧ w = w' := by
  obtain ⟨p0, p1, p2, p3, p4, p5, p7, p8, p10, p11, hb, _, _, _, hp, _, _, _, _, _, _⟩ := h
  have k0 := hb.cell 3
  simp at k0
  clear hb
  rcases hp with ⟨rfl, e⟩ | ⟨b, o, rfl, _, _, hx⟩
  · rw [e]
    go_enter Tryz.func212, Tryz.ntmps212
    go_wp2
    go_ret
    exact ⟨rfl, rfl⟩
  · go_enter Tryz.func212, Tryz.ntmps212
    go_wp2
    go_ret
    exact ⟨rfl, rfl⟩
set_option maxRecDepth 100000 in
set_option maxHeartbeats 400000 in
theorem mLogTerm_any (h : MsgAt M w g m) : Calls Tryz.prog 223 #[.pointer (some ⟨g, 0, none⟩)] w fun y w' => y = .returned (.int .u64 m.lt) ∧ w = w' := by
  obtain ⟨p0, p1, p2, p3, p4, p5, p7, p8, p10, p11, hb, _, _, _, _, hp, _, _, _, _, _⟩ := h
  have k0 := hb.cell 4
  simp at k0
  clear hb
  rcases hp with ⟨rfl, e⟩ | ⟨b, o, rfl, _, _, hx⟩
  · rw [e]
    go_enter Tryz.func223, Tryz.ntmps223
    go_wp2
    go_ret
    exact ⟨rfl, rfl⟩
  · go_enter Tryz.func223, Tryz.ntmps223
    go_wp2
    go_ret
    exact ⟨rfl, rfl⟩
set_option maxRecDepth 100000 in
set_option maxHeartbeats 400000 in
theorem mIndex_any (h : MsgAt M w g m) : Calls Tryz.prog 218 #[.pointer (some ⟨g, 0, none⟩)] w fun y w' => y = .returned (.int .u64 m.ix) ∧ w = w' := by
  obtain ⟨p0, p1, p2, p3, p4, p5, p7, p8, p10, p11, hb, _, _, _, _, _, hp, _, _, _, _⟩ := h
  have k0 := hb.cell 5
  simp at k0
  clear hb
  rcases hp with ⟨rfl, e⟩ | ⟨b, o, rfl, _, _, hx⟩
  · rw [e]
    go_enter Tryz.func218, Tryz.ntmps218
    go_wp2
    go_ret
    exact ⟨rfl, rfl⟩
  · go_enter Tryz.func218, Tryz.ntmps218
    go_wp2
    go_ret
    exact ⟨rfl, rfl⟩
set_option maxRecDepth 100000 in
set_option maxHeartbeats 400000 in
theorem mCommit_any (h : MsgAt M w g m) : Calls Tryz.prog 307 #[.pointer (some ⟨g, 0, none⟩)] w fun y w' => y = .returned (.int .u64 m.co) ∧ w = w' := by
  obtain ⟨p0, p1, p2, p3, p4, p5, p7, p8, p10, p11, hb, _, _, _, _, _, _, hp, _, _, _⟩ := h
  have k0 := hb.cell 7
  simp at k0
  clear hb
  rcases hp with ⟨rfl, e⟩ | ⟨b, o, rfl, _, _, hx⟩
  · rw [e]
    go_enter Tryz.func307, Tryz.ntmps307
    go_wp2
    go_ret
    exact ⟨rfl, rfl⟩
  · go_enter Tryz.func307, Tryz.ntmps307
    go_wp2
    go_ret
    exact ⟨rfl, rfl⟩
set_option maxRecDepth 100000 in
set_option maxHeartbeats 400000 in
theorem mVote_any (h : MsgAt M w g m) : Calls Tryz.prog 308 #[.pointer (some ⟨g, 0, none⟩)] w fun y w' => y = .returned (.int .u64 m.vo) ∧ w = w' := by
  obtain ⟨p0, p1, p2, p3, p4, p5, p7, p8, p10, p11, hb, _, _, _, _, _, _, _, hp, _, _⟩ := h
  have k0 := hb.cell 8
  simp at k0
  clear hb
  rcases hp with ⟨rfl, e⟩ | ⟨b, o, rfl, _, _, hx⟩
  · rw [e]
    go_enter Tryz.func308, Tryz.ntmps308
    go_wp2
    go_ret
    exact ⟨rfl, rfl⟩
  · go_enter Tryz.func308, Tryz.ntmps308
    go_wp2
    go_ret
    exact ⟨rfl, rfl⟩
set_option maxRecDepth 100000 in
set_option maxHeartbeats 400000 in
theorem mHint_any (h : MsgAt M w g m) : Calls Tryz.prog 309 #[.pointer (some ⟨g, 0, none⟩)] w fun y w' => y = .returned (.int .u64 m.rh) ∧ w = w' := by
  obtain ⟨p0, p1, p2, p3, p4, p5, p7, p8, p10, p11, hb, _, _, _, _, _, _, _, _, _, hp⟩ := h
  have k0 := hb.cell 11
  simp at k0
  clear hb
  rcases hp with ⟨rfl, e⟩ | ⟨b, o, rfl, _, _, hx⟩
  · rw [e]
    go_enter Tryz.func309, Tryz.ntmps309
    go_wp2
    go_ret
    exact ⟨rfl, rfl⟩
  · go_enter Tryz.func309, Tryz.ntmps309
    go_wp2
    go_ret
    exact ⟨rfl, rfl⟩
set_option maxRecDepth 100000 in
set_option maxHeartbeats 400000 in
theorem mReject_any (h : MsgAt M w g m) : Calls Tryz.prog 215 #[.pointer (some ⟨g, 0, none⟩)] w fun y w' => y = .returned (.bool m.rj) ∧ w = w' := by
  obtain ⟨p0, p1, p2, p3, p4, p5, p7, p8, p10, p11, hb, _, _, _, _, _, _, _, _, hp, _⟩ := h
  have k0 := hb.cell 10
  simp at k0
  clear hb
  rcases hp with ⟨rfl, e⟩ | ⟨b, o, rfl, _, _, hx⟩
  · rw [e]
    go_enter Tryz.func215, Tryz.ntmps215
    go_wp2
    go_ret
    exact ⟨rfl, rfl⟩
  · go_enter Tryz.func215, Tryz.ntmps215
    go_wp2
    go_ret
    exact ⟨rfl, rfl⟩
set_option maxRecDepth 100000 in
set_option maxHeartbeats 400000 in
theorem mEnts_any (h : MsgAt M w g m) (hf : ∃ A n c, m.en = .slice A n c) : Calls Tryz.prog 224 #[.pointer (some ⟨g, 0, none⟩)] w fun y w' => y = .returned m.en ∧ w = w' := by
  obtain ⟨p0, p1, p2, p3, p4, p5, p7, p8, p10, p11, hb, _⟩ := h
  have k0 := hb.cell 6
  simp at k0
  obtain ⟨A, n, c, hf⟩ := hf
  rw [hf] at k0 ⊢
  clear hb hf
  go_enter Tryz.func224, Tryz.ntmps224
  go_wp2
  go_ret
  exact ⟨rfl, rfl⟩
set_option maxRecDepth 100000 in
set_option maxHeartbeats 400000 in
theorem mSnap_any (h : MsgAt M w g m) (hf : ∃ a, m.sn = .pointer a) : Calls Tryz.prog 219 #[.pointer (some ⟨g, 0, none⟩)] w fun y w' => y = .returned m.sn ∧ w = w' := by
  obtain ⟨p0, p1, p2, p3, p4, p5, p7, p8, p10, p11, hb, _⟩ := h
  have k0 := hb.cell 9
  simp at k0
  obtain ⟨a, hf⟩ := hf
  rw [hf] at k0 ⊢
  clear hb hf
  go_enter Tryz.func219, Tryz.ntmps219
  go_wp2
  go_ret
  exact ⟨rfl, rfl⟩
set_option maxRecDepth 100000 in
set_option maxHeartbeats 400000 in
theorem mCtx_any (h : MsgAt M w g m) (hf : ∃ A n c, m.cx = .slice A n c) : Calls Tryz.prog 214 #[.pointer (some ⟨g, 0, none⟩)] w fun y w' => y = .returned m.cx ∧ w = w' := by
  obtain ⟨p0, p1, p2, p3, p4, p5, p7, p8, p10, p11, hb, _⟩ := h
  have k0 := hb.cell 12
  simp at k0
  obtain ⟨A, n, c, hf⟩ := hf
  rw [hf] at k0 ⊢
  clear hb hf
  go_enter Tryz.func214, Tryz.ntmps214
  go_wp2
  go_ret
  exact ⟨rfl, rfl⟩
set_option maxRecDepth 100000 in
set_option maxHeartbeats 400000 in
theorem mResp_any (h : MsgAt M w g m) (hf : ∃ A n c, m.rs = .slice A n c) : Calls Tryz.prog 310 #[.pointer (some ⟨g, 0, none⟩)] w fun y w' => y = .returned m.rs ∧ w = w' := by
  obtain ⟨p0, p1, p2, p3, p4, p5, p7, p8, p10, p11, hb, _⟩ := h
  have k0 := hb.cell 13
  simp at k0
  obtain ⟨A, n, c, hf⟩ := hf
  rw [hf] at k0 ⊢
  clear hb hf
  go_enter Tryz.func310, Tryz.ntmps310
  go_wp2
  go_ret
  exact ⟨rfl, rfl⟩
end
end Go.Proofs.YtalhhplphlobbaaGreat
