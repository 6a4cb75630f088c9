/- Changer.Simple over a change that adds one member. Conditions: sizes. The step that Restore lays aside: one member. Conditions: sizes. chain: the steps of Restore one behind the other. Conditions: sizes. -/
import Derived.Test.YtalhhplphlobbaaGreatP11
set_option linter.unusedVariables false
set_option linter.unusedSimpArgs false
namespace Go.Proofs.YtalhhplphlobbaaGreat
open Go.RowKit
def gV (t : Int) (V : List Int) (k : Int) : List Int := if t = 0 then V ++ [k] else V
def gL (t : Int) (L : List Int) (k : Int) : List Int := if t = 0 then L else L ++ [k]
theorem TrkAt.neB {w : World} {r0 r2 : Option Nat} {bp c t : Nat} {V L : List Int} {f : Int → Option PrS} {p : Int → Nat} {cs : Array Value} (h : TrkAt w r0 r2 bp V L f p) (hB : Blk w c t cs) : (∀ b, r0 = some b → b ≠ c) ∧ (∀ b, r2 = some b → b ≠ c) ∧ bp ≠ c := by
  refine ⟨?_, ?_, ?_⟩
  · rintro b rfl
    obtain ⟨_, ⟨e, _⟩ | ⟨b', D, e, hm, _⟩⟩ := h.sv
    · cases e
    · cases e; exact hm.ne_blk hB
  · rintro b rfl
    obtain ⟨_, ⟨e, _⟩ | ⟨b', D, e, hm, _⟩⟩ := h.sl
    · cases e
    · cases e; exact hm.ne_blk hB
  · obtain ⟨D, hD, _⟩ := h.prg.map
    exact hD.ne_blk hB
theorem apply_any {w : World} {b0 c bp sb : Nat} {r2 : Option Nat} {V L : List Int} {f : Int → Option PrS} {p : Int → Nat} {t k : Int} {q0 q1 : Option Nat} {qa : Bool} {q2 q3 p5 p6 : Option Nat} {mi mb li : Int} {pv : Value}
    (h : TrkAt w (some b0) r2 bp V L f p) (hB : Blk w c 286 #[.map (some b0), .map none, .bool false, .map r2, .map none]) (hv : k ∉ V) (hl : k ∉ L) (hk : 0 < k ∧ k < 2 ^ 64) (lv : V.length < 100) (ll : L.length < 100)
    (ht : t = 0 ∨ (t = 3 ∧ V ≠ [])) (hcc : CcAt w pv t k) (hs : w.cell? ⟨sb, 0, none⟩ = some pv) :
    Calls Tryz.prog 371 #[.agg #[.map q0, .map q1, .bool qa, .map q2, .map q3, .map p5, .map p6, .int .i64 mi, .int .u64 mb, .int .u64 li], .pointer (some ⟨c, 0, none⟩), .map (some bp), .slice (some ⟨sb, 0, none⟩) 1 1] w fun y w' =>
      y = .returned .nilIface ∧ ∃ x2 f' p', (TrkAt w' (some b0) x2 bp (gV t V k) (gL t L k) f' p' ∧ FrM w.heap.size f p f' p') ∧ Blk w' c 286 #[.map (some b0), .map none, .bool false, .map x2, .map none] ∧ Chg (c :: b0 :: bp :: r2.toList) w w' := by
  rcases ht with rfl | ⟨rfl, hV⟩
  · refine (applyV_any h hB hv hl hk lv hcc hs).mono ?_
    rintro y w' ⟨rfl, f', p', ⟨h1, hfr⟩, h2⟩
    obtain ⟨n0, _, n2⟩ := h.neB hB
    exact ⟨rfl, r2, f', p', ⟨by simpa [gV, gL] using h1, hfr⟩, hB.chg h2 (by simp; exact ⟨Ne.symm (n0 _ rfl), Ne.symm n2⟩), h2.mono (by simp)⟩
  · refine (applyL_any h hB hv hl hk hV ll hcc hs).mono ?_
    rintro y w' ⟨rfl, bl, f', p', ⟨h1, hfr⟩, h2, h3, h4⟩
    exact ⟨rfl, some bl, f', p', ⟨by simpa [gV, gL] using h1, hfr⟩, h2, h4.mono (by simp; intro a ha; simp [ha])⟩
theorem less_gV (t : Int) (V : List Int) (k : Int) (hV : V.length < 100) : less V (gV t V k) + less (gV t V k) V ≤ 1 := by
  unfold gV
  have h0 : ∀ A B : List Int, (∀ x ∈ A, x ∈ B) → less A B = 0 := fun A B h => by
    unfold less
    rw [List.length_eq_zero_iff, List.filter_eq_nil_iff]
    intro x hx
    simpa using h x hx
  split
  · rw [less_snoc, h0 V (V ++ [k]) (by simp; intro x hx; exact .inl hx), h0 V V (by simp)]
    split <;> simp
  · rw [h0 V V (by simp)]
    simp
section
variable {w w' : World} {g0 g2 q0 b0 : Nat} {W : World}
theorem heldS (hn : Nxt w w') (hc : Chg [] W w') (h : w.cell? ⟨g0, 0, none⟩ = some (.map (some q0)) ∧ w.cell? ⟨g0, 1, none⟩ = some (.map none) ∧ w.cell? ⟨g2, 0, none⟩ = some (.map (some b0)) ∧ w.cell? ⟨g2, 1, none⟩ = some (.map none) ∧ Chg [] W w) :
    w'.cell? ⟨g0, 0, none⟩ = some (.map (some q0)) ∧ w'.cell? ⟨g0, 1, none⟩ = some (.map none) ∧ w'.cell? ⟨g2, 0, none⟩ = some (.map (some b0)) ∧ w'.cell? ⟨g2, 1, none⟩ = some (.map none) ∧ Chg [] W w' :=
  ⟨cell_nxt hn h.1, cell_nxt hn h.2.1, cell_nxt hn h.2.2.1, cell_nxt hn h.2.2.2.1, hc⟩
end
theorem incoming_from (W w : World) (r0 r1 : Option Nat) (hW : Chg [] W w) : Calls Tryz.prog 368 #[.agg #[.map r0, .map r1]] w fun y w' => y = .returned (.map r0) ∧ Chg [] W w' ∧ Nxt w w' := by
  refine (incoming_any w r0 r1).mono ?_
  rintro y w' ⟨rfl, hn⟩
  exact ⟨rfl, hW.nxt hn, hn⟩
theorem symdiff_from (W w : World) {r0 r1 : Option Nat} {S0 S1 : List Int} (h0 : SetAt W (.map r0) S0) (h1 : SetAt W (.map r1) S1) (l0 : S0.length ≤ 1000) (l1 : S1.length ≤ 1000) (hle : less S0 S1 + less S1 S0 ≤ 1) (hW : Chg [] W w) :
    Calls Tryz.prog 372 #[.map r0, .map r1] w fun y w' => ∃ n : Nat, y = .returned (.int .i64 n) ∧ n ≤ 1 ∧ Chg [] W w' ∧ Nxt w w' := by
  refine (symdiff_any (h0.chg hW (by simp)) (h1.chg hW (by simp)) l0 l1).mono ?_
  rintro y w' ⟨rfl, hn⟩
  exact ⟨_, rfl, hle, hW.nxt hn, hn⟩

set_option maxRecDepth 100000 in
set_option maxHeartbeats 4000000 in
theorem simple_any {w : World} {q0 bp sb v6 : Nat} {r2 : Option Nat} {V L : List Int} {f : Int → Option PrS} {p : Int → Nat} {t k : Int} {mi mb li : Int} {pv : Value}
    (h : TrkAt w (some q0) r2 bp V L f p) (hv : k ∉ V) (hl : k ∉ L) (hk : 0 < k ∧ k < 2 ^ 64) (lv : V.length < 100) (ll : L.length < 100) (ht : t = 0 ∨ (t = 3 ∧ V ≠ [])) (hcc : CcAt w pv t k) (hs : w.cell? ⟨sb, 0, none⟩ = some pv) :
    Calls Tryz.prog 319 #[.agg #[.map (some q0), .map none, .bool false, .map r2, .map none, .map (some bp), .map (some v6), .int .i64 mi, .int .u64 mb, .int .u64 li], .slice (some ⟨sb, 0, none⟩) 1 1] w fun y w' => ∃ x0 x2 bt f' p',
      y = .returned (.tuple #[.agg #[.map (some x0), .map none, .bool false, .map x2, .map none], .map (some bt), .nilIface]) ∧ (TrkAt w' (some x0) x2 bt (gV t V k) (gL t L k) f' p' ∧ Fr w.heap.size f' p') ∧ Nxt w w' := by
  have hA1 : Nxt w ((w.alloc (.cells #[.map (some q0), .map none, .bool false, .map r2, .map none, .map (some bp), .map (some v6), .int .i64 mi, .int .u64 mb, .int .u64 li] 414)).alloc (.cells #[.map none, .map none, .bool false, .map none, .map none] 286)) := ⟨((Chg.refl _ _).alloc _).alloc _⟩
  have hB1 : Blk ((w.alloc (.cells #[.map (some q0), .map none, .bool false, .map r2, .map none, .map (some bp), .map (some v6), .int .i64 mi, .int .u64 mb, .int .u64 li] 414)).alloc (.cells #[.map none, .map none, .bool false, .map none, .map none] 286)) w.heap.size 414 #[.map (some q0), .map none, .bool false, .map r2, .map none, .map (some bp), .map (some v6), .int .i64 mi, .int .u64 mb, .int .u64 li] := (Blk.new _ _ _).alloc _
  have hR1 : Blk ((w.alloc (.cells #[.map (some q0), .map none, .bool false, .map r2, .map none, .map (some bp), .map (some v6), .int .i64 mi, .int .u64 mb, .int .u64 li] 414)).alloc (.cells #[.map none, .map none, .bool false, .map none, .map none] 286)) (w.heap.size + 1) 286 #[.map none, .map none, .bool false, .map none, .map none] := by simpa using Blk.new (w.alloc (.cells #[.map (some q0), .map none, .bool false, .map r2, .map none, .map (some bp), .map (some v6), .int .i64 mi, .int .u64 mb, .int .u64 li] 414)) 286 #[.map none, .map none, .bool false, .map none, .map none]
  have hq0 := h.sv.blk q0 rfl
  go_enter Tryz.func319, Tryz.ntmps319
  go_wp2_with fail
  generalize ((w.alloc (.cells #[.map (some q0), .map none, .bool false, .map r2, .map none, .map (some bp), .map (some v6), .int .i64 mi, .int .u64 mb, .int .u64 li] 414)).alloc (.cells #[.map none, .map none, .bool false, .map none, .map none] 286)) = W1 at hA1 hB1 hR1 ⊢
  generalize hg0 : w.heap.size = g0 at hB1 hR1 hq0 ⊢
  have H1 := Lib.hid (h.nxt hA1)
  have HCC1 := Lib.hid (hcc.nxt hA1)
  have HS1 := Lib.hid (cell_nxt hA1 hs)
  have HA1 := Lib.hid hA1
  have HB1 := Lib.hid hB1
  have HR1 := Lib.hid hR1
  have HSZ := Lib.hid hg0
  clear h hcc hs hA1 hB1 hR1 hg0
  (go_at_call 363; refine (copy_pre H1.out).mono ?_)
  rintro e W2 ⟨x0, x2, bt, q, rfl, hT2, f0, f2, f3, f4, hn2⟩
  obtain ⟨b0, rfl⟩ := hT2.fst
  have HT2 := Lib.hid hT2
  have HF0 := Lib.hid f0
  have HF2 := Lib.hid f2
  have HF4 := Lib.hid f4
  have HN2 := Lib.hid hn2
  have HB2 := Lib.hid (HB1.out.nxt hn2)
  have a0 := (HB2.out).cell 0; have a1 := (HB2.out).cell 1; have a2 := (HB2.out).cell 2; have a3 := (HB2.out).cell 3; have a4 := (HB2.out).cell 4; have a5 := (HB2.out).cell 5; have a6 := (HB2.out).cell 6; have a7 := (HB2.out).cell 7; have a8 := (HB2.out).cell 8; have a9 := (HB2.out).cell 9; simp at a0 a1 a2 a3 a4 a5 a6 a7 a8 a9; have af := (HB2.out).frozen; have al := (HB2.out).lt
  obtain ⟨la, lb, lc, _⟩ := lts al
  clear hT2 f0 f2 f4 hn2
  go_wp2_with fail
  have hA3 : Nxt W2 (W2.alloc (.cells #[.map (some b0), .map none, .bool false, .map x2, .map none] 286)) := ⟨(Chg.refl _ _).alloc _⟩
  have hC3 := Blk.new W2 286 #[.map (some b0), .map none, .bool false, .map x2, .map none]
  generalize W2.alloc (.cells #[.map (some b0), .map none, .bool false, .map x2, .map none] 286) = W3 at hA3 hC3 ⊢
  generalize hg2 : W2.heap.size = g2 at hC3 ⊢
  have HA3 := Lib.hid hA3
  have HG2 := Lib.hid hg2
  have HC3 := Lib.hid hC3
  clear hA3 hC3 hg2
  (go_at_call 365; refine (joint_no _ (some b0) false (.map x2) (.map none)).mono ?_)
  rintro e w3 ⟨rfl, hn3⟩
  have hn23 : Nxt W2 w3 := ⟨HA3.out.out.nxt hn3⟩
  have HN23 := Lib.hid hn23
  have HT3 := Lib.hid (HT2.out.nxt hn23)
  have HB3 := Lib.hid (HB2.out.nxt hn23)
  have HC4 := Lib.hid (HC3.out.nxt hn3)
  have HS3 := Lib.hid (cell_nxt hn23 (cell_nxt HN2.out HS1.out))
  have HCC3 := Lib.hid ((HCC1.out.nxt HN2.out).nxt hn23)
  clear a0 a1 a2 a3 a4 a5 a6 a7 a8 a9 af al la lb lc hn3 hn23
  have a0 := (HB3.out).cell 0; have a1 := (HB3.out).cell 1; have a2 := (HB3.out).cell 2; have a3 := (HB3.out).cell 3; have a4 := (HB3.out).cell 4; have a5 := (HB3.out).cell 5; have a6 := (HB3.out).cell 6; have a7 := (HB3.out).cell 7; have a8 := (HB3.out).cell 8; have a9 := (HB3.out).cell 9; simp at a0 a1 a2 a3 a4 a5 a6 a7 a8 a9; have af := (HB3.out).frozen; have al := (HB3.out).lt
  go_wp2_with fail
  (go_at_call 371; refine (apply_any (pv := pv) HT3.out HC4.out hv hl hk lv ll ht HCC3.out HS3.out).mono ?_)
  rintro e W5 ⟨rfl, y2, f', p', ⟨hT5, hfr5⟩, hC5, hc5⟩
  have hFr : Fr w.heap.size f' p' := hfr5 _ (Nat.le_trans (Nat.le_trans HA1.out.out.size HN2.out.out.size) HN23.out.out.size) (fun j s hs => Nat.le_trans HA1.out.out.size (HF4.out j s hs))
  have HFR := Lib.hid hFr
  clear hfr5 hFr
  have hx2l := HT3.out.sl.blk
  have hb0l := HT3.out.sv.blk b0 rfl
  have hsz : g0 + 1 < W2.heap.size := by have h1 := HR1.out.lt; have h2 := HN2.out.out.size; omega
  have hg0n : ∀ x ∈ (g2 :: b0 :: bt :: x2.toList : List Nat), g0 + 1 < x := by
    have h0 := HF0.out b0 rfl
    have h1 := HR1.out.lt
    have h2 := HG2.out
    intro x hx
    simp only [List.mem_cons, Option.mem_toList] at hx
    rcases hx with rfl | rfl | rfl | hx
    · omega
    · omega
    · omega
    · have := HF2.out x hx; omega
  have hB5 : Blk W5 g0 414 _ := HB3.out.chg hc5 (fun hm => by have := hg0n _ hm; omega)
  have hR5 : Blk W5 (g0 + 1) 286 _ := ((HR1.out.nxt HN2.out).nxt HN23.out).chg hc5 (fun hm => by have := hg0n _ hm; omega)
  have HT5 := Lib.hid hT5
  have HC5 := Lib.hid hC5
  have HB5 := Lib.hid hB5
  have HR5 := Lib.hid hR5
  have HCH5 := Lib.hid hc5
  have HG0N := Lib.hid hg0n
  have hq5 : SetAt W5 (.map (some q0)) V := ((((H1.out.sv).nxt HN2.out).nxt HN23.out)).chg hc5 (fun b hb hm => by cases hb; have := hg0n _ hm; omega)
  have HQ5 := Lib.hid hq5
  clear hT5 hC5 hB5 hR5 hc5 hg0n hq5 hx2l
  clear a0 a1 a2 a3 a4 a5 a6 a7 a8 a9 af al
  have a0 := (HB5.out).cell 0; have a1 := (HB5.out).cell 1; have a2 := (HB5.out).cell 2; have a3 := (HB5.out).cell 3; have a4 := (HB5.out).cell 4; have a5 := (HB5.out).cell 5; have a6 := (HB5.out).cell 6; have a7 := (HB5.out).cell 7; have a8 := (HB5.out).cell 8; have a9 := (HB5.out).cell 9; simp at a0 a1 a2 a3 a4 a5 a6 a7 a8 a9; have af := (HB5.out).frozen; have al := (HB5.out).lt
  have c0 := (HC5.out).cell 0; have c1 := (HC5.out).cell 1; have c2 := (HC5.out).cell 2; have c3 := (HC5.out).cell 3; have c4 := (HC5.out).cell 4; simp at c0 c1 c2 c3 c4; have cf := (HC5.out).frozen; have cl := (HC5.out).lt
  go_wp2_with fail
  have hS0 : (W5.drew).cell? ⟨g0, 0, none⟩ = some (.map (some q0)) ∧ (W5.drew).cell? ⟨g0, 1, none⟩ = some (.map none) ∧ (W5.drew).cell? ⟨g2, 0, none⟩ = some (.map (some b0)) ∧ (W5.drew).cell? ⟨g2, 1, none⟩ = some (.map none) ∧ Chg [] W5 (W5.drew) := ⟨a0, a1, c0, c1, (Chg.refl _ _).drew⟩
  have HLE := Lib.hid (less_gV t V k lv)
  have HS0 := Lib.hid hS0
  clear hS0 a0 a1 a2 a3 a4 a5 a6 a7 a8 a9 af al c0 c1 c2 c3 c4 cf cl
  go_region_held3 (fun wx => (wx).cell? ⟨g0, 0, none⟩ = some (.map (some q0)) ∧ (wx).cell? ⟨g0, 1, none⟩ = some (.map none) ∧ (wx).cell? ⟨g2, 0, none⟩ = some (.map (some b0)) ∧ (wx).cell? ⟨g2, 1, none⟩ = some (.map none) ∧ Chg [] W5 (wx))
    (first | with_reducible exact HS0.out | exact heldS (by with_reducible assumption) (by with_reducible assumption) (by first | with_reducible assumption | with_reducible exact HS0.out))
    (first | (go_at_call 368; (with_reducible refine Calls.mono (incoming_from W5 _ (some q0) none ?_) ?_); (first | with_reducible assumption | exact (Chg.refl _ _).drew | (simp [*]; done)); rintro e w6 ⟨rfl, hc6, hn6⟩) | (go_at_call 368; (with_reducible refine Calls.mono (incoming_from W5 _ (some b0) none ?_) ?_); (first | with_reducible assumption | exact (Chg.refl _ _).drew | (simp [*]; done)); rintro e w7 ⟨rfl, hc7, hn7⟩) | (go_at_call 372; (with_reducible refine Calls.mono (symdiff_from W5 _ HQ5.out HT5.out.sv (by omega) (by have := HT5.out.lv; omega) HLE.out ?_) ?_); (first | with_reducible assumption | exact (Chg.refl _ _).drew | (simp [*]; done)); rintro e w8 ⟨n8, rfl, hle8, hc8, hn8⟩))
  have HC8 := Lib.hid hc8
  have hT8 := HT5.out.chg hc8 (by simp) (by simp) (by simp) (by simp)
  have HT8 := Lib.hid hT8
  have hC8' : Blk w8 g2 286 _ := HC5.out.chg hc8 (by simp)
  have HR8 := Lib.hid (HR5.out.chg hc8 (by simp))
  have hle9 : (n8 : Int) ≤ 1 := by omega
  have c0 := (hC8').cell 0; have c1 := (hC8').cell 1; have c2 := (hC8').cell 2; have c3 := (hC8').cell 3; have c4 := (hC8').cell 4; simp at c0 c1 c2 c3 c4; have cf := (hC8').frozen; have cl := (hC8').lt
  clear hT8 hC8' hc8 hc6 hc7
  go_wp2_with (first | (go_at_call 370; (with_reducible refine Calls.mono (checkRet_any HT8.out) ?_); rintro e w9 ⟨rfl, hn9⟩; have u0 := (HR8.out.nxt hn9).cell 0; have u1 := (HR8.out.nxt hn9).cell 1; have u2 := (HR8.out.nxt hn9).cell 2; have u3 := (HR8.out.nxt hn9).cell 3; have u4 := (HR8.out.nxt hn9).cell 4; simp at u0 u1 u2 u3 u4; have uf := (HR8.out.nxt hn9).frozen; have ul := (HR8.out.nxt hn9).lt; have HN9 := Lib.hid hn9; clear hn9))
  have hF : Chg [g0 + 1] w9 (((((w9.setCell ⟨g0 + 1, 0, none⟩ (.map (some b0))).setCell ⟨g0 + 1, 1, none⟩ (.map none)).setCell ⟨g0 + 1, 2, none⟩ (.bool false)).setCell ⟨g0 + 1, 3, none⟩ (.map y2)).setCell ⟨g0 + 1, 4, none⟩ (.map none)) := (((((Chg.refl _ _).setCell (.inr (by simp)) _).setCell (.inr (by simp)) _).setCell (.inr (by simp)) _).setCell (.inr (by simp)) _).setCell (.inr (by simp)) _
  have hne := (HT8.out.nxt HN9.out).neB (HR8.out.nxt HN9.out)
  have hT9 := (HT8.out.nxt HN9.out).chg hF (fun k hk => by have := hne.1 k hk; simpa using this) (fun k hk => by have := hne.2.1 k hk; simpa using this) (by simpa using hne.2.2) (fun j s hs => by
    have hb := (HT8.out.nxt HN9.out).prg.blk j s hs
    have hr := HR8.out.nxt HN9.out
    simp only [List.mem_singleton]
    intro e
    rw [e] at hb
    unfold Blk at hb hr
    rw [hr] at hb
    cases hb)
  refine bodyPost_ret (v := .tuple #[.agg #[.map (some b0), .map none, .bool false, .map y2, .map none], .map (some bt), .nilIface]) (by simp [results, Tryz.results319, go_sem, u0, u1, u2, u3, u4]) rfl ⟨b0, y2, bt, f', p', rfl, ⟨hT9, HFR.out⟩, ⟨?_⟩⟩
  have e1 : Chg (g2 :: b0 :: bt :: x2.toList) w W5 := ((HA1.out.out.trans HN2.out.out).trans HN23.out.out).mono (by simp) |>.trans HCH5.out
  have e2 : Chg [] w W5 := e1.fresh (fun x hx hl => by have := HG0N.out x hx; have := HSZ.out; omega)
  have z0 := HSZ.out
  exact ((e2.trans HC8.out).trans HN9.out.out).then hF (by simp; omega)
end Go.Proofs.YtalhhplphlobbaaGreat
namespace Go.Proofs.YtalhhplphlobbaaGreat
open Go.RowKit
set_option maxRecDepth 100000 in
set_option maxHeartbeats 4000000 in
theorem rst1_any {w : World} {q0 bp cb v6 : Nat} {r2 : Option Nat} {V L : List Int} {f : Int → Option PrS} {p : Int → Nat} {t k : Int} {mi mb li : Int} {pv : Value}
    (h : TrkAt w (some q0) r2 bp V L f p) (hv : k ∉ V) (hl : k ∉ L) (hk : 0 < k ∧ k < 2 ^ 64) (lv : V.length < 100) (ll : L.length < 100) (ht : t = 0 ∨ (t = 3 ∧ V ≠ [])) (hcc : CcAt w pv t k) (hs : w.cell? ⟨cb, 0, none⟩ = some pv) :
    Calls Tryz.prog 325 #[.agg #[.map (some q0), .map none, .bool false, .map r2, .map none, .map (some bp), .map (some v6), .int .i64 mi, .int .u64 mb, .int .u64 li], .pointer (some ⟨cb, 0, none⟩)] w fun y w' => ∃ x0 x2 bt f' p',
      y = .returned (.tuple #[.agg #[.map (some x0), .map none, .bool false, .map x2, .map none], .map (some bt), .nilIface]) ∧ (TrkAt w' (some x0) x2 bt (gV t V k) (gL t L k) f' p' ∧ Fr w.heap.size f' p') ∧ Nxt w w' := by
  obtain ⟨cq, rfl⟩ : ∃ cq, pv = .pointer (some ⟨cq, 0, none⟩) := by obtain ⟨b, _, _, e, _⟩ := hcc; exact ⟨b, e⟩
  have hA1 : Nxt w ((w.alloc (.cells #[.map (some q0), .map none, .bool false, .map r2, .map none, .map (some bp), .map (some v6), .int .i64 mi, .int .u64 mb, .int .u64 li] 414)).alloc (.cells #[.map none, .map none, .bool false, .map none, .map none] 286)) := ⟨((Chg.refl _ _).alloc _).alloc _⟩
  have hR1 : Blk ((w.alloc (.cells #[.map (some q0), .map none, .bool false, .map r2, .map none, .map (some bp), .map (some v6), .int .i64 mi, .int .u64 mb, .int .u64 li] 414)).alloc (.cells #[.map none, .map none, .bool false, .map none, .map none] 286)) (w.heap.size + 1) 286 #[.map none, .map none, .bool false, .map none, .map none] := by simpa using Blk.new (w.alloc (.cells #[.map (some q0), .map none, .bool false, .map r2, .map none, .map (some bp), .map (some v6), .int .i64 mi, .int .u64 mb, .int .u64 li] 414)) 286 #[.map none, .map none, .bool false, .map none, .map none]
  have hz : ((w.alloc (.cells #[.map (some q0), .map none, .bool false, .map r2, .map none, .map (some bp), .map (some v6), .int .i64 mi, .int .u64 mb, .int .u64 li] 414)).alloc (.cells #[.map none, .map none, .bool false, .map none, .map none] 286)).heap.size = w.heap.size + 1 + 1 := by simp
  have c0 := cell_nxt hA1 hs
  have HS := Lib.hid hs
  have HH := Lib.hid h
  have HCC := Lib.hid hcc
  have HA1 := Lib.hid hA1
  have HR1 := Lib.hid hR1
  have HZ := Lib.hid hz
  clear h hcc hs hA1 hR1 hz
  go_enter Tryz.func325, Tryz.ntmps325
  go_wp2_with (first | (go_at_call 319; have HZ2 := HZ.out; have HA2 := HA1.out; have HR2 := HR1.out; generalize ((w.alloc (.cells #[.map (some q0), .map none, .bool false, .map r2, .map none, .map (some bp), .map (some v6), .int .i64 mi, .int .u64 mb, .int .u64 li] 414)).alloc (.cells #[.map none, .map none, .bool false, .map none, .map none] 286)) = W1 at HZ2 HA2 HR2 ⊢; have N1 : Nxt W1 (W1.alloc (.cells #[.pointer (some ⟨cq, 0, none⟩)] 393)) := ⟨(Chg.refl _ _).alloc _⟩; (with_reducible refine Calls.mono (simple_any (pv := .pointer (some ⟨cq, 0, none⟩)) ((HH.out.nxt HA2).nxt N1) hv hl hk lv ll ht ((HCC.out.nxt HA2).nxt N1) ?_) ?_); (focus (rw [← HZ2, World.cell?_alloc_at _ _ _ _ rfl]; rfl)); rintro e W2 ⟨x0, x2, bt, f', p', rfl, ⟨hT, hfr⟩, hn⟩; have HFR := Lib.hid hfr; clear hfr; have HT := Lib.hid hT; clear hT; have u0 := ((HR2.nxt N1).nxt hn).cell 0; have u1 := ((HR2.nxt N1).nxt hn).cell 1; have u2 := ((HR2.nxt N1).nxt hn).cell 2; have u3 := ((HR2.nxt N1).nxt hn).cell 3; have u4 := ((HR2.nxt N1).nxt hn).cell 4; simp at u0 u1 u2 u3 u4; have uf := ((HR2.nxt N1).nxt hn).frozen; have ul := ((HR2.nxt N1).nxt hn).lt; have HN := Lib.hid hn; have HN1 := Lib.hid N1; clear hn N1))
  have hF : Chg [w.heap.size + 1] W2 (((((W2.setCell ⟨w.heap.size + 1, 0, none⟩ (.map (some x0))).setCell ⟨w.heap.size + 1, 1, none⟩ (.map none)).setCell ⟨w.heap.size + 1, 2, none⟩ (.bool false)).setCell ⟨w.heap.size + 1, 3, none⟩ (.map x2)).setCell ⟨w.heap.size + 1, 4, none⟩ (.map none)) := (((((Chg.refl _ _).setCell (.inr (by simp)) _).setCell (.inr (by simp)) _).setCell (.inr (by simp)) _).setCell (.inr (by simp)) _).setCell (.inr (by simp)) _
  have hR := (HR2.nxt HN1.out).nxt HN.out
  have hne := HT.out.neB hR
  have hT9 := HT.out.chg hF (fun k hk => by have := hne.1 k hk; simpa using this) (fun k hk => by have := hne.2.1 k hk; simpa using this) (by simpa using hne.2.2) (fun j s hs => by
    have hb := HT.out.prg.blk j s hs
    simp only [List.mem_singleton]
    intro e
    rw [e] at hb
    unfold Blk at hb hR
    rw [hR] at hb
    cases hb)
  refine bodyPost_ret (v := .tuple #[.agg #[.map (some x0), .map none, .bool false, .map x2, .map none], .map (some bt), .nilIface]) (by simp [results, Tryz.results325, go_sem, u0, u1, u2, u3, u4]) rfl ⟨x0, x2, bt, f', p', rfl, ⟨hT9, fun j s hs => Nat.le_trans (Nat.le_trans HA2.out.size HN1.out.out.size) (HFR.out j s hs)⟩, ⟨?_⟩⟩
  have e1 : Chg [] w W2 := (HA2.out.trans HN1.out.out).trans HN.out.out
  exact e1.then hF (by simp)
end Go.Proofs.YtalhhplphlobbaaGreat
namespace Go.Proofs.YtalhhplphlobbaaGreat
open Go.RowKit
theorem TrkAt.chgB {w w' : World} {r0 r2 : Option Nat} {bp c t : Nat} {V L : List Int} {f : Int → Option PrS} {p : Int → Nat} {cs : Array Value} (h : TrkAt w r0 r2 bp V L f p) (hB : Blk w c t cs) (ht : t ≠ 461) (hF : Chg [c] w w') : TrkAt w' r0 r2 bp V L f p := by
  have hne := h.neB hB
  refine h.chg hF (fun k hk => by simpa using hne.1 k hk) (fun k hk => by simpa using hne.2.1 k hk) (by simpa using hne.2.2) (fun j s hs => ?_)
  have hb := h.prg.blk j s hs
  simp only [List.mem_singleton]
  intro e
  rw [e] at hb
  unfold Blk at hb hB
  rw [hB] at hb
  cases hb
  exact ht rfl
/-- The cells of a slice of steps: one for each member, the voters first. -/
def OpsAt (w : World) (b o : Nat) (V L : List Int) : Prop := ∀ j, j < (V ++ L).length → ∃ c pv, w.cell? ⟨b, o + j, none⟩ = some (.func (.func 325) #[] #[.pointer (some ⟨c, 0, none⟩)]) ∧ w.cell? ⟨c, 0, none⟩ = some pv ∧ CcAt w pv (if j < V.length then 0 else 3) ((V ++ L).getD j 0)
theorem CcAt.chg {w w' : World} {v : Value} {t n : Int} {M : List Nat} (h : CcAt w v t n) (hc : Chg M w w') (hM : ∀ x ∈ M, w.heap.size ≤ x) : CcAt w' v t n :=
  h.nxt ⟨hc.fresh (fun x hx hl => by have := hM x hx; omega)⟩
theorem OpsAt.nxt {w w' : World} {b o : Nat} {V L : List Int} (h : OpsAt w b o V L) (hn : Nxt w w') : OpsAt w' b o V L := by
  intro j hj
  obtain ⟨c, pv, h1, h2, h3⟩ := h j hj
  exact ⟨c, pv, cell_nxt hn h1, cell_nxt hn h2, h3.nxt hn⟩
theorem take_gV {V L : List Int} {k : Nat} (_hk : k < (V ++ L).length) : gV (if k < V.length then 0 else 3) (V.take k) ((V ++ L).getD k 0) = V.take (k + 1) := by
  unfold gV
  by_cases hv : k < V.length
  · rw [if_pos hv, if_pos rfl, List.take_add_one, List.getElem?_eq_getElem hv]
    simp [List.getD_eq_getElem?_getD, List.getElem?_append_left hv, hv]
  · rw [if_neg hv, if_neg (by decide), List.take_of_length_le (by omega), List.take_of_length_le (by omega)]
theorem take_gL {V L : List Int} {k : Nat} (hk : k < (V ++ L).length) : gL (if k < V.length then 0 else 3) (L.take (k - V.length)) ((V ++ L).getD k 0) = L.take (k + 1 - V.length) := by
  unfold gL
  by_cases hv : k < V.length
  · rw [if_pos hv, if_pos rfl, show k - V.length = 0 by omega, show k + 1 - V.length = 0 by omega]
  · have hl : k - V.length < L.length := by simp at hk; omega
    rw [if_neg hv, if_neg (by decide), show k + 1 - V.length = (k - V.length) + 1 by omega, List.take_add_one, List.getElem?_eq_getElem hl]
    simp [List.getD_eq_getElem?_getD, List.getElem?_append_right (Nat.le_of_not_lt hv), hl]
theorem notin_take {V L : List Int} (hn : (V ++ L).Nodup) {k : Nat} (hk : k < (V ++ L).length) : (V ++ L).getD k 0 ∉ V.take k ∧ (V ++ L).getD k 0 ∉ L.take (k - V.length) := by
  have hx : (V ++ L).getD k 0 = (V ++ L)[k] := by rw [List.getD_eq_getElem?_getD, List.getElem?_eq_getElem hk]; rfl
  have hy : (V ++ L)[k] ∉ (V ++ L).take k := by
    intro hm
    obtain ⟨i, hi, he⟩ := List.mem_take_iff_getElem.1 hm
    exact List.pairwise_iff_getElem.1 hn i k (by omega) hk (by omega) he
  rw [hx, ← not_or, ← List.mem_append, ← List.take_append]
  exact hy
theorem mem_getD {V L : List Int} {k : Nat} (hk : k < (V ++ L).length) : (V ++ L).getD k 0 ∈ V ++ L := by
  rw [List.getD_eq_getElem?_getD, List.getElem?_eq_getElem hk]
  exact List.getElem_mem hk
set_option maxRecDepth 100000 in
set_option maxHeartbeats 4000000 in
theorem chain_any {w : World} {q0 bp b o n c v6 : Nat} {r2 : Option Nat} {V L : List Int} {f : Int → Option PrS} {p : Int → Nat} {mi mb li : Int}
    (h : TrkAt w (some q0) r2 bp [] [] f p) (hn : (V ++ L).Nodup) (hV : V ≠ []) (hr : ∀ k ∈ V ++ L, 0 < k ∧ k < 2 ^ 64) (lv : V.length < 100) (ll : L.length < 100) (hlen : n = (V ++ L).length) (ho : OpsAt w b o V L) :
    Calls Tryz.prog 328 #[.agg #[.map (some q0), .map none, .bool false, .map r2, .map none, .map (some bp), .map (some v6), .int .i64 mi, .int .u64 mb, .int .u64 li], .slice (some ⟨b, o, none⟩) n c] w fun y w' => ∃ x0 x2 bt f' p',
      y = .returned (.tuple #[.agg #[.map (some x0), .map none, .bool false, .map x2, .map none], .map (some bt), .nilIface]) ∧ (TrkAt w' (some x0) x2 bt V L f' p' ∧ Fr w.heap.size f' p') ∧ Nxt w w' := by
  have hA1 : Nxt w ((w.alloc (.cells #[.map (some q0), .map none, .bool false, .map r2, .map none, .map (some bp), .map (some v6), .int .i64 mi, .int .u64 mb, .int .u64 li] 414)).alloc (.cells #[.map none, .map none, .bool false, .map none, .map none] 286)) := ⟨((Chg.refl _ _).alloc _).alloc _⟩
  have hB1 : Blk ((w.alloc (.cells #[.map (some q0), .map none, .bool false, .map r2, .map none, .map (some bp), .map (some v6), .int .i64 mi, .int .u64 mb, .int .u64 li] 414)).alloc (.cells #[.map none, .map none, .bool false, .map none, .map none] 286)) w.heap.size 414 #[.map (some q0), .map none, .bool false, .map r2, .map none, .map (some bp), .map (some v6), .int .i64 mi, .int .u64 mb, .int .u64 li] := (Blk.new _ _ _).alloc _
  have hR1 : Blk ((w.alloc (.cells #[.map (some q0), .map none, .bool false, .map r2, .map none, .map (some bp), .map (some v6), .int .i64 mi, .int .u64 mb, .int .u64 li] 414)).alloc (.cells #[.map none, .map none, .bool false, .map none, .map none] 286)) (w.heap.size + 1) 286 #[.map none, .map none, .bool false, .map none, .map none] := by simpa using Blk.new (w.alloc (.cells #[.map (some q0), .map none, .bool false, .map r2, .map none, .map (some bp), .map (some v6), .int .i64 mi, .int .u64 mb, .int .u64 li] 414)) 286 #[.map none, .map none, .bool false, .map none, .map none]
  have hn2 : n < 200 := by simp at hlen; omega
  have HLEN := Lib.hid hlen
  clear hlen
  go_enter Tryz.func328, Tryz.ntmps328
  go_wp2_with fail
  generalize ((w.alloc (.cells #[.map (some q0), .map none, .bool false, .map r2, .map none, .map (some bp), .map (some v6), .int .i64 mi, .int .u64 mb, .int .u64 li] 414)).alloc (.cells #[.map none, .map none, .bool false, .map none, .map none] 286)) = W1 at hA1 hB1 hR1 ⊢
  generalize hg0 : w.heap.size = g0 at hB1 hR1 ⊢
  have HSZ := Lib.hid hg0
  have HT1 := Lib.hid (h.nxt hA1)
  have HO := Lib.hid ho
  have HA1 := Lib.hid hA1
  have HB1 := Lib.hid hB1
  have HR1 := Lib.hid hR1
  clear h ho hA1 hB1 hR1 hg0
  go_loopw [14] (fun i wr => ∃ k : Nat, k ≤ n ∧ i = .int .i64 k ∧ ∃ x0 x2 bt f p, (TrkAt wr (some x0) x2 bt (V.take k) (L.take (k - V.length)) f p ∧ Fr g0 f p) ∧ Blk wr g0 414 #[.map (some x0), .map none, .bool false, .map x2, .map none, .map (some bt), .map (some v6), .int .i64 mi, .int .u64 mb, .int .u64 li] ∧ Chg [g0] W1 wr)
    (fun i _ => n - (intOf i).toNat)
  case atStart => exact ⟨0, Nat.zero_le _, rfl, q0, r2, bp, f, p, ⟨by simpa using HT1.out, fun j s hs => by have z := (HT1.out.dom j).1 (by rw [hs]; rfl); simp at z⟩, HB1.out, Chg.refl _ _⟩
  case round =>
    obtain ⟨k, hk, rfl, x0, x2, bt, f, p, ⟨hT, hFr⟩, hB, hC⟩ := hrel
    by_cases hlt : k < n
    · have hkl : k < (V ++ L).length := by have := HLEN.out; omega
      have hNw : Nxt w wr := ⟨HA1.out.out.then hC (by have := HSZ.out; simp; omega)⟩
      obtain ⟨cc, pv, o1, o2, o3⟩ := (HO.out.nxt hNw) k hkl
      have HO1 := Lib.hid o1
      have HO2 := Lib.hid o2
      have HO3 := Lib.hid o3
      have HNI := Lib.hid (notin_take hn hkl)
      have HRG := Lib.hid (hr _ (mem_getD hkl))
      have HT := Lib.hid hT
      have HB := Lib.hid hB
      have HC := Lib.hid hC
      have HNW := Lib.hid hNw
      have HOP := Lib.hid (show (if k < V.length then (0 : Int) else 3) = 0 ∨ ((if k < V.length then (0 : Int) else 3) = 3 ∧ V.take k ≠ []) by
        by_cases hv : k < V.length
        · simp [hv]
        · right
          simp only [hv, if_false, true_and]
          rw [List.take_of_length_le (by omega)]
          exact hV)
      have HL1 := Lib.hid (show (V.take k).length < 100 by have := List.length_take_le k V; rw [List.length_take]; omega)
      have HL2 := Lib.hid (show (L.take (k - V.length)).length < 100 by rw [List.length_take]; omega)
      have HGV := Lib.hid (take_gV hkl)
      have HGL := Lib.hid (take_gL hkl)
      clear o1 o2 o3 hT hC hNw hkl
      have O1 := HO1.out
      have a0 := (hB).cell 0; have a1 := (hB).cell 1; have a2 := (hB).cell 2; have a3 := (hB).cell 3; have a4 := (hB).cell 4; have a5 := (hB).cell 5; have a6 := (hB).cell 6; have a7 := (hB).cell 7; have a8 := (hB).cell 8; have a9 := (hB).cell 9; simp at a0 a1 a2 a3 a4 a5 a6 a7 a8 a9; have af := (hB).frozen; have al := (hB).lt
      clear hB
      go_wp2_with (first | (go_at_call 325; (with_reducible refine Calls.mono (rst1_any (pv := pv) HT.out HNI.out.1 HNI.out.2 HRG.out HL1.out HL2.out HOP.out HO3.out HO2.out) ?_); rintro e W2 ⟨y0, y2, bt', f', p', rfl, ⟨hT, hfr2⟩, hn2⟩; rw [HGV.out, HGL.out] at hT; have HFR2 := Lib.hid hfr2; clear hfr2; have HT2 := Lib.hid hT; have HN2 := Lib.hid hn2; have HB2 := Lib.hid (HB.out.nxt hn2); clear hT hn2 O1 a0 a1 a2 a3 a4 a5 a6 a7 a8 a9 al af; have u0 := (HB2.out).cell 0; have u1 := (HB2.out).cell 1; have u2 := (HB2.out).cell 2; have u3 := (HB2.out).cell 3; have u4 := (HB2.out).cell 4; have u5 := (HB2.out).cell 5; have u6 := (HB2.out).cell 6; have u7 := (HB2.out).cell 7; have u8 := (HB2.out).cell 8; have u9 := (HB2.out).cell 9; simp at u0 u1 u2 u3 u4 u5 u6 u7 u8 u9; have uf := (HB2.out).frozen; have ul := (HB2.out).lt))
      · have hF : Chg [g0] W2 ((((((((W2.setCell ⟨g0, 0, none⟩ (.map (some y0))).setCell ⟨g0, 1, none⟩ (.map none)).setCell ⟨g0, 2, none⟩ (.bool false)).setCell ⟨g0, 3, none⟩ (.map y2)).setCell ⟨g0, 4, none⟩ (.map none)).setCell ⟨g0, 5, none⟩ (.map (some bt')))).alloc (.cells #[.map (some y0), .map none, .bool false, .map y2, .map none] 286)) := (((((((Chg.refl _ _).setCell (.inr (by simp)) _).setCell (.inr (by simp)) _).setCell (.inr (by simp)) _).setCell (.inr (by simp)) _).setCell (.inr (by simp)) _).setCell (.inr (by simp)) _).alloc _
        have hB3 := ((((((HB2.out.set_ 0 (.map (some y0))).set_ 1 (.map none)).set_ 2 (.bool false)).set_ 3 (.map y2)).set_ 4 (.map none)).set_ 5 (.map (some bt'))).alloc (.cells #[.map (some y0), .map none, .bool false, .map y2, .map none] 286)
        have hT3 := HT2.out.chgB HB2.out (by decide) hF
        go_roundw
        case rel => exact ⟨k + 1, by omega, by simp, y0, y2, bt', f', p', ⟨hT3, fun j s hs => Nat.le_trans (by have h1 := HSZ.out; have h2 := HNW.out.out.size; omega) (HFR2.out j s hs)⟩, hB3, (HC.out.nxt HN2.out).trans hF⟩
        case measure => simp [intOf]; omega
    · have hkn : k = n := by omega
      subst hkn
      have HFR := Lib.hid hFr
      clear hFr
      rw [List.take_of_length_le (by have := HLEN.out; simp at this; omega), List.take_of_length_le (by have := HLEN.out; simp at this; omega)] at hT
      have HT := Lib.hid hT
      have HB := Lib.hid hB
      have HC := Lib.hid hC
      have hR : Blk wr (g0 + 1) 286 #[.map none, .map none, .bool false, .map none, .map none] := HR1.out.chg hC (by simp)
      have HR := Lib.hid hR
      clear hT hC
      have a0 := (hB).cell 0; have a1 := (hB).cell 1; have a2 := (hB).cell 2; have a3 := (hB).cell 3; have a4 := (hB).cell 4; have a5 := (hB).cell 5; have a6 := (hB).cell 6; have a7 := (hB).cell 7; have a8 := (hB).cell 8; have a9 := (hB).cell 9; simp at a0 a1 a2 a3 a4 a5 a6 a7 a8 a9; have af := (hB).frozen; have al := (hB).lt
      have c0 := (hR).cell 0; have c1 := (hR).cell 1; have c2 := (hR).cell 2; have c3 := (hR).cell 3; have c4 := (hR).cell 4; simp at c0 c1 c2 c3 c4; have cf := (hR).frozen; have cl := (hR).lt
      clear hB hR
      go_wp2_with fail
      go_region
      have hF : Chg [g0 + 1] wr ((((((wr.setCell ⟨g0 + 1, 0, none⟩ (.map (some x0))).setCell ⟨g0 + 1, 1, none⟩ (.map none)).setCell ⟨g0 + 1, 2, none⟩ (.bool false)).setCell ⟨g0 + 1, 3, none⟩ (.map x2)).setCell ⟨g0 + 1, 4, none⟩ (.map none)).drew) := ((((((Chg.refl _ _).setCell (.inr (by simp)) _).setCell (.inr (by simp)) _).setCell (.inr (by simp)) _).setCell (.inr (by simp)) _).setCell (.inr (by simp)) _).drew
      have hT3 := HT.out.chgB HR.out (by decide) hF
      go_wp2_with fail
      refine bodyPost_ret (v := .tuple #[.agg #[.map (some x0), .map none, .bool false, .map x2, .map none], .map (some bt), .nilIface]) (by simp [results, Tryz.results328, go_sem, *]) rfl ⟨x0, x2, bt, f, p, rfl, ⟨hT3, by rw [HSZ.out]; exact HFR.out⟩, ⟨?_⟩⟩
      have z := HSZ.out
      exact (HA1.out.out.then HC.out (by simp; omega)).then hF (by simp; omega)
end Go.Proofs.YtalhhplphlobbaaGreat
