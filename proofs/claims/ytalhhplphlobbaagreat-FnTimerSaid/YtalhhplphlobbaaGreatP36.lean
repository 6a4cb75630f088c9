/- do, where the call is a tick. Conditions: the contract of the tick. A node that ticks: its state. Conditions: none. A tick of a node, at which it does not campaign. Conditions: sizes. campaign: one question sent. Conditions: sizes. -/
import Derived.Test.YtalhhplphlobbaaGreatP25
import Derived.Test.YtalhhplphlobbaaGreatP33
import Derived.Test.YtalhhplphlobbaaGreatP35
set_option linter.unusedVariables false
set_option linter.unusedSimpArgs false
namespace Go.Proofs.YtalhhplphlobbaaGreat
open Go.RowKit
set_option maxRecDepth 100000 in
set_option maxHeartbeats 400000 in
theorem callErr_nil {w : World} : Calls Tryz.prog 126 #[.nilIface] w fun y w' => y = .returned (.int .i64 0) ∧ w = w' := by
  go_enter Tryz.func126, Tryz.ntmps126
  go_wp2
  go_ret
  exact ⟨rfl, rfl⟩
set_option maxRecDepth 100000 in
set_option maxHeartbeats 4000000 in
theorem do_tick {w : World} {nb rn : Nat} {C : Array Value} {R : World → Prop} {L : List Nat} (hc : C[0]? = some (.int .i64 1)) (hL : ∀ x ∈ L, x < w.heap.size) (hrn : w.cell? ⟨nb, 27, none⟩ = some (.pointer (some ⟨rn, 0, none⟩)))
    (hR : ∀ X, Nxt w X → w.heap.size + 2 < X.heap.size → Calls Tryz.prog 108 #[.pointer (some ⟨rn, 0, none⟩)] X fun y w' => y = .returned (.tuple #[]) ∧ R w' ∧ Chg L X w') :
    Calls Tryz.prog 66 #[.pointer (some ⟨nb, 0, none⟩), .agg C] w fun y w' => y = .returned (.agg said0.list.toArray) ∧ ∃ w1, R w1 ∧ (∃ cs, Blk w1 (w.heap.size + 1) 48 cs) ∧ Chg [w.heap.size + 1] w1 w' ∧ Chg L w w' := by
  obtain ⟨FX, hFX⟩ : ∃ FX, FX = said0.list := ⟨_, rfl⟩
  have hcell : (w.alloc (.cells C 44)).cell? ⟨w.heap.size, 0, none⟩ = some (.int .i64 1) := by rw [(Blk.new w 44 C).cell 0]; exact hc
  have HR := Lib.hid hR
  have HL := Lib.hid hL
  have HFX := Lib.hid hFX
  have HRN := Lib.hid hrn
  rw [← hFX]
  clear hc hR hL hFX hrn
  go_enter Tryz.func66, Tryz.ntmps66
  go_upto_region 3 with fail
  have hb4 : Blk (((w.alloc (.cells C 44)).alloc (.cells #[.int .i64 0, .bool false, .int .i64 0, .int .u64 0, .int .u64 0, .int .u64 0, .int .u64 0, .int .u64 0, .int .u64 0, .slice none 0 0, .slice none 0 0, .slice none 0 0, .slice none 0 0, .bool false, .bool false, .bool false, .int .u64 0, .int .u64 0, .int .u64 0, .slice none 0 0, .string ⟨#[]⟩, .int .u64 0, .int .u64 0, .slice none 0 0, .slice none 0 0, .slice none 0 0, .slice none 0 0, .bool false, .slice none 0 0, .slice none 0 0, .slice none 0 0, .bool false, .slice none 0 0] 48)).alloc (.cells #[.int .i64 0, .bool false, .int .i64 0, .int .u64 0, .int .u64 0, .int .u64 0, .int .u64 0, .int .u64 0, .int .u64 0, .slice none 0 0, .slice none 0 0, .slice none 0 0, .slice none 0 0, .bool false, .bool false, .bool false, .int .u64 0, .int .u64 0, .int .u64 0, .slice none 0 0, .string ⟨#[]⟩, .int .u64 0, .int .u64 0, .slice none 0 0, .slice none 0 0, .slice none 0 0, .slice none 0 0, .bool false, .slice none 0 0, .slice none 0 0, .slice none 0 0, .bool false, .slice none 0 0] 48)) (w.heap.size + 1) 48 FX.toArray := by
    rw [HFX.out]
    exact (Blk.newAt (w := w.alloc (.cells C 44)) (by simp)).alloc _
  have hb5 : Blk (((w.alloc (.cells C 44)).alloc (.cells #[.int .i64 0, .bool false, .int .i64 0, .int .u64 0, .int .u64 0, .int .u64 0, .int .u64 0, .int .u64 0, .int .u64 0, .slice none 0 0, .slice none 0 0, .slice none 0 0, .slice none 0 0, .bool false, .bool false, .bool false, .int .u64 0, .int .u64 0, .int .u64 0, .slice none 0 0, .string ⟨#[]⟩, .int .u64 0, .int .u64 0, .slice none 0 0, .slice none 0 0, .slice none 0 0, .slice none 0 0, .bool false, .slice none 0 0, .slice none 0 0, .slice none 0 0, .bool false, .slice none 0 0] 48)).alloc (.cells #[.int .i64 0, .bool false, .int .i64 0, .int .u64 0, .int .u64 0, .int .u64 0, .int .u64 0, .int .u64 0, .int .u64 0, .slice none 0 0, .slice none 0 0, .slice none 0 0, .slice none 0 0, .bool false, .bool false, .bool false, .int .u64 0, .int .u64 0, .int .u64 0, .slice none 0 0, .string ⟨#[]⟩, .int .u64 0, .int .u64 0, .slice none 0 0, .slice none 0 0, .slice none 0 0, .slice none 0 0, .bool false, .slice none 0 0, .slice none 0 0, .slice none 0 0, .bool false, .slice none 0 0] 48)) (w.heap.size + 2) 48 FX.toArray := by
    rw [HFX.out]
    exact Blk.newAt (by simp)
  have hX : Nxt w (((w.alloc (.cells C 44)).alloc (.cells #[.int .i64 0, .bool false, .int .i64 0, .int .u64 0, .int .u64 0, .int .u64 0, .int .u64 0, .int .u64 0, .int .u64 0, .slice none 0 0, .slice none 0 0, .slice none 0 0, .slice none 0 0, .bool false, .bool false, .bool false, .int .u64 0, .int .u64 0, .int .u64 0, .slice none 0 0, .string ⟨#[]⟩, .int .u64 0, .int .u64 0, .slice none 0 0, .slice none 0 0, .slice none 0 0, .slice none 0 0, .bool false, .slice none 0 0, .slice none 0 0, .slice none 0 0, .bool false, .slice none 0 0] 48)).alloc (.cells #[.int .i64 0, .bool false, .int .i64 0, .int .u64 0, .int .u64 0, .int .u64 0, .int .u64 0, .int .u64 0, .int .u64 0, .slice none 0 0, .slice none 0 0, .slice none 0 0, .slice none 0 0, .bool false, .bool false, .bool false, .int .u64 0, .int .u64 0, .int .u64 0, .slice none 0 0, .string ⟨#[]⟩, .int .u64 0, .int .u64 0, .slice none 0 0, .slice none 0 0, .slice none 0 0, .slice none 0 0, .bool false, .slice none 0 0, .slice none 0 0, .slice none 0 0, .bool false, .slice none 0 0] 48)) := ⟨(((Chg.refl _ _).alloc _).alloc _).alloc _⟩
  have hc0 := (cell_alloc (cell_alloc hcell (.cells #[.int .i64 0, .bool false, .int .i64 0, .int .u64 0, .int .u64 0, .int .u64 0, .int .u64 0, .int .u64 0, .int .u64 0, .slice none 0 0, .slice none 0 0, .slice none 0 0, .slice none 0 0, .bool false, .bool false, .bool false, .int .u64 0, .int .u64 0, .int .u64 0, .slice none 0 0, .string ⟨#[]⟩, .int .u64 0, .int .u64 0, .slice none 0 0, .slice none 0 0, .slice none 0 0, .slice none 0 0, .bool false, .slice none 0 0, .slice none 0 0, .slice none 0 0, .bool false, .slice none 0 0] 48)) (.cells #[.int .i64 0, .bool false, .int .i64 0, .int .u64 0, .int .u64 0, .int .u64 0, .int .u64 0, .int .u64 0, .int .u64 0, .slice none 0 0, .slice none 0 0, .slice none 0 0, .slice none 0 0, .bool false, .bool false, .bool false, .int .u64 0, .int .u64 0, .int .u64 0, .slice none 0 0, .string ⟨#[]⟩, .int .u64 0, .int .u64 0, .slice none 0 0, .slice none 0 0, .slice none 0 0, .slice none 0 0, .bool false, .slice none 0 0, .slice none 0 0, .slice none 0 0, .bool false, .slice none 0 0] 48))
  generalize hXe : (((w.alloc (.cells C 44)).alloc (.cells #[.int .i64 0, .bool false, .int .i64 0, .int .u64 0, .int .u64 0, .int .u64 0, .int .u64 0, .int .u64 0, .int .u64 0, .slice none 0 0, .slice none 0 0, .slice none 0 0, .slice none 0 0, .bool false, .bool false, .bool false, .int .u64 0, .int .u64 0, .int .u64 0, .slice none 0 0, .string ⟨#[]⟩, .int .u64 0, .int .u64 0, .slice none 0 0, .slice none 0 0, .slice none 0 0, .slice none 0 0, .bool false, .slice none 0 0, .slice none 0 0, .slice none 0 0, .bool false, .slice none 0 0] 48)).alloc (.cells #[.int .i64 0, .bool false, .int .i64 0, .int .u64 0, .int .u64 0, .int .u64 0, .int .u64 0, .int .u64 0, .int .u64 0, .slice none 0 0, .slice none 0 0, .slice none 0 0, .slice none 0 0, .bool false, .bool false, .bool false, .int .u64 0, .int .u64 0, .int .u64 0, .slice none 0 0, .string ⟨#[]⟩, .int .u64 0, .int .u64 0, .slice none 0 0, .slice none 0 0, .slice none 0 0, .slice none 0 0, .bool false, .slice none 0 0, .slice none 0 0, .slice none 0 0, .bool false, .slice none 0 0] 48)) = X at hb4 hb5 hX hc0 ⊢
  clear hXe hcell
  have hz := hb5.lt
  have c27 := hX.out.at0 HRN.out
  have HX := Lib.hid hX
  have HB4 := Lib.hid hb4
  have HB5 := Lib.hid hb5
  clear hX hb4 hb5
  have HZA := Lib.hid (show (Tryz.prog.info? 48).map (·.size) = some FX.toArray.size by rw [HFX.out]; exact size48.trans rfl)
  have HZL := Lib.hid (show (Tryz.prog.info? 48).map (·.size) = some FX.length by rw [HFX.out]; exact size48.trans rfl)
  have HONE := Lib.hid (show FX.toArray.all (·.oneCell') = true by rw [HFX.out]; exact all_oneCell_toArray said0_ok)
  have hFl : FX.length = 33 := by rw [HFX.out]; rfl
  have hF0 : FX[0]? = some (.int .i64 0) := by rw [HFX.out]; rfl
  have HFL := Lib.hid hFl
  have HF0 := Lib.hid hF0
  clear hFl hF0
  go_upto_region 34 with (first | (go_at_call 108; (with_reducible refine Calls.mono (HR.out _ HX.out hz) ?_); rintro e1 w1 ⟨rfl, hr, hc1⟩; have HRA := Lib.hid hr; have HC1 := Lib.hid hc1; clear hr hc1))
  have hB5 := HB5.out.chg HC1.out (fun hx => by have := HL.out _ hx; omega)
  have k0 : w1.cell? ⟨w.heap.size + 2, 0, none⟩ = some (.int .i64 0) := (hB5.cell 0).trans (by simpa using HF0.out)
  have kf := Blk.frozen hB5
  have hq := setCell_same k0
  have HB5' := Lib.hid hB5
  have HQ := Lib.hid hq
  clear hB5 hq
  go_upto_region 35 with (first | (go_at_call 126; (with_reducible refine Calls.mono callErr_nil ?_); rintro e2 w2 ⟨rfl, rfl⟩))
  rw [HQ.out]
  go_wp2_with (first | (refine wpList_load_mid rfl 48 _ rfl (w.heap.size + 2) 0 rfl FX _ (ld48 HB5'.out) Tryz.underlying48 rfl HZL.out ?_) | (refine wpList_store_mid rfl 48 _ _ rfl (w.heap.size + 1) 0 FX.toArray rfl rfl ?_ HZA.out HONE.out ?_))
  · exact st48 (FX := FX) (FY := FX) (ty := 48) (HB4.out.chg HC1.out (fun hx => by have := HL.out _ hx; omega)) rfl
  · have hbF := bs48 (HB4.out.chg HC1.out (fun hx => by have := HL.out _ hx; omega)) (FX := FX) (FY := FX) rfl
    have hcF := chg_setCells (w.heap.size + 1) FX 0 w1
    refine bodyPost_ret (results_cell_row rfl _ _ (w.heap.size + 1) 48 FX.toArray (0, 0) _ (by rfl) hbF Tryz.underlying48 rfl HZA.out) rfl ⟨rfl, w1, HRA.out, ⟨_, HB4.out.chg HC1.out (fun hx => by have := HL.out _ hx; omega)⟩, hcF, ?_⟩
    exact ((HX.out.out.mono (by simp)).trans HC1.out).then hcF (by simp; omega)
end Go.Proofs.YtalhhplphlobbaaGreat
namespace Go.Proofs.YtalhhplphlobbaaGreat
open Go.RowKit
/-- A node between two ticks: M all blocks that may turn, O those that a call of the node may turn. -/
structure TickJ (nb rn rb rl ms cfp bt x0 rob : Nat) (x2 : Option Nat) (sn : SinS) (u1 u2 u3 u4 mp sl cn : Value) (opt : Int) (l : RLog) (hv sv ev : Value) (e : Ent) (r : List Ent) (V L D : List Int) (f : Int → Option PrS) (p : Int → Nat) (zd : Value) (s : RaftS) (M O : List Nat) (w : World) : Prop where
  sn : SinAt w nb sn
  rw_ : Blk w rn 276 #[.pointer (some ⟨rb, 0, none⟩), u1, u2, u3, u4]
  ra : RaftAt w rb s
  la : RlAt w rl ms l
  st : StAt M w ms hv sv ev e r
  ta : TrkAt w (some x0) x2 bt V L f p
  oa : Blk w rob 449 #[.int .i64 opt, mp, sl, cn]
  cf : ConfAt M w (.pointer (some ⟨cfp, 0, none⟩)) V L [] [] false
  zd : Sl M w zd (I64s D)
  lt : ∀ x ∈ M, x < w.heap.size
  om : ∀ x ∈ O, x ∈ M
  ho : O = nb :: rn :: rb :: rl :: ms :: (V ++ L).map p
section
variable {nb rn rb rl ms cfp bt x0 rob : Nat} {x2 : Option Nat} {sn : SinS} {u1 u2 u3 u4 mp sl cn : Value} {opt : Int} {l : RLog} {hv sv ev : Value} {e : Ent} {r : List Ent} {V L D : List Int} {f : Int → Option PrS} {p : Int → Nat} {zd : Value} {s s' : RaftS} {M M' O Lx : List Nat} {w w' : World}
theorem TickJ.mono (h : TickJ nb rn rb rl ms cfp bt x0 rob x2 sn u1 u2 u3 u4 mp sl cn opt l hv sv ev e r V L D f p zd s M O w) (hc : Chg Lx w w') (h1 : ∀ x ∈ Lx, x ∈ M) (h2 : ∀ x ∈ Lx, ∃ cs, Blk w x 48 cs) (h3 : ∀ x ∈ M, x ∈ M') (h4 : ∀ x ∈ M', x ∈ M ∨ w.heap.size ≤ x ∧ x < w'.heap.size) :
    TickJ nb rn rb rl ms cfp bt x0 rob x2 sn u1 u2 u3 u4 mp sl cn opt l hv sv ev e r V L D f p zd s M' O w' := by
  have far : ∀ {b t : Nat} {cs : Array Value}, Blk w b t cs → t ≠ 48 → b ∉ Lx := fun hb ht hx => by
    obtain ⟨cs', hb'⟩ := h2 _ hx
    exact Blk.ne hb hb' ht rfl
  obtain ⟨_, _, _, _, _, _, hmb⟩ := id h.st.at_
  have hmo : ∀ x ∈ M', x ∈ M ∨ w.heap.size ≤ x := fun x hx => (h4 x hx).imp (fun h => h) (fun h => h.1)
  have hsb : ∀ x ∈ Lx, x ∈ M' := fun x hx => h3 x (h1 x hx)
  exact ⟨h.sn.chg hc (far h.sn (by decide)), h.rw_.chg hc (far h.rw_ (by decide)), h.ra.chg hc (far h.ra (by decide)), h.la.chg hc (far h.la (by decide)), h.st.grow hmo (h3 _ h.st.mem) (h.st.at_.chg hc (far hmb (by decide))) hc hsb,
    h.ta.chgBs hc (fun x hx => by obtain ⟨cs, hb⟩ := h2 x hx; exact ⟨48, cs, hb, by decide⟩), h.oa.chg hc (far h.oa (by decide)), (ConfAt.more h.cf hmo).chg hc hsb, (h.zd.more hmo).chg hc hsb,
    fun x hx => (h4 x hx).elim (fun h' => Nat.lt_of_lt_of_le (h.lt x h') hc.size) (fun h' => h'.2), fun x hx => h3 x (h.om x hx), h.ho⟩
/-- The raft's own block turned. -/
theorem TickJ.raft (h : TickJ nb rn rb rl ms cfp bt x0 rob x2 sn u1 u2 u3 u4 mp sl cn opt l hv sv ev e r V L D f p zd s M O w) (hc : Chg [rb] w w') (hr : RaftAt w' rb s') :
    TickJ nb rn rb rl ms cfp bt x0 rob x2 sn u1 u2 u3 u4 mp sl cn opt l hv sv ev e r V L D f p zd s' M O w' := by
  have far : ∀ {b t : Nat} {cs : Array Value}, Blk w b t cs → t ≠ 296 → b ∉ [rb] := fun hb ht => by
    have := Blk.ne hb h.ra ht
    simpa using this
  obtain ⟨_, _, _, _, _, _, hmb⟩ := id h.st.at_
  have hsb : ∀ x ∈ [rb], x ∈ M := fun x hx => by
    simp only [List.mem_singleton] at hx
    subst hx
    exact h.om _ (by rw [h.ho]; simp)
  exact ⟨h.sn.chg hc (far h.sn (by decide)), h.rw_.chg hc (far h.rw_ (by decide)), hr, h.la.chg hc (far h.la (by decide)), h.st.chg hc hsb (far hmb (by decide)),
    h.ta.chgBs hc (fun x hx => by simp only [List.mem_singleton] at hx; subst hx; exact ⟨296, _, h.ra, by decide⟩), h.oa.chg hc (far h.oa (by decide)), h.cf.chg hc hsb, h.zd.chg hc hsb, fun x hx => Nat.lt_of_lt_of_le (h.lt x hx) hc.size, h.om, h.ho⟩
end
end Go.Proofs.YtalhhplphlobbaaGreat
namespace Go.Proofs.YtalhhplphlobbaaGreat
open Go.RowKit
section
variable {nb rn rb rl ms cfp bt x0 rob : Nat} {x2 : Option Nat} {sn : SinS} {u1 u2 u3 u4 mp sl cn : Value} {opt : Int} {l : RLog} {hv sv ev : Value} {e : Ent} {r : List Ent} {V L D : List Int} {f : Int → Option PrS} {p : Int → Nat} {zd : Value} {s s' : RaftS} {M M' O Lx : List Nat} {w w' : World}
/-- What a node says, of its state. -/
theorem said_of (h : TickJ nb rn rb rl ms cfp bt x0 rob x2 sn u1 u2 u3 u4 mp sl cn opt l hv sv ev e r V L D f p zd s M O w) (hsr : sn.rn = .pointer (some ⟨rn, 0, none⟩)) (hsc : sn.cf = .pointer (some ⟨cfp, 0, none⟩)) (hrl : s.rl = rl) (lV : V.length ≤ 100) (lL : L.length ≤ 100) (hst : 0 ≤ s.state ∧ s.state < 1000) {a : SaidS} (ha : a.ok) :
    Calls Tryz.prog 64 #[.pointer (some ⟨nb, 0, none⟩), .agg a.list.toArray] w fun y w' => ∃ v1 v2 v3 v4, (a.add s l v1 v2 v3 v4 false).ok ∧ y = .returned (.agg (a.add s l v1 v2 v3 v4 false).list.toArray) ∧ Nxt w w' := by
  refine (said_any h.sn hsr hsc h.rw_ h.ra hrl h.la h.cf h.lt (by omega) (by omega) (by simp) (by simp) hst ha).mono ?_
  rintro y w' ⟨A1, n1, k1, A2, n2, k2, A3, n3, k3, A4, n4, k4, rfl, _, _, _, _, hn⟩
  exact ⟨_, _, _, _, SaidS.add_ok ha s l A1 A2 A3 A4 n1 n2 n3 n4 k1 k2 k3 k4 false, rfl, hn⟩
theorem tick_step {C : List Value} (h : TickJ nb rn rb rl ms cfp bt x0 rob x2 sn u1 u2 u3 u4 mp sl cn opt l hv sv ev e r V L D f p zd s M O w) (hc : C[0]? = some (.int .i64 1)) (hsr : sn.rn = .pointer (some ⟨rn, 0, none⟩)) (hsc : sn.cf = .pointer (some ⟨cfp, 0, none⟩)) (hrl : s.rl = rl) (hpr : s.prog = .map (some bt)) (htk : s.tick = .func (.func 281) #[.pointer (some ⟨rb, 0, none⟩)] #[]) (hid : 0 ≤ s.id ∧ s.id < 2 ^ 64) (hcalm : l.calm)
    (lV : V.length ≤ 100) (lL : L.length ≤ 100) (hst : 0 ≤ s.state ∧ s.state < 1000) (hee : -2 ^ 62 ≤ s.ee ∧ s.ee < 2 ^ 62) (hb : (decide (s.id ∈ V) && decide (s.ret ≤ s.ee + 1)) = false) :
    Calls Tryz.prog 66 #[.pointer (some ⟨nb, 0, none⟩), .agg C.toArray] w fun y w1 => ∃ A : SaidS, A.ok ∧ y = .returned (.agg A.list.toArray) ∧ Chg O w w1 ∧
      Calls Tryz.prog 64 #[.pointer (some ⟨nb, 0, none⟩), .agg A.list.toArray] w1 fun y w2 => ∃ A' : SaidS, A'.ok ∧ y = .returned (.agg A'.list.toArray) ∧ Chg O w1 w2 ∧ (∃ v1 v2 v3 v4, A' = said0.add { s with ee := s.ee + 1 } l v1 v2 v3 v4 false) ∧ ∃ M', TickJ nb rn rb rl ms cfp bt x0 rob x2 sn u1 u2 u3 u4 mp sl cn opt l hv sv ev e r V L D f p zd { s with ee := s.ee + 1 } M' O w2 ∧ ∀ x ∈ M, x ∈ M' := by
  have mrb : rb ∈ O := by rw [h.ho]; simp
  have hrn : w.cell? ⟨nb, 27, none⟩ = some (.pointer (some ⟨rn, 0, none⟩)) := (SinAt.cell h.sn 27 sn.rn rfl).trans (by rw [hsr])
  refine (do_tick (L := O) (R := fun w1 => TickJ nb rn rb rl ms cfp bt x0 rob x2 sn u1 u2 u3 u4 mp sl cn opt l hv sv ev e r V L D f p zd { s with ee := s.ee + 1 } ((w.heap.size + 1) :: M) O w1) (by simpa using hc) (fun x hx => h.lt x (h.om x hx)) hrn (fun X hX hz => ?_)).mono ?_
  · have hXJ : TickJ nb rn rb rl ms cfp bt x0 rob x2 sn u1 u2 u3 u4 mp sl cn opt l hv sv ev e r V L D f p zd s ((w.heap.size + 1) :: M) O X := h.mono hX.out (by simp) (by simp) (fun x hx => List.mem_cons_of_mem _ hx) (fun x hx => by
      rcases List.mem_cons.1 hx with rfl | hx
      · exact .inr ⟨by omega, by omega⟩
      · exact .inl hx)
    refine (rawTick_any (R := fun w' => RaftAt w' rb { s with ee := s.ee + 1 } ∧ Chg [rb] X w') hXJ.rw_ rfl hXJ.ra htk (tick_no hXJ.ra hee hb (fun Y hY hR => ?_))).mono ?_
    · have hYJ := hXJ.raft hY hR
      have z := promotable_any hR hrl hYJ.la hcalm hYJ.ta hpr hid
      exact z
    · rintro y w1 ⟨rfl, hr, hc1⟩
      exact ⟨rfl, hXJ.raft hc1 hr, hc1.mono (fun x hx => by simp at hx; subst hx; exact mrb)⟩
  · rintro y w' ⟨rfl, w1, hj, ⟨cs, hbz⟩, hcz, hcO⟩
    have hj' := hj.mono (M' := (w.heap.size + 1) :: M) hcz (by simp) (fun x hx => by simp at hx; subst hx; exact ⟨_, hbz⟩) (fun _ h => h) (fun _ h => .inl h)
    refine ⟨said0, said0_ok, rfl, hcO, (said_of hj' hsr hsc hrl lV lL hst said0_ok).mono ?_⟩
    rintro y w2 ⟨v1, v2, v3, v4, hok, rfl, hn⟩
    exact ⟨_, hok, rfl, hn.out.mono (by simp), ⟨_, _, _, _, rfl⟩, _, hj'.mono hn.out (by simp) (by simp) (fun _ h => h) (fun _ h => .inl h), fun x hx => List.mem_cons_of_mem _ hx⟩
end
end Go.Proofs.YtalhhplphlobbaaGreat
namespace Go.Proofs.YtalhhplphlobbaaGreat
open Go.RowKit
theorem ask_push {M M' : List Nat} {w1 wr wx : World} {rb rl ms x0 gi : Nat} {s : RaftS} {l : RLog} {hv sv ev v1 v2 : Value} {e : Ent} {r : List Ent} {V : List Int} {x : Ent} {ty : Int} {CS : Array Value} {ids : List Int} {Lm La : List (Nat × MsgS)} {z term : Int} {p0 p1 p3 p4 p5 : Value}
    (HS : CampS M w1 rb rl ms x0 s l hv sv ev e r V) (hty : ty = 5 ∨ ty = 17) (hterm : term = if ty = 5 then s.term else s.term + 1) (hil : ids.length ≤ 12) (hz : z ≠ s.id)
    (hra : RaftAt wr rb { s with msgs := v1, msga := v2 }) (hLm : OutL M' wr w1.heap.size v1 Lm) (hLa : OutL M' wr w1.heap.size v2 La) (hdj : ∀ y ∈ rowL v1, y ∉ rowL v2) (hM1 : ∀ y ∈ M, y ∈ M') (hM2 : ∀ y ∈ M', y ∈ M ∨ w1.heap.size ≤ y ∧ y < wr.heap.size)
    (hsm : Lm.map Prod.snd = (ids.filter (· ≠ s.id)).map (askMsg s.id ty (if ty = 5 then s.term else s.term + 1) x (e.i + r.length))) (hsa : La.map Prod.snd = (ids.filter (· = s.id)).map (fun _ => ownMsg s.id ty (if ty = 5 then s.term else s.term + 1)))
    (hgi : Blk wr gi 22 CS) (hch : Chg [rb, ms] w1 wr) (hst0 : StAt M' wr ms hv sv ev e r) (hst : StAt M' wx ms hv sv ev e r) (hla : RlAt wx rl ms l) (hcx : Chg [ms] wr wx)
    (h0 : PtrI M' wx p0 ty) (h1 : PtrU M' wx p1 z) (h3 : PtrU M' wx p3 term) (h4 : PtrU M' wx p4 x.t) (h5 : PtrU M' wx p5 (e.i + r.length)) :
    Calls Tryz.prog 217 #[.pointer (some ⟨rb, 0, none⟩), .pointer (some ⟨wx.heap.size, 0, none⟩)] (wx.alloc (.cells #[p0, p1, .pointer none, p3, p4, p5, .slice none 0 0, .pointer none, .pointer none, .pointer none, .pointer none, .pointer none, .slice none 0 0, .slice none 0 0] 301)) fun y w5 => y = .returned (.tuple #[]) ∧
      AskJ M w1 rb rl ms gi s l hv sv ev e r x ty CS (ids ++ [z]) w5 ∧ ∀ {b t : Nat} {cs : Array Value}, Blk wx b t cs → t ≠ 296 → t ≠ 199 → Blk w5 b t cs := by
  obtain ⟨_, _, _, _, _, _, hmb⟩ := id hst0.at_
  have hMl : ∀ y ∈ M', y < wr.heap.size := fun y hy => by
    rcases hM2 y hy with h | h
    · exact Nat.lt_of_lt_of_le (HS.lt y h) hch.size
    · exact h.2
  have hMx : ∀ y ∈ M', y < wx.heap.size := fun y hy => Nat.lt_of_lt_of_le (hMl y hy) hcx.size
  have hms : ∀ y ∈ [ms], y ∈ M' := by simpa using hst0.mem
  have nrb : rb ∉ [ms] := by simpa using Blk.ne hra hmb (by decide)
  have hrax := hra.chg hcx nrb
  have fm := hLm.far hmb (by decide) (by decide)
  have fa := hLa.far hmb (by decide) (by decide)
  have hLmx := hLm.chg hcx hms (fun y hy => by simp only [List.mem_singleton]; rintro rfl; exact fm.1 hy) (fun y hy => by simpa using fm.2 y hy)
  have hLax := hLa.chg hcx hms (fun y hy => by simp only [List.mem_singleton]; rintro rfl; exact fa.1 hy) (fun y hy => by simpa using fa.2 y hy)
  have hgix := hgi.chg hcx (by simpa using Blk.ne hgi hmb (by decide))
  have hchx : Chg [rb, ms] w1 wx := hch.trans (hcx.mono (by simp))
  have hmN := msg_new (m := ⟨ty, z, 0, term, x.t, e.i + r.length, .slice none 0 0, 0, 0, .pointer none, false, 0, .slice none 0 0, .slice none 0 0⟩) h0 h1 PtrU.nil h3 h4 h5 PtrU.nil PtrU.nil PtrB.nil PtrU.nil
  have hca : Chg [] wx (wx.alloc (.cells #[p0, p1, .pointer none, p3, p4, p5, .slice none 0 0, .pointer none, .pointer none, .pointer none, .pointer none, .pointer none, .slice none 0 0, .slice none 0 0] 301)) := (Chg.refl _ _).alloc _
  have hMM : ∀ y ∈ wx.heap.size :: M', y ∈ M' ∨ wx.heap.size ≤ y := fun y hy => by
    rcases List.mem_cons.1 hy with rfl | hy
    · exact .inr (Nat.le_refl _)
    · exact .inl hy
  have hra5 := hrax.nxt ⟨hca⟩
  have hlm5 := (hLmx.more hMM (fun y hy => List.mem_cons_of_mem _ hy)).nxt hca
  have hla5 := (hLax.more hMM (fun y hy => List.mem_cons_of_mem _ hy)).nxt hca
  have hgm : ∀ y, y ∈ Lm ∨ y ∈ La → y.1 ≠ wx.heap.size := fun y hy => by
    have h1 : y.1 ∈ M' := hy.elim (fun h => (hLm.at_ y h).1) (fun h => (hLa.at_ y h).1)
    have := hMx _ h1
    omega
  have hsz : (wx.alloc (.cells #[p0, p1, .pointer none, p3, p4, p5, .slice none 0 0, .pointer none, .pointer none, .pointer none, .pointer none, .pointer none, .slice none 0 0, .slice none 0 0] 301)).heap.size = wx.heap.size + 1 := by simp
  have hM5 : ∀ y ∈ wx.heap.size :: M', y < (wx.alloc (.cells #[p0, p1, .pointer none, p3, p4, p5, .slice none 0 0, .pointer none, .pointer none, .pointer none, .pointer none, .pointer none, .slice none 0 0, .slice none 0 0] 301)).heap.size := fun y hy => by
    rw [hsz]
    rcases List.mem_cons.1 hy with rfl | hy
    · omega
    · have := hMx y hy
      omega
  have hlm : Lm.length ≤ 12 := by
    have h1 := congrArg List.length hsm
    simp only [List.length_map] at h1
    have h2 := List.length_filter_le (fun q => decide (q ≠ s.id)) ids
    omega
  have htm : term ≠ 0 := by
    have := HS.tm.1
    rw [hterm]
    split <;> omega
  have hz1 := hchx.size
  refine (push_vote (base := w1.heap.size) hra5 hlm5 hla5 hdj hmN (by simp) hz1 (List.mem_cons_of_mem _ (hM1 _ HS.rbm)) hM5 rfl htm hty hz (by omega) (by rw [hsz]; omega) (fun y hy => hgm y (.inl hy)) (fun y hy => hgm y (.inr hy))).mono ?_
  rintro y w5 ⟨rfl, v', M2, hra6, hlm6, hla6, hdj6, hc6, hM6, hM7⟩
  obtain ⟨q1, q2, q3, q4⟩ := send_keeps hla hst hgix hchx hrax hca (own_chg0 hLmx.row hca) hc6 hM6 hM7 (hM1 _ HS.rbm) hLm.rm hMx
  refine ⟨rfl, ⟨⟨v', v2, M2, Lm ++ [(wx.heap.size, _)], La, hra6, hlm6, hla6, hdj6, fun y hy => hM6 y (List.mem_cons_of_mem _ (hM1 y hy)), fun y hy => ?_, ?_, ?_, q2⟩, q1, q3, q4⟩, fun {b t cs} hb h1 h2 => ?_⟩
  · have z2 := hc6.size
    have z3 := hca.size
    have z4 := hcx.size
    rcases hM7 y hy with h | h
    · rcases List.mem_cons.1 h with rfl | h
      · refine .inr ⟨hz1, ?_⟩
        rw [hsz] at z2
        omega
      · rcases hM2 y h with h | h
        · exact .inl h
        · exact .inr ⟨h.1, by omega⟩
    · exact .inr ⟨by omega, h.2⟩
  · simp [hsm, List.filter_append, hz, askMsg, hterm]
  · simp [hsa, List.filter_append, hz]
  · have hba := hb.chg hca (by simp)
    refine hba.chg hc6 (fun hx => ?_)
    simp only [List.mem_cons] at hx
    rcases hx with e | e | e
    · exact Blk.ne hb hrax h1 e
    · have := hb.lt
      omega
    · exact own_ne (own_chg0 hLmx.row hca) hba h2 e
end Go.Proofs.YtalhhplphlobbaaGreat
