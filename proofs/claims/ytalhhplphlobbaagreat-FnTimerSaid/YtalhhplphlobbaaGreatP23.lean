/- NewRawNode. Conditions: sizes. -/
import Derived.Test.YtalhhplphlobbaaGreatP19
import Derived.Test.YtalhhplphlobbaaGreatP22
set_option linter.unusedVariables false
set_option linter.unusedSimpArgs false
namespace Go.Proofs.YtalhhplphlobbaaGreat
open Go.RowKit
section
variable {w w' w'' : World} {cb : Nat} {c : CfgS} {hv sv ev : Value} {e : Ent} {r : List Ent} {V L : List Int} {t vo cm : Int} {D : List Int} {rb rl bt x0 : Nat} {x2 : Option Nat} {bv ro mo : Nat} {bi : Int → Nat} {f : Int → Option PrS} {p : Int → Nat}
theorem NewTo.nxt (h : NewTo w cb c hv sv ev e r V L t vo cm D w' rb rl bt x0 x2 bv ro mo bi f p) (hn : Nxt w' w'') : NewTo w cb c hv sv ev e r V L t vo cm D w'' rb rl bt x0 x2 bv ro mo bi f p :=
  ⟨h.ra.nxt hn, h.la.nxt hn, h.ma.chg hn.out (by simp), h.oa.nxt hn, h.va.nxt hn, h.ta.nxt hn, h.fa, fun k hk => ⟨(h.ia k hk).1, (h.ia k hk).2.nxt hn⟩, h.ja, h.cfg.chg hn.out (by simp), h.lo, h.ca.trans (hn.out.mono (by simp))⟩
end
/-- A raw node as it begins. -/
def RawPost (w : World) (cb : Nat) (c : CfgS) (hv sv ev : Value) (e : Ent) (r : List Ent) (V L : List Int) (t vo cm : Int) (D : List Int) (y : Ending) (w' : World) : Prop :=
  ∃ rn ss hs n rb rl bt x0 x2 bv ro mo bi f p, y = .returned (.tuple #[.pointer (some ⟨rn, 0, none⟩), .nilIface]) ∧ NewTo w cb c hv sv ev e r V L t vo cm D w' rb rl bt x0 x2 bv ro mo bi f p ∧
    Blk w' rn 276 #[.pointer (some ⟨rb, 0, none⟩), .bool c.asy, .pointer (some ⟨ss, 0, none⟩), .pointer (some ⟨hs, 0, none⟩), .slice none 0 0] ∧ Blk w' ss 189 #[.int .u64 0, .int .u64 0] ∧ HardAt (List.range n) w' (.pointer (some ⟨hs, 0, none⟩)) t vo cm ∧
    w.heap.size ≤ rn ∧ w.heap.size ≤ ss ∧ w.heap.size ≤ n ∧ rn < n ∧ ss < n ∧ rb < n ∧ rl < n ∧ c.ms < n ∧ ∀ k st, f k = some st → p k < n
set_option maxRecDepth 100000 in
set_option maxHeartbeats 8000000 in
theorem newRaw_any {M : List Nat} {w : World} {cb : Nat} {c0 : CfgS} {hv sv ev : Value} {e : Ent} {r : List Ent} {V L : List Int} {t vo cm : Int} {d : ByteArray} {D : List Int}
    (h : CfgAt w cb c0) (h0 : 0 < c0.id) (h1 : c0.id < 4611686018427387904) (h2 : 0 < c0.ht) (h3 : c0.ht < c0.et) (h3b : c0.et < 1000000000) (h4 : 0 < c0.mco) (h5 : 0 < c0.inf) (h6 : c0.mib = 0) (h7 : c0.msz ≤ 18446744073709551615) (h8 : c0.opt = 1 → c0.cq = true)
    (hs : StAt M w c0.ms hv sv ev e r) (mcb : cb ∈ M) (hM : ∀ x ∈ M, x < w.heap.size) (hsn : SnapAt M w sv d e.i e.t ⟨V, L, [], [], false⟩) (hh : HardAt M w hv t vo cm) (ht : 0 < t) (hc0 : e.i ≤ cm) (hc1 : cm ≤ e.i + r.length)
    (ha : c0.apd = 0 ∨ e.i ≤ c0.apd ∧ c0.apd ≤ cm) (hn : (V ++ L).Nodup) (hV : V ≠ []) (hr : ∀ k ∈ V ++ L, 0 < k ∧ k < 2 ^ 64) (lV : V.length ≤ 12) (lL : L.length ≤ 12) (lK : (V ++ L).length ≤ 13)
    (hzd : Sl M w c0.zd (I64s D)) (hDl : D.length ≤ 1000) (hDn : ∀ x ∈ D, 0 ≤ x ∧ x < c0.et) :
    Calls Tryz.prog 157 #[.pointer (some ⟨cb, 0, none⟩)] w (RawPost w cb c0.valid hv sv ev e r V L t vo cm D) := by
  have hN := newRaft_any h h0 h1 h2 h3 h3b h4 h5 h6 h7 h8 hs mcb hM hsn hh ht hc0 hc1 ha hn hV hr lV lL lK hzd hDl hDn
  obtain ⟨c, hc⟩ : ∃ c, c = c0.valid := ⟨_, rfl⟩
  rw [← hc] at hN ⊢
  have HN := Lib.hid hN
  have hms := hs.lt
  have ems : c0.ms = c.ms := by rw [hc]; rfl
  rw [ems] at hms
  clear hN hc h h0 h1 h2 h3 h3b h4 h5 h6 h7 h8 hs mcb hM hsn hh ht hc0 hc1 ha hn hV hr lV lL lK hzd hDl hDn ems
  go_enter Tryz.func157, Tryz.ntmps157
  go_wp2_with (first | (go_at_call 208; (with_reducible refine Calls.mono HN.out ?_); rintro e1 w1 ⟨rb, rl, bt, x0, x2, bv, ro, mo, bi, f, p, rfl, hT⟩; have HT := Lib.hid hT; clear hT; have k5 : w1.cell? ⟨cb, 5, none⟩ = some (.bool c.asy) := CfgAt.cell HT.out.cfg 5 _ rfl; have kl := Blk.lt HT.out.cfg))
  have hb2 := Blk.new w1 276 #[.pointer (some ⟨rb, 0, none⟩), .bool c.asy, .pointer none, .pointer none, .slice none 0 0]
  have hn2 : Nxt w1 (w1.alloc (.cells #[.pointer (some ⟨rb, 0, none⟩), .bool c.asy, .pointer none, .pointer none, .slice none 0 0] 276)) := ⟨(Chg.refl _ _).alloc _⟩
  obtain ⟨rn, hrn⟩ : ∃ rn, rn = w1.heap.size := ⟨_, rfl⟩
  generalize w1.alloc (.cells #[.pointer (some ⟨rb, 0, none⟩), .bool c.asy, .pointer none, .pointer none, .slice none 0 0] 276) = w2 at hb2 hn2 ⊢
  rw [← hrn] at hb2 ⊢
  have z12 := hn2.out.size
  have zrn : w1.heap.size ≤ rn := by omega
  clear hrn
  (go_at_call 209; (with_reducible refine Calls.mono (softState_any (HT.out.ra.nxt hn2)) ?_); rintro e1 w3 ⟨rfl, hn3⟩)
  have hb3 := hb2.nxt hn3
  have hn13 : Nxt w1 w3 := ⟨hn2.out.trans hn3.out⟩
  have z23 := hn3.out.size
  have HN13 := Lib.hid hn13
  have HB3 := Lib.hid hb3
  have a0 := (HB3.out).cell 0; have a1 := (HB3.out).cell 1; have a2 := (HB3.out).cell 2; have a3 := (HB3.out).cell 3; have a4 := (HB3.out).cell 4; simp at a0 a1 a2 a3 a4; have af := (HB3.out).frozen; have al := (HB3.out).lt
  clear hb2 hb3 hn2 hn3 hn13 k5
  go_wp2_with fail
  obtain ⟨ss, hss⟩ : ∃ ss, ss = w3.heap.size := ⟨_, rfl⟩
  have hb4 : Blk ((w3.setCell ⟨rn, 2, none⟩ (.pointer (some ⟨w3.heap.size, 0, none⟩))).alloc (.cells #[.int .u64 (newS c rb rl x0 x2 bt bv ro L t vo D).lead, .int .u64 (newS c rb rl x0 x2 bt bv ro L t vo D).state] 189)) rn 276 #[.pointer (some ⟨rb, 0, none⟩), .bool c.asy, .pointer (some ⟨ss, 0, none⟩), .pointer none, .slice none 0 0] := by
    rw [hss]
    exact (HB3.out.set_ 2 (.pointer (some ⟨w3.heap.size, 0, none⟩))).alloc _
  have hs4 : Blk ((w3.setCell ⟨rn, 2, none⟩ (.pointer (some ⟨w3.heap.size, 0, none⟩))).alloc (.cells #[.int .u64 (newS c rb rl x0 x2 bt bv ro L t vo D).lead, .int .u64 (newS c rb rl x0 x2 bt bv ro L t vo D).state] 189)) ss 189 #[.int .u64 0, .int .u64 0] := by
    have z := Blk.new (w3.setCell ⟨rn, 2, none⟩ (.pointer (some ⟨w3.heap.size, 0, none⟩))) 189 #[.int .u64 (newS c rb rl x0 x2 bt bv ro L t vo D).lead, .int .u64 (newS c rb rl x0 x2 bt bv ro L t vo D).state]
    rw [World.size_setCell] at z
    rw [hss]
    exact z
  have hn14 : Nxt w1 ((w3.setCell ⟨rn, 2, none⟩ (.pointer (some ⟨w3.heap.size, 0, none⟩))).alloc (.cells #[.int .u64 (newS c rb rl x0 x2 bt bv ro L t vo D).lead, .int .u64 (newS c rb rl x0 x2 bt bv ro L t vo D).state] 189)) :=
    ⟨(HN13.out.out.then (((Chg.refl [rn] w3).setCell (.inr (by simp)) _).alloc _) (by simp; omega))⟩
  generalize (w3.setCell ⟨rn, 2, none⟩ (.pointer (some ⟨w3.heap.size, 0, none⟩))).alloc (.cells #[.int .u64 (newS c rb rl x0 x2 bt bv ro L t vo D).lead, .int .u64 (newS c rb rl x0 x2 bt bv ro L t vo D).state] 189) = w4 at hb4 hs4 hn14 ⊢
  have zss : w3.heap.size ≤ ss := by omega
  clear hss a0 a1 a2 a3 a4 af al HB3
  have hT4 := HT.out.nxt hn14
  have lr4 := Blk.lt hT4.ra
  have ll4 := Blk.lt hT4.la
  have lb4 := hb4.lt
  have ls4 := hs4.lt
  have lm4 := hT4.ma.lt
  have hHS := hardState_any (M := List.range w4.heap.size) hT4.ra rfl hT4.la (by intro x hx; exact List.mem_range.1 hx)
  have HHS := Lib.hid hHS
  have HT4 := Lib.hid hT4
  have HB4 := Lib.hid hb4
  have HS4 := Lib.hid hs4
  have HN14 := Lib.hid hn14
  clear hHS hT4 hb4 hs4 hn14
  (go_at_call 210; (with_reducible refine Calls.mono HHS.out ?_); rintro e1 w5 ⟨b5, rfl, hh5, hb5, hn5⟩)
  have HB5 := Lib.hid (HB4.out.nxt hn5)
  have a0 := (HB5.out).cell 0; have a1 := (HB5.out).cell 1; have a2 := (HB5.out).cell 2; have a3 := (HB5.out).cell 3; have a4 := (HB5.out).cell 4; simp at a0 a1 a2 a3 a4; have af := (HB5.out).frozen; have al := (HB5.out).lt
  have HN5 := Lib.hid hn5
  have HH5 := Lib.hid hh5
  clear hn5 hh5
  go_wp2_with fail
  go_ret2
  have hq : Chg [rn] w5 (w5.setCell ⟨rn, 3, none⟩ (.pointer (some ⟨b5, 0, none⟩))) := (Chg.refl _ _).setCell (.inr (by simp)) _
  have hn15 : Nxt w1 (w5.setCell ⟨rn, 3, none⟩ (.pointer (some ⟨b5, 0, none⟩))) := ⟨(HN14.out.out.trans HN5.out.out).then hq (by simp; omega)⟩
  have z1 := HT.out.ca.size
  have nsr : ss ∉ [rn] := by simpa using Blk.ne HS4.out HB4.out (by decide)
  have z13 := HN13.out.out.size
  refine ⟨rn, ss, b5, w4.heap.size, rb, rl, bt, x0, x2, bv, ro, mo, bi, f, p, rfl, HT.out.nxt hn15, ?_, (HS4.out.nxt HN5.out).chg hq nsr, HH5.out.chg hq (by simp; omega), by omega, by omega, by omega, lb4, ls4, lr4, ll4, lm4, fun k st hk => (HT4.out.ta.prg.blk k st hk).lt⟩
  have z := HB5.out.set_ 3 (.pointer (some ⟨b5, 0, none⟩))
  simpa using z
end Go.Proofs.YtalhhplphlobbaaGreat
