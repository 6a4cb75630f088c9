/- The raft log: lastEntryID, appliedTo; hard states: empty, equal. Conditions: sizes. Hard states: empty, equal; new trackers, inflights, reads; the raft struct in memory. Conditions: none. Maps with keys of uint64: one word for a block, what stands at a key, and the laws at the operations. Conditions: none. -/
import Derived.StillTailTactics
import Derived.Maps.RangeWalk
import Derived.Maps.Ext
import Derived.Test.YtalhhplphlobbaaGreatP05
set_option linter.unusedVariables false
set_option linter.unusedSimpArgs false
namespace Go.Proofs.YtalhhplphlobbaaGreat
open Go.RowKit
section
variable {M : List Nat} {w : World} {ms rl : Nat} {hv sv ev : Value} {e : Ent} {r : List Ent} {l : RLog}
set_option maxRecDepth 100000 in
set_option maxHeartbeats 1000000 in
theorem rlLastID_any (x : Ent) (h : StAt M w ms hv sv ev e r) (hl : RlAt w rl ms l) (hcalm : l.calm) (hne : rl ≠ ms) (hoff : l.off = e.i + r.length + 1) (hx : (e :: r)[r.length]? = some x) :
    Calls Tryz.prog 273 #[.pointer (some ⟨rl, 0, none⟩)] w fun y w' => y = .returned (.agg #[.int .u64 x.t, .int .u64 (e.i + r.length)]) ∧ RlAt w' rl ms l ∧ StAt M w' ms hv sv ev e r ∧ Chg [ms] w w' := by
  have hx' : (e :: r)[(e.i + (r.length : Int) - e.i).toNat]? = some x := by rw [show (e.i + (r.length : Int) - e.i).toNat = r.length from by omega]; exact hx
  have H := Lib.hid (StAt.chg (L := []) h ((Chg.refl _ w).alloc (.cells #[.int .u64 0, .int .u64 0] 365)) (by simp) (by simp))
  have HL := Lib.hid (hl.chg (L := []) ((Chg.refl _ w).alloc (.cells #[.int .u64 0, .int .u64 0] 365)) (by simp))
  have HC := Lib.hid hcalm
  have HX := Lib.hid hx'
  have HO := Lib.hid hoff
  have H0 := Lib.hid h
  have hrl : rl < w.heap.size := Blk.lt hl
  have hms : ms < w.heap.size := h.lt
  have hsz : ms ≠ w.heap.size := by omega
  clear h hl hcalm hx hx' hoff
  go_enter Tryz.func273, Tryz.ntmps273
  go_wp2_with (first | (go_at_call 314; (with_reducible refine Calls.mono (rlLast_any H.out HL.out HC.out hne) ?_); rintro e w1 ⟨rfl, hl1, hs1, hc1⟩) | (go_at_call 323; (with_reducible refine Calls.mono (rlTerm_any (e.i + r.length) x hs1 hl1 HC.out hne (by omega) (by omega) (by have := HO.out; omega) HX.out) ?_); rintro e w2 ⟨rfl, hl2, hs2, hc2⟩; have q0 := (hc1.trans hc2).cell (p := ⟨w.heap.size, 0, none⟩) (by simp) (by simpa using Ne.symm hsz); have q1 := (hc1.trans hc2).cell (p := ⟨w.heap.size, 1, none⟩) (by simp) (by simpa using Ne.symm hsz); have g0 := (hc1.trans hc2).frozen (p := ⟨w.heap.size, 0, none⟩) (by simp) (by simpa using Ne.symm hsz); have g1 := (hc1.trans hc2).frozen (p := ⟨w.heap.size, 1, none⟩) (by simp) (by simpa using Ne.symm hsz); simp at q0 q1 g0 g1))
  have hc3 : Chg [ms] w w2 := (((Chg.refl _ _).alloc _).trans hc1).trans hc2
  have hf : Chg [w.heap.size] w2 ((w2.setCell ⟨w.heap.size, 0, none⟩ (.int .u64 x.t)).setCell ⟨w.heap.size, 1, none⟩ (.int .u64 (e.i + r.length))) := (by (focus (first | with_reducible assumption | ((repeat (first | with_reducible exact Chg.refl _ _ | with_reducible assumption | with_reducible refine Chg.drew ?_ | with_reducible refine Chg.alloc ?_ _ | with_reducible refine Chg.setCell ?_ (by simp) _ | with_reducible refine Chg.nxt ?_ (by assumption))); done))))
  have hF : Chg [ms] w ((w2.setCell ⟨w.heap.size, 0, none⟩ (.int .u64 x.t)).setCell ⟨w.heap.size, 1, none⟩ (.int .u64 (e.i + r.length))) := (hc3.setCell (.inl (Nat.le_refl _)) _).setCell (.inl (Nat.le_refl _)) _
  refine bodyPost_ret (v := .agg #[.int .u64 x.t, .int .u64 (e.i + r.length)]) (by simp [results, Tryz.results273, go_sem, q0, q1]) rfl ⟨rfl, hl2.chg hf (by simp; omega), H0.out.ms_ (hs2.at_.chg hf (by simp; omega)) hF, hF⟩

theorem RlAt.set_ {w : World} {rl ms : Nat} {l : RLog} (h : RlAt w rl ms l) (k : Nat) (u : Value) (l' : RLog)
    (he : (#[.iface 137 (.pointer (some ⟨ms, 0, none⟩)), l.snap, l.ents, .int .u64 l.off, .bool l.sip, .int .u64 l.oip, .int .u64 l.com, .int .u64 l.apg, .int .u64 l.apd, .int .u64 l.mx, .int .u64 l.asz, .bool l.ps] : Array Value).setIfInBounds k u =
      #[.iface 137 (.pointer (some ⟨ms, 0, none⟩)), l'.snap, l'.ents, .int .u64 l'.off, .bool l'.sip, .int .u64 l'.oip, .int .u64 l'.com, .int .u64 l'.apg, .int .u64 l'.apd, .int .u64 l'.mx, .int .u64 l'.asz, .bool l'.ps]) :
    RlAt (w.setCell ⟨rl, k, none⟩ u) rl ms l' := by
  have := Blk.set_ h k u
  rw [he] at this
  exact this

set_option maxRecDepth 100000 in
set_option maxHeartbeats 1000000 in
/-- appliedTo, where no more is being applied than the size given. -/
theorem rlApplied_any (i s : Int) (hl : RlAt w rl ms l) (h1 : ¬ l.com < i) (h2 : ¬ i < l.apd) (h3 : ¬ s < l.asz) (h4 : 0 < l.mx) (h5 : l.apg ≤ i) :
    Calls Tryz.prog 278 #[.pointer (some ⟨rl, 0, none⟩), .int .u64 i, .int .u64 s] w fun y w' => y = .returned (.tuple #[]) ∧ RlAt w' rl ms { l with apd := i, apg := i, asz := 0, ps := false } ∧ Chg [rl] w w' := by
  have HL := Lib.hid hl
  have hfz : ∀ k, w.frozen? ⟨rl, k, none⟩ = false := fun k => Blk.frozen hl k
  obtain ⟨k0, k1, k2, k3, k4, k5, k6, k7, k8, k9, k10, k11⟩ := hl.cells
  clear hl
  go_enter Tryz.func278, Tryz.ntmps278
  have h7 : ¬ l.mx ≤ 0 := by omega
  by_cases h6 : l.apg < i
  all_goals
    go_wp2
    go_region_held3 (fun wx => wx.cell? ⟨rl, 10, none⟩ = some (.int .u64 0) ∧ wx.cell? ⟨rl, 9, none⟩ = some (.int .u64 l.mx) ∧ (wx.cell? ⟨rl, 11, none⟩).isSome = true) ((repeat' apply And.intro) <;> (first | with_reducible assumption | (simp [go_sem, *]; done))) (fail)
    go_wp2
    go_end0
    have hd : decide (l.mx ≤ 0) = false := by simp; omega
    rw [hd]
    try rw [show l.apg = i from by omega]
    refine ⟨rfl, ?_, (by (focus (first | with_reducible assumption | ((repeat (first | with_reducible exact Chg.refl _ _ | with_reducible assumption | with_reducible refine Chg.drew ?_ | with_reducible refine Chg.alloc ?_ _ | with_reducible refine Chg.setCell ?_ (by simp) _ | with_reducible refine Chg.nxt ?_ (by assumption))); done))))⟩
    exact Blk.drew (((((HL.out).set_ 8 (.int .u64 i) { l with apd := i } rfl).set_ 7 (.int .u64 i) { l with apd := i, apg := i } rfl).set_ 10 (.int .u64 0) { l with apd := i, apg := i, asz := 0 } rfl).set_ 11 (.bool false) { l with apd := i, apg := i, asz := 0, ps := false } rfl)
end
end Go.Proofs.YtalhhplphlobbaaGreat
namespace Go.Proofs.YtalhhplphlobbaaGreat
open Go.RowKit
section
variable {M : List Nat} {w : World} {v v' : Value} {t vo c : Int}
set_option maxRecDepth 100000 in
set_option maxHeartbeats 1000000 in
theorem hardEq_same (h : HardAt M w v t vo c) (h' : HardAt M w v' t vo c) : Calls Tryz.prog 235 #[v, v'] w fun y w' => y = .returned (.bool true) ∧ w = w' := by
  go_enter Tryz.func235, Tryz.ntmps235
  go_wp2_with (first | (go_at_call 159; (with_reducible refine Calls.mono (hardTerm_any h) ?_); rintro e w' ⟨rfl, rfl⟩) | (go_at_call 159; (with_reducible refine Calls.mono (hardTerm_any h') ?_); rintro e w' ⟨rfl, rfl⟩) | (go_at_call 160; (with_reducible refine Calls.mono (hardVote_any h) ?_); rintro e w' ⟨rfl, rfl⟩) | (go_at_call 160; (with_reducible refine Calls.mono (hardVote_any h') ?_); rintro e w' ⟨rfl, rfl⟩) | (go_at_call 161; (with_reducible refine Calls.mono (hardCommit_any h) ?_); rintro e w' ⟨rfl, rfl⟩) | (go_at_call 161; (with_reducible refine Calls.mono (hardCommit_any h') ?_); rintro e w' ⟨rfl, rfl⟩))
  go_ret
  exact ⟨rfl, rfl⟩

set_option maxRecDepth 100000 in
set_option maxHeartbeats 1000000 in
theorem hardEmpty_nil : Calls Tryz.prog 180 #[.pointer none] w fun y w' => y = .returned (.bool true) ∧ w = w' := by
  go_enter Tryz.func180, Tryz.ntmps180
  go_wp2
  go_ret
  exact ⟨rfl, rfl⟩

set_option maxRecDepth 100000 in
set_option maxHeartbeats 1000000 in
theorem hardEmpty_no (h : HardAt M w v t vo c) (ht : 0 < t) : Calls Tryz.prog 180 #[v] w fun y w' => y = .returned (.bool false) ∧ Nxt w w' := by
  obtain ⟨b, p1, p2, p3, rfl, hb, hl, c1, c2, c3, ⟨b1, o1, rfl, hb1, hl1, hc1⟩, h2, h3⟩ := h
  have l1 : b ≠ w.heap.size := by omega
  have l2 : b1 ≠ w.heap.size := by omega
  have ht' : ¬ t = 0 := by omega
  have ht2 : (t == 0) = false := by simpa using ht'
  clear h2 h3
  go_enter Tryz.func180, Tryz.ntmps180
  go_wp2
  go_ret
  exact ⟨rfl, ⟨(Chg.refl _ _).alloc _⟩⟩
end

/-- The fields of a raft (its log's block apart). -/
structure RaftS where
  id : Int
  term : Int
  vote : Int
  rs : Value
  rl : Nat
  mms : Int
  mus : Int
  v0 : Value
  v1 : Value
  auto : Bool
  lrn : Value
  lnx : Value
  prog : Value
  votes : Value
  mif : Int
  mib : Int
  state : Int
  isL : Bool
  msgs : Value
  msga : Value
  lead : Int
  ltr : Int
  pci : Int
  dcv : Bool
  unc : Int
  ro : Value
  ee : Int
  he : Int
  cq : Bool
  pv : Bool
  ht : Int
  et : Int
  ret : Int
  dpf : Bool
  sdr : Bool
  tick : Value
  step : Value
  pri : Value
  zd : Value
  zn : Int
def RaftS.cells (s : RaftS) : Array Value := #[.int .u64 s.id, .int .u64 s.term, .int .u64 s.vote, s.rs, .pointer (some ⟨s.rl, 0, none⟩), .int .u64 s.mms, .int .u64 s.mus, s.v0, s.v1, .bool s.auto, s.lrn, s.lnx, s.prog, s.votes,
  .int .i64 s.mif, .int .u64 s.mib, .int .u64 s.state, .bool s.isL, s.msgs, s.msga, .int .u64 s.lead, .int .u64 s.ltr, .int .u64 s.pci, .bool s.dcv, .int .u64 s.unc, s.ro, .int .i64 s.ee, .int .i64 s.he, .bool s.cq, .bool s.pv,
  .int .i64 s.ht, .int .i64 s.et, .int .i64 s.ret, .bool s.dpf, .bool s.sdr, s.tick, s.step, s.pri, s.zd, .int .i64 s.zn]
def RaftAt (w : World) (r : Nat) (s : RaftS) : Prop := Blk w r 296 s.cells
theorem RaftAt.chg {L : List Nat} {w w' : World} {r : Nat} {s : RaftS} (h : RaftAt w r s) (hc : Chg L w w') (hg : r ∉ L) : RaftAt w' r s := Blk.chg h hc hg
theorem RaftAt.set_ {w : World} {r : Nat} {s : RaftS} (h : RaftAt w r s) (k : Nat) (u : Value) (s' : RaftS) (he : s.cells.setIfInBounds k u = s'.cells) : RaftAt (w.setCell ⟨r, k, none⟩ u) r s' := by
  have := Blk.set_ h k u
  rw [he] at this
  exact this
theorem RaftAt.cell {w : World} {r : Nat} {s : RaftS} (h : RaftAt w r s) (k : Nat) (u : Value) (he : s.cells[k]? = some u) : w.cell? ⟨r, k, none⟩ = some u := (Blk.cell h k).trans he

set_option maxRecDepth 100000 in
set_option maxHeartbeats 400000 in
theorem newInfl_any (w : World) (n m : Int) : Calls Tryz.prog 344 #[.int .i64 n, .int .u64 m] w fun y w' => ∃ b, y = .returned (.pointer (some ⟨b, 0, none⟩)) ∧ b = w.heap.size ∧ w' = w.alloc (.cells #[.int .i64 0, .int .i64 0, .int .u64 0, .int .i64 n, .int .u64 m, .slice none 0 0] 509) := by
  go_enter Tryz.func344, Tryz.ntmps344
  go_wp2
  go_ret
  exact ⟨_, rfl, rfl, rfl⟩

set_option maxRecDepth 100000 in
set_option maxHeartbeats 400000 in
theorem newRO_any (w : World) (n : Int) : Calls Tryz.prog 272 #[.int .i64 n] w fun y w' => ∃ b, y = .returned (.pointer (some ⟨b, 0, none⟩)) ∧ w.heap.size ≤ b ∧ Blk w' b 449 #[.int .i64 n, .map (some w.heap.size), .slice none 0 0, .int .u64 0] ∧ Nxt w w' := by
  have hmm := @run_makeMap Tryz.prog
  go_enter Tryz.func272, Tryz.ntmps272
  go_wp2
  go_ret
  exact ⟨w.heap.size + 1, by simp, by omega, by simpa using Blk.new (w.alloc (.map #[] 0)) 449 #[.int .i64 n, .map (some w.heap.size), .slice none 0 0, .int .u64 0], ⟨((Chg.refl _ _).alloc _).alloc _⟩⟩
set_option maxRecDepth 100000 in
set_option maxHeartbeats 400000 in
theorem mkTrk_any (w : World) (n m : Int) : Calls Tryz.prog 271 #[.int .i64 n, .int .u64 m] w fun y w' => y = .returned (.agg #[.map (some (w.heap.size + 1)), .map none, .bool false, .map none, .map none, .map (some (w.heap.size + 3)), .map (some (w.heap.size + 2)), .int .i64 n, .int .u64 m]) ∧ Nxt w w' := by
  have hmm := @run_makeMap Tryz.prog
  go_enter Tryz.func271, Tryz.ntmps271
  go_wp2
  refine bodyPost_ret (v := .agg #[.map (some (w.heap.size + 1)), .map none, .bool false, .map none, .map none, .map (some (w.heap.size + 3)), .map (some (w.heap.size + 2)), .int .i64 n, .int .u64 m]) (by simp [results, Tryz.results271, go_sem]) rfl ⟨rfl, ⟨(((((Chg.refl _ _).alloc _).alloc _).alloc _).alloc _).alloc _⟩⟩
end Go.Proofs.YtalhhplphlobbaaGreat
namespace Go.Proofs.YtalhhplphlobbaaGreat
open Go.RowKit

/-- Every value reads as a token that is the value itself. -/
def heldV (v : Value) : Option (DataW Value × List MemPlace) := some (.held v, [])
theorem u64K : Maps.Keyed Tryz.prog 22 := Maps.int_keyed Tryz.underlying22
def mget (D : DataW Value) (k : Int) : Option Value := match D.atKey (.int .u64 k) .nil with | .held v => some v | _ => none
/-- Block b is a map of uint64 keys that reads as D. -/
def MapAt (w : World) (b : Nat) (D : DataW Value) : Prop := w.ownsMap Tryz.prog 22 heldV b (Maps.size D) D
theorem heldV_inv {v : Value} {d : DataW Value} {ps : List MemPlace} (h : heldV v = some (d, ps)) : d = .held v ∧ ps = [] := by
  simp [heldV] at h
  exact ⟨h.1.symm, h.2⟩

section
variable {w w' : World} {b n : Nat} {D : DataW Value} {L : List Nat}
theorem MapAt.of_own (h : w.ownsMap Tryz.prog 22 heldV b n D) : MapAt w b D := by
  obtain ⟨es, clock, hb, F, hs, rfl⟩ := h
  exact ⟨es, clock, hb, F, by simp [Maps.size, length_sorted], rfl⟩
theorem MapAt.new (w : World) : MapAt (w.alloc (.map #[] 0)) w.heap.size (.map []) := World.ownsMap_made w _ _ _
theorem MapAt.lt (h : MapAt w b D) : b < w.heap.size := World.ownsMap.lt h
theorem MapAt.chg (h : MapAt w b D) (hc : Chg L w w') (hb : b ∉ L) : MapAt w' b D := by
  have hlt := h.lt
  obtain ⟨es, clock, hh, r⟩ := h
  exact ⟨es, clock, (hc.block b hlt hb).trans hh, r⟩
theorem MapAt.nxt (h : MapAt w b D) (hc : Nxt w w') : MapAt w' b D := h.chg hc.out (by simp)
theorem MapAt.canon (h : MapAt w b D) : Maps.Canon D := World.ownsMap.canon h u64K
theorem MapAt.isMap (h : MapAt w b D) : Maps.IsMap D := World.ownsMap.isMap h
theorem Chg.turned (h : w.mapTurned w' b) : Chg [b] w w' := Chg.of_grown h.grown (fun k hk => by cases hk; simp)
theorem key_u64 {k : Int} (hk : 0 ≤ k ∧ k < 2 ^ 64) : keyOf Tryz.prog 22 (.int .u64 k) = some (.int .u64 k) :=
  Maps.keyOf_int_mk Tryz.underlying22 (by simp [Lit.wf, IntKind.min, IntKind.max, IntKind.bits, IntKind.signed]; omega)
theorem key_lit (k : Int) : WideAt.IsKeyLit (.int .u64 k) := by simp [WideAt.IsKeyLit]

open Go.WideElems in
theorem MapAt.held (h : MapAt w b D) : ∃ es, D = .map es ∧ ∀ p ∈ es, ∃ v, p.2 = .held v := by
  obtain ⟨es, clock, hb, F, hs, hD⟩ := h
  refine ⟨_, hD, fun p hp => ?_⟩
  obtain ⟨x, hx, rfl⟩ := List.mem_map.1 (mem_sorted.1 hp)
  obtain ⟨y, hy⟩ := F.reads x hx
  obtain ⟨z, hz, hzd⟩ := rd_val hy
  rw [rg_of hy]
  have := heldV_inv (d := z.1) (ps := z.2) hz
  exact ⟨x.val, hzd.trans this.1⟩

/-- What a reading answers at a key. -/
theorem MapAt.look (h : MapAt w b D) (k : Int) : Maps.has D (.int .u64 k) = (mget D k).isSome ∧ ∀ z, D.atKey (.int .u64 k) (.held z) = .held ((mget D k).getD z) := by
  obtain ⟨es, rfl, hh⟩ := h.held
  unfold mget Maps.has DataW.atKey
  cases hf : es.find? (fun p => p.1.sameKey (.int .u64 k)) with
  | none =>
    refine ⟨?_, fun z => by simp [hf]⟩
    simp [hf]
    simpa using hf
  | some p =>
    obtain ⟨v, hv⟩ := hh p (List.mem_of_find?_eq_some hf)
    refine ⟨?_, fun z => by simp [hf, hv]⟩
    simp [hf, hv]
    have h1 := List.find?_some hf
    have h2 := List.mem_of_find?_eq_some hf
    exact ⟨p.1, ⟨p.2, h2⟩, h1⟩

theorem mget_nil (k : Int) : mget (.map []) k = none := by simp [mget, DataW.atKey]
theorem mget_put_same (hD : Maps.IsMap D) (k : Int) (v : Value) : mget (D.put (.int .u64 k) (.held v)) k = some v := by
  unfold mget
  rw [Maps.atKey_put_same hD (key_lit k)]
theorem mget_put_other {k k' : Int} (hne : k' ≠ k) (v : Value) : mget (D.put (.int .u64 k) (.held v)) k' = mget D k' := by
  unfold mget
  rw [Maps.atKey_put_other (by simpa using hne)]
theorem mget_put (hD : Maps.IsMap D) (k k' : Int) (v : Value) : mget (D.put (.int .u64 k) (.held v)) k' = if k' = k then some v else mget D k' := by
  split
  · subst k'; exact mget_put_same hD k v
  · exact mget_put_other (by assumption) v
theorem mget_del (k k' : Int) : mget (D.del (.int .u64 k)) k' = if k' = k then none else mget D k' := by
  by_cases hne : k' = k
  · subst k'
    simp only [if_true]
    unfold mget
    rw [Maps.atKey_del_same]
  · simp only [hne, if_false]
    unfold mget
    rw [Maps.atKey_del_other (by simpa using hne)]
theorem atKey_any {es : List (Lit × DataW Value)} {kl : Lit} (h : Maps.has (.map es) kl = true) (z z' : DataW Value) : (DataW.map es).atKey kl z = (DataW.map es).atKey kl z' := by
  unfold Maps.has at h
  unfold DataW.atKey
  cases hf : es.find? (fun p => p.1.sameKey kl) with
  | some p => simp [hf]
  | none =>
    exfalso
    rw [List.any_eq_true] at h
    obtain ⟨p, hp, hk⟩ := h
    exact (List.find?_eq_none.1 hf) p hp hk
/-- Two maps that hold the same at every key are one. -/
theorem MapAt.ext {D' : DataW Value} {b' : Nat} {u : World} (h : MapAt w b D) (h' : MapAt u b' D') (hh : ∀ k, (mget D k) = mget D' k) : D = D' := by
  obtain ⟨es, rfl, he⟩ := h.held
  obtain ⟨es', rfl, he'⟩ := h'.held
  have kinds : ∀ {u : World} {b : Nat} {es : List (Lit × DataW Value)}, MapAt u b (.map es) → ∀ p ∈ es, ∃ k : Int, p.1 = .int .u64 k := by
    intro u b es h p hp
    obtain ⟨fs, clock, hb, F, hs, hD⟩ := h
    cases hD
    obtain ⟨x, hx, rfl⟩ := List.mem_map.1 (mem_sorted.1 hp)
    obtain ⟨y, hy⟩ := F.reads x hx
    rw [WideElems.rg_of hy]
    obtain ⟨k, _, hk, _⟩ := Maps.keyOf_int_inv Tryz.underlying22 (WideElems.rd_key hy)
    exact ⟨k, hk⟩
  have half : ∀ {u u' : World} {b b' : Nat} {es es' : List (Lit × DataW Value)}, MapAt u b (.map es) → MapAt u' b' (.map es') → (∀ k, mget (.map es) k = mget (.map es') k) → ∀ kl, Maps.has (.map es) kl = true → Maps.has (.map es') kl = true ∧ ∀ z, (DataW.map es).atKey kl z = (DataW.map es').atKey kl z := by
    intro u u' b b' es es' h h' hh kl hkl
    obtain ⟨p, hp, hpk⟩ := List.any_eq_true.1 hkl
    obtain ⟨k, hk⟩ := kinds h p hp
    have e : kl = .int .u64 k := by rw [← hk]; exact (WideAt.sameKey_eq hpk).symm
    subst e
    have l1 := h.look k
    have l2 := h'.look k
    rw [l1.1] at hkl
    have hk2 : Maps.has (.map es') (.int .u64 k) = true := by rw [l2.1, ← hh k]; exact hkl
    refine ⟨hk2, fun z => ?_⟩
    rw [atKey_any (l1.1.trans hkl) z (.held undef), atKey_any hk2 z (.held undef), l1.2, l2.2, hh k]
  refine Maps.ext h.canon h'.canon (fun kl => ?_) (fun kl z hk => (half h h' hh kl hk).2 z)
  cases hA : Maps.has (.map es) kl with
  | true => exact ((half h h' hh kl hA).1).symm
  | false =>
    cases hB : Maps.has (.map es') kl with
    | false => rfl
    | true =>
      have := (half h' h (fun k => (hh k).symm) kl hB).1
      rw [hA] at this
      cases this

end

/-! The laws at the operations. -/
section
variable (w : World) {ops : Array Oper} {rest : List Oper} {o : Oper} {a : Act} {Q : Exit → Act → World → Prop}

/-- 'v, ok := m[k]' -/
theorem wp_lookok (hg : o.guard = none) (m x : Operand) (t : TypeId) (hop : o.op = Op.lookup t m x true)
    (e : TypeId) (ht : Tryz.prog.underlying t = some (.map 22 e)) {z : Value} (hz : (zeroValue e).run Tryz.prog w = .ok z w) {b : Nat} {D : DataW Value}
    (hm : a.eval m = .map (some b)) (hown : MapAt w b D) {k : Int} (hx : a.eval x = .int .u64 k) (hk : 0 ≤ k ∧ k < 2 ^ 64) {r : Option Value} (hr : mget D k = r)
    (hK : wpList Tryz.prog ops Q rest (a.put o.dst (.tuple #[r.getD z, .bool r.isSome])) w) : wpList Tryz.prog ops Q (o :: rest) a w :=
  wpList_lookup_own_ok w hg m x t hop 22 e u64K ht heldV hz (.held z) [] rfl b _ D hm hown _ _ hx (key_u64 hk) (fun v ps hv => by
    have h1 := (heldV_inv hv).1
    rw [(hown.look k).2 z, hr] at h1
    cases h1
    rw [(hown.look k).1, hr]
    exact hK)

/-- 'm[k]' -/
theorem wp_look (hg : o.guard = none) (m x : Operand) (t : TypeId) (hop : o.op = Op.lookup t m x false)
    (e : TypeId) (ht : Tryz.prog.underlying t = some (.map 22 e)) {z : Value} (hz : (zeroValue e).run Tryz.prog w = .ok z w) {b : Nat} {D : DataW Value}
    (hm : a.eval m = .map (some b)) (hown : MapAt w b D) {k : Int} (hx : a.eval x = .int .u64 k) (hk : 0 ≤ k ∧ k < 2 ^ 64) {r : Option Value} (hr : mget D k = r)
    (hK : wpList Tryz.prog ops Q rest (a.put o.dst (r.getD z)) w) : wpList Tryz.prog ops Q (o :: rest) a w := by
  refine wpList_plain hg fun K' hK' => ?_
  obtain ⟨v, ps, hrun, hv⟩ := World.ownsMap.lookup hown u64K ht hz (zd := .held z) (zp := []) rfl (key_u64 hk)
  have h1 := (heldV_inv hv).1
  rw [(hown.look k).2 z, hr] at h1
  cases h1
  unfold Oper.wp
  simp [execOp, hop, hm, hx, hrun, Result.andThen]
  exact hK' _ _ hK

/-- 'm[k] = v' -/
theorem wp_store (hg : o.guard = none) (m x v : Operand) (t : TypeId) (hop : o.op = Op.mapUpdate t m x v)
    (e : TypeId) (ht : Tryz.prog.underlying t = some (.map 22 e)) {b : Nat} {D : DataW Value}
    (hm : a.eval m = .map (some b)) (hown : MapAt w b D) (hn : Maps.size D < maxLen) {k : Int} {val : Value} (hx : a.eval x = .int .u64 k) (hv : a.eval v = val) (hk : 0 ≤ k ∧ k < 2 ^ 64)
    (hK : ∀ w', MapAt w' b (D.put (.int .u64 k) (.held val)) → Maps.size (D.put (.int .u64 k) (.held val)) ≤ Maps.size D + 1 → Chg [b] w w' → w'.heap.size = w.heap.size → wpList Tryz.prog ops Q rest (a.put o.dst undef) w') : wpList Tryz.prog ops Q (o :: rest) a w :=
  wpList_mapUpdate_in w hg m x v t hop 22 e u64K ht heldV b _ D hm hown hn _ _ _ hx hv (key_u64 hk) (.held val) [] rfl (fun w' h1 h2 =>
    hK w' (MapAt.of_own h1) (World.ownsMap.size_le h1) (Chg.turned h2) (by obtain ⟨_, _, _, _, _, rfl⟩ := h2; simp [ChangeMaps.setBlock]))

/-- 'delete(m, k)' -/
theorem wp_delete (hg : o.guard = none) (m x : Operand) (t : TypeId) (hop : o.op = Op.call { callee := Callee.builtin Builtin.delete, args := #[m, x], argTypes := #[t, 22] })
    (e : TypeId) (ht : Tryz.prog.underlying t = some (.map 22 e)) {b : Nat} {D : DataW Value}
    (hm : a.eval m = .map (some b)) (hown : MapAt w b D) {k : Int} (hx : a.eval x = .int .u64 k) (hk : 0 ≤ k ∧ k < 2 ^ 64)
    (hK : ∀ w', MapAt w' b (D.del (.int .u64 k)) → Maps.size (D.del (.int .u64 k)) ≤ Maps.size D → Chg [b] w w' → w'.heap.size = w.heap.size → wpList Tryz.prog ops Q rest (a.put o.dst (.tuple #[])) w') : wpList Tryz.prog ops Q (o :: rest) a w :=
  wpList_delete_own w hg m x t 22 hop e u64K ht heldV b _ D hm hown _ _ hx (key_u64 hk) (fun w' h1 h2 =>
    hK w' (MapAt.of_own h1) (World.ownsMap.size_le h1) (Chg.turned h2) (by obtain ⟨_, _, _, _, _, rfl⟩ := h2; simp [ChangeMaps.setBlock]))

/-- 'len(m)' -/
theorem wp_mlen (hg : o.guard = none) (m : Operand) (t : TypeId) (hop : o.op = Op.call { callee := Callee.builtin Builtin.len, args := #[m], argTypes := #[t] })
    (e : TypeId) (ht : Tryz.prog.underlying t = some (.map 22 e)) {b : Nat} {D : DataW Value} (hm : a.eval m = .map (some b)) (hown : MapAt w b D)
    (hK : wpList Tryz.prog ops Q rest (a.put o.dst (.int .i64 (Maps.size D))) w) : wpList Tryz.prog ops Q (o :: rest) a w :=
  wpList_len_own w hg m t hop 22 e ht heldV b _ D hm hown hK

/-- A range loop over a map under way: block b the map, block r the iterator, dn the keys that have come. -/
def Rg (w : World) (b r : Nat) (D : DataW Value) (dn : List Int) : Prop :=
  ∃ lf, w.ranges Tryz.prog 22 heldV b r (Maps.size D) D lf (w.rangeLeft b r) ∧ (∀ k : Int, lf (.int .u64 k) = ((mget D k).isSome && !dn.contains k)) ∧ dn.Nodup ∧ ∀ k ∈ dn, (mget D k).isSome = true ∧ 0 ≤ k ∧ k < 2 ^ 64
theorem Rg.map {w : World} {b r : Nat} {D : DataW Value} {dn : List Int} (h : Rg w b r D dn) : MapAt w b D := by
  obtain ⟨lf, h, _⟩ := h
  exact h.owns
theorem Rg.lt {w : World} {b r : Nat} {D : DataW Value} {dn : List Int} (h : Rg w b r D dn) : r < w.heap.size := by
  obtain ⟨lf, h, _⟩ := h
  exact h.lt
theorem Rg.chg {w w' : World} {b r : Nat} {D : DataW Value} {dn : List Int} {L : List Nat} (h : Rg w b r D dn) (hc : Chg L w w') (hb : b ∉ L) (hr : r ∉ L) : Rg w' b r D dn ∧ w'.rangeLeft b r = w.rangeLeft b r := by
  have hlt := h.lt
  have hlb := h.map.lt
  obtain ⟨lf, h, rest⟩ := h
  have h2 : w'.ranges Tryz.prog 22 heldV b r (Maps.size D) D lf (w.rangeLeft b r) := by
    obtain ⟨es, clock, since, seen, c0, hb', F, hs, hD, hr', r2⟩ := h
    exact ⟨es, clock, since, seen, c0, (hc.block b hlb hb).trans hb', F, hs, hD, (hc.block r hlt hr).trans hr', r2⟩
  have h3 := h2.left_eq
  exact ⟨⟨lf, by rw [h3]; exact h2, rest⟩, h3⟩

/-- 'range m' -/
theorem wp_range (hg : o.guard = none) (m : Operand) (t : TypeId) (hop : o.op = Op.range t m) (e : TypeId) (ht : Tryz.prog.underlying t = some (.map 22 e)) {b : Nat} {D : DataW Value}
    (hm : a.eval m = .map (some b)) (hown : MapAt w b D)
    (hK : ∀ w', Rg w' b w.heap.size D [] → Nxt w w' → w'.heap.size = w.heap.size + 1 → wpList Tryz.prog ops Q rest (a.put o.dst (.pointer (some ⟨w.heap.size, 0, none⟩))) w') :
    wpList Tryz.prog ops Q (o :: rest) a w :=
  wpList_range_own w hg m t hop 22 e u64K ht heldV b _ D hm hown (fun w' h1 h2 h3 =>
    hK w' ⟨_, by rw [h1.left_eq]; exact h1, fun k => by rw [(hown.look k).1]; simp, List.nodup_nil, by simp⟩ ⟨Chg.of_grown h2 (by simp)⟩ h3)

/-- The step. -/
theorem wp_next (hg : o.guard = none) (it : Operand) (hop : o.op = Op.next it false) {b r : Nat} {D : DataW Value} {dn : List Int} (hit : a.eval it = .pointer (some ⟨r, 0, none⟩)) (h : Rg w b r D dn)
    (hDone : (∀ k, (mget D k).isSome = true → k ∈ dn) → wpList Tryz.prog ops Q rest (a.put o.dst (.tuple #[.bool false])) w)
    (hMore : ∀ (k : Int) (v : Value) (w' : World), 0 ≤ k → k < 2 ^ 64 → mget D k = some v → k ∉ dn → Rg w' b r D (dn ++ [k]) → w'.rangeLeft b r < w.rangeLeft b r → Chg [r] w w' → w'.heap.size = w.heap.size →
      (Instr.entry (.pointer (some ⟨r, 0, none⟩))).run Tryz.prog w' = .ok (.tuple #[.int .u64 k, v]) w' → wpList Tryz.prog ops Q rest (a.put o.dst (.tuple #[.bool true, .int .u64 k, v])) w') :
    wpList Tryz.prog ops Q (o :: rest) a w := by
  have hmap := h.map
  obtain ⟨lf, h, hlf, hnd, hdn⟩ := h
  refine wpList_next_ranges w hg it hop 22 u64K heldV (Value.int .u64) id (fun key kl hkey => by obtain ⟨x, rfl, _⟩ := Maps.keyOf_int_inv Tryz.underlying22 hkey; exact ⟨x, rfl⟩) (fun v y _ => ⟨v, rfl⟩) b r _ D lf _ hit h ?_ ?_
  · intro _ hl
    refine hDone fun k hk => ?_
    have := hlf k
    rw [hl, hk] at this
    simpa using this.symm
  · intro k v kl y w' cnt' hkey hl hv hat hrg hlt hgr hsz hen
    obtain ⟨x, ex, rfl, hwx⟩ := Maps.keyOf_int_inv Tryz.underlying22 hkey
    cases ex
    have hv1 := (heldV_inv (d := y.1) (ps := y.2) hv).1
    have hkb : 0 ≤ k ∧ k < 2 ^ 64 := by
      simp [Lit.wf, IntKind.min, IntKind.max, IntKind.bits, IntKind.signed] at hwx
      omega
    have hget : mget D k = some v := by
      unfold mget
      rw [hat .nil, hv1]
      rfl
    have hnot : k ∉ dn := by
      have := hlf k
      rw [hl] at this
      simp at this
      exact this.2
    refine hMore k v w' hkb.1 hkb.2 hget hnot ⟨_, by rw [hrg.left_eq]; exact hrg, fun k' => ?_, ?_, ?_⟩ (by rw [hrg.left_eq]; exact hlt) (Chg.of_grown hgr (fun j hj => by cases hj; simp)) hsz hen
    · by_cases e : k' = k
      · subst e
        simp [hlf, Lit.sameKey]
      · have : (Lit.int .u64 k').sameKey (.int .u64 k) = false := Maps.sameKey_ne (by simpa using e)
        simp [hlf, this, e]
    · rw [List.nodup_append]
      refine ⟨hnd, by simp, fun x hx y hy => ?_⟩
      rintro rfl
      simp at hy
      subst hy
      exact hnot hx
    · intro x hx
      simp at hx
      rcases hx with hx | rfl
      · exact hdn x hx
      · exact ⟨by rw [hget]; rfl, hkb⟩
end
end Go.Proofs.YtalhhplphlobbaaGreat
