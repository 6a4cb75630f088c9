/- pb structs copied (ZzClone), getters of the package's structs. Conditions: sizes. Getters of the package's structs; EnsureSnapshot and its kin; clones of snapshots. Conditions: sizes. The memory storage: NewMemoryStorage, ApplySnapshot, SetHardState, firstIndex, lastIndex. Conditions: sizes. -/
import Derived.Test.YtalhhplphlobbaaGreatP02
set_option linter.unusedVariables false
set_option linter.unusedSimpArgs false
namespace Go.Proofs.YtalhhplphlobbaaGreat
open Go.RowKit

theorem info5 : (Tryz.prog.info? 5).map (fun i => (i.zero, i.size, i.bytes)) = some (some (.int .u8 0), 1, 1) := by kernel_rfl

set_option maxRecDepth 100000 in
set_option maxHeartbeats 1000000 in
theorem zzBytes_any (M : List Nat) (W w : World) (v : Value) (l : ByteArray) (h : Sl M W v (Bs l)) (hM : ∀ x ∈ M, x < W.heap.size) (hl : l.data.size ≤ 1000000000) (hW : Chg [] W w) :
    Calls Tryz.prog 206 #[v] w fun e w' => ∃ A n c, e = .returned (.slice A n c) ∧ Sl M w' (.slice A n c) (Bs l) ∧ Chg [] W w' ∧ Nxt w w' := by
  obtain ⟨i0, hi, hz0, hz1, hz2⟩ := info_parts info5
  obtain ⟨A, n, c, rfl, hn, hnc, hA, hcell⟩ := h
  have hz := hW.size
  rcases A with _ | ⟨b, o, s⟩
  · have := hA rfl
    subst this
    have : n = 0 := by omega
    subst this
    have hl0 : Bs l = [] := List.eq_nil_of_length_eq_zero hn
    have HL := Lib.hid hl0
    clear hl0 hcell
    have h1 := fun wx => Lib.run_eql_slice_nil (P := Tryz.prog) wx 197 5 none 0 0 0 0 Tryz.underlying197
    go_enter Tryz.func206, Tryz.ntmps206
    go_wp2
    go_ret
    rw [HL.out]
    exact ⟨_, _, _, rfl, Sl.nil _ _, hW, ⟨Chg.refl _ _⟩⟩
  · obtain ⟨rfl, hbM, hb, hcs⟩ := hcell b o s rfl
    have hlen : (Bs l).length = l.data.size := by simp only [Bs, List.length_map, Array.length_toList]
    have h1 := fun wx => Lib.run_eql_slice_nil (P := Tryz.prog) wx 197 5 (some ⟨b, o, none⟩) n c 0 0 Tryz.underlying197
    have hmk := fun wx => run_make (P := Tryz.prog) wx 197 5 i0 (.int .u8 0) Tryz.underlying197 hi hz0 .i64 .i64 (n : Int) (n : Int) (by omega) (by omega) (by rw [hz2]; omega) (by omega)
    go_enter Tryz.func206, Tryz.ntmps206
    go_wp2_with (with_reducible refine wpList_copy_splice rfl (.tmp 9) (.tmp 10) 197 197 rfl 5 Tryz.underlying197 ?sz (some ⟨w.heap.size, 0, none⟩) (some ⟨b, o, none⟩) n n n c rfl rfl w.heap.size 0 (madeCells #[.int .u8 0] n).toList 5 ?hg (Bs l) ?hn ?hpos ?hfit ?h1 w.heap.size w ?hb (Nat.le_refl _) ?_)
    case sz => rw [hi]; simp [hz1]
    case hg => rw [Array.toArray_toList]; exact heap_alloc_new w _
    case hn => rw [hn]; exact (Nat.min_self n).symm
    case hpos => exact fun _ j u hu => cell_alloc (hW.at0 (hcs j u hu)) _
    case hfit => rw [hn]; simp [madeCells]
    case h1 => intro u hu; simp only [Bs, List.mem_map] at hu; obtain ⟨a, _, rfl⟩ := hu; rfl
    case hb => exact (Below.refl _ _).alloc (Nat.le_refl _) _
    intro w1 hg1 hb1
    go_wp2
    go_ret
    have hsp : splice (madeCells #[.int .u8 0] n).toList 0 (Bs l) = Bs l := by
      unfold splice
      rw [List.take_zero, List.nil_append, List.drop_of_length_le (by simp [madeCells]; omega), List.append_nil]
    have hg2 := hg1.out
    rw [hsp] at hg2
    have hs := sl_of_blk (M := M) hg2 (fun hm => by have := hM _ hm; omega)
    rw [hn] at hs
    have hc : Chg [] w w1 := Chg.of_below hb1
    exact ⟨_, _, _, rfl, hs, hW.trans hc, ⟨hc⟩⟩

set_option maxRecDepth 100000 in
set_option maxHeartbeats 400000 in
theorem zzPtrU64_any (M : List Nat) (W w : World) (v : Value) (n : Int) (h : Ptr1 M W v (.int .u64 n)) (hM : ∀ x ∈ M, x < W.heap.size) (hW : Chg [] W w) :
    Calls Tryz.prog 268 #[v] w fun e w' => ∃ b, e = .returned (.pointer (some ⟨b, 0, none⟩)) ∧ Ptr1 M w' (.pointer (some ⟨b, 0, none⟩)) (.int .u64 n) ∧ Chg [] W w' ∧ Nxt w w' := by
  obtain ⟨b, o, rfl, hbM, hb, hc⟩ := h
  have hz := hW.size
  have hc1 := hW.at0 hc
  go_enter Tryz.func268, Tryz.ntmps268
  go_wp2
  go_ret
  refine ⟨_, rfl, ⟨_, 0, rfl, fun hm => ?_, by go_size, by go_cell⟩, ?_, ⟨?_⟩⟩
  case _ => have := hM _ hm; omega
  all_goals (focus (first | with_reducible assumption | ((repeat (first | with_reducible exact Chg.refl _ _ | with_reducible assumption | refine Chg.drew ?_ | refine Chg.alloc ?_ _)); done)))

set_option maxRecDepth 100000 in
set_option maxHeartbeats 400000 in
theorem zzPtrBool_any (M : List Nat) (W w : World) (v : Value) (n : Bool) (h : Ptr1 M W v (.bool n)) (hM : ∀ x ∈ M, x < W.heap.size) (hW : Chg [] W w) :
    Calls Tryz.prog 257 #[v] w fun e w' => ∃ b, e = .returned (.pointer (some ⟨b, 0, none⟩)) ∧ Ptr1 M w' (.pointer (some ⟨b, 0, none⟩)) (.bool n) ∧ Chg [] W w' ∧ Nxt w w' := by
  obtain ⟨b, o, rfl, hbM, hb, hc⟩ := h
  have hz := hW.size
  have hc1 := hW.at0 hc
  go_enter Tryz.func257, Tryz.ntmps257
  go_wp2
  go_ret
  refine ⟨_, rfl, ⟨_, 0, rfl, fun hm => ?_, by go_size, by go_cell⟩, ?_, ⟨?_⟩⟩
  case _ => have := hM _ hm; omega
  all_goals (focus (first | with_reducible assumption | ((repeat (first | with_reducible exact Chg.refl _ _ | with_reducible assumption | refine Chg.drew ?_ | refine Chg.alloc ?_ _)); done)))

set_option maxRecDepth 100000 in
set_option maxHeartbeats 2000000 in
theorem confClone_any (M : List Nat) (W w : World) (v : Value) (c : Cf) (h : CfAt M W v c) (hM : ∀ x ∈ M, x < W.heap.size)
    (l1 : c.vs.length ≤ 1000000000) (l2 : c.ls.length ≤ 1000000000) (l3 : c.os.length ≤ 1000000000) (l4 : c.ns.length ≤ 1000000000) (hW : Chg [] W w) :
    Calls Tryz.prog 192 #[v] w fun e w' => ∃ b, e = .returned (.pointer (some ⟨b, 0, none⟩)) ∧ CfAt M w' (.pointer (some ⟨b, 0, none⟩)) c ∧ Chg [] W w' ∧ Nxt w w' := by
  obtain ⟨b, s1, s2, s3, s4, p, rfl, hbM, hb, k0, k1, k2, k3, k4, h1, h2, h3, h4, h5⟩ := h
  have hz := hW.size
  have k0' := hW.at0 k0
  have k1' := hW.at0 k1
  have k2' := hW.at0 k2
  have k3' := hW.at0 k3
  have k4' := hW.at0 k4
  clear k0 k1 k2 k3 k4
  go_enter Tryz.func192, Tryz.ntmps192
  go_wp2_with fail
  go_region_held3 (fun wx => wx.cell? ⟨b, 0, none⟩ = some s1 ∧ wx.cell? ⟨b, 1, none⟩ = some s2 ∧ wx.cell? ⟨b, 2, none⟩ = some s3 ∧ wx.cell? ⟨b, 3, none⟩ = some s4 ∧ wx.cell? ⟨b, 4, none⟩ = some p ∧ Chg [] W wx)
    (first | ((repeat' apply And.intro) <;> (first | with_reducible assumption | (simp; done) | ((repeat (refine cell_alloc ?_ _)); (first | with_reducible assumption | (refine Chg.at0 (Nxt.out (by assumption)) ?_; first | with_reducible assumption | (simp; done) | (simp [*]; done)) | (refine Chg.at0 (by assumption) ?_; first | with_reducible assumption | (simp; done) | (simp [*]; done)) | (simp [*]; done))) | ((repeat (first | with_reducible exact Chg.refl _ _ | with_reducible assumption | refine Chg.drew ?_ | refine Chg.alloc ?_ _)); done))))
    (first | (go_at_call 256; (with_reducible refine Calls.mono (zzNumbers_any M W _ s1 c.vs h1 hM l1 ?_) ?_); (focus (first | with_reducible assumption | ((repeat (first | with_reducible exact Chg.refl _ _ | with_reducible assumption | refine Chg.drew ?_ | refine Chg.alloc ?_ _)); done))); rintro e w1 ⟨A1, n1, c1, rfl, hs1, hc1, hn1⟩; obtain ⟨qc1, qf1, qz1⟩ := hn1.rules; (try simp at qz1)) | (go_at_call 256; (with_reducible refine Calls.mono (zzNumbers_any M W _ s2 c.ls h2 hM l2 ?_) ?_); (focus (first | with_reducible assumption | ((repeat (first | with_reducible exact Chg.refl _ _ | with_reducible assumption | refine Chg.drew ?_ | refine Chg.alloc ?_ _)); done))); rintro e w2 ⟨A2, n2, c2, rfl, hs2, hc2, hn2⟩; obtain ⟨qc2, qf2, qz2⟩ := hn2.rules; (try simp at qz2)) | (go_at_call 256; (with_reducible refine Calls.mono (zzNumbers_any M W _ s3 c.os h3 hM l3 ?_) ?_); (focus (first | with_reducible assumption | ((repeat (first | with_reducible exact Chg.refl _ _ | with_reducible assumption | refine Chg.drew ?_ | refine Chg.alloc ?_ _)); done))); rintro e w3 ⟨A3, n3, c3, rfl, hs3, hc3, hn3⟩; obtain ⟨qc3, qf3, qz3⟩ := hn3.rules; (try simp at qz3)) | (go_at_call 256; (with_reducible refine Calls.mono (zzNumbers_any M W _ s4 c.ns h4 hM l4 ?_) ?_); (focus (first | with_reducible assumption | ((repeat (first | with_reducible exact Chg.refl _ _ | with_reducible assumption | refine Chg.drew ?_ | refine Chg.alloc ?_ _)); done))); rintro e w4 ⟨A4, n4, c4, rfl, hs4, hc4, hn4⟩; obtain ⟨qc4, qf4, qz4⟩ := hn4.rules; (try simp at qz4)) | (go_at_call 257; (with_reducible refine Calls.mono (zzPtrBool_any M W _ p c.al h5 hM ?_) ?_); (focus (first | with_reducible assumption | ((repeat (first | with_reducible exact Chg.refl _ _ | with_reducible assumption | refine Chg.drew ?_ | refine Chg.alloc ?_ _)); done))); rintro e w5 ⟨b5, rfl, hs5, hc5, hn5⟩; obtain ⟨qc5, qf5, qz5⟩ := hn5.rules; (try simp at qz5)))
  go_wp2
  go_ret
  have hf : ∀ o1, Chg [] w5 (w5.alloc o1) := fun o1 => (Chg.refl _ _).alloc _
  have q5 := hn5.out.trans (hf (.cells #[.slice A1 n1 c1, .slice A2 n2 c2, .slice A3 n3 c3, .slice A4 n4 c4, .pointer (some ⟨b5, 0, none⟩)] 262))
  have hm5 : ∀ x ∈ M, x < w5.heap.size := fun x hx => Nat.lt_of_lt_of_le (hM x hx) hc5.size
  refine ⟨_, rfl, ⟨_, .slice A1 n1 c1, .slice A2 n2 c2, .slice A3 n3 c3, .slice A4 n4 c4, .pointer (some ⟨b5, 0, none⟩), rfl, fun hm => ?_, by go_size, by go_cell, by go_cell, by go_cell, by go_cell, by go_cell,
    (((hs1.chg0 hn2.out).chg0 hn3.out).chg0 hn4.out).chg0 q5, ((hs2.chg0 hn3.out).chg0 hn4.out).chg0 q5, (hs3.chg0 hn4.out).chg0 q5, hs4.chg0 q5, hs5.chg0 (hf _)⟩, ?_, ⟨?_⟩⟩
  case _ => have := hm5 _ hm; omega
  case _ => (focus (first | with_reducible assumption | ((repeat (first | with_reducible exact Chg.refl _ _ | with_reducible assumption | refine Chg.drew ?_ | refine Chg.alloc ?_ _)); done)))
  case _ => exact ((((((Chg.refl _ _).drew.trans hn1.out).trans hn2.out).trans hn3.out).trans hn4.out)).trans q5
end Go.Proofs.YtalhhplphlobbaaGreat
namespace Go.Proofs.YtalhhplphlobbaaGreat
open Go.RowKit

section
variable {M : List Nat} {w : World} {v : Value}

set_option maxRecDepth 100000 in
set_option maxHeartbeats 400000 in
theorem entIndex_any {t i : Int} {d : ByteArray} (h : EntAt M w v t i d) : Calls Tryz.prog 154 #[v] w fun e w' => e = .returned (.int .u64 i) ∧ w = w' := by
  obtain ⟨b, p1, p2, sd, rfl, hb, hl, c1, c2, c3, c4, ⟨b1, o1, rfl, hb1, hl1, hc1⟩, ⟨b2, o2, rfl, hb2, hl2, hc2⟩, h3⟩ := h
  go_enter Tryz.func154, Tryz.ntmps154
  go_wp2
  go_ret
  exact ⟨rfl, rfl⟩

set_option maxRecDepth 100000 in
set_option maxHeartbeats 400000 in
theorem entTerm_any {t i : Int} {d : ByteArray} (h : EntAt M w v t i d) : Calls Tryz.prog 191 #[v] w fun e w' => e = .returned (.int .u64 t) ∧ w = w' := by
  obtain ⟨b, p1, p2, sd, rfl, hb, hl, c1, c2, c3, c4, ⟨b1, o1, rfl, hb1, hl1, hc1⟩, ⟨b2, o2, rfl, hb2, hl2, hc2⟩, h3⟩ := h
  go_enter Tryz.func191, Tryz.ntmps191
  go_wp2
  go_ret
  exact ⟨rfl, rfl⟩

set_option maxRecDepth 100000 in
set_option maxHeartbeats 400000 in
theorem entType_any {t i : Int} {d : ByteArray} (h : EntAt M w v t i d) : Calls Tryz.prog 242 #[v] w fun e w' => e = .returned (.int .i32 0) ∧ w = w' := by
  obtain ⟨b, p1, p2, sd, rfl, hb, hl, c1, c2, c3, c4, ⟨b1, o1, rfl, hb1, hl1, hc1⟩, ⟨b2, o2, rfl, hb2, hl2, hc2⟩, h3⟩ := h
  go_enter Tryz.func242, Tryz.ntmps242
  go_wp2
  go_ret
  exact ⟨rfl, rfl⟩

set_option maxRecDepth 100000 in
set_option maxHeartbeats 400000 in
theorem hardTerm_any {t vo c : Int} (h : HardAt M w v t vo c) : Calls Tryz.prog 159 #[v] w fun e w' => e = .returned (.int .u64 t) ∧ w = w' := by
  obtain ⟨b, p1, p2, p3, rfl, hb, hl, c1, c2, c3, ⟨b1, o1, rfl, hb1, hl1, hc1⟩, ⟨b2, o2, rfl, hb2, hl2, hc2⟩, ⟨b3, o3, rfl, hb3, hl3, hc3⟩⟩ := h
  go_enter Tryz.func159, Tryz.ntmps159
  go_wp2
  go_ret
  exact ⟨rfl, rfl⟩

set_option maxRecDepth 100000 in
set_option maxHeartbeats 400000 in
theorem hardVote_any {t vo c : Int} (h : HardAt M w v t vo c) : Calls Tryz.prog 160 #[v] w fun e w' => e = .returned (.int .u64 vo) ∧ w = w' := by
  obtain ⟨b, p1, p2, p3, rfl, hb, hl, c1, c2, c3, ⟨b1, o1, rfl, hb1, hl1, hc1⟩, ⟨b2, o2, rfl, hb2, hl2, hc2⟩, ⟨b3, o3, rfl, hb3, hl3, hc3⟩⟩ := h
  go_enter Tryz.func160, Tryz.ntmps160
  go_wp2
  go_ret
  exact ⟨rfl, rfl⟩

set_option maxRecDepth 100000 in
set_option maxHeartbeats 400000 in
theorem hardCommit_any {t vo c : Int} (h : HardAt M w v t vo c) : Calls Tryz.prog 161 #[v] w fun e w' => e = .returned (.int .u64 c) ∧ w = w' := by
  obtain ⟨b, p1, p2, p3, rfl, hb, hl, c1, c2, c3, ⟨b1, o1, rfl, hb1, hl1, hc1⟩, ⟨b2, o2, rfl, hb2, hl2, hc2⟩, ⟨b3, o3, rfl, hb3, hl3, hc3⟩⟩ := h
  go_enter Tryz.func161, Tryz.ntmps161
  go_wp2
  go_ret
  exact ⟨rfl, rfl⟩

set_option maxRecDepth 100000 in
set_option maxHeartbeats 400000 in
theorem metaIndex_any {i t : Int} {c : Cf} (h : MetaAt M w v i t c) : Calls Tryz.prog 150 #[v] w fun e w' => e = .returned (.int .u64 i) ∧ w = w' := by
  obtain ⟨b, pc, p1, p2, rfl, hb, hl, c1, c2, c3, hcf, ⟨b1, o1, rfl, hb1, hl1, hc1⟩, ⟨b2, o2, rfl, hb2, hl2, hc2⟩⟩ := h
  go_enter Tryz.func150, Tryz.ntmps150
  go_wp2
  go_ret
  exact ⟨rfl, rfl⟩

set_option maxRecDepth 100000 in
set_option maxHeartbeats 400000 in
theorem metaTerm_any {i t : Int} {c : Cf} (h : MetaAt M w v i t c) : Calls Tryz.prog 152 #[v] w fun e w' => e = .returned (.int .u64 t) ∧ w = w' := by
  obtain ⟨b, pc, p1, p2, rfl, hb, hl, c1, c2, c3, hcf, ⟨b1, o1, rfl, hb1, hl1, hc1⟩, ⟨b2, o2, rfl, hb2, hl2, hc2⟩⟩ := h
  go_enter Tryz.func152, Tryz.ntmps152
  go_wp2
  go_ret
  exact ⟨rfl, rfl⟩

set_option maxRecDepth 100000 in
set_option maxHeartbeats 400000 in
theorem metaConf_any {i t : Int} {c : Cf} (h : MetaAt M w v i t c) : Calls Tryz.prog 183 #[v] w fun e w' => ∃ b, e = .returned (.pointer (some ⟨b, 0, none⟩)) ∧ CfAt M w (.pointer (some ⟨b, 0, none⟩)) c ∧ w = w' := by
  obtain ⟨b, pc, p1, p2, rfl, hb, hl, c1, c2, c3, hcf, _, _⟩ := h
  obtain ⟨bc, _, _, _, _, _, rfl, _⟩ := id hcf
  go_enter Tryz.func183, Tryz.ntmps183
  go_wp2
  go_ret
  exact ⟨_, rfl, hcf, rfl⟩

set_option maxRecDepth 100000 in
set_option maxHeartbeats 400000 in
theorem snapMeta_any {i t : Int} {d : ByteArray} {c : Cf} (h : SnapAt M w v d i t c) : Calls Tryz.prog 149 #[v] w fun e w' => ∃ b, e = .returned (.pointer (some ⟨b, 0, none⟩)) ∧ MetaAt M w (.pointer (some ⟨b, 0, none⟩)) i t c ∧ w = w' := by
  obtain ⟨b, sd, pm, rfl, hb, hl, c1, c2, h1, h2⟩ := h
  obtain ⟨bc, _, _, _, rfl, _⟩ := id h2
  go_enter Tryz.func149, Tryz.ntmps149
  go_wp2
  go_ret
  exact ⟨_, rfl, h2, rfl⟩

set_option maxRecDepth 100000 in
set_option maxHeartbeats 400000 in
theorem entData_any {i t : Int} {d : ByteArray} (h : EntAt M w v t i d) : Calls Tryz.prog 243 #[v] w fun e w' => ∃ A n c, e = .returned (.slice A n c) ∧ Sl M w (.slice A n c) (Bs d) ∧ w = w' := by
  obtain ⟨b, p1, p2, sd, rfl, hb, hl, c1, c2, c3, c4, _, _, h3⟩ := h
  obtain ⟨A, n, c, rfl⟩ := h3.form
  go_enter Tryz.func243, Tryz.ntmps243
  go_wp2
  go_ret
  exact ⟨_, _, _, rfl, h3, rfl⟩

set_option maxRecDepth 100000 in
set_option maxHeartbeats 400000 in
theorem ensureConf_any {c : Cf} (h : CfAt M w v c) : Calls Tryz.prog 267 #[v] w fun e w' => e = .returned v ∧ w = w' := by
  obtain ⟨b, s1, s2, s3, s4, p, rfl, hbM, hb, k0, k1, k2, k3, k4, h1, h2, h3, h4, ⟨b1, o1, rfl, hb1, hl1, hc1⟩⟩ := h
  go_enter Tryz.func267, Tryz.ntmps267
  go_wp2
  go_ret
  exact ⟨rfl, rfl⟩

set_option maxRecDepth 100000 in
set_option maxHeartbeats 400000 in
theorem ensureMeta_any {i t : Int} {c : Cf} (h : MetaAt M w v i t c) : Calls Tryz.prog 205 #[v] w fun e w' => e = .returned v ∧ w = w' := by
  obtain ⟨b, pc, p1, p2, rfl, hb, hl, c1, c2, c3, hcf, ⟨b1, o1, rfl, hb1, hl1, hc1⟩, ⟨b2, o2, rfl, hb2, hl2, hc2⟩⟩ := h
  obtain ⟨bc, _, _, _, _, _, rfl, _⟩ := id hcf
  go_enter Tryz.func205, Tryz.ntmps205
  go_wp2_with (first | (go_at_call 267; (with_reducible refine Calls.mono (ensureConf_any hcf) ?_); rintro e w' ⟨rfl, rfl⟩))
  go_ret
  exact ⟨rfl, rfl⟩

set_option maxRecDepth 100000 in
set_option maxHeartbeats 400000 in
theorem ensureSnap_any {i t : Int} {d : ByteArray} {c : Cf} (h : SnapAt M w v d i t c) : Calls Tryz.prog 148 #[v] w fun e w' => e = .returned v ∧ w = w' := by
  obtain ⟨b, sd, pm, rfl, hb, hl, c1, c2, h1, h2⟩ := h
  obtain ⟨bc, _, _, _, rfl, _⟩ := id h2
  go_enter Tryz.func148, Tryz.ntmps148
  go_wp2_with (first | (go_at_call 205; (with_reducible refine Calls.mono (ensureMeta_any h2) ?_); rintro e w' ⟨rfl, rfl⟩))
  go_ret
  exact ⟨rfl, rfl⟩
end

set_option maxRecDepth 100000 in
set_option maxHeartbeats 2000000 in
theorem metaClone_any (M : List Nat) (W w : World) (v : Value) (i t : Int) (c : Cf) (h : MetaAt M W v i t c) (hM : ∀ x ∈ M, x < W.heap.size)
    (l1 : c.vs.length ≤ 1000000000) (l2 : c.ls.length ≤ 1000000000) (l3 : c.os.length ≤ 1000000000) (l4 : c.ns.length ≤ 1000000000) (hW : Chg [] W w) :
    Calls Tryz.prog 207 #[v] w fun e w' => ∃ b, e = .returned (.pointer (some ⟨b, 0, none⟩)) ∧ MetaAt M w' (.pointer (some ⟨b, 0, none⟩)) i t c ∧ Chg [] W w' ∧ Nxt w w' := by
  obtain ⟨b, pc, p1, p2, rfl, hb, hl, k0, k1, k2, hcf, h1, h2⟩ := h
  have hz := hW.size
  have k0' := hW.at0 k0
  have k1' := hW.at0 k1
  have k2' := hW.at0 k2
  clear k0 k1 k2
  go_enter Tryz.func207, Tryz.ntmps207
  go_wp2_with fail
  go_region_held3 (fun wx => wx.cell? ⟨b, 0, none⟩ = some pc ∧ wx.cell? ⟨b, 1, none⟩ = some p1 ∧ wx.cell? ⟨b, 2, none⟩ = some p2 ∧ Chg [] W wx)
    (first | ((repeat' apply And.intro) <;> (first | with_reducible assumption | (simp; done) | ((repeat (refine cell_alloc ?_ _)); (first | with_reducible assumption | (refine Chg.at0 (Nxt.out (by assumption)) ?_; first | with_reducible assumption | (simp; done) | (simp [*]; done)) | (refine Chg.at0 (by assumption) ?_; first | with_reducible assumption | (simp; done) | (simp [*]; done)) | (simp [*]; done))) | ((repeat (first | with_reducible exact Chg.refl _ _ | with_reducible assumption | refine Chg.drew ?_ | refine Chg.alloc ?_ _)); done))))
    (first | (go_at_call 192; (with_reducible refine Calls.mono (confClone_any M W _ pc c hcf hM l1 l2 l3 l4 ?_) ?_); (focus (first | with_reducible assumption | ((repeat (first | with_reducible exact Chg.refl _ _ | with_reducible assumption | refine Chg.drew ?_ | refine Chg.alloc ?_ _)); done))); rintro e w1 ⟨b1, rfl, hs1, hc1, hn1⟩; obtain ⟨qc1, qf1, qz1⟩ := hn1.rules; (try simp at qz1)) | (go_at_call 268; (with_reducible refine Calls.mono (zzPtrU64_any M W _ p1 i h1 hM ?_) ?_); (focus (first | with_reducible assumption | ((repeat (first | with_reducible exact Chg.refl _ _ | with_reducible assumption | refine Chg.drew ?_ | refine Chg.alloc ?_ _)); done))); rintro e w2 ⟨b2, rfl, hs2, hc2, hn2⟩; obtain ⟨qc2, qf2, qz2⟩ := hn2.rules; (try simp at qz2)) | (go_at_call 268; (with_reducible refine Calls.mono (zzPtrU64_any M W _ p2 t h2 hM ?_) ?_); (focus (first | with_reducible assumption | ((repeat (first | with_reducible exact Chg.refl _ _ | with_reducible assumption | refine Chg.drew ?_ | refine Chg.alloc ?_ _)); done))); rintro e w3 ⟨b3, rfl, hs3, hc3, hn3⟩; obtain ⟨qc3, qf3, qz3⟩ := hn3.rules; (try simp at qz3)))
  go_wp2
  go_ret
  have hf : ∀ o1, Chg [] w3 (w3.alloc o1) := fun o1 => (Chg.refl _ _).alloc _
  have q5 := hn3.out.trans (hf (.cells #[.pointer (some ⟨b1, 0, none⟩), .pointer (some ⟨b2, 0, none⟩), .pointer (some ⟨b3, 0, none⟩)] 254))
  have hm5 : ∀ x ∈ M, x < w3.heap.size := fun x hx => Nat.lt_of_lt_of_le (hM x hx) hc3.size
  refine ⟨_, rfl, ⟨_, .pointer (some ⟨b1, 0, none⟩), .pointer (some ⟨b2, 0, none⟩), .pointer (some ⟨b3, 0, none⟩), rfl, fun hm => ?_, by go_size, by go_cell, by go_cell, by go_cell,
    ConfAt.chg0 (ConfAt.chg0 hs1 hn2.out) q5, hs2.chg0 q5, hs3.chg0 (hf _)⟩, ?_, ⟨?_⟩⟩
  case _ => have := hm5 _ hm; omega
  case _ => (focus (first | with_reducible assumption | ((repeat (first | with_reducible exact Chg.refl _ _ | with_reducible assumption | refine Chg.drew ?_ | refine Chg.alloc ?_ _)); done)))
  case _ => exact (((Chg.refl _ _).drew.trans hn1.out).trans hn2.out).trans q5

set_option maxRecDepth 100000 in
set_option maxHeartbeats 2000000 in
theorem snapClone_any (M : List Nat) (W w : World) (v : Value) (d : ByteArray) (i t : Int) (c : Cf) (h : SnapAt M W v d i t c) (hM : ∀ x ∈ M, x < W.heap.size) (ld : d.data.size ≤ 1000000000)
    (l1 : c.vs.length ≤ 1000000000) (l2 : c.ls.length ≤ 1000000000) (l3 : c.os.length ≤ 1000000000) (l4 : c.ns.length ≤ 1000000000) (hW : Chg [] W w) :
    Calls Tryz.prog 151 #[v] w fun e w' => ∃ b, e = .returned (.pointer (some ⟨b, 0, none⟩)) ∧ SnapAt M w' (.pointer (some ⟨b, 0, none⟩)) d i t c ∧ Chg [] W w' ∧ Nxt w w' := by
  obtain ⟨b, sd, pm, rfl, hb, hl, k0, k1, h1, h2⟩ := h
  have hz := hW.size
  have k0' := hW.at0 k0
  have k1' := hW.at0 k1
  clear k0 k1
  go_enter Tryz.func151, Tryz.ntmps151
  go_wp2_with fail
  go_region_held3 (fun wx => wx.cell? ⟨b, 0, none⟩ = some sd ∧ wx.cell? ⟨b, 1, none⟩ = some pm ∧ Chg [] W wx)
    (first | ((repeat' apply And.intro) <;> (first | with_reducible assumption | (simp; done) | ((repeat (refine cell_alloc ?_ _)); (first | with_reducible assumption | (refine Chg.at0 (Nxt.out (by assumption)) ?_; first | with_reducible assumption | (simp; done) | (simp [*]; done)) | (refine Chg.at0 (by assumption) ?_; first | with_reducible assumption | (simp; done) | (simp [*]; done)) | (simp [*]; done))) | ((repeat (first | with_reducible exact Chg.refl _ _ | with_reducible assumption | refine Chg.drew ?_ | refine Chg.alloc ?_ _)); done))))
    (first | (go_at_call 206; (with_reducible refine Calls.mono (zzBytes_any M W _ sd d h1 hM ld ?_) ?_); (focus (first | with_reducible assumption | ((repeat (first | with_reducible exact Chg.refl _ _ | with_reducible assumption | refine Chg.drew ?_ | refine Chg.alloc ?_ _)); done))); rintro e w1 ⟨A1, n1, c1, rfl, hs1, hc1, hn1⟩; obtain ⟨qc1, qf1, qz1⟩ := hn1.rules; (try simp at qz1)) | (go_at_call 207; (with_reducible refine Calls.mono (metaClone_any M W _ pm i t c h2 hM l1 l2 l3 l4 ?_) ?_); (focus (first | with_reducible assumption | ((repeat (first | with_reducible exact Chg.refl _ _ | with_reducible assumption | refine Chg.drew ?_ | refine Chg.alloc ?_ _)); done))); rintro e w2 ⟨b2, rfl, hs2, hc2, hn2⟩; obtain ⟨qc2, qf2, qz2⟩ := hn2.rules; (try simp at qz2)))
  go_wp2
  go_ret
  have hf : ∀ o1, Chg [] w2 (w2.alloc o1) := fun o1 => (Chg.refl _ _).alloc _
  have q5 := hn2.out.trans (hf (.cells #[.slice A1 n1 c1, .pointer (some ⟨b2, 0, none⟩)] 256))
  have hm5 : ∀ x ∈ M, x < w2.heap.size := fun x hx => Nat.lt_of_lt_of_le (hM x hx) hc2.size
  refine ⟨_, rfl, ⟨_, .slice A1 n1 c1, .pointer (some ⟨b2, 0, none⟩), rfl, fun hm => ?_, by go_size, by go_cell, by go_cell, hs1.chg0 q5, MetaAt.chg hs2 (hf _) (by simp)⟩, ?_, ⟨?_⟩⟩
  case _ => have := hm5 _ hm; omega
  case _ => (focus (first | with_reducible assumption | ((repeat (first | with_reducible exact Chg.refl _ _ | with_reducible assumption | refine Chg.drew ?_ | refine Chg.alloc ?_ _)); done)))
  case _ => exact ((Chg.refl _ _).drew.trans hn1.out).trans q5
end Go.Proofs.YtalhhplphlobbaaGreat
namespace Go.Proofs.YtalhhplphlobbaaGreat
open Go.RowKit

/-- A MemoryStorage: its three fields; the counters of calls are left open. -/
def MsAt (w : World) (ms : Nat) (hv sv ev : Value) : Prop :=
  ∃ c0 c1 c2 c3 c4 c5 : Int, Blk w ms 246 #[hv, sv, ev, .int .i64 c0, .int .i64 c1, .int .i64 c2, .int .i64 c3, .int .i64 c4, .int .i64 c5]
theorem MsAt.chg {L : List Nat} {w w' : World} {ms : Nat} {hv sv ev : Value} (h : MsAt w ms hv sv ev) (hc : Chg L w w') (hg : ms ∉ L) : MsAt w' ms hv sv ev := by
  obtain ⟨c0, c1, c2, c3, c4, c5, hb⟩ := h
  exact ⟨c0, c1, c2, c3, c4, c5, hb.chg hc hg⟩
theorem MsAt.lt {w : World} {ms : Nat} {hv sv ev : Value} (h : MsAt w ms hv sv ev) : ms < w.heap.size := by
  obtain ⟨_, _, _, _, _, _, hb⟩ := h
  exact hb.lt
def cf0 : Cf := ⟨[], [], [], [], false⟩

set_option maxRecDepth 100000 in
set_option maxHeartbeats 400000 in
theorem setHard_any (w : World) (ms : Nat) (hv sv ev hv' : Value) (hp : ∃ a, hv' = .pointer a) (h : MsAt w ms hv sv ev) :
    Calls Tryz.prog 101 #[.pointer (some ⟨ms, 0, none⟩), hv'] w fun e w' => e = .returned .nilIface ∧ MsAt w' ms hv' sv ev ∧ Chg [ms] w w' := by
  obtain ⟨c0, c1, c2, c3, c4, c5, hb⟩ := h
  obtain ⟨a, rfl⟩ := hp
  have k0 := hb.cell 0
  simp at k0
  have f0 := hb.frozen 0
  go_enter Tryz.func101, Tryz.ntmps101
  go_wp2
  go_ret
  refine ⟨rfl, ⟨c0, c1, c2, c3, c4, c5, ?_⟩, ?_⟩
  · simpa using hb.set_ 0 (.pointer a)
  · (focus (first | with_reducible assumption | ((repeat (first | with_reducible exact Chg.refl _ _ | with_reducible assumption | with_reducible refine Chg.drew ?_ | with_reducible refine Chg.alloc ?_ _ | with_reducible refine Chg.setCell ?_ (by simp) _ | with_reducible refine Chg.nxt ?_ (by assumption))); done)))

set_option maxRecDepth 100000 in
set_option maxHeartbeats 1000000 in
theorem ensureSnap_nil (M : List Nat) (W w : World) (hM : ∀ x ∈ M, x < W.heap.size) (hW : Chg [] W w) : Calls Tryz.prog 148 #[.pointer none] w fun e w' => ∃ b, e = .returned (.pointer (some ⟨b, 0, none⟩)) ∧ SnapAt M w' (.pointer (some ⟨b, 0, none⟩)) ByteArray.empty 0 0 cf0 ∧ Chg [] W w' ∧ Nxt w w' := by
  go_enter Tryz.func148, Tryz.ntmps148
  have hz := hW.size
  go_wp2
  go_ret
  refine ⟨w.heap.size, rfl, ⟨w.heap.size, .slice none 0 0, .pointer (some ⟨w.heap.size + 1, 0, none⟩), rfl, fun hm => ?_, (by first | go_size | (simp [go_sem]; done) | (simp [go_sem]; omega)), (by first | go_cell | (simp [go_sem]; done) | (simp [go_sem]; rfl)), (by first | go_cell | (simp [go_sem]; done) | (simp [go_sem]; rfl)), Sl.nil _ _,
    ⟨w.heap.size + 1, .pointer (some ⟨w.heap.size + 2, 0, none⟩), .pointer (some ⟨w.heap.size + 4, 0, none⟩), .pointer (some ⟨w.heap.size + 5, 0, none⟩), rfl, fun hm => ?_, (by first | go_size | (simp [go_sem]; done) | (simp [go_sem]; omega)), (by first | go_cell | (simp [go_sem]; done) | (simp [go_sem]; rfl)), (by first | go_cell | (simp [go_sem]; done) | (simp [go_sem]; rfl)), (by first | go_cell | (simp [go_sem]; done) | (simp [go_sem]; rfl)),
      ⟨w.heap.size + 2, .slice none 0 0, .slice none 0 0, .slice none 0 0, .slice none 0 0, .pointer (some ⟨w.heap.size + 3, 0, none⟩), rfl, fun hm => ?_, (by first | go_size | (simp [go_sem]; done) | (simp [go_sem]; omega)), (by first | go_cell | (simp [go_sem]; done) | (simp [go_sem]; rfl)), (by first | go_cell | (simp [go_sem]; done) | (simp [go_sem]; rfl)), (by first | go_cell | (simp [go_sem]; done) | (simp [go_sem]; rfl)), (by first | go_cell | (simp [go_sem]; done) | (simp [go_sem]; rfl)), (by first | go_cell | (simp [go_sem]; done) | (simp [go_sem]; rfl)),
        Sl.nil _ _, Sl.nil _ _, Sl.nil _ _, Sl.nil _ _, ⟨w.heap.size + 3, 0, rfl, fun hm => ?_, (by first | go_size | (simp [go_sem]; done) | (simp [go_sem]; omega)), (by first | go_cell | (simp [go_sem]; done) | (simp [go_sem]; rfl))⟩⟩, ⟨w.heap.size + 4, 0, rfl, fun hm => ?_, (by first | go_size | (simp [go_sem]; done) | (simp [go_sem]; omega)), (by first | go_cell | (simp [go_sem]; done) | (simp [go_sem]; rfl))⟩, ⟨w.heap.size + 5, 0, rfl, fun hm => ?_, (by first | go_size | (simp [go_sem]; done) | (simp [go_sem]; omega)), (by first | go_cell | (simp [go_sem]; done) | (simp [go_sem]; rfl))⟩⟩⟩, ?_, ⟨?_⟩⟩
  all_goals first | (have := hM _ hm; omega) | (focus (first | with_reducible assumption | ((repeat (first | with_reducible exact Chg.refl _ _ | with_reducible assumption | refine Chg.drew ?_ | refine Chg.alloc ?_ _)); done)))

set_option maxRecDepth 100000 in
set_option maxHeartbeats 1000000 in
theorem newStorage_any (M : List Nat) (W w : World) (hM : ∀ x ∈ M, x < W.heap.size) (hW : Chg [] W w) :
    Calls Tryz.prog 96 #[] w fun e w' => ∃ ms sv ev, e = .returned (.pointer (some ⟨ms, 0, none⟩)) ∧ w.heap.size ≤ ms ∧ MsAt w' ms (.pointer none) sv ev ∧ SnapAt (ms :: M) w' sv ByteArray.empty 0 0 cf0 ∧ Chg [] W w' ∧ Nxt w w' := by
  have hz := hW.size
  go_enter Tryz.func96, Tryz.ntmps96
  have hq : ∀ o1 o2 o3, ∀ x ∈ ((w.heap.size + 2) :: M), x < (((w.alloc o1).alloc o2).alloc o3).heap.size := fun o1 o2 o3 x hx => by
    rcases List.mem_cons.1 hx with rfl | hx
    · simp
    · have := hM _ hx; simp; omega
  have hb : ∀ o1 o2 cs, Blk (((w.alloc o1).alloc o2).alloc (.cells cs 246)) (w.heap.size + 2) 246 cs := fun o1 o2 cs => by
    have := Blk.new ((w.alloc o1).alloc o2) 246 cs
    simpa using this
  go_wp2_with (first | (go_at_call 148; (with_reducible refine Calls.mono (ensureSnap_nil ((w.heap.size + 2) :: M) _ _ (hq _ _ _) (Chg.refl _ _)) ?_); rintro e w1 ⟨b1, rfl, hs1, hc1, hn1⟩; obtain ⟨qc1, qf1, qz1⟩ := hn1.rules; simp at qz1; have l1 : w.heap.size + 2 < w1.heap.size := by omega))
  go_ret
  have h1 := ((hb _ _ _).nxt hn1).set_ 1 (.pointer (some ⟨b1, 0, none⟩))
  simp at h1
  refine ⟨w.heap.size + 2, _, _, rfl, by omega, ⟨0, 0, 0, 0, 0, 0, h1⟩, SnapAt.chg (L := [w.heap.size + 2]) hs1 (Chg.setCell (Chg.refl _ _) (by simp) _) (by simp), ?_, ⟨?_⟩⟩
  · exact ((((hW.alloc _).alloc _).alloc _).nxt hn1).setCell (.inl (by simp; omega)) _
  · exact (((((Chg.refl _ _).alloc _).alloc _).alloc _).nxt hn1).setCell (.inl (by simp; omega)) _

set_option maxRecDepth 100000 in
set_option maxHeartbeats 1000000 in
theorem applySnap_any (M : List Nat) (w : World) (ms : Nat) (hv sv ev v : Value) (d0 : ByteArray) (i0 t0 : Int) (c0 : Cf) (d : ByteArray) (i t : Int) (c : Cf)
    (h : MsAt w ms hv sv ev) (hms : ms ∈ M) (h0 : SnapAt M w sv d0 i0 t0 c0) (h1 : SnapAt M w v d i t c) (hM : ∀ x ∈ M, x < w.heap.size) (hlt : i0 < i) (ld : d.data.size ≤ 1000000000)
    (l1 : c.vs.length ≤ 1000000000) (l2 : c.ls.length ≤ 1000000000) (l3 : c.os.length ≤ 1000000000) (l4 : c.ns.length ≤ 1000000000) :
    Calls Tryz.prog 97 #[.pointer (some ⟨ms, 0, none⟩), v] w fun e w' => e = .returned .nilIface ∧ ∃ sv' ev', MsAt w' ms hv sv' ev' ∧ SnapAt M w' sv' d i t c ∧ OwnEnts M w' w.heap.size ev' [⟨t, i, ByteArray.empty⟩] ∧ Chg [ms] w w' := by
  obtain ⟨n0, n1, n2, n3, n4, n5, hb⟩ := h
  obtain ⟨bs, rfl⟩ := h0.form
  obtain ⟨bv, rfl⟩ := h1.form
  have f1 := hb.frozen 1
  have f2 := hb.frozen 2
  have k2 := hb.cell 2
  simp at k2
  have k1 := hb.cell 1
  simp at k1
  have hbl := hb.lt
  have hML : ∀ x ∈ [ms], x ∈ M := by simpa using hms
  by_cases hi0 : i0 = 0
  all_goals
    go_enter Tryz.func97, Tryz.ntmps97
    go_wp2_with (first | (go_at_call 148; (with_reducible refine Calls.mono (ensureSnap_any h1) ?_); rintro e w' ⟨rfl, rfl⟩) | (go_at_call 149; (with_reducible refine Calls.mono (snapMeta_any h0) ?_); rintro e w' ⟨bm, rfl, hm, rfl⟩) | (go_at_call 150; (with_reducible refine Calls.mono (metaIndex_any hm) ?_); rintro e w' ⟨rfl, rfl⟩) | (go_at_call 149; (with_reducible refine Calls.mono (snapMeta_any (SnapAt.chg h1 ?_ hML)) ?_); (focus (first | with_reducible assumption | ((repeat (first | with_reducible exact Chg.refl _ _ | with_reducible assumption | with_reducible refine Chg.drew ?_ | with_reducible refine Chg.alloc ?_ _ | with_reducible refine Chg.setCell ?_ (by simp) _ | with_reducible refine Chg.nxt ?_ (by assumption))); done))); rintro e w' ⟨bm1, rfl, hm1, rfl⟩) | (go_at_call 150; (with_reducible refine Calls.mono (metaIndex_any hm1) ?_); rintro e w' ⟨rfl, rfl⟩) | (go_at_call 152; (with_reducible refine Calls.mono (metaTerm_any hm1) ?_); rintro e w' ⟨rfl, rfl⟩) | (go_at_call 151; (with_reducible refine Calls.mono (snapClone_any M w _ _ d i t c h1 hM ld l1 l2 l3 l4 ?_) ?_); (focus (first | with_reducible assumption | ((repeat (first | with_reducible exact Chg.refl _ _ | with_reducible assumption | with_reducible refine Chg.drew ?_ | with_reducible refine Chg.alloc ?_ _ | with_reducible refine Chg.setCell ?_ (by simp) _ | with_reducible refine Chg.nxt ?_ (by assumption))); done))); rintro e w1 ⟨b3, rfl, hs3, hc3, hn3⟩; obtain ⟨qc3, qf3, qz3⟩ := hn3.rules; (try simp at qz3); obtain ⟨lms, _, _, _, _, _, _⟩ := lts (Nat.lt_of_lt_of_le hbl hn3.out.size)))
    go_ret
    have hq : ∀ x ∈ M, x < w1.heap.size := fun x hx => Nat.lt_of_lt_of_le (hM x hx) hn3.out.size
    have hb1 := (((((((hb.nxt hn3).set_ 1 (.pointer (some ⟨b3, 0, none⟩))).set_ 2 (.slice (some ⟨w1.heap.size + 3, 0, none⟩) 1 1)).alloc (.cells #[.int .u64 t] 22)).alloc (.cells #[.int .u64 i] 22)).alloc (.cells #[.pointer (some ⟨w1.heap.size, 0, none⟩), .pointer (some ⟨w1.heap.size + 1, 0, none⟩), .pointer none, .slice none 0 0] 242)).alloc (.cells #[.pointer (some ⟨w1.heap.size + 2, 0, none⟩)] 238))
    simp at hb1
    have hrow : ∀ (w5 : World) (x : Value), w5.heap.size = w1.heap.size + 3 → (w5.alloc (.cells #[x] 238)).ownsRow w.heap.size 238 1 (.slice (some ⟨w1.heap.size + 3, 0, none⟩) 1 1) 1 [x] := fun w5 x h5 =>
      ⟨rfl, .inr ⟨w1.heap.size + 3, 1, #[x], rfl, by omega, by have := heap_alloc_new w5 (.cells #[x] 238); rw [h5] at this; exact this, Nat.le_refl _, by simp [maxLen], rfl, rfl⟩⟩
    have hq2 : ∀ x ∈ rowL (.slice (some ⟨w1.heap.size + 3, 0, none⟩) 1 1) ++ M, x < w1.heap.size ∨ x = w1.heap.size + 3 := fun x hx => by
      rcases List.mem_append.1 hx with h | h
      · right; rw [mem_rowL] at h; simpa [Value.ownBlock] using h.symm
      · exact .inl (hq x h)
    refine ⟨rfl, .pointer (some ⟨b3, 0, none⟩), .slice (some ⟨w1.heap.size + 3, 0, none⟩) 1 1, ⟨_, _, _, _, _, _, hb1⟩, SnapAt.chg (L := [ms]) hs3 ?_ hML, ⟨[.pointer (some ⟨w1.heap.size + 2, 0, none⟩)], hrow _ _ (by first | go_size | (simp [go_sem]; done) | (simp [go_sem]; omega)), rfl, fun j e he => ?_⟩, ?_⟩
    · (focus (first | with_reducible assumption | ((repeat (first | with_reducible exact Chg.refl _ _ | with_reducible assumption | with_reducible refine Chg.drew ?_ | with_reducible refine Chg.alloc ?_ _ | with_reducible refine Chg.setCell ?_ (by simp) _ | with_reducible refine Chg.nxt ?_ (by assumption))); done)))
    · rcases j with _ | j
      · simp only [List.getElem?_cons_zero, Option.some.injEq] at he
        subst he
        exact ⟨_, rfl, ⟨w1.heap.size + 2, .pointer (some ⟨w1.heap.size, 0, none⟩), .pointer (some ⟨w1.heap.size + 1, 0, none⟩), .slice none 0 0, rfl, fun hm => by have := hq2 _ hm; omega, (by first | go_size | (simp [go_sem]; done) | (simp [go_sem]; omega)), (by first | go_cell | (simp [go_sem]; done) | (simp [go_sem]; rfl)), (by first | go_cell | (simp [go_sem]; done) | (simp [go_sem]; rfl)), (by first | go_cell | (simp [go_sem]; done) | (simp [go_sem]; rfl)), (by first | go_cell | (simp [go_sem]; done) | (simp [go_sem]; rfl)),
          ⟨w1.heap.size, 0, rfl, fun hm => by have := hq2 _ hm; omega, (by first | go_size | (simp [go_sem]; done) | (simp [go_sem]; omega)), (by first | go_cell | (simp [go_sem]; done) | (simp [go_sem]; rfl))⟩, ⟨w1.heap.size + 1, 0, rfl, fun hm => by have := hq2 _ hm; omega, (by first | go_size | (simp [go_sem]; done) | (simp [go_sem]; omega)), (by first | go_cell | (simp [go_sem]; done) | (simp [go_sem]; rfl))⟩, Sl.nil _ _⟩⟩
      · simp at he
    · (focus (first | with_reducible assumption | ((repeat (first | with_reducible exact Chg.refl _ _ | with_reducible assumption | with_reducible refine Chg.drew ?_ | with_reducible refine Chg.alloc ?_ _ | with_reducible refine Chg.setCell ?_ (by simp) _ | with_reducible refine Chg.nxt ?_ (by assumption))); done)))
end Go.Proofs.YtalhhplphlobbaaGreat
