/- entriesFrom: entries as plain data. Conditions: sizes. The driver's conversions of what a Ready holds, where it is nil; save; changeOf; logOf. Conditions: a calm Ready. Step on the message of what was applied; Advance. Conditions: a node whose Ready was handed out. -/
import Derived.Laws.BytesArg
import Derived.Test.YtalhhplphlobbaaGreatP05
import Derived.Test.YtalhhplphlobbaaGreatP29
set_option linter.unusedVariables false
set_option linter.unusedSimpArgs false
namespace Go.Proofs.YtalhhplphlobbaaGreat
open Go.RowKit
theorem info65 : (Tryz.prog.info? 65).map (fun i => (i.zero, i.size, i.bytes)) = some (some (.agg #[.int .u64 0, .int .u64 0, .int .i64 0, .string ⟨#[]⟩]), 4, 40) := by kernel_rfl
/-- The cells of entries as plain data. -/
def ECells (l : List Ent) : List Value := l.flatMap fun e => [.int .u64 e.t, .int .u64 e.i, .int .i64 0, .string e.d]
theorem ECells_len (l : List Ent) : (ECells l).length = l.length * 4 := by
  induction l with
  | nil => rfl
  | cons e l ih => simp only [ECells, List.flatMap_cons, List.length_append, List.length_cons, List.length_nil] at ih ⊢; rw [ih]; omega
theorem ECells_snoc (l : List Ent) (e : Ent) : ECells (l ++ [e]) = ECells l ++ [.int .u64 e.t, .int .u64 e.i, .int .i64 0, .string e.d] := by simp [ECells]
theorem ECells_at : ∀ {l : List Ent} {j : Nat} {e : Ent}, l[j]? = some e → (ECells l)[j * 4]? = some (.int .u64 e.t) ∧ (ECells l)[j * 4 + 1]? = some (.int .u64 e.i) ∧ (ECells l)[j * 4 + 2]? = some (.int .i64 0) ∧ (ECells l)[j * 4 + 3]? = some (.string e.d)
  | [], j, e, h => by simp at h
  | x :: l, 0, e, h => by
    simp at h
    subst h
    simp [ECells]
  | x :: l, j + 1, e, h => by
    have := ECells_at (l := l) (j := j) (e := e) (by simpa using h)
    have he : ECells (x :: l) = [.int .u64 x.t, .int .u64 x.i, .int .i64 0, .string x.d] ++ ECells l := by simp [ECells]
    rw [he, show (j + 1) * 4 = j * 4 + 4 by omega]
    simp only [List.getElem?_append, List.length_cons, List.length_nil]
    rw [if_neg (by omega), if_neg (by omega), if_neg (by omega), if_neg (by omega)]
    simpa [Nat.add_sub_cancel, show ∀ a b : Nat, j * 4 + 4 + a - 4 = j * 4 + a by omega] using this
theorem strOf_bytes (d : ByteArray) : strOfNums (d.data.toList.map fun b => ((b.toNat : Nat) : Int)) = d := by
  unfold strOfNums
  rw [List.map_map]
  have : (fun n : Int => UInt8.ofNat n.toNat) ∘ (fun b : UInt8 => ((b.toNat : Nat) : Int)) = id := by
    funext b
    simp
  rw [this, List.map_id]
/-- string(b) of a slice that reads as a text's bytes. -/
theorem conv_sl {M : List Nat} {w : World} {v : Value} {d : ByteArray} (h : Sl M w v (Bs d)) : (convert 197 9 v).run Tryz.prog w = .ok (.string d) w := by
  obtain ⟨A, n, c, rfl, hn, hnc, h0, ha⟩ := h
  rcases A with _ | ⟨b, o, s⟩
  · have : c = 0 := h0 rfl
    have hn0 : n = 0 := by omega
    subst hn0
    have : d = ByteArray.empty := by
      have h1 : d.data.toList = [] := by
        have := List.eq_nil_of_length_eq_zero hn
        unfold Bs at this
        exact List.map_eq_nil_iff.1 this
      have h2 : d.data = #[] := by simpa using h1
      cases d
      simp at h2
      subst h2
      rfl
    subst this
    exact run_convert_bytes_nil w 197 5 Tryz.underlying197 Tryz.underlying5 0 c 9 Tryz.underlying9
  · obtain ⟨rfl, _, _, hcell⟩ := ha b o s rfl
    have hr := run_convert_bytes_arg (P := Tryz.prog) w 197 5 Tryz.underlying197 Tryz.underlying5 b o n c (d.data.toList.map fun b => ((b.toNat : Nat) : Int)) (by rw [← hn]; simp only [Bs, List.length_map]) (fun i hi => by
      have hid : i < d.data.toList.length := by
        rw [← hn] at hi
        simpa only [Bs, List.length_map] using hi
      refine hcell i _ ?_
      unfold Bs
      rw [List.getElem?_map, List.getD_eq_getElem?_getD, List.getElem?_map, List.getElem?_eq_getElem hid]
      rfl) 9 Tryz.underlying9
    rw [strOf_bytes] at hr
    exact hr
set_option maxRecDepth 100000 in
set_option maxHeartbeats 2000000 in
theorem entriesFrom_any {M : List Nat} {w : World} {v : Value} {l : List Ent} (h : EntsAt M w v l) (hl : l.length ≤ 100000) :
    Calls Tryz.prog 177 #[v] w fun y w' => ∃ A n c, y = .returned (.slice A n c) ∧ w'.ownsRow w.heap.size 65 4 (.slice A n c) l.length (ECells l) ∧ Nxt w w' := by
  obtain ⟨ps, hs, hz⟩ := h
  obtain ⟨A, n, c, rfl⟩ := hs.form
  obtain ⟨g1, g2, g3⟩ := sl_len hs
  have g4 := hz.1
  obtain ⟨i0, hi1, hz0, hz1, hz2⟩ := info_parts info65
  have HS := Lib.hid hs
  have HZ := Lib.hid hz
  have HG := Lib.hid (show l.length = n by omega)
  have n1 : n ≤ 100000 := by omega
  clear hs hz g1 g3 g4 hl
  go_enter Tryz.func177, Tryz.ntmps177
  go_wp2
  go_loopw [3, 8] (fun s i wr => ∃ (k : Nat) (s' : Value), k ≤ n ∧ i = .int .i64 k ∧ s' = s ∧ wr.ownsRow w.heap.size 65 4 s' k (ECells (l.take k)) ∧ Chg [] w wr) (fun _ i _ => n - (intOf i).toNat)
  case atStart => exact ⟨0, _, by omega, rfl, rfl, own_nil _ _ _ _, Chg.refl _ _⟩
  case round =>
    obtain ⟨k, sv, hk, rfl, rfl, hown, hcw⟩ := hrel
    by_cases hlt : k < n
    · obtain ⟨b, o, p, rfl, hp, hcell, _⟩ := sl_at HS.out hlt
      have hks : k < l.length := by have := HG.out; omega
      obtain ⟨q, hq, hE⟩ := HZ.out.2 k l[k] (List.getElem?_eq_getElem hks)
      rw [hp] at hq
      injection hq with hq
      subst hq
      have d1 := hcw.at0 hcell
      have i1 : (0 : Int) ≤ k ∧ (k : Int) < n := by omega
      have htk := ECells_snoc (l.take k) l[k]
      rw [← List.take_succ_eq_append_getElem hks] at htk
      obtain ⟨x, hx⟩ : ∃ x, x = l[k] := ⟨_, rfl⟩
      rw [← hx] at hE htk
      have hE2 := EntAt.chg (L := []) hE hcw (by simp)
      have HT := Lib.hid htk
      have HOWN := Lib.hid hown
      have HCW := Lib.hid hcw
      have HE := Lib.hid hE2
      clear hp htk hcell hcw hE hE2 hx hown
      go_wp2_with (first | (go_at_call 191; (with_reducible refine Calls.mono (entTerm_any HE.out) ?_); rintro e w' ⟨rfl, rfl⟩) | (go_at_call 154; (with_reducible refine Calls.mono (entIndex_any HE.out) ?_); rintro e w' ⟨rfl, rfl⟩) | (go_at_call 242; (with_reducible refine Calls.mono (entType_any HE.out) ?_); rintro e w' ⟨rfl, rfl⟩) | (go_at_call 243; (with_reducible refine Calls.mono (entData_any HE.out) ?_); rintro e w' ⟨A2, n2, c2, rfl, hs2, rfl⟩; have hcv := conv_sl hs2; clear hs2) | (at_builtin; refine wpList_append_own_at _ rfl _ _ 29 rfl w.heap.size 65 i0 (.agg #[.int .u64 0, .int .u64 0, .int .i64 0, .string ⟨#[]⟩]) 4 40 Tryz.underlying29 hi1 hz0 hz1 hz2 rfl (by decide) _ k _ rfl (own_chg0 HOWN.out ((Chg.refl _ _).alloc _)) ⟨wr.heap.size, 0, none⟩ 1 1 [.int .u64 x.t, .int .u64 x.i, .int .i64 0, .string x.d] rfl rfl ?c1 ?c2 ?c3 ?c4 ?c5 ?_))
      case c1 =>
        intro j u hu
        rcases j with _ | _ | _ | _ | j
        all_goals simp at hu
        all_goals subst hu
        all_goals simp [Addr.add, go_sem]
      case c2 => simp [Value.oneCell']
      case c3 => simp only [maxLen]; omega
      case c4 => omega
      case c5 => have := HCW.out.size; simp; omega
      intro v' w2 hown2 hg2 hnl2 hat2
      rw [← HT.out] at hown2
      have hc2 : Chg [] w w2 := chg_row0 (HCW.out.alloc _) hg2 (fun g hg => (own_lt HOWN.out hg).1)
      have HOW2 := Lib.hid hown2
      have HC2 := Lib.hid hc2
      clear hown2 hc2 hg2 hnl2 hat2
      go_wp2
      exact ⟨⟨k + 1, _, by omega, by go_num, rfl, HOW2.out, HC2.out⟩, by simp [intOf]; omega⟩
    · have hkn : k = n := by omega
      subst hkn
      obtain ⟨A3, n3, c3, rfl⟩ : ∃ A n c, sv = .slice A n c := by
        rcases hown.2 with ⟨rfl, _⟩ | ⟨_, _, _, rfl, _⟩
        · exact ⟨_, _, _, rfl⟩
        · exact ⟨_, _, _, rfl⟩
      have HOWN := Lib.hid hown
      have HCW := Lib.hid hcw
      clear hown hcw
      go_wp2
      go_ret
      have h9 := HOWN.out
      rw [← HG.out, List.take_of_length_le (Nat.le_refl _)] at h9
      exact ⟨A3, n3, c3, rfl, h9, ⟨HCW.out⟩⟩
end Go.Proofs.YtalhhplphlobbaaGreat
namespace Go.Proofs.YtalhhplphlobbaaGreat
open Go.RowKit
section
variable {M : List Nat} {W w : World} {ms : Nat} {hv sv ev : Value} {e : Ent} {r : List Ent}
set_option maxRecDepth 100000 in
set_option maxHeartbeats 400000 in
theorem must_nil (w : World) : Calls Tryz.prog 201 #[.nilIface] w fun y w' => y = .returned (.tuple #[]) ∧ w = w' := by
  go_enter Tryz.func201, Tryz.ntmps201
  go_wp2
  go_end0
  exact ⟨rfl, rfl⟩
set_option maxRecDepth 100000 in
set_option maxHeartbeats 400000 in
theorem metaTerm_nil (w : World) : Calls Tryz.prog 152 #[.pointer none] w fun y w' => y = .returned (.int .u64 0) ∧ w = w' := by
  go_enter Tryz.func152, Tryz.ntmps152
  go_wp2
  go_ret
  exact ⟨rfl, rfl⟩
set_option maxRecDepth 100000 in
set_option maxHeartbeats 400000 in
theorem metaConf_nil (w : World) : Calls Tryz.prog 183 #[.pointer none] w fun y w' => y = .returned (.pointer none) ∧ w = w' := by
  go_enter Tryz.func183, Tryz.ntmps183
  go_wp2
  go_ret
  exact ⟨rfl, rfl⟩
set_option maxRecDepth 100000 in
set_option maxHeartbeats 400000 in
theorem snapData_nil (w : World) : Calls Tryz.prog 244 #[.pointer none] w fun y w' => y = .returned (.slice none 0 0) ∧ w = w' := by
  go_enter Tryz.func244, Tryz.ntmps244
  go_wp2
  go_ret
  exact ⟨rfl, rfl⟩
set_option maxRecDepth 100000 in
set_option maxHeartbeats 400000 in
theorem confV_nil (w : World) : Calls Tryz.prog 162 #[.pointer none] w fun y w' => y = .returned (.slice none 0 0) ∧ w = w' := by
  go_enter Tryz.func162, Tryz.ntmps162
  go_wp2
  go_ret
  exact ⟨rfl, rfl⟩
set_option maxRecDepth 100000 in
set_option maxHeartbeats 400000 in
theorem confL_nil (w : World) : Calls Tryz.prog 163 #[.pointer none] w fun y w' => y = .returned (.slice none 0 0) ∧ w = w' := by
  go_enter Tryz.func163, Tryz.ntmps163
  go_wp2
  go_ret
  exact ⟨rfl, rfl⟩
set_option maxRecDepth 100000 in
set_option maxHeartbeats 400000 in
theorem confO_nil (w : World) : Calls Tryz.prog 164 #[.pointer none] w fun y w' => y = .returned (.slice none 0 0) ∧ w = w' := by
  go_enter Tryz.func164, Tryz.ntmps164
  go_wp2
  go_ret
  exact ⟨rfl, rfl⟩
set_option maxRecDepth 100000 in
set_option maxHeartbeats 400000 in
theorem confN_nil (w : World) : Calls Tryz.prog 165 #[.pointer none] w fun y w' => y = .returned (.slice none 0 0) ∧ w = w' := by
  go_enter Tryz.func165, Tryz.ntmps165
  go_wp2
  go_ret
  exact ⟨rfl, rfl⟩
set_option maxRecDepth 100000 in
set_option maxHeartbeats 400000 in
theorem confA_nil (w : World) : Calls Tryz.prog 166 #[.pointer none] w fun y w' => y = .returned (.bool false) ∧ w = w' := by
  go_enter Tryz.func166, Tryz.ntmps166
  go_wp2
  go_ret
  exact ⟨rfl, rfl⟩
set_option maxRecDepth 100000 in
set_option maxHeartbeats 400000 in
theorem numbers_nil (w : World) : Calls Tryz.prog 156 #[.slice none 0 0] w fun y w' => y = .returned (.slice none 0 0) ∧ w = w' := by
  obtain ⟨i0, hi, hz0, hz1, hz2⟩ := info_parts info22
  go_enter Tryz.func156, Tryz.ntmps156
  go_wp2
  go_ret
  exact ⟨rfl, rfl⟩
set_option maxRecDepth 100000 in
set_option maxHeartbeats 1000000 in
theorem confFrom_nil (w : World) : Calls Tryz.prog 107 #[.pointer none] w fun y w' => y = .returned (.agg #[.slice none 0 0, .slice none 0 0, .slice none 0 0, .slice none 0 0, .bool false]) ∧ Nxt w w' := by
  go_enter Tryz.func107, Tryz.ntmps107
  go_wp2_with (first | (go_at_call 162; (with_reducible refine Calls.mono (confV_nil _) ?_); rintro e w' ⟨rfl, rfl⟩) | (go_at_call 163; (with_reducible refine Calls.mono (confL_nil _) ?_); rintro e w' ⟨rfl, rfl⟩) | (go_at_call 164; (with_reducible refine Calls.mono (confO_nil _) ?_); rintro e w' ⟨rfl, rfl⟩) | (go_at_call 165; (with_reducible refine Calls.mono (confN_nil _) ?_); rintro e w' ⟨rfl, rfl⟩) | (go_at_call 166; (with_reducible refine Calls.mono (confA_nil _) ?_); rintro e w' ⟨rfl, rfl⟩) | (go_at_call 156; (with_reducible refine Calls.mono (numbers_nil _) ?_); rintro e w' ⟨rfl, rfl⟩))
  exact bodyPost_ret (v := .agg #[.slice none 0 0, .slice none 0 0, .slice none 0 0, .slice none 0 0, .bool false]) (by simp [results, Tryz.results107, go_sem]) rfl ⟨rfl, ⟨by (focus (first | with_reducible assumption | ((repeat (first | with_reducible exact Chg.refl _ _ | with_reducible assumption | with_reducible refine Chg.drew ?_ | with_reducible refine Chg.alloc ?_ _ | with_reducible refine Chg.setCell ?_ (by simp) _ | with_reducible refine Chg.nxt ?_ (by assumption))); done)))⟩⟩
set_option maxRecDepth 100000 in
set_option maxHeartbeats 1000000 in
theorem snapFrom_nil (w : World) : Calls Tryz.prog 178 #[.pointer none] w fun y w' => y = .returned (.agg #[.string ByteArray.empty, .int .u64 0, .int .u64 0, .slice none 0 0, .slice none 0 0, .slice none 0 0, .slice none 0 0, .bool false]) ∧ Nxt w w' := by
  have hcv := fun w => run_convert_bytes_nil (P := Tryz.prog) w 197 5 Tryz.underlying197 Tryz.underlying5 0 0 9 Tryz.underlying9
  go_enter Tryz.func178, Tryz.ntmps178
  go_wp2_with (first | (go_at_call 149; (with_reducible refine Calls.mono (snapMeta_nil _) ?_); rintro e w' ⟨rfl, rfl⟩))
  go_region_held3 (fun wx => Chg [] w wx)
    (first | with_reducible assumption | (focus (first | with_reducible assumption | ((repeat (first | with_reducible exact Chg.refl _ _ | with_reducible assumption | with_reducible refine Chg.drew ?_ | with_reducible refine Chg.alloc ?_ _ | with_reducible refine Chg.setCell ?_ (by simp) _ | with_reducible refine Chg.nxt ?_ (by assumption))); done)))) (first | (go_at_call 244; (with_reducible refine Calls.mono (snapData_nil _) ?_); rintro e w' ⟨rfl, rfl⟩) | (go_at_call 150; (with_reducible refine Calls.mono (metaIndex_nil _) ?_); rintro e w' ⟨rfl, rfl⟩) | (go_at_call 152; (with_reducible refine Calls.mono (metaTerm_nil _) ?_); rintro e w' ⟨rfl, rfl⟩) | (go_at_call 183; (with_reducible refine Calls.mono (metaConf_nil _) ?_); rintro e w' ⟨rfl, rfl⟩) | (go_at_call 107; (with_reducible refine Calls.mono (confFrom_nil _) ?_); rintro e w1 ⟨rfl, hn1⟩; obtain ⟨qc1, qf1, qz1⟩ := hn1.rules; (try simp at qz1); have hcw1 : Chg [] w w1 := Chg.trans (by (focus (first | with_reducible assumption | ((repeat (first | with_reducible exact Chg.refl _ _ | with_reducible assumption | with_reducible refine Chg.drew ?_ | with_reducible refine Chg.alloc ?_ _ | with_reducible refine Chg.setCell ?_ (by simp) _ | with_reducible refine Chg.nxt ?_ (by assumption))); done)))) hn1.out))
  have hbk := (Blk.new w 28 #[.string ⟨#[]⟩, .int .u64 0, .int .u64 0, .slice none 0 0, .slice none 0 0, .slice none 0 0, .slice none 0 0, .bool false])
  have k0 := fun i (hi : i < 8) => show ∃ v, w1.cell? ⟨w.heap.size, i, none⟩ = some v from by
    have z := (hbk.drew.nxt hn1).cell i
    exact ⟨_, z.trans (Array.getElem?_eq_getElem (by simpa using hi))⟩
  obtain ⟨_, z0⟩ := k0 0 (by omega)
  obtain ⟨_, z1⟩ := k0 1 (by omega)
  obtain ⟨_, z2⟩ := k0 2 (by omega)
  obtain ⟨_, z3⟩ := k0 3 (by omega)
  obtain ⟨_, z4⟩ := k0 4 (by omega)
  obtain ⟨_, z5⟩ := k0 5 (by omega)
  obtain ⟨_, z6⟩ := k0 6 (by omega)
  obtain ⟨_, z7⟩ := k0 7 (by omega)
  clear hcv k0
  go_wp2
  exact bodyPost_ret (v := .agg #[.string ByteArray.empty, .int .u64 0, .int .u64 0, .slice none 0 0, .slice none 0 0, .slice none 0 0, .slice none 0 0, .bool false]) (by simp [results, Tryz.results178, go_sem, z0, z1, z2, z3, z4, z5, z6, z7]) rfl ⟨rfl, ⟨by (focus (first | with_reducible assumption | ((repeat (first | with_reducible exact Chg.refl _ _ | with_reducible assumption | with_reducible refine Chg.drew ?_ | with_reducible refine Chg.alloc ?_ _ | with_reducible refine Chg.setCell ?_ (by simp) _ | with_reducible refine Chg.nxt ?_ (by assumption))); done)))⟩⟩
set_option maxRecDepth 100000 in
set_option maxHeartbeats 400000 in
theorem messagesFrom_nil (w : World) : Calls Tryz.prog 179 #[.slice none 0 0] w fun y w' => y = .returned (.slice none 0 0) ∧ w = w' := by
  go_enter Tryz.func179, Tryz.ntmps179
  go_wp2
  refine wp_loop_rounds 1 ?_
  rw [rounds_succ]
  go_wp2
  go_ret
  exact ⟨rfl, rfl⟩
set_option maxRecDepth 100000 in
set_option maxHeartbeats 400000 in
theorem entriesFrom_nil (w : World) : Calls Tryz.prog 177 #[.slice none 0 0] w fun y w' => y = .returned (.slice none 0 0) ∧ w = w' := by
  go_enter Tryz.func177, Tryz.ntmps177
  go_wp2
  refine wp_loop_rounds 1 ?_
  rw [rounds_succ]
  go_wp2
  go_ret
  exact ⟨rfl, rfl⟩
theorem ents_nil (w : World) : EntsAt [] w (.slice none 0 0) [] := ⟨[], Sl.nil _ _, rfl, fun j e h => by simp at h⟩
set_option maxRecDepth 100000 in
set_option maxHeartbeats 400000 in
theorem save_nil (w : World) {A : Option Addr} {n c : Nat} : Calls Tryz.prog 181 #[.pointer (some ⟨ms, 0, none⟩), .agg #[.pointer none, .pointer none, .slice none 0 0, .slice none 0 0, .pointer none, .slice A n c, .slice none 0 0, .bool false]] w fun y w' => y = .returned (.tuple #[]) ∧ Nxt w w' := by
  go_enter Tryz.func181, Tryz.ntmps181
  go_wp2_with (first | (go_at_call 182; (with_reducible refine Calls.mono (emptySnap_nil _) ?_); rintro e w' ⟨rfl, rfl⟩) | (go_at_call 99; (with_reducible refine Calls.mono (msAppend_nil (ents_nil _)) ?_); rintro e w' ⟨rfl, rfl⟩) | (go_at_call 201; (with_reducible refine Calls.mono (must_nil _) ?_); rintro e w' ⟨rfl, rfl⟩) | (go_at_call 180; (with_reducible refine Calls.mono (hardEmpty_nil) ?_); rintro e w' ⟨rfl, rfl⟩))
  go_end0
  exact ⟨rfl, ⟨by (focus (first | with_reducible assumption | ((repeat (first | with_reducible exact Chg.refl _ _ | with_reducible assumption | with_reducible refine Chg.drew ?_ | with_reducible refine Chg.alloc ?_ _ | with_reducible refine Chg.setCell ?_ (by simp) _ | with_reducible refine Chg.nxt ?_ (by assumption))); done)))⟩⟩
set_option maxRecDepth 100000 in
set_option maxHeartbeats 400000 in
theorem changeOf_none {v : Value} {t i : Int} {d : ByteArray} (h : EntAt M w v t i d) : Calls Tryz.prog 184 #[v] w fun y w' => y = .returned .nilIface ∧ w = w' := by
  go_enter Tryz.func184, Tryz.ntmps184
  go_wp2_with (first | (go_at_call 242; (with_reducible refine Calls.mono (entType_any h) ?_); rintro e w' ⟨rfl, rfl⟩))
  go_ret
  exact ⟨rfl, rfl⟩
set_option maxRecDepth 100000 in
set_option maxHeartbeats 1000000 in
theorem logOf_any (h : StAt M w ms hv sv ev e r) (hl : r.length ≤ 100000) (hf : ∀ x ∈ r, x.fits) (hd : ∀ x ∈ r, x.d.size ≤ 1000) :
    Calls Tryz.prog 187 #[.pointer (some ⟨ms, 0, none⟩)] w fun y w' => ∃ A n c, y = .returned (.slice A n c) ∧ w'.ownsRow w.heap.size 65 4 (.slice A n c) r.length (ECells r) ∧ MsAt w' ms hv sv ev ∧ Chg [ms] w w' := by
  have h0 := h.i0
  have h1 := h.i1
  have H := Lib.hid h
  clear h
  by_cases hr : r = []
  · subst hr
    have hlt : e.i < e.i + 1 := by omega
    go_enter Tryz.func187, Tryz.ntmps187
    go_wp2_with (first | (go_at_call 250; (with_reducible refine Calls.mono (msFirstIndex_any H.out.at_ H.out.mem H.out.ents H.out.i0 H.out.i1) ?_); rintro e w1 ⟨rfl, ha1, hc1⟩) | (go_at_call 251; (with_reducible refine Calls.mono (msLastIndex_any (H.out.ms_ ha1 hc1).at_ H.out.mem (H.out.ms_ ha1 hc1).ents H.out.i0 H.out.i1 (by have := H.out.len; omega)) ?_); rintro e w2 ⟨rfl, ha2, hc2⟩) | (go_at_call 201; (with_reducible refine Calls.mono (must_nil _) ?_); rintro e w' ⟨rfl, rfl⟩))
    go_ret
    exact ⟨none, 0, 0, rfl, own_nil _ _ _ _, ha2, hc1.trans hc2⟩
  · have hr0 : 0 < r.length := List.length_pos_iff.2 hr
    have hlt : ¬ e.i + (r.length : Int) < e.i + 1 := by omega
    have hlo : e.i + ((1 : Nat) : Int) = e.i + 1 := by omega
    have hhi : e.i + ((r.length + 1 : Nat) : Int) = e.i + r.length + 1 := by omega
    have HE := Lib.hid (fun (w1 : World) (ha : MsAt w1 ms hv sv ev) (he : EntsAt M w1 ev (e :: r)) => msEntries_any 1 (r.length + 1) 18446744073709551615 ha H.out.mem he h0 h1 (by omega) (by omega) (by omega) (by omega) hf hd (by omega) (by omega))
    have hdr : ((e :: r).take (r.length + 1)).drop 1 = r := by simp
    rw [hlo, hhi, hdr, Nat.add_sub_cancel] at HE
    clear hlo hhi hdr hf hd
    go_enter Tryz.func187, Tryz.ntmps187
    go_wp2_with (first | (go_at_call 250; (with_reducible refine Calls.mono (msFirstIndex_any H.out.at_ H.out.mem H.out.ents H.out.i0 H.out.i1) ?_); rintro e w1 ⟨rfl, ha1, hc1⟩) | (go_at_call 251; (with_reducible refine Calls.mono (msLastIndex_any (H.out.ms_ ha1 hc1).at_ H.out.mem (H.out.ms_ ha1 hc1).ents H.out.i0 H.out.i1 (by have := H.out.len; omega)) ?_); rintro e w2 ⟨rfl, ha2, hc2⟩) | (go_at_call 201; (with_reducible refine Calls.mono (must_nil _) ?_); rintro e w' ⟨rfl, rfl⟩) | (go_at_call 252; (with_reducible refine Calls.mono (HE.out _ ha2 ((H.out.ms_ ha1 hc1).ms_ ha2 hc2).ents) ?_); rintro e w3 ⟨b, o, rfl, he3, ha3, hc3⟩) | (go_at_call 177; (with_reducible refine Calls.mono (entriesFrom_any he3 hl) ?_); rintro e w4 ⟨A, n, c, rfl, hown, hn4⟩))
    go_ret
    exact ⟨A, n, c, rfl, own_base hown (Nat.le_trans hc1.size (Nat.le_trans hc2.size hc3.size)), ha3.chg hn4.out (by simp), ((hc1.trans hc2).trans hc3).nxt hn4⟩
end
end Go.Proofs.YtalhhplphlobbaaGreat
namespace Go.Proofs.YtalhhplphlobbaaGreat
open Go.RowKit
section
variable {M : List Nat} {W w : World} {rn rb rl ms ss hs mb : Nat} {s : RaftS} {l : RLog} {hv sv ev v : Value} {e : Ent} {r : List Ent} {id : Int}
set_option maxRecDepth 100000 in
set_option maxHeartbeats 400000 in
theorem apType (h : ApMsg M w mb id v) : Calls Tryz.prog 170 #[.pointer (some ⟨mb, 0, none⟩)] w fun y w' => y = .returned (.int .i32 22) ∧ w = w' := by
  obtain ⟨p0, p1, p2, p3, hb, ⟨x0, o0, rfl, _, _, h0⟩, _⟩ := h.ex
  have k0 := hb.cell 0
  simp at k0
  clear hb h
  go_enter Tryz.func170, Tryz.ntmps170
  go_wp2
  go_ret
  exact ⟨rfl, rfl⟩
set_option maxRecDepth 100000 in
set_option maxHeartbeats 400000 in
theorem apTerm (h : ApMsg M w mb id v) : Calls Tryz.prog 212 #[.pointer (some ⟨mb, 0, none⟩)] w fun y w' => y = .returned (.int .u64 0) ∧ w = w' := by
  obtain ⟨p0, p1, p2, p3, hb, _, _, _, ⟨x0, o0, rfl, _, _, h0⟩⟩ := h.ex
  have k0 := hb.cell 3
  simp at k0
  clear hb h
  go_enter Tryz.func212, Tryz.ntmps212
  go_wp2
  go_ret
  exact ⟨rfl, rfl⟩
set_option maxRecDepth 100000 in
set_option maxHeartbeats 400000 in
theorem apEnts {A : Option Addr} {n c : Nat} (h : ApMsg M w mb id (.slice A n c)) : Calls Tryz.prog 224 #[.pointer (some ⟨mb, 0, none⟩)] w fun y w' => y = .returned (.slice A n c) ∧ w = w' := by
  obtain ⟨p0, p1, p2, p3, hb, _⟩ := h.ex
  have k0 := hb.cell 6
  simp at k0
  clear hb h
  go_enter Tryz.func224, Tryz.ntmps224
  go_wp2
  go_ret
  exact ⟨rfl, rfl⟩
set_option maxRecDepth 100000 in
set_option maxHeartbeats 1000000 in
theorem applied_any (i z : Int) (h : RaftAt w rb s) (hrl : s.rl = rl) (hau : s.auto = false) (hl : RlAt w rl ms l) (h1 : ¬ l.com < i) (h2 : l.apd ≤ i) (h3 : ¬ z < l.asz) (h4 : 0 < l.mx) (h5 : l.apg ≤ i) :
    Calls Tryz.prog 225 #[.pointer (some ⟨rb, 0, none⟩), .int .u64 i, .int .u64 z] w fun y w' => y = .returned (.tuple #[]) ∧ RlAt w' rl ms { l with apd := i, apg := i, asz := 0, ps := false } ∧ Chg [rl] w w' := by
  have b4 : w.cell? ⟨rb, 4, none⟩ = some (.pointer (some ⟨rl, 0, none⟩)) := (RaftAt.cell h 4 (.pointer (some ⟨s.rl, 0, none⟩)) rfl).trans (by rw [hrl])
  have b9 : w.cell? ⟨rb, 9, none⟩ = some (.bool false) := (RaftAt.cell h 9 (.bool s.auto) rfl).trans (by rw [hau])
  have bl := Blk.lt h
  obtain ⟨_, _, _, _, _, _, _, _, k8, _⟩ := hl.cells
  have nrl : rl ≠ rb := Ne.symm (Blk.ne h hl (by decide))
  have bm : max i l.apd = i := Int.max_eq_left h2
  have HA := Lib.hid (rlApplied_any i z hl h1 (by omega) h3 h4 h5)
  clear h hl hrl hau h2
  go_enter Tryz.func225, Tryz.ntmps225
  go_wp2_with (first | (go_at_call 278; (with_reducible refine Calls.mono HA.out ?_); rintro e1 w1 ⟨rfl, hl1, hc1⟩; have d9 := hc1.at_ b9 (by simpa using Ne.symm nrl)))
  go_end0
  exact ⟨rfl, hl1, hc1⟩
set_option maxRecDepth 100000 in
set_option maxHeartbeats 1000000 in
theorem reduce_any (z : Int) (h : RaftAt w rb s) (hu : s.unc = 0) (hz : 0 ≤ z) : Calls Tryz.prog 227 #[.pointer (some ⟨rb, 0, none⟩), .int .u64 z] w fun y w' => y = .returned (.tuple #[]) ∧ RaftAt w' rb s ∧ Chg [rb] w w' := by
  have b24 : w.cell? ⟨rb, 24, none⟩ = some (.int .u64 0) := (RaftAt.cell h 24 (.int .u64 s.unc) rfl).trans (by rw [hu])
  have bf := Blk.frozen h
  have H := Lib.hid h
  have HU := Lib.hid (show s.cells[24]? = some (.int .u64 0) by show some (Value.int .u64 s.unc) = _; rw [hu])
  clear h hu
  rcases Int.lt_or_le 0 z with h0 | h0
  · go_enter Tryz.func227, Tryz.ntmps227
    go_wp2
    go_end0
    exact ⟨rfl, H.out.same 24 _ HU.out, (by (focus (first | with_reducible assumption | ((repeat (first | with_reducible exact Chg.refl _ _ | with_reducible assumption | with_reducible refine Chg.drew ?_ | with_reducible refine Chg.alloc ?_ _ | with_reducible refine Chg.setCell ?_ (by simp) _ | with_reducible refine Chg.nxt ?_ (by assumption))); done))))⟩
  · have : z = 0 := by omega
    subst this
    go_enter Tryz.func227, Tryz.ntmps227
    go_wp2
    go_end0
    exact ⟨rfl, H.out.same 24 _ HU.out, (by (focus (first | with_reducible assumption | ((repeat (first | with_reducible exact Chg.refl _ _ | with_reducible assumption | with_reducible refine Chg.drew ?_ | with_reducible refine Chg.alloc ?_ _ | with_reducible refine Chg.setCell ?_ (by simp) _ | with_reducible refine Chg.nxt ?_ (by assumption))); done))))⟩
set_option maxRecDepth 100000 in
set_option maxHeartbeats 4000000 in
theorem stepAp_any {b o n : Nat} {q : List Ent} {ps : List Value} {zs : List Nat} (h : RaftAt w rb s) (hrl : s.rl = rl) (hau : s.auto = false) (hu : s.unc = 0) (hl : RlAt w rl ms l) (hm : ApMsg M w mb id (.slice (some ⟨b, o, none⟩) n n)) (hE : EntsZ M w (.slice (some ⟨b, o, none⟩) n n) q ps zs) (hn : 0 < n) (hn2 : n ≤ 100000) (hzs : zs.sum ≤ 2000 * n) (hd : ∀ x ∈ q, x.d.size ≤ 1000000) (hlast : ∃ x, q[n - 1]? = some x ∧ x.i = l.com)
    (h2 : l.apd ≤ l.com) (h3 : l.asz = zs.sum) (h4 : 0 < l.mx) (h5 : l.apg ≤ l.com) (mrb : rb ∈ M) (mrl : rl ∈ M) (hmb : mb ≠ rb ∧ mb ≠ rl) :
    Calls Tryz.prog 167 #[.pointer (some ⟨rb, 0, none⟩), .pointer (some ⟨mb, 0, none⟩)] w fun y w' => y = .returned .nilIface ∧ RaftAt w' rb s ∧ RlAt w' rl ms { l with apd := l.com, apg := l.com, asz := 0, ps := false } ∧ Chg [rb, rl] w w' := by
  obtain ⟨b', o', p, hAe, hp, hcell, _⟩ := sl_at hE.sl (show n - 1 < n by omega)
  simp only [Option.some.injEq, Addr.mk.injEq] at hAe
  obtain ⟨rfl, rfl, _⟩ := hAe
  obtain ⟨xl, hxl, hxi⟩ := hlast
  obtain ⟨p', hp', hpe⟩ := hE.en.2 (n - 1) xl hxl
  rw [hp] at hp'
  injection hp' with hp'
  subst hp'
  rw [hxi] at hpe
  have HPE := Lib.hid hpe
  have HM := Lib.hid hm
  have HE := Lib.hid hE
  have H := Lib.hid h
  have HL := Lib.hid hl
  have HRL := Lib.hid hrl
  have HAU := Lib.hid hau
  have HU := Lib.hid hu
  have H3 := Lib.hid h3
  have HD := Lib.hid hd
  have i0 : (0 : Int) < n := by omega
  have j1 : (0 : Int) ≤ (n : Int) - 1 := by omega
  have j2 : (n : Int) - 1 < n := by omega
  have j3 : ((n : Int) - 1).toNat = n - 1 := by omega
  clear hp hxl hxi hpe hm hE h hl hrl hau hu h3 hd
  go_enter Tryz.func167, Tryz.ntmps167
  go_upto_region 40 with (first | (go_at_call 212; (with_reducible refine Calls.mono (apTerm HM.out) ?_); rintro e1 w' ⟨rfl, rfl⟩) | (go_at_call 170; (with_reducible refine Calls.mono (apType HM.out) ?_); rintro e1 w' ⟨rfl, rfl⟩) | (go_at_call 224; (with_reducible refine Calls.mono (apEnts HM.out) ?_); rintro e1 w' ⟨rfl, rfl⟩))
  have HS1 := Lib.hid (show zs.sum < 2 ^ 62 by omega)
  have HS2 := Lib.hid (show ps.length < 2 ^ 62 by have := sl_len HE.out.sl; omega)
  have HS3 := Lib.hid (show q.length ≤ 1000000 by have := sl_len HE.out.sl; have := HE.out.en.1; omega)
  have nrl : rl ≠ rb := Ne.symm (Blk.ne H.out HL.out (by decide))
  have h6 : ¬ ((zs.sum : Nat) : Int) < l.asz := by rw [H3.out]; omega
  have H6 := Lib.hid h6
  clear h6 hn hzs
  go_wp2_with (first | (go_at_call 224; (with_reducible refine Calls.mono (apEnts HM.out) ?_); rintro e1 w' ⟨rfl, rfl⟩) | (go_at_call 154; (with_reducible refine Calls.mono (entIndex_any HPE.out) ?_); rintro e1 w' ⟨rfl, rfl⟩) | (go_at_call 226; (with_reducible refine Calls.mono (entsSize_any HE.out.sl HE.out.sz HS1.out HS2.out) ?_); rintro e1 w1 ⟨rfl, hn1⟩; have HN1 := Lib.hid hn1; clear hn1) | (go_at_call 225; (with_reducible refine Calls.mono (applied_any l.com (zs.sum : Int) (RaftAt.nxt H.out HN1.out) HRL.out HAU.out (RlAt.nxt HL.out HN1.out) (by omega) h2 (by have := H6.out; omega) h4 h5) ?_); rintro e1 w2 ⟨rfl, hl2, hc2⟩; have HL2 := Lib.hid hl2; have HC2 := Lib.hid hc2; have HM2 := Lib.hid ((HM.out.chg (L := []) HN1.out.out (by simp) (by simp)).chg hc2 (by simpa using mrl) (by simpa using hmb.2)); have HE2 := Lib.hid ((HE.out.nxt HN1.out).chg hc2 (by simpa using mrl)); have HR2 := Lib.hid (RaftAt.chg (RaftAt.nxt H.out HN1.out) hc2 (by simpa using Ne.symm nrl)); clear hl2 hc2) | (go_at_call 224; (with_reducible refine Calls.mono (apEnts HM2.out) ?_); rintro e1 w' ⟨rfl, rfl⟩) | (go_at_call 228; (with_reducible refine Calls.mono (paysSize_any HE2.out.at_ HD.out HS3.out) ?_); rintro e1 w3 ⟨rfl, hn3⟩; have HN3 := Lib.hid hn3; clear hn3) | (go_at_call 227; (with_reducible refine Calls.mono (reduce_any _ (RaftAt.nxt HR2.out HN3.out) HU.out (by omega)) ?_); rintro e1 w4 ⟨rfl, hr4, hc4⟩; have HR4 := Lib.hid hr4; have HC4 := Lib.hid hc4; clear hr4 hc4))
  go_ret
  exact ⟨rfl, HR4.out, RlAt.chg (RlAt.nxt HL2.out HN3.out) HC4.out (by simpa using nrl), (((Chg.refl _ _).nxt HN1.out).trans ((HC2.out.mono (by simp)).nxt HN3.out)).trans (HC4.out.mono (by simp))⟩
theorem own_cell0 {base : Nat} {t : TypeId} {sb k : Nat} {x : Value} (h : w.ownsRow base t 1 (.slice (some ⟨sb, 0, none⟩) 1 k) 1 [x]) : w.cell? ⟨sb, 0, none⟩ = some x ∧ (∀ i, w.frozen? ⟨sb, i, none⟩ = false) ∧ 1 ≤ k := by
  have hc := h.cells (g := sb) rfl 0 x rfl
  obtain ⟨z1, z2⟩ := h
  rcases z2 with ⟨z3, z4⟩ | ⟨g, cap, cur, z3, z4, z5, z6, _⟩
  · cases z4
  · simp only [Value.slice.injEq, Option.some.injEq, Addr.mk.injEq] at z3
    obtain ⟨⟨rfl, _⟩, _, rfl⟩ := z3
    exact ⟨by simpa [Addr.add] using hc, fun i => by simp [World.frozen?, z5], z6⟩
/-- A node that has advanced. -/
structure Adv (w w' : World) (rn rb rl ms ss hs : Nat) (s : RaftS) (l : RLog) (sb k : Nat) : Prop where
  rw_ : Blk w' rn 276 #[.pointer (some ⟨rb, 0, none⟩), .bool false, .pointer (some ⟨ss, 0, none⟩), .pointer (some ⟨hs, 0, none⟩), .slice (some ⟨sb, 0, none⟩) 0 k]
  ra : RaftAt w' rb s
  la : RlAt w' rl ms { l with apd := l.com, apg := l.com, asz := 0, ps := false }
  cg : Chg [rn, rb, rl, sb] w w'
set_option maxRecDepth 100000 in
set_option maxHeartbeats 4000000 in
theorem advance_any {b o n sb k : Nat} {q : List Ent} {ps : List Value} {zs : List Nat} (h : Rdz M W w rn rb rl ms ss hs s l hv sv ev e r b o n q ps zs sb k mb) (hrl : s.rl = rl) (hau : s.auto = false) (hu : s.unc = 0) (hn : 0 < n) (hn2 : n ≤ 100000) (hd : ∀ x ∈ q, x.d.size ≤ 1000000) (hlast : ∃ x, q[n - 1]? = some x ∧ x.i = l.com)
    (h2 : l.apd ≤ l.com) (h4 : 0 < l.mx) (mrn : rn ∈ M) (mrb : rb ∈ M) (mrl : rl ∈ M) (hMW : ∀ x ∈ M, x < W.heap.size) {rd : Array Value} (hrd : rd = #[.pointer none, .pointer none, .slice none 0 0, .slice none 0 0, .pointer none, .slice (some ⟨b, o, none⟩) n n, .slice none 0 0, .bool false]) :
    Calls Tryz.prog 186 #[.pointer (some ⟨rn, 0, none⟩), .agg rd] w fun y w' => y = .returned (.tuple #[]) ∧ Adv w w' rn rb rl ms ss hs s l sb k := by
  have hX : Nxt w (w.alloc (.cells rd 307)) := ⟨(Chg.refl _ _).alloc _⟩
  have e1 := h.rw_.nxt hX
  have e2 := RaftAt.nxt h.ra hX
  have e3 := RlAt.nxt h.la hX
  have e4 := own_chg0 h.ow hX.out
  have e5 := h.mg.chg (L := []) hX.out (by simp) (by simp)
  have e6 := h.en.nxt hX
  obtain ⟨e70, e71, e72⟩ := own_cell0 e4
  obtain ⟨e81, e82⟩ := own_some e4
  have q1 := hMW _ mrn
  have q2 := hMW _ mrb
  have q3 := hMW _ mrl
  have q4 := h.mn
  have HST := Lib.hid (stepAp_any e2 hrl hau hu e3 e5 e6 hn hn2 (by have := h.zz; omega) hd hlast h2 rfl h4 (Int.le_refl _) mrb mrl (by omega))
  have nrb : rn ≠ rb ∧ rn ≠ rl ∧ rn ≠ sb ∧ rb ≠ sb ∧ rl ≠ sb := ⟨Blk.ne e1 e2 (by decide), Blk.ne e1 e3 (by decide), by omega, by omega, by omega⟩
  obtain ⟨n1, n2, n3, n4, n5⟩ := nrb
  have HX := Lib.hid hX
  have e0 := h.rw_
  clear h hrl hau hu hd hlast h2 h4 e2 e3 e4 e5 e6
  subst hrd
  have a0 := (e0).cell 0; have a1 := (e0).cell 1; have a2 := (e0).cell 2; have a3 := (e0).cell 3; have a4 := (e0).cell 4; simp at a0 a1 a2 a3 a4; have af := (e0).frozen; have al := (e0).lt
  clear e0
  go_enter Tryz.func186, Tryz.ntmps186
  go_wp2
  generalize hXe : w.alloc (.cells #[Value.pointer none, .pointer none, .slice none 0 0, .slice none 0 0, .pointer none, .slice (some ⟨b, o, none⟩) n n, .slice none 0 0, .bool false] 307) = X at e1 e70 e71 e82 HST hX ⊢
  clear hXe a0 a1 a2 a3 a4 af al
  have c0 := (e1).cell 0; have c1 := (e1).cell 1; have c2 := (e1).cell 2; have c3 := (e1).cell 3; have c4 := (e1).cell 4; simp at c0 c1 c2 c3 c4; have cf := (e1).frozen; have cl := (e1).lt
  have HE1 := Lib.hid e1
  have HX := Lib.hid hX
  clear e1 hX
  refine wp_loop_rounds 2 ?_
  rw [rounds_succ]
  go_wp2_with (first | (go_at_call 167; (with_reducible refine Calls.mono HST.out ?_); rintro e1 w1 ⟨rfl, hr1, hl1, hc1⟩; have d0 := hc1.at_ c0 (by simp; omega); have d4 := hc1.at_ c4 (by simp; omega); have ds := hc1.at_ e70 (by simp; omega); have df : ∀ i, w1.frozen? ⟨rn, i, none⟩ = false := fun i => (hc1.frozen (p := ⟨rn, i, none⟩) cl (by simp; omega)).trans (cf i); have dsf : ∀ i, w1.frozen? ⟨sb, i, none⟩ = false := fun i => (hc1.frozen (p := ⟨sb, i, none⟩) e82 (by simp; omega)).trans (e71 i); have dl := Nat.lt_of_lt_of_le cl hc1.size; have dsl := Nat.lt_of_lt_of_le e82 hc1.size; have HR1 := Lib.hid hr1; have HL1 := Lib.hid hl1; have HC1 := Lib.hid hc1; clear hr1 hl1 hc1))
  rw [rounds_succ]
  go_wp2
  go_end0
  have hcF : Chg [rn, sb] w1 ((w1.setCell ⟨sb, 0, none⟩ (.pointer none)).setCell ⟨rn, 4, none⟩ (.slice (some ⟨sb, 0, none⟩) 0 k)) := (by (focus (first | with_reducible assumption | ((repeat (first | with_reducible exact Chg.refl _ _ | with_reducible assumption | with_reducible refine Chg.drew ?_ | with_reducible refine Chg.alloc ?_ _ | with_reducible refine Chg.setCell ?_ (by simp) _ | with_reducible refine Chg.nxt ?_ (by assumption))); done))))
  have hb1 := HE1.out.chg HC1.out (by simp; omega)
  have hb2 := (hb1.far (p := ⟨sb, 0, none⟩) n3 (.pointer none)).set_ 4 (.slice (some ⟨sb, 0, none⟩) 0 k)
  refine ⟨rfl, by simpa using hb2, RaftAt.chg HR1.out hcF (by simp; omega), RlAt.chg HL1.out hcF (by simp; omega), ?_⟩
  exact ((HX.out.out.mono (by simp)).trans (HC1.out.mono (by simp))).trans (hcF.mono (by simp))
end
end Go.Proofs.YtalhhplphlobbaaGreat
