/- FnTimer: a voter that hears nothing campaigns when as many ticks have passed as its timeout has, not before, and what is no voter does not: for every setup the law answers true, and the memory that was there is as it was. Conditions: none beyond the row's own. -/
import Derived.Test.YtalhhplphlobbaaGreatP46
import Derived.Test.YtalhhplphlobbaaGreatP47
import Derived.Test.YtalhhplphlobbaaGreatRows
import Derived.Test.YtalhhplphlobbaaGreatKTim1
import Derived.Test.YtalhhplphlobbaaGreatKTim2
import Derived.Test.YtalhhplphlobbaaGreatKTim3
import Derived.WalkKit
import Derived.ProofKit
import Derived.ChangeOld
import Derived.Below
import Derived.SizedLaws
set_option linter.unusedVariables false
set_option linter.unusedSimpArgs false
namespace Go.Proofs.YtalhhplphlobbaaGreat.fnTimer
open Go.ChangeShapes Go.WideShapes Go.ChangeAt Go.RowKit
theorem own : ownKnob Tryz.prog.godebug = none := by kernel_rfl
theorem laidOut : laidOutB Tryz.prog = true := by kernel_rfl
def zero33 : Value := .agg #[.int .u64 0, .int .i64 0, .int .i64 0, .slice none 0 0, .bool false, .bool false, .bool false, .bool false, .bool false, .int .u64 0, .int .u64 0, .int .u64 0, .int .i64 0, .string ByteArray.empty, .int .u64 0, .int .u64 0, .slice none 0 0, .slice none 0 0, .slice none 0 0, .slice none 0 0, .bool false, .slice none 0 0, .int .u64 0, .int .u64 0, .int .u64 0, .int .u64 0]
set_option maxRecDepth 100000 in
theorem lifted (os : Os) (started : os.Started) (H : Type) (enc : TypeId × Value → H) :
    ReturnsInHanded {} Tryz.checked os 4 .any (Rows.fnTimerSpec.pre6 enc Tryz.prog Tryz.f4 Rows.fnTimerRow.domain false) (Rows.fnTimerSpec.post enc Tryz.prog Tryz.f4 false true false false) := by
  refine returnsInHanded_of_change_sized (C := Tryz.checked) own started (by kernel_rfl) Tryz.func4
    (ChangeSpec.witness6 (enc := enc) (C := Tryz.checked) false ⟨#[], #[zero33], []⟩ 16 (by kernel_rfl) (by kernel_rfl) (by kernel_rfl) (by kernel_rfl)) ?_
  intro W base args ds gs before hval0 hW hcnd hsz0 _
  have hsz : (DataW.weightsEach Tryz.prog (Tryz.f4.params.toList ++ Rows.fnTimerSpec.plain.varTypes Tryz.prog) (ds ++ gs)).all (· ≤ reachBytes) = true := hsz0
  have hval : ∀ (j : Nat) t v, Tryz.f4.params[j]? = some t → args[j]? = some v → Value.okWide Tryz.prog W .any base t v := hval0
  have hW' := hW
  obtain ⟨p, q, hA0, hV, rfl, hfz, hnd⟩ := hW
  have hA : DataW.TrodAll enc Tryz.prog W 0 (fun _ => true) true Tryz.f4.params.toList args.toList ds p := hA0
  rw [Tryz.params4] at hA hval hsz
  obtain ⟨v0, vs0, d0, ds0, p0, q0, hargs, rfl, rfl, h0, r0⟩ := trodAll_cons hA
  obtain ⟨rfl, rfl, rfl⟩ := trodAll_nil r0
  obtain rfl : args = #[v0] := by cases args; simp_all
  obtain ⟨rfl, rfl⟩ := trodVars_none hV
  have k0 := h0
  have lt0 : ∀ x ∈ p0, x.block < W.heap.size := by obtain ⟨m, hm⟩ := k0; exact DataW.trod_lt m _ _ _ hm
  have hz : ∀ m ∈ d0.weights Tryz.prog 33, m ≤ reachBytes := fun m hm => by
    have := List.all_eq_true.1 hsz m (DataW.weights_mem_each (j := 0) (t := 33) (d := d0) rfl rfl m hm)
    simpa using this
  obtain ⟨s, V, L, V2, L2, D, l, rfl, hArg, h3, h4⟩ := open_setup (hval 0 33 v0 rfl rfl) h0 hz
  clear hA0 hval0 hsz0 hsz
  refine (timer_any hArg h3 h4).mono fun e W' ⟨he, hn⟩ => ?_
  subst he
  have bel : Below W.heap.size W W' := hn.out.below
  exact ⟨_, rfl, _, _, _, [], _, [], hW', trodAll_mk1 (shut_bool Tryz.underlying4 _), trodAll_mk1 (Below.trod laidOut (by kernel_rfl) (of_decide_eq_true (by kernel_rfl)) k0 bel lt0), rfl, bel.frame _, fun h => by cases h⟩
theorem b2 {a b : Bool} (h : a = true) (h2 : b = true) : (a && b) = true := by rw [h, h2]; rfl
theorem closed : joinedFacts Tryz.pinned.checked.prog 4 Tryz.f4 Rows.fnTimerSpec Rows.fnTimerRow = true := by
  unfold joinedFacts
  exact (b2 (b2 (b2 (b2 (b2 (b2 (b2 (b2 (b2 (b2 (b2 (b2 (b2 (b2 (b2 (b2 (b2 (b2 (b2 (b2 (b2 (b2 (b2 (b2 (b2 (b2 (b2 (b2 (b2 (b2 (b2 k1 k2) k3) k4) k5) k6) k7) k8) k9) k10) k11) k12) k13) k14) k15) k16) k17) k18) k19) k20) k21) k22) k23) k24) k25) k26) k27) k28) (by kernel_rfl)) k30) k31) k32)
theorem hfn : Tryz.pinned.checked.prog.funcNamed Rows.fnTimerRow.func = some 4 := by kernel_rfl
theorem hinst : Tryz.f4.isInstance Tryz.pinned.checked.prog Rows.fnTimerRow.origin Rows.fnTimerRow.targs := of_decide_eq_true (by kernel_rfl)
theorem hwrap : Tryz.f4.isWrapper Tryz.pinned.checked.prog Rows.fnTimerRow.wrapper Rows.fnTimerRow.mainSum := by
  unfold Func.isWrapper
  first | (rw [if_pos (by decide +kernel)]; kernel_rfl) | (rw [if_neg (by decide +kernel)]; exact ⟨rfl, rfl⟩)
theorem over : Rows.fnTimerRow.holds Tryz.pinned (OpenSpec.ofChange Rows.fnTimerSpec) :=
  OpenClaim.holds_of_wide 4 Tryz.f4 rfl rfl rfl rfl rfl rfl rfl ⟨rfl, rfl, rfl, rfl, rfl⟩ rfl rfl rfl rfl rfl hfn Tryz.func4 closed hinst hwrap
    (fun os started H enc _ => lifted os started H enc)
theorem proved : Rows.FnTimerSaid := over
#print axioms proved
end Go.Proofs.YtalhhplphlobbaaGreat.fnTimer
namespace Go.Proofs.YtalhhplphlobbaaGreat
/-- The row, under a short name, for the claim. -/
theorem fnTimer_holds : Rows.FnTimerSaid := fnTimer.proved
end Go.Proofs.YtalhhplphlobbaaGreat
