/- A piece of a log, as an operation. Conditions: the bounds. -/
import Derived.Deep.MidRow
import Derived.Test.YtalhhplphlobbaaGreatP29
set_option linter.unusedVariables false
set_option linter.unusedSimpArgs false
namespace Go.Proofs.YtalhhplphlobbaaGreat
open Go.RowKit
theorem size65 : (Tryz.prog.info? 65).map (·.size) = some 4 := by kernel_rfl
theorem log_slice {A : Option Addr} {n c i j : Nat} (hij : i ≤ j) (hj : j ≤ n) (hn : n ≤ c) : ∃ A' n' c', (∀ w, (Instr.slice 29 (.slice A n c) (some (.int .u64 i)) (some (.int .u64 j)) none).run Tryz.prog w = .ok (.slice A' n' c') w) ∧ ∀ X l, LogAt X (.slice A n c) l → LogAt X (.slice A' n' c') ((l.take j).drop i) := by
  refine ⟨if c = i then A else A.map (·.add (i * 4)), j - i, c - i, fun w => ?_, fun X l h => ?_⟩
  · obtain ⟨i0, hi, hz0, hz1, hz2⟩ := info_parts info65
    have b1 : (0 : Int) ≤ (j : Int) ∧ (j : Int) ≤ (c : Int) := by omega
    have b2 : (0 : Int) ≤ (i : Int) ∧ (i : Int) ≤ (j : Int) := by omega
    simp [Instr.slice, run_underlying Tryz.underlying29, sizeOf, typeInfo, hi, hz1, Instr.sliceBounds, Instr.sliceBound, asIntOf]
    rw [if_pos (by omega), if_pos hij]
  · have hl := h
    obtain ⟨A', n', c', hv, hll, hc', h0, ha⟩ := hl
    injection hv with e1 e2 e3
    subst e1 e2 e3
    rcases A with _ | ⟨b, o, sp⟩
    · have hc0 := h0 rfl
      have : l = [] := List.eq_nil_of_length_eq_zero (by omega)
      subst this
      refine ⟨none, j - i, c - i, by split <;> rfl, by simp; omega, by omega, fun _ => by omega, fun b o s e => by cases e⟩
    · obtain ⟨rfl, hb, hcell⟩ := ha b o sp rfl
      by_cases hci : c = i
      · rw [if_pos hci]
        refine ⟨some ⟨b, o, none⟩, j - i, c - i, rfl, by simp; omega, by omega, fun e => (by cases e), fun b' o' s' e => ?_⟩
        injection e with e
        injection e with e1 e2 e3
        subst e1 e2 e3
        refine ⟨rfl, hb, fun q x hx => ?_⟩
        have := (List.getElem?_eq_some_iff.1 hx).1
        simp at this
        omega
      · rw [if_neg hci]
        have z := h.sub hij hj (show j - i ≤ c - i by omega)
        rw [show (some (⟨b, o, none⟩ : Addr)).map (·.add (i * 4)) = some ⟨b, o + i * 4, none⟩ by simp [Addr.add]]
        exact z
/-- A load of one cell in a drawn region. -/
theorem yi_load {ops : Array Oper} {S : World → Prop} {op : Oper} {a : Act} (hw : Region.wanted op (yielded ops a.tmps) = true) (ty : TypeId) (x : Operand) (ho : op.op = .load ty x) (b o : Nat) (hx : a.eval x = .pointer (some ⟨b, o, none⟩)) (v : Value)
    (hS : ∀ w, S w → (loadVar ty ⟨b, o, none⟩).run Tryz.prog w = .ok v w) : YieldsIf Tryz.prog ops S op v a :=
  .inl ⟨hw, fun w hw' => by
    unfold execOp
    simp only [ho, hx, Instr.loadAt, Instr.sureAddr, Sem.run_bind, Sem.run_pure, Result.andThen_ok, hS w hw']⟩
/-- A slice expression in a drawn region. -/
theorem yi_slice {ops : Array Oper} {S : World → Prop} {op : Oper} {a : Act} (hw : Region.wanted op (yielded ops a.tmps) = true) (x lo hi : Operand) (ho : op.op = .slice 29 x (some lo) (some hi) none) (vx vl vh v : Value) (hx : a.eval x = vx) (hl : a.eval lo = vl) (hh : a.eval hi = vh)
    (hrun : ∀ w, (Instr.slice 29 vx (some vl) (some vh) none).run Tryz.prog w = .ok v w) : YieldsIf Tryz.prog ops S op v a :=
  .inl ⟨hw, fun w _ => by
    unfold execOp
    simp [ho, hx, hl, hh, Instr.sliceAt, run_underlying Tryz.underlying29, hrun w]⟩
theorem load4 {w : World} {b o : Nat} {v : Bool} (z : w.cell? ⟨b, o, none⟩ = some (.bool v)) : (loadVar 4 ⟨b, o, none⟩).run Tryz.prog w = .ok (.bool v) w := by go_simp
theorem load22 {w : World} {b o : Nat} {v : Int} (z : w.cell? ⟨b, o, none⟩ = some (.int .u64 v)) : (loadVar 22 ⟨b, o, none⟩).run Tryz.prog w = .ok (.int .u64 v) w := by go_simp
theorem load29 {w : World} {b o n c : Nat} {A : Option Addr} (z : w.cell? ⟨b, o, none⟩ = some (.slice A n c)) : (loadVar 29 ⟨b, o, none⟩).run Tryz.prog w = .ok (.slice A n c) w := by go_simp
theorem load37 {w : World} {b o n c : Nat} {A : Option Addr} (z : w.cell? ⟨b, o, none⟩ = some (.slice A n c)) : (loadVar 37 ⟨b, o, none⟩).run Tryz.prog w = .ok (.slice A n c) w := by go_simp
end Go.Proofs.YtalhhplphlobbaaGreat
