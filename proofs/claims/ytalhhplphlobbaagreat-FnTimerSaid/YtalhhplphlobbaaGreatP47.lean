/- The opening: what an argument of the laws is. Conditions: none. -/
import Derived.ProofKit
import Derived.OpenShut
import Derived.ShutString
import Derived.SizedLaws
import Derived.Deep.Slices
import Derived.Test.YtalhhplphlobbaaGreatP42
set_option linter.unusedVariables false
set_option linter.unusedSimpArgs false
namespace Go.Proofs.YtalhhplphlobbaaGreat
open Go.RowKit Go.ChangeShapes Go.Deep
section
variable {H : Type} {enc : TypeId × Value → H} {P : Program} {w : World} {base fuel : Nat} {held : Bool} {spare : Nat → Bool}
theorem fld {t : TypeId} {fs : Array Field} {cs : List Value} {x : DataW H × List MemPlace} (ht : P.underlying t = some (.struct fs)) (h : DataW.trod enc P w base spare held fuel t cs = some x) (i : Nat) (f : Field) (hf : fs[i]? = some f) :
    ∃ n y, DataW.trod enc P w base spare held n f.type ((cs.drop f.offset).take (P.cellsOf f.type)) = some y ∧ ∀ m ∈ y.1.weights P f.type, m ∈ x.1.weights P t := by
  obtain ⟨xs, n, _, rfl, hl, hlen, hx⟩ := DataW.trod_struct ht h
  have hi : i < xs.length := by rw [hlen]; exact (Array.getElem?_eq_some_iff.1 hf).1
  refine ⟨n, xs[i], (hx i f hf).trans (List.getElem?_eq_getElem hi), fun m hm => ?_⟩
  simp only [DataW.weights, ht]
  exact DataW.weights_mem_each (j := i) (by simp [hf]) (by simp [hi]) m hm
theorem one_at {cs : List Value} {o : Nat} {v : Value} (h : (cs.drop o).take 1 = [v]) : cs[o]? = some v := by
  have h0 : ((cs.drop o).take 1)[0]? = some v := by rw [h]; rfl
  rw [List.getElem?_take] at h0
  simpa using h0
theorem piece_at {cs : List Value} {a b o : Nat} {v : Value} (h : ((cs.drop a).take b)[o]? = some v) : cs[a + o]? = some v := by
  rw [List.getElem?_take] at h
  split at h
  · rwa [List.getElem?_drop] at h
  · cases h
theorem fld_int {t : TypeId} {fs : Array Field} {cs : List Value} {x : DataW H × List MemPlace} (ht : P.underlying t = some (.struct fs)) (h : DataW.trod enc P w base spare held fuel t cs = some x) (i : Nat) (f : Field) (hf : fs[i]? = some f) {k : IntKind} (hk : P.underlying f.type = some (.int k)) (h1 : P.cellsOf f.type = 1) :
    ∃ z, cs[f.offset]? = some (.int k z) ∧ (Lit.int k z).wf = true := by
  obtain ⟨n, y, hy, _⟩ := fld ht h i f hf
  rw [h1] at hy
  obtain ⟨z, hz, _, hw⟩ := DataW.trod_int hk hy
  exact ⟨z, one_at hz, hw⟩
theorem fld_bool {t : TypeId} {fs : Array Field} {cs : List Value} {x : DataW H × List MemPlace} (ht : P.underlying t = some (.struct fs)) (h : DataW.trod enc P w base spare held fuel t cs = some x) (i : Nat) (f : Field) (hf : fs[i]? = some f) (hk : P.underlying f.type = some .bool) (h1 : P.cellsOf f.type = 1) :
    ∃ z, cs[f.offset]? = some (.bool z) := by
  obtain ⟨n, y, hy, _⟩ := fld ht h i f hf
  rw [h1] at hy
  obtain ⟨z, hz, _⟩ := DataW.trod_bool hk hy
  exact ⟨z, one_at hz⟩
theorem fld_string {t : TypeId} {fs : Array Field} {cs : List Value} {x : DataW H × List MemPlace} (ht : P.underlying t = some (.struct fs)) (h : DataW.trod enc P w base spare held fuel t cs = some x) (i : Nat) (f : Field) (hf : fs[i]? = some f) (hk : P.underlying f.type = some .string) (h1 : P.cellsOf f.type = 1) :
    ∃ z, cs[f.offset]? = some (.string z) := by
  obtain ⟨n, y, hy, _⟩ := fld ht h i f hf
  rw [h1] at hy
  obtain ⟨z, hz, _⟩ := DataW.trod_string hk hy
  exact ⟨z, one_at hz⟩
/-- A slice's address: plain, in a block that is there. -/
theorem slice_addr {t e : TypeId} {b0 : Nat} {a : Addr} {len cap : Nat} (ht : P.underlying t = some (.slice e)) (hok : Cell.okWide P w .any b0 t (.slice (some a) len cap)) : a.spot = none ∧ a.block < w.heap.size := by
  simp only [Cell.okWide, Cell.ok, ht] at hok
  obtain ⟨_, _, hh⟩ := hok
  obtain ⟨_, h2, row, cells, h3, _⟩ := hh
  refine ⟨h2, ?_⟩
  unfold World.shape? at h3
  cases hb : w.heap[a.block]? with
  | none => rw [hb] at h3; cases h3
  | some o => exact (Array.getElem?_eq_some_iff.1 hb).1
theorem plain_add (b o j : Nat) : Addr.add ⟨b, o, none⟩ j = ⟨b, o + j, none⟩ := by
  unfold Addr.add
  split
  · next h => subst h; rfl
  · rfl
theorem fld_ints {t e ts : TypeId} {fs : Array Field} {cs : List Value} {x : DataW H × List MemPlace} (hts : P.underlying ts = some (.struct fs)) (h : DataW.trod enc P w base (fun _ => true) held fuel ts cs = some x) (i : Nat) (f : Field) (hf : fs[i]? = some f) (hft : f.type = t)
    {k : IntKind} (ht : P.underlying t = some (.slice e)) (he : P.underlying e = some (.int k)) (hc : P.cellsOf e = 1) (h1 : P.cellsOf t = 1) (hb : P.bytesOf e = 8) :
    ∃ v, cs[f.offset]? = some v ∧ ∀ b0, Cell.okWide P w .any b0 t v → (∀ m ∈ x.1.weights P ts, m ≤ reachBytes) → ∃ zs : List Int, Sl [] w v (zs.map (Value.int k)) ∧ (∀ n ∈ zs, (Lit.int k n).wf = true) ∧ zs.length * 8 ≤ reachBytes := by
  obtain ⟨n, y, hy, hw⟩ := fld hts h i f hf
  rw [hft, h1] at hy
  rw [hft] at hw
  rcases open_ints ht he hc hy with ⟨hcs, _⟩ | ⟨a, len, cap, zs, hcs, _, hl, hm, hz, hx, hcell, hwz⟩
  · exact ⟨_, one_at hcs, fun b0 _ _ => ⟨[], Sl.nil _ _, by simp, by simp⟩⟩
  · refine ⟨_, one_at hcs, fun b0 hok hs => ?_⟩
    obtain ⟨b, o, sp⟩ := a
    obtain ⟨hsp, hbl⟩ := slice_addr ht hok
    simp only at hsp hbl
    subst hsp
    simp at hz
    refine ⟨zs.take len, ⟨_, _, _, rfl, by simp; omega, hl, by simp, fun b' o' s' e => ?_⟩, fun n hn => hwz n (List.mem_of_mem_take hn), ?_⟩
    · injection e with e
      injection e with e1 e2 e3
      subst e1 e2 e3
      refine ⟨rfl, by simp, hbl, fun j u hu => ?_⟩
      rw [List.getElem?_map, List.getElem?_take] at hu
      split at hu
      · next hj =>
        have hjz : j < zs.length := by omega
        rw [List.getElem?_eq_getElem hjz] at hu
        have hc := hcell j hjz
        rw [plain_add] at hc
        rw [hc]
        simp at hu
        simp [← hu, hjz]
      · simp at hu
    · have hmem : (len + (zs.length - len)) * 8 ∈ DataW.weights P t y.1 := by
        rw [hx]
        simp [DataW.weights, ht, hb, lits]
        left
        congr 1
        omega
      have := hs _ (hw _ hmem)
      simp
      omega
instance : Inhabited EntK := ⟨⟨0, 0, 0, ByteArray.empty⟩⟩
/-- A log of entries: a slice of structs of four cells. -/
theorem fld_log {t e ts : TypeId} {fs es : Array Field} {f0 f1 f2 f3 : Field} {cs : List Value} {x : DataW H × List MemPlace} (hts : P.underlying ts = some (.struct fs)) (h : DataW.trod enc P w base (fun _ => true) held fuel ts cs = some x) (i : Nat) (f : Field) (hf : fs[i]? = some f) (hft : f.type = t)
    (ht : P.underlying t = some (.slice e)) (he : P.underlying e = some (.struct es)) (hc : P.cellsOf e = 4) (h1 : P.cellsOf t = 1) (hb : P.bytesOf e = 40)
    (h0' : es[0]? = some f0) (h1' : es[1]? = some f1) (h2' : es[2]? = some f2) (h3' : es[3]? = some f3) (o0 : f0.offset = 0) (o1 : f1.offset = 1) (o2 : f2.offset = 2) (o3 : f3.offset = 3)
    (k0 : P.underlying f0.type = some (.int .u64)) (k1 : P.underlying f1.type = some (.int .u64)) (k2 : P.underlying f2.type = some (.int .i64)) (k3 : P.underlying f3.type = some .string)
    (c0 : P.cellsOf f0.type = 1) (c1 : P.cellsOf f1.type = 1) (c2 : P.cellsOf f2.type = 1) (c3 : P.cellsOf f3.type = 1) :
    ∃ v, cs[f.offset]? = some v ∧ ∀ b0, Cell.okWide P w .any b0 t v → (∀ m ∈ x.1.weights P ts, m ≤ reachBytes) → ∃ l : List EntK, LogK w v l ∧
      (∀ e ∈ l, (Lit.int .u64 e.t).wf = true ∧ (Lit.int .u64 e.i).wf = true ∧ (Lit.int .i64 e.k).wf = true) ∧ l.length * 40 ≤ reachBytes := by
  obtain ⟨n, y, hy, hw⟩ := fld hts h i f hf
  rw [hft, h1] at hy
  rw [hft] at hw
  rcases open_slice ht hy with ⟨hcs, _⟩ | ⟨a, len, cap, m, n', D, Pl, hcs, _, hl, hm, hmm, hx, hcell⟩
  · exact ⟨_, one_at hcs, fun b0 _ _ => ⟨[], ⟨none, 0, 0, rfl, rfl, Nat.le_refl _, fun _ => rfl, fun _ _ _ h => by cases h⟩, by simp, by simp⟩⟩
  · refine ⟨_, one_at hcs, fun b0 hok hs => ?_⟩
    obtain ⟨b, o, sp⟩ := a
    obtain ⟨hsp, hbl⟩ := slice_addr ht hok
    simp only at hsp hbl
    subst hsp
    simp at hmm
    subst hmm
    obtain ⟨E, hE⟩ := choose_lt (α := EntK) (n := len) (p := fun j r => (w.cell? ⟨b, o + j * 4, none⟩ = some (.int .u64 r.t) ∧ w.cell? ⟨b, o + j * 4 + 1, none⟩ = some (.int .u64 r.i) ∧ w.cell? ⟨b, o + j * 4 + 2, none⟩ = some (.int .i64 r.k) ∧ w.cell? ⟨b, o + j * 4 + 3, none⟩ = some (.string r.d)) ∧
        (Lit.int .u64 r.t).wf = true ∧ (Lit.int .u64 r.i).wf = true ∧ (Lit.int .i64 r.k).wf = true) (fun j hj => by
      obtain ⟨cs', g1, g2⟩ := hcell j (by omega)
      rw [hc] at g1
      obtain ⟨_, hlen, hat⟩ := World.cells?_some g1
      obtain ⟨z0, q0, w0⟩ := fld_int he g2 0 f0 h0' k0 c0
      obtain ⟨z1, q1, w1⟩ := fld_int he g2 1 f1 h1' k1 c1
      obtain ⟨z2, q2, w2⟩ := fld_int he g2 2 f2 h2' k2 c2
      obtain ⟨z3, q3⟩ := fld_string he g2 3 f3 h3' k3 c3
      rw [o0] at q0
      rw [o1] at q1
      rw [o2] at q2
      rw [o3] at q3
      have a0 := hat 0 (by omega)
      have a1 := hat 1 (by omega)
      have a2 := hat 2 (by omega)
      have a3 := hat 3 (by omega)
      rw [plain_add, plain_add] at a0 a1 a2 a3
      exact ⟨⟨z0, z1, z2, z3⟩, ⟨a0.trans q0, a1.trans q1, a2.trans q2, a3.trans q3⟩, w0, w1, w2⟩)
    refine ⟨(List.range len).map E, ⟨_, _, _, rfl, by simp, hl, by simp, fun b' o' s' e => ?_⟩, fun r hr => ?_, ?_⟩
    · injection e with e
      injection e with e1 e2 e3
      subst e1 e2 e3
      refine ⟨rfl, hbl, fun j r hr => ?_⟩
      rw [List.getElem?_map] at hr
      cases hj : (List.range len)[j]? with
      | none => rw [hj] at hr; cases hr
      | some q =>
        rw [hj] at hr
        injection hr with hr
        subst hr
        obtain ⟨hjl, hq⟩ := List.getElem?_eq_some_iff.1 hj
        simp at hq hjl
        subst hq
        exact (hE j hjl).1
    · obtain ⟨j, hj, rfl⟩ := List.mem_map.1 hr
      exact (hE j (List.mem_range.1 hj)).2
    · have hmem : (len + (m - len)) * 40 ∈ DataW.weights P t y.1 := by
        rw [hx]
        simp [DataW.weights, ht, hb]
      have := hs _ (hw _ hmem)
      simp
      omega
/-- The cells from place k on are those of l. -/
def Agree (cs : List Value) : Nat → List Value → Prop
  | _, [] => True
  | k, v :: l => cs[k]? = some v ∧ Agree cs (k + 1) l
theorem Agree.get {cs : List Value} : ∀ {l : List Value} {k : Nat}, Agree cs k l → ∀ j v, l[j]? = some v → cs[k + j]? = some v
  | [], _, _, j, v, h => by simp at h
  | x :: l, k, ha, 0, v, h => by simp at h; subst h; exact ha.1
  | x :: l, k, ha, j + 1, v, h => by
    have := Agree.get ha.2 j v (by simpa using h)
    rw [show k + (j + 1) = k + 1 + j by omega]
    exact this
theorem Agree.eq {cs l : List Value} (h : Agree cs 0 l) (hl : cs.length = l.length) : cs = l := by
  refine List.ext_getElem? fun i => ?_
  by_cases hi : i < l.length
  · rw [List.getElem?_eq_getElem hi]
    have := h.get i l[i] (List.getElem?_eq_getElem hi)
    rwa [Nat.zero_add] at this
  · rw [List.getElem?_eq_none (by omega), List.getElem?_eq_none (by omega)]
end
section
variable {H : Type} {enc : TypeId × Value → H} {w : World}
theorem ct33 : Tryz.prog.cellTypes Tryz.prog.depth 33 = some [22, 3, 3, 23, 4, 4, 4, 4, 4, 22, 22, 22, 3, 9, 22, 22, 24, 24, 24, 24, 4, 29, 22, 22, 22, 22] := by kernel_rfl
set_option maxRecDepth 100000 in
theorem okw_cell {cs : Array Value} {b0 : Nat} (h : Row.okWide Tryz.prog w .any b0 33 cs) {i : Nat} (hi : i < 26) {v : Value} {u : TypeId} (hv : cs[i]? = some v) (hu : ([22, 3, 3, 23, 4, 4, 4, 4, 4, 22, 22, 22, 3, 9, 22, 22, 24, 24, 24, 24, 4, 29, 22, 22, 22, 22] : List TypeId)[i]? = some u) : Cell.okWide Tryz.prog w .any b0 u v := by
  obtain ⟨ts, ht, _, hc⟩ := h
  have e := Option.some.inj (ct33.symm.trans ht)
  subst e
  obtain ⟨u', h1, h2⟩ := hc i v hv
  have h3 : ([22, 3, 3, 23, 4, 4, 4, 4, 4, 22, 22, 22, 3, 9, 22, 22, 24, 24, 24, 24, 4, 29, 22, 22, 22, 22] : List TypeId)[i % 26]? = some u' := h1
  rw [Nat.mod_eq_of_lt hi, hu] at h3
  injection h3 with h3
  subst h3
  exact h2
theorem wf64 {n : Int} (h : (Lit.int .u64 n).wf = true) : 0 ≤ n ∧ n < 2 ^ 64 := by have := bounds_u64 h; omega
theorem wfi64 {n : Int} (h : (Lit.int .i64 n).wf = true) : -2 ^ 63 ≤ n ∧ n < 2 ^ 63 := by have := bounds_i64 h; omega
set_option maxRecDepth 100000 in
set_option maxHeartbeats 1000000 in
theorem open_setup {d : DataW H} {ps : List MemPlace} {b0 : Nat} {v : Value} (hval : Value.okWide Tryz.prog w .any b0 33 v) (h : DataW.Trod enc Tryz.prog w 0 (fun _ => true) true 33 v d ps) (hz : ∀ m ∈ d.weights Tryz.prog 33, m ≤ reachBytes) :
    ∃ s V L V2 L2 D l, v = .agg (SetS.list s).toArray ∧ Arg w s V L V2 L2 D l ∧ V2.length < 2 ^ 61 ∧ L2.length < 2 ^ 61 := by
  have hrow : ∃ cs, v = .agg cs ∧ cs.size = 26 ∧ Row.okWide Tryz.prog w .any b0 33 cs := by
    obtain ⟨cs, e1, e2, e3⟩ : ∃ cs, v = .agg cs ∧ cs.size = Tryz.prog.cellsOf 33 ∧ Row.okWide Tryz.prog w .any b0 33 cs := by
      unfold Value.okWide at hval
      rw [Tryz.underlying33] at hval
      exact hval
    exact ⟨cs, e1, e2.trans (by kernel_rfl), e3⟩
  obtain ⟨cs, rfl, hsz, hok⟩ := hrow
  obtain ⟨fuel, hf⟩ := h
  simp only [Value.cells] at hf
  obtain ⟨cl⟩ := cs
  simp only at hf
  obtain ⟨i0, p0, w0⟩ := fld_int Tryz.underlying33 hf 0 _ rfl (k := .u64) Tryz.underlying22 (by kernel_rfl)
  obtain ⟨i1, p1, w1⟩ := fld_int Tryz.underlying33 hf 1 _ rfl (k := .i64) Tryz.underlying3 (by kernel_rfl)
  obtain ⟨i2, p2, w2⟩ := fld_int Tryz.underlying33 hf 2 _ rfl (k := .i64) Tryz.underlying3 (by kernel_rfl)
  obtain ⟨v3, p3, g3⟩ := fld_ints Tryz.underlying33 hf 3 _ rfl rfl Tryz.underlying23 (k := .i64) Tryz.underlying3 (by kernel_rfl) (by kernel_rfl) (by kernel_rfl)
  obtain ⟨i4, p4⟩ := fld_bool Tryz.underlying33 hf 4 _ rfl Tryz.underlying4 (by kernel_rfl)
  obtain ⟨i5, p5⟩ := fld_bool Tryz.underlying33 hf 5 _ rfl Tryz.underlying4 (by kernel_rfl)
  obtain ⟨i6, p6⟩ := fld_bool Tryz.underlying33 hf 6 _ rfl Tryz.underlying4 (by kernel_rfl)
  obtain ⟨i7, p7⟩ := fld_bool Tryz.underlying33 hf 7 _ rfl Tryz.underlying4 (by kernel_rfl)
  obtain ⟨i8, p8⟩ := fld_bool Tryz.underlying33 hf 8 _ rfl Tryz.underlying4 (by kernel_rfl)
  obtain ⟨i9, p9, w9⟩ := fld_int Tryz.underlying33 hf 9 _ rfl (k := .u64) Tryz.underlying22 (by kernel_rfl)
  obtain ⟨i10, p10, w10⟩ := fld_int Tryz.underlying33 hf 10 _ rfl (k := .u64) Tryz.underlying22 (by kernel_rfl)
  obtain ⟨i11, p11, w11⟩ := fld_int Tryz.underlying33 hf 11 _ rfl (k := .u64) Tryz.underlying22 (by kernel_rfl)
  obtain ⟨i12, p12, w12⟩ := fld_int Tryz.underlying33 hf 12 _ rfl (k := .i64) Tryz.underlying3 (by kernel_rfl)
  obtain ⟨n13, y13, h13, z13⟩ := fld Tryz.underlying33 hf 13 _ rfl
  obtain ⟨j0, q0⟩ := fld_string Tryz.underlying28 h13 0 _ rfl Tryz.underlying9 (by kernel_rfl)
  obtain ⟨j1, q1, x1⟩ := fld_int Tryz.underlying28 h13 1 _ rfl (k := .u64) Tryz.underlying22 (by kernel_rfl)
  obtain ⟨j2, q2, x2⟩ := fld_int Tryz.underlying28 h13 2 _ rfl (k := .u64) Tryz.underlying22 (by kernel_rfl)
  obtain ⟨n3, y3, h3, z3⟩ := fld Tryz.underlying28 h13 3 _ rfl
  obtain ⟨k0, r0, g0⟩ := fld_ints Tryz.underlying26 h3 0 _ rfl rfl Tryz.underlying24 (k := .u64) Tryz.underlying22 (by kernel_rfl) (by kernel_rfl) (by kernel_rfl)
  obtain ⟨k1, r1, g1⟩ := fld_ints Tryz.underlying26 h3 1 _ rfl rfl Tryz.underlying24 (k := .u64) Tryz.underlying22 (by kernel_rfl) (by kernel_rfl) (by kernel_rfl)
  obtain ⟨k2, r2, g2⟩ := fld_ints Tryz.underlying26 h3 2 _ rfl rfl Tryz.underlying24 (k := .u64) Tryz.underlying22 (by kernel_rfl) (by kernel_rfl) (by kernel_rfl)
  obtain ⟨k3, r3, g3'⟩ := fld_ints Tryz.underlying26 h3 3 _ rfl rfl Tryz.underlying24 (k := .u64) Tryz.underlying22 (by kernel_rfl) (by kernel_rfl) (by kernel_rfl)
  obtain ⟨k4, r4⟩ := fld_bool Tryz.underlying26 h3 4 _ rfl Tryz.underlying4 (by kernel_rfl)
  obtain ⟨v14, p14, g14⟩ := fld_log Tryz.underlying33 hf 14 _ rfl rfl Tryz.underlying29 Tryz.underlying65 (by kernel_rfl) (by kernel_rfl) (by kernel_rfl) rfl rfl rfl rfl rfl rfl rfl rfl Tryz.underlying22 Tryz.underlying22 Tryz.underlying3 Tryz.underlying9 (by kernel_rfl) (by kernel_rfl) (by kernel_rfl) (by kernel_rfl)
  obtain ⟨n15, y15, h15, z15⟩ := fld Tryz.underlying33 hf 15 _ rfl
  obtain ⟨m0, t0, u0⟩ := fld_int Tryz.underlying31 h15 0 _ rfl (k := .u64) Tryz.underlying22 (by kernel_rfl)
  obtain ⟨m1, t1, u1⟩ := fld_int Tryz.underlying31 h15 1 _ rfl (k := .u64) Tryz.underlying22 (by kernel_rfl)
  obtain ⟨m2, t2, u2⟩ := fld_int Tryz.underlying31 h15 2 _ rfl (k := .u64) Tryz.underlying22 (by kernel_rfl)
  obtain ⟨i16, p16, w16⟩ := fld_int Tryz.underlying33 hf 16 _ rfl (k := .u64) Tryz.underlying22 (by kernel_rfl)
  have q0' : cl[13]? = some (.string j0) := piece_at q0
  have q1' : cl[14]? = some (.int .u64 j1) := piece_at q1
  have q2' : cl[15]? = some (.int .u64 j2) := piece_at q2
  have r0' : cl[16]? = some k0 := piece_at (a := 13) (piece_at (a := 3) r0)
  have r1' : cl[17]? = some k1 := piece_at (a := 13) (piece_at (a := 3) r1)
  have r2' : cl[18]? = some k2 := piece_at (a := 13) (piece_at (a := 3) r2)
  have r3' : cl[19]? = some k3 := piece_at (a := 13) (piece_at (a := 3) r3)
  have r4' : cl[20]? = some (.bool k4) := piece_at (a := 13) (piece_at (a := 3) r4)
  have t0' : cl[22]? = some (.int .u64 m0) := piece_at t0
  have t1' : cl[23]? = some (.int .u64 m1) := piece_at t1
  have t2' : cl[24]? = some (.int .u64 m2) := piece_at t2
  have hz3 : ∀ m ∈ y3.1.weights Tryz.prog 26, m ≤ reachBytes := fun m hm => hz m (z13 m (z3 m hm))
  obtain ⟨D, sD, wD, _⟩ := g3 b0 (okw_cell hok (i := 3) (by decide) (by simpa using p3) rfl) hz
  obtain ⟨V, sV, wV, _⟩ := g0 b0 (okw_cell hok (i := 16) (by decide) (by simpa using r0') rfl) hz3
  obtain ⟨L, sL, wL, _⟩ := g1 b0 (okw_cell hok (i := 17) (by decide) (by simpa using r1') rfl) hz3
  obtain ⟨V2, sV2, wV2, lV2⟩ := g2 b0 (okw_cell hok (i := 18) (by decide) (by simpa using r2') rfl) hz3
  obtain ⟨L2, sL2, wL2, lL2⟩ := g3' b0 (okw_cell hok (i := 19) (by decide) (by simpa using r3') rfl) hz3
  obtain ⟨l, sl, wl, ll⟩ := g14 b0 (okw_cell hok (i := 21) (by decide) (by simpa using p14) rfl) hz
  have hrb : reachBytes < 2 ^ 47 := reachBytes_lt
  have hcl : cl = SetS.list ⟨i0, i1, i2, v3, i4, i5, i6, i7, i8, i9, i10, i11, i12, j0, j1, j2, k0, k1, k2, k3, k4, v14, m0, m1, m2, i16⟩ :=
    Agree.eq ⟨p0, p1, p2, p3, p4, p5, p6, p7, p8, p9, p10, p11, p12, q0', q1', q2', r0', r1', r2', r3', r4', p14, t0', t1', t2', p16, trivial⟩ (by simpa [SetS.list] using hsz)
  refine ⟨⟨i0, i1, i2, v3, i4, i5, i6, i7, i8, i9, i10, i11, i12, j0, j1, j2, k0, k1, k2, k3, k4, v14, m0, m1, m2, i16⟩, V, L, V2, L2, D, l, by rw [hcl], ?_, by omega, by omega⟩
  exact ⟨sD, sV, sL, sV2, sL2, sl, by omega, wf64 w0, wfi64 w1, wfi64 w2, wf64 w9, wf64 w10, wf64 w11, wfi64 w12, wf64 x1, wf64 x2, wf64 u0, wf64 u1, wf64 u2, wf64 w16,
    fun x hx => wfi64 (wD x hx), fun x hx => by
      simp only [List.mem_append] at hx
      rcases hx with ((hx | hx) | hx) | hx
      · exact wf64 (wV x hx)
      · exact wf64 (wL x hx)
      · exact wf64 (wV2 x hx)
      · exact wf64 (wL2 x hx),
    fun e he => ⟨wf64 (wl e he).1, wf64 (wl e he).2.1, wfi64 (wl e he).2.2⟩⟩
end
end Go.Proofs.YtalhhplphlobbaaGreat
