/-
  The tables that the library's float reading leans on, out of the rows' list of package-level variables: one by one. Conditions: the variables read as the rows' text lays them.
-/
import Derived.Test.YtiebedcldbmlhaaDoorFW
namespace Go.Proofs.YtiebedcldbmlhaaDoor.Fl
open Go.RowKit
open Go.Lib (VarReads)
set_option linter.unusedVariables false

def pTab (i : Nat) : Nat × Nat := Go.Pinned.pow10Rows.getD i (0, 0)
theorem pTab_b : ∀ i, (pTab i).1 < 18446744073709551616 ∧ (pTab i).2 < 18446744073709551616 := by
  have h : Go.Pinned.pow10Rows.all (fun x => decide (x.1 < 18446744073709551616) && decide (x.2 < 18446744073709551616)) = true := by decide +kernel
  rw [List.all_eq_true] at h
  intro i
  unfold pTab
  rw [List.getD_eq_getElem?_getD]
  cases hx : Go.Pinned.pow10Rows[i]? with
  | none => decide
  | some x =>
    have := h x (List.mem_of_getElem? hx)
    simpa using this
theorem pow_len : Go.Pinned.pow10Rows.length = 696 := by decide +kernel
theorem pow_tab {W : World} (h : VarReads Tryd.prog W "internal/strconv.pow10Tab" Go.Pinned.pow10Tab) : PTab pTab W := by
  obtain ⟨cs, fuel, p, hc, hd⟩ := var_at h (g := 10) (t := 155) (by kernel_rfl) (by kernel_rfl)
  unfold Go.Pinned.pow10Tab at hd
  obtain ⟨xs, m, rfl, hx, _, _, hall⟩ := DataW.trod_array Tryd.underlying155 hd
  simp only [Prod.mk.injEq, DataW.agg.injEq] at hx
  obtain ⟨hx, _⟩ := hx
  have c2 : Tryd.prog.cellsOf 154 = 2 := by kernel_rfl
  have c1 : Tryd.prog.cellsOf 86 = 1 := by kernel_rfl
  have key : ∀ i, i < 696 → cs[i * 2]? = some (.int .u64 (pTab i).1) ∧ cs[i * 2 + 1]? = some (.int .u64 (pTab i).2) := by
    intro i hi
    have h1 := hall i hi
    rw [c2] at h1
    have hr : Go.Pinned.pow10Rows[i]? = some (pTab i) := by
      unfold pTab
      rw [List.getD_eq_getElem?_getD, List.getElem?_eq_getElem (by rw [pow_len]; exact hi)]
      rfl
    have h2 := congrArg (·[i]?) hx
    simp only [List.getElem?_map, hr, Option.map_some] at h2
    cases hb : xs[i]? with
    | none => rw [hb] at h2; cases h2
    | some b =>
      rw [hb] at h2 h1
      simp only [Option.map_some, Option.some.injEq] at h2
      obtain ⟨b1, b2⟩ := b
      simp only at h2
      subst h2
      have f0 := fld_int Tryd.underlying154 h1 (i := 0) rfl (k := .u64) (z := (pTab i).1) rfl Tryd.underlying86 c1
      have f1 := fld_int Tryd.underlying154 h1 (i := 1) rfl (k := .u64) (z := (pTab i).2) rfl Tryd.underlying86 c1
      simp only [List.getElem?_take, List.getElem?_drop] at f0 f1
      exact ⟨by simpa using f0, by simpa using f1⟩
  exact ⟨fun i hi => by rw [hc, (key i hi).1], fun i hi => by rw [hc, (key i hi).2], pTab_b⟩

theorem info_tab {W : World} (h : VarReads Tryd.prog W "internal/strconv.float32info" Rows.laid_internal_strconv_float32info) :
    W.cell? ⟨4, 0, none⟩ = some (.int .u64 23) ∧ W.cell? ⟨4, 1, none⟩ = some (.int .u64 8) ∧ W.cell? ⟨4, 2, none⟩ = some (.int .i64 (-127)) := by
  obtain ⟨cs, fuel, p, hc, hd⟩ := var_at h (g := 4) (t := 111) (by kernel_rfl) (by kernel_rfl)
  unfold Rows.laid_internal_strconv_float32info at hd
  rw [hc, hc, hc]
  exact ⟨fld_int Tryd.underlying111 hd (i := 0) rfl rfl Tryd.underlying89 (by kernel_rfl), fld_int Tryd.underlying111 hd (i := 1) rfl rfl Tryd.underlying89 (by kernel_rfl), fld_int Tryd.underlying111 hd (i := 2) rfl rfl Tryd.underlying3 (by kernel_rfl)⟩
theorem opt_tab {W : World} (h : VarReads Tryd.prog W "internal/strconv.optimize" Rows.laid_internal_strconv_optimize) : W.cell? ⟨5, 0, none⟩ = some (.bool true) := by
  obtain ⟨cs, fuel, p, hc, hd⟩ := var_at h (g := 5) (t := 4) (by kernel_rfl) (by kernel_rfl)
  unfold Rows.laid_internal_strconv_optimize at hd
  obtain ⟨b, rfl, hx⟩ := DataW.trod_bool Tryd.underlying4 hd
  simp only [Prod.mk.injEq, DataW.lit.injEq, Lit.bool.injEq] at hx
  rw [hc, ← hx.1]
  rfl
theorem powtab_tab {W : World} (h : VarReads Tryd.prog W "internal/strconv.powtab" Rows.laid_internal_strconv_powtab) :
    ∃ b o cap, b < W.heap.size ∧ W.cell? ⟨8, 0, none⟩ = some (.slice (some ⟨b, o, none⟩) 9 cap) ∧ ∀ i, i < 9 → W.cell? ⟨b, o + i, none⟩ = some (.int .i64 (tab i : Nat)) := by
  obtain ⟨cs, fuel, p, hc, hd⟩ := var_at h (g := 8) (t := 44) (by kernel_rfl) (by kernel_rfl)
  unfold Rows.laid_internal_strconv_powtab at hd
  obtain ⟨a, cap, rfl, _, hrow⟩ := open_row Tryd.underlying44 (by kernel_rfl) hd
  have key : ∀ i z, i < 9 → ([1, 3, 6, 9, 13, 16, 19, 23, 26] : List Int)[i]? = some z → W.cell? (a.add i) = some (.int .i64 z) := by
    intro i z hi hz
    obtain ⟨v, n, q, hcell, hv⟩ := hrow i (.lit (.int .i64 z)) (by
      have : ([.lit (.int .i64 1), .lit (.int .i64 3), .lit (.int .i64 6), .lit (.int .i64 9), .lit (.int .i64 13), .lit (.int .i64 16), .lit (.int .i64 19), .lit (.int .i64 23), .lit (.int .i64 26)] : List (DataW Unit)) = ([1, 3, 6, 9, 13, 16, 19, 23, 26] : List Int).map (fun z => .lit (.int .i64 z)) := rfl
      rw [this, List.getElem?_map, hz]
      rfl)
    obtain ⟨z', e1, e2, _⟩ := DataW.trod_int Tryd.underlying3 hv
    simp only [Prod.mk.injEq, DataW.lit.injEq, Lit.int.injEq, true_and] at e2
    simp only [List.cons.injEq, and_true] at e1
    rw [hcell, e1, e2.1]
  obtain ⟨b, o, rfl⟩ := spot_none (key 0 1 (by decide) rfl)
  have k0 := key 0 1 (by decide) rfl
  rw [add_at] at k0
  refine ⟨b, o, cap, World.block_lt_of_cell? W _ k0, by rw [hc]; rfl, fun i hi => ?_⟩
  have hz : ([1, 3, 6, 9, 13, 16, 19, 23, 26] : List Int)[i]? = some ((tab i : Nat) : Int) := by
    rcases (show i = 0 ∨ i = 1 ∨ i = 2 ∨ i = 3 ∨ i = 4 ∨ i = 5 ∨ i = 6 ∨ i = 7 ∨ i = 8 by omega) with rfl | rfl | rfl | rfl | rfl | rfl | rfl | rfl | rfl <;> decide
  have := key i _ hi hz
  rwa [add_at] at this
theorem f32_tab {W : World} (h : VarReads Tryd.prog W "internal/strconv.float32pow10" Rows.laid_internal_strconv_float32pow10) : 
    ∃ b o cap, b < W.heap.size ∧ W.cell? ⟨7, 0, none⟩ = some (.slice (some ⟨b, o, none⟩) 11 cap) ∧ ∀ i, i < 11 → ∃ v, W.cell? ⟨b, o + i, none⟩ = some (.float .f32 v) := by
  obtain ⟨cs, fuel, p, hc, hd⟩ := var_at h (g := 7) (t := 132) (by kernel_rfl) (by kernel_rfl)
  unfold Rows.laid_internal_strconv_float32pow10 at hd
  obtain ⟨a, cap, rfl, _, hrow⟩ := open_row Tryd.underlying132 (by kernel_rfl) hd
  have key : ∀ i, i < 11 → ∃ v, W.cell? (a.add i) = some (.float .f32 v) := by
    intro i hi
    obtain ⟨v, n, q, hcell, hv⟩ := hrow i _ (List.getElem?_eq_getElem (by exact hi))
    obtain ⟨b, rfl⟩ := trod_float Tryd.underlying94 hv
    exact ⟨b, hcell⟩
  obtain ⟨v0, h0⟩ := key 0 (by decide)
  obtain ⟨b, o, rfl⟩ := spot_none h0
  rw [add_at] at h0
  refine ⟨b, o, cap, World.block_lt_of_cell? W _ h0, by rw [hc]; rfl, fun i hi => ?_⟩
  obtain ⟨v, hv⟩ := key i hi
  rw [add_at] at hv
  exact ⟨v, hv⟩
end Go.Proofs.YtiebedcldbmlhaaDoor.Fl
