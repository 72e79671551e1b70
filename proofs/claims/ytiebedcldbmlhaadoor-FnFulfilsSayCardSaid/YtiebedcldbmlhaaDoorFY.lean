/-
  The table of the shifts to the left and all tables together, out of the rows' list of package-level variables. Conditions: the variables read as the rows' text lays them.
-/
import Derived.Test.YtiebedcldbmlhaaDoorFX
namespace Go.Proofs.YtiebedcldbmlhaaDoor.Fl
open Go.RowKit
open Go.Lib (VarReads)
set_option linter.unusedVariables false

def cheatRow (k : Nat) : Nat × List UInt8 := Go.Pinned.cheatRows.getD k (0, [])
def cheatOk (k : Nat) : Bool :=
  decide (1 ≤ (cheatRow k).1) && decide (10 ^ ((cheatRow k).1 - 1) ≤ 2 ^ k) && decide (2 ^ k < 10 ^ (cheatRow k).1) && decide ((cheatRow k).2.length + (cheatRow k).1 = k + 1) &&
  (List.range (cheatRow k).2.length).all (fun i => decide (((cheatRow k).2.getD i 0).toNat = 48 + dgt (5 ^ k) ((cheatRow k).2.length - 1 - i)))
theorem cheats_ok : (List.range 60).all (fun k => cheatOk (k + 1)) = true := by decide +kernel
theorem cheat_len : Go.Pinned.cheatRows.length = 61 := by decide +kernel
theorem cheat_tab {W : World} (h : VarReads Tryd.prog W "internal/strconv.leftcheats" Go.Pinned.leftcheats) : (∃ b, b < W.heap.size ∧ Cheats W b) ∧ 12 < W.heap.size := by
  obtain ⟨cs, fuel, p, hc, hd⟩ := var_at h (g := 12) (t := 166) (by kernel_rfl) (by kernel_rfl)
  unfold Go.Pinned.leftcheats at hd
  obtain ⟨a, cap, rfl, _, hrow⟩ := open_row2 Tryd.underlying166 (by kernel_rfl) hd
  rw [List.length_map, cheat_len] at hc
  have c1 : Tryd.prog.cellsOf 3 = 1 := by kernel_rfl
  have c9 : Tryd.prog.cellsOf 9 = 1 := by kernel_rfl
  have key : ∀ i, i < 61 → W.cell? ((a.add (i * 2)).add 0) = some (.int .i64 (cheatRow i).1) ∧ ∃ s : ByteArray, W.cell? ((a.add (i * 2)).add 1) = some (.string s) ∧ s.data.toList = (cheatRow i).2 := by
    intro i hi
    have hr : Go.Pinned.cheatRows[i]? = some (cheatRow i) := by
      unfold cheatRow
      rw [List.getD_eq_getElem?_getD, List.getElem?_eq_getElem (by rw [cheat_len]; exact hi)]
      rfl
    obtain ⟨c, n, q, hcell, ht⟩ := hrow i (.agg [.lit (.int .i64 (cheatRow i).1), .lit (.string (cheatRow i).2)]) (by rw [List.getElem?_map, hr]; rfl)
    have f0 := fld_int Tryd.underlying165 ht (i := 0) rfl (k := .i64) (z := (cheatRow i).1) rfl Tryd.underlying3 c1
    obtain ⟨s, f1, hs⟩ := fld_str Tryd.underlying165 ht (i := 1) rfl (l := (cheatRow i).2) rfl Tryd.underlying9 c9
    exact ⟨(hcell 0 (by decide)).trans f0, s, (hcell 1 (by decide)).trans f1, hs⟩
  have k0 := (key 0 (by decide)).1
  rw [Nat.zero_mul] at k0
  have e0 : (a.add 0).add 0 = a.add 0 := by simp [Addr.add]
  rw [e0] at k0
  obtain ⟨b, o, rfl⟩ := spot_none k0
  rw [add_at] at k0
  have hg := hc 0
  refine ⟨⟨b, World.block_lt_of_cell? W _ k0, o, cap, fun k hk1 hk60 => ?_⟩, World.block_lt_of_cell? W _ (hg.trans rfl)⟩
  obtain ⟨q0, s, q1, hs⟩ := key k (by omega)
  rw [add_at, add_at] at q0 q1
  have hok : cheatOk k = true := by
    have := List.all_eq_true.1 cheats_ok (k - 1) (List.mem_range.2 (by omega))
    rwa [show k - 1 + 1 = k by omega] at this
  unfold cheatOk at hok
  simp only [Bool.and_eq_true, decide_eq_true_eq, List.all_eq_true, List.mem_range] at hok
  obtain ⟨⟨⟨⟨h1, h2⟩, h3⟩, h4⟩, h5⟩ := hok
  have hsz : s.size = (cheatRow k).2.length := by rw [← hs]; rfl
  refine ⟨(cheatRow k).1, (cheatRow k).2.length, s, ⟨hg.trans rfl, q0, q1, hk1, hk60, h1, h2, h3, h4, hsz, fun i hi => ?_⟩⟩
  have hx := h5 i (by omega)
  rw [← hx, ← hs, List.getD_eq_getElem?_getD, List.getElem?_eq_getElem (show i < s.data.toList.length from hi)]
  rfl
/-- What the rows lay of the float reading's tables. -/
structure Laid (W : World) : Prop where
  info : VarReads Tryd.prog W "internal/strconv.float32info" Rows.laid_internal_strconv_float32info
  opt : VarReads Tryd.prog W "internal/strconv.optimize" Rows.laid_internal_strconv_optimize
  pow : VarReads Tryd.prog W "internal/strconv.powtab" Rows.laid_internal_strconv_powtab
  f32 : VarReads Tryd.prog W "internal/strconv.float32pow10" Rows.laid_internal_strconv_float32pow10
  cheats : VarReads Tryd.prog W "internal/strconv.leftcheats" Go.Pinned.leftcheats
  p10 : VarReads Tryd.prog W "internal/strconv.pow10Tab" Go.Pinned.pow10Tab
theorem aenv_of {W : World} (h : Laid W) : AEnv pTab W W.heap.size := by
  obtain ⟨i0, i1, i2⟩ := info_tab h.info
  have hp := powtab_tab h.pow
  obtain ⟨hc, hcg⟩ := cheat_tab h.cheats
  have ht := pow_tab h.p10
  have hf := f32_tab h.f32
  have ho := opt_tab h.opt
  have lt : ∀ {a : Addr} {v : Value}, W.cell? a = some v → a.block < W.heap.size := fun h => World.block_lt_of_cell? W _ h
  exact ⟨⟨i0, i1, i2, hp, hc, lt i0, by obtain ⟨_, _, _, _, hx, _⟩ := hp; exact lt hx, hcg⟩, ht, ⟨hf, by obtain ⟨_, _, _, _, hx, _⟩ := hf; exact lt hx⟩, ho, lt (ht.hi 0 (by decide)), lt ho, Nat.le_refl _⟩
end Go.Proofs.YtiebedcldbmlhaaDoor.Fl
