/-
  Joined: The tables that the library's float reading leans on, out of the rows' list of package-level variables; The tables that the library's float reading leans on, out of the rows' list of package-level variables: one by one; The table of the shifts to the left and all tables together, out of the rows' list of package-level variables.
  Conditions: each law's own.
-/
import Derived.Test.YtiebedcldbmlhaaGreatDoorK13
import Derived.Test.YtiebedcldbmlhaaGreatDoorRows
import Derived.ProofKit
import Derived.OpenShut
import Derived.LaidMore
import Derived.Lib.LaidRTab
import Derived.KernelRfl
namespace Go.Proofs.YtiebedcldbmlhaaGreatDoor.Fl
open Go.RowKit
open Go.Lib (VarReads)
set_option linter.unusedVariables false

section
variable {H : Type} {enc : TypeId × Value → H} {P : Program} {w : World} {base : Nat} {sp : Nat → Bool} {held : Bool}
theorem fld_at {fs : Array Field} {t : TypeId} {fuel : Nat} {cs : List Value} {ds : List (DataW H)} {p : List MemPlace} (ht : P.underlying t = some (.struct fs)) (h : DataW.trod enc P w base sp held fuel t cs = some (.agg ds, p)) {i : Nat} {f : Field} (hf : fs[i]? = some f) {d : DataW H} (hd : ds[i]? = some d) :
    ∃ n q, DataW.trod enc P w base sp held n f.type ((cs.drop f.offset).take (P.cellsOf f.type)) = some (d, q) := by
  obtain ⟨xs, n, rfl, hx, _, _, hall⟩ := DataW.trod_struct ht h
  have h1 := hall i f hf
  simp only [Prod.mk.injEq, DataW.agg.injEq] at hx
  obtain ⟨rfl, _⟩ := hx
  rw [List.getElem?_map] at hd
  obtain ⟨b, hb, rfl⟩ := Option.map_eq_some_iff.1 hd
  rw [hb] at h1
  exact ⟨n, b.2, h1⟩
theorem one_at {cs : List Value} {off : Nat} {v : Value} (h : (cs.drop off).take 1 = [v]) : cs[off]? = some v := by
  have := congrArg (·[0]?) h
  simpa [List.getElem?_take, List.getElem?_drop] using this
theorem fld_int {fs : Array Field} {t : TypeId} {fuel : Nat} {cs : List Value} {ds : List (DataW H)} {p : List MemPlace} (ht : P.underlying t = some (.struct fs)) (h : DataW.trod enc P w base sp held fuel t cs = some (.agg ds, p)) {i : Nat} {f : Field} (hf : fs[i]? = some f) {k : IntKind} {z : Int} (hd : ds[i]? = some (.lit (.int k z))) (hk : P.underlying f.type = some (.int k)) (hc : P.cellsOf f.type = 1) :
    cs[f.offset]? = some (.int k z) := by
  obtain ⟨n, q, h1⟩ := fld_at ht h hf hd
  rw [hc] at h1
  obtain ⟨z', e1, e2, _⟩ := DataW.trod_int hk h1
  simp only [Prod.mk.injEq, DataW.lit.injEq, Lit.int.injEq, true_and] at e2
  obtain ⟨rfl, _⟩ := e2
  exact one_at e1
theorem fld_str {fs : Array Field} {t : TypeId} {fuel : Nat} {cs : List Value} {ds : List (DataW H)} {p : List MemPlace} (ht : P.underlying t = some (.struct fs)) (h : DataW.trod enc P w base sp held fuel t cs = some (.agg ds, p)) {i : Nat} {f : Field} (hf : fs[i]? = some f) {l : List UInt8} (hd : ds[i]? = some (.lit (.string l))) (hk : P.underlying f.type = some .string) (hc : P.cellsOf f.type = 1) :
    ∃ s : ByteArray, cs[f.offset]? = some (.string s) ∧ s.data.toList = l := by
  obtain ⟨n, q, h1⟩ := fld_at ht h hf hd
  rw [hc] at h1
  obtain ⟨s, e1, e2, _⟩ := DataW.trod_string hk h1
  simp only [Prod.mk.injEq, DataW.lit.injEq, Lit.string.injEq] at e2
  exact ⟨s, one_at e1, e2.1.symm⟩
theorem trod_float {t : TypeId} {k : FloatKind} {fuel : Nat} {v : Value} {x : DataW H × List MemPlace} (ht : P.underlying t = some (.float k)) (h : DataW.trod enc P w base sp held fuel t [v] = some x) : ∃ b, v = .float k b := by
  cases fuel with
  | zero => simp [DataW.trod] at h
  | succ n =>
    unfold DataW.trod at h
    rw [ht] at h
    split at h <;> simp_all
/-- A slice without spare whose elements are two cells each. -/
theorem open_row2 {t e : TypeId} {fuel : Nat} {cs : List Value} {ds : List (DataW H)} {p : List MemPlace} (ht : P.underlying t = some (.slice e)) (hc : P.cellsOf e = 2)
    (h : DataW.trod enc P w base sp held fuel t cs = some (.slice ds [], p)) :
    ∃ a cap, cs = [.slice (some a) ds.length cap] ∧ ds.length ≤ cap ∧ ∀ i d, ds[i]? = some d → ∃ c n q, (∀ j, j < 2 → w.cell? ((a.add (i * 2)).add j) = c[j]?) ∧ DataW.trod enc P w base sp held n e c = some (d, q) := by
  rcases DataW.trod_slice ht h with ⟨_, hx⟩ | ⟨a, len, cap, elems, rest, n, _, hcs, hx, _, hl, _, hlen, hel, _⟩
  · simp at hx
  · simp only [Prod.mk.injEq, DataW.slice.injEq] at hx
    obtain ⟨⟨rfl, _⟩, _⟩ := hx
    have el : (elems.map (·.1)).length = len := by simpa using hlen
    refine ⟨a, cap, by rw [el]; exact hcs, by rw [el]; exact hl, fun i d hd => ?_⟩
    have hi : i < len := by rw [← el]; exact (List.getElem?_eq_some_iff.1 hd).1
    have hE := hel i hi
    rw [hc] at hE
    rw [List.getElem?_map] at hd
    obtain ⟨b, hb, rfl⟩ := Option.map_eq_some_iff.1 hd
    rw [hb] at hE
    obtain ⟨c, hcc, hte⟩ := Option.bind_eq_some_iff.1 hE
    obtain ⟨_, _, h2⟩ := World.cells?_some hcc
    exact ⟨c, n, b.2, fun j hj => h2 j hj, hte⟩
end
theorem add_at (b o j : Nat) : (⟨b, o, none⟩ : Addr).add j = ⟨b, o + j, none⟩ := by
  unfold Addr.add
  split
  · rename_i h0; simp_all
  · rfl
theorem var_at {W : World} {n : String} {d : DataW Unit} {g : Nat} {t : TypeId} (h : VarReads Tryz.prog W n d) (hg : Tryz.prog.globalNamed n = some g) (ht : (Tryz.prog.globals[g]?).map (·.type) = some t) :
    ∃ (cs : List Value) (fuel : Nat) (p : List MemPlace), (∀ i, W.cell? ⟨g, i, none⟩ = cs[i]?) ∧ DataW.trod (fun _ => ()) Tryz.prog W 0 (fun _ => true) false fuel t cs = some (d, p) := by
  obtain ⟨g', t', cs, fuel, p, hg', ht', hv, hd⟩ := h
  obtain rfl := Option.some.inj (hg.symm.trans hg')
  obtain rfl := Option.some.inj (ht.symm.trans ht')
  exact ⟨cs.toList, fuel, p, fun i => by rw [World.var?_cell hg hv i, Array.getElem?_toList], hd⟩
theorem spot_none {w : World} {a : Addr} {v : Value} (h : w.cell? (a.add 0) = some v) : ∃ b o, a = ⟨b, o, none⟩ := by
  obtain ⟨b, o, s⟩ := a
  obtain rfl : s = none := by simpa [Addr.add] using World.cell?_spot h
  exact ⟨b, o, rfl⟩
end Go.Proofs.YtiebedcldbmlhaaGreatDoor.Fl
namespace Go.Proofs.YtiebedcldbmlhaaGreatDoor.Fl
open Go.RowKit
open Go.Lib (VarReads)
set_option linter.unusedVariables false

def pTab (i : Nat) : Nat × Nat := Go.Pinned.pow10Rows.getD i (0, 0)
theorem pTab_b : ∀ i, (pTab i).1 < 18446744073709551616 ∧ (pTab i).2 < 18446744073709551616 := by
  have h : Go.Pinned.pow10Rows.all (fun x => decide (x.1 < 18446744073709551616) && decide (x.2 < 18446744073709551616)) = true := by decide +kernel
  rw [List.all_eq_true] at h
  intro i
  unfold pTab
  rw [List.getD_eq_getElem?_getD]
  cases hx : Go.Pinned.pow10Rows[i]? with
  | none => decide
  | some x =>
    have := h x (List.mem_of_getElem? hx)
    simpa using this
theorem pow_len : Go.Pinned.pow10Rows.length = 696 := by decide +kernel
theorem pow_tab {W : World} (h : VarReads Tryz.prog W "internal/strconv.pow10Tab" Go.Pinned.pow10Tab) : PTab pTab W := by
  obtain ⟨cs, fuel, p, hc, hd⟩ := var_at h (g := 12) (t := 216) (by kernel_rfl) (by kernel_rfl)
  unfold Go.Pinned.pow10Tab at hd
  obtain ⟨xs, m, rfl, hx, _, _, hall⟩ := DataW.trod_array Tryz.underlying216 hd
  simp only [Prod.mk.injEq, DataW.agg.injEq] at hx
  obtain ⟨hx, _⟩ := hx
  have c2 : Tryz.prog.cellsOf 215 = 2 := by kernel_rfl
  have c1 : Tryz.prog.cellsOf 143 = 1 := by kernel_rfl
  have key : ∀ i, i < 696 → cs[i * 2]? = some (.int .u64 (pTab i).1) ∧ cs[i * 2 + 1]? = some (.int .u64 (pTab i).2) := by
    intro i hi
    have h1 := hall i hi
    rw [c2] at h1
    have hr : Go.Pinned.pow10Rows[i]? = some (pTab i) := by
      unfold pTab
      rw [List.getD_eq_getElem?_getD, List.getElem?_eq_getElem (by rw [pow_len]; exact hi)]
      rfl
    have h2 := congrArg (·[i]?) hx
    simp only [List.getElem?_map, hr, Option.map_some] at h2
    cases hb : xs[i]? with
    | none => rw [hb] at h2; cases h2
    | some b =>
      rw [hb] at h2 h1
      simp only [Option.map_some, Option.some.injEq] at h2
      obtain ⟨b1, b2⟩ := b
      simp only at h2
      subst h2
      have f0 := fld_int Tryz.underlying215 h1 (i := 0) rfl (k := .u64) (z := (pTab i).1) rfl Tryz.underlying143 c1
      have f1 := fld_int Tryz.underlying215 h1 (i := 1) rfl (k := .u64) (z := (pTab i).2) rfl Tryz.underlying143 c1
      simp only [List.getElem?_take, List.getElem?_drop] at f0 f1
      exact ⟨by simpa using f0, by simpa using f1⟩
  exact ⟨fun i hi => by rw [hc, (key i hi).1], fun i hi => by rw [hc, (key i hi).2], pTab_b⟩

theorem info_tab {W : World} (h : VarReads Tryz.prog W "internal/strconv.float32info" Rows.laid_internal_strconv_float32info) :
    W.cell? ⟨4, 0, none⟩ = some (.int .u64 23) ∧ W.cell? ⟨4, 1, none⟩ = some (.int .u64 8) ∧ W.cell? ⟨4, 2, none⟩ = some (.int .i64 (-127)) := by
  obtain ⟨cs, fuel, p, hc, hd⟩ := var_at h (g := 4) (t := 169) (by kernel_rfl) (by kernel_rfl)
  unfold Rows.laid_internal_strconv_float32info at hd
  rw [hc, hc, hc]
  exact ⟨fld_int Tryz.underlying169 hd (i := 0) rfl rfl Tryz.underlying146 (by kernel_rfl), fld_int Tryz.underlying169 hd (i := 1) rfl rfl Tryz.underlying146 (by kernel_rfl), fld_int Tryz.underlying169 hd (i := 2) rfl rfl Tryz.underlying3 (by kernel_rfl)⟩
theorem opt_tab {W : World} (h : VarReads Tryz.prog W "internal/strconv.optimize" Rows.laid_internal_strconv_optimize) : W.cell? ⟨5, 0, none⟩ = some (.bool true) := by
  obtain ⟨cs, fuel, p, hc, hd⟩ := var_at h (g := 5) (t := 4) (by kernel_rfl) (by kernel_rfl)
  unfold Rows.laid_internal_strconv_optimize at hd
  obtain ⟨b, rfl, hx⟩ := DataW.trod_bool Tryz.underlying4 hd
  simp only [Prod.mk.injEq, DataW.lit.injEq, Lit.bool.injEq] at hx
  rw [hc, ← hx.1]
  rfl
theorem powtab_tab {W : World} (h : VarReads Tryz.prog W "internal/strconv.powtab" Rows.laid_internal_strconv_powtab) :
    ∃ b o cap, b < W.heap.size ∧ W.cell? ⟨9, 0, none⟩ = some (.slice (some ⟨b, o, none⟩) 9 cap) ∧ ∀ i, i < 9 → W.cell? ⟨b, o + i, none⟩ = some (.int .i64 (tab i : Nat)) := by
  obtain ⟨cs, fuel, p, hc, hd⟩ := var_at h (g := 9) (t := 206) (by kernel_rfl) (by kernel_rfl)
  unfold Rows.laid_internal_strconv_powtab at hd
  obtain ⟨a, cap, rfl, _, hrow⟩ := open_row Tryz.underlying206 (by kernel_rfl) hd
  have key : ∀ i z, i < 9 → ([1, 3, 6, 9, 13, 16, 19, 23, 26] : List Int)[i]? = some z → W.cell? (a.add i) = some (.int .i64 z) := by
    intro i z hi hz
    obtain ⟨v, n, q, hcell, hv⟩ := hrow i (.lit (.int .i64 z)) (by
      have : ([.lit (.int .i64 1), .lit (.int .i64 3), .lit (.int .i64 6), .lit (.int .i64 9), .lit (.int .i64 13), .lit (.int .i64 16), .lit (.int .i64 19), .lit (.int .i64 23), .lit (.int .i64 26)] : List (DataW Unit)) = ([1, 3, 6, 9, 13, 16, 19, 23, 26] : List Int).map (fun z => .lit (.int .i64 z)) := rfl
      rw [this, List.getElem?_map, hz]
      rfl)
    obtain ⟨z', e1, e2, _⟩ := DataW.trod_int Tryz.underlying3 hv
    simp only [Prod.mk.injEq, DataW.lit.injEq, Lit.int.injEq, true_and] at e2
    simp only [List.cons.injEq, and_true] at e1
    rw [hcell, e1, e2.1]
  obtain ⟨b, o, rfl⟩ := spot_none (key 0 1 (by decide) rfl)
  have k0 := key 0 1 (by decide) rfl
  rw [add_at] at k0
  refine ⟨b, o, cap, World.block_lt_of_cell? W _ k0, by rw [hc]; rfl, fun i hi => ?_⟩
  have hz : ([1, 3, 6, 9, 13, 16, 19, 23, 26] : List Int)[i]? = some ((tab i : Nat) : Int) := by
    rcases (show i = 0 ∨ i = 1 ∨ i = 2 ∨ i = 3 ∨ i = 4 ∨ i = 5 ∨ i = 6 ∨ i = 7 ∨ i = 8 by omega) with rfl | rfl | rfl | rfl | rfl | rfl | rfl | rfl | rfl <;> decide
  have := key i _ hi hz
  rwa [add_at] at this
theorem f32_tab {W : World} (h : VarReads Tryz.prog W "internal/strconv.float32pow10" Rows.laid_internal_strconv_float32pow10) : 
    ∃ b o cap, b < W.heap.size ∧ W.cell? ⟨8, 0, none⟩ = some (.slice (some ⟨b, o, none⟩) 11 cap) ∧ ∀ i, i < 11 → ∃ v, W.cell? ⟨b, o + i, none⟩ = some (.float .f32 v) := by
  obtain ⟨cs, fuel, p, hc, hd⟩ := var_at h (g := 8) (t := 193) (by kernel_rfl) (by kernel_rfl)
  unfold Rows.laid_internal_strconv_float32pow10 at hd
  obtain ⟨a, cap, rfl, _, hrow⟩ := open_row Tryz.underlying193 (by kernel_rfl) hd
  have key : ∀ i, i < 11 → ∃ v, W.cell? (a.add i) = some (.float .f32 v) := by
    intro i hi
    obtain ⟨v, n, q, hcell, hv⟩ := hrow i _ (List.getElem?_eq_getElem (by exact hi))
    obtain ⟨b, rfl⟩ := trod_float Tryz.underlying150 hv
    exact ⟨b, hcell⟩
  obtain ⟨v0, h0⟩ := key 0 (by decide)
  obtain ⟨b, o, rfl⟩ := spot_none h0
  rw [add_at] at h0
  refine ⟨b, o, cap, World.block_lt_of_cell? W _ h0, by rw [hc]; rfl, fun i hi => ?_⟩
  obtain ⟨v, hv⟩ := key i hi
  rw [add_at] at hv
  exact ⟨v, hv⟩
end Go.Proofs.YtiebedcldbmlhaaGreatDoor.Fl
namespace Go.Proofs.YtiebedcldbmlhaaGreatDoor.Fl
open Go.RowKit
open Go.Lib (VarReads)
set_option linter.unusedVariables false

def cheatRow (k : Nat) : Nat × List UInt8 := Go.Pinned.cheatRows.getD k (0, [])
def cheatOk (k : Nat) : Bool :=
  decide (1 ≤ (cheatRow k).1) && decide (10 ^ ((cheatRow k).1 - 1) ≤ 2 ^ k) && decide (2 ^ k < 10 ^ (cheatRow k).1) && decide ((cheatRow k).2.length + (cheatRow k).1 = k + 1) &&
  (List.range (cheatRow k).2.length).all (fun i => decide (((cheatRow k).2.getD i 0).toNat = 48 + dgt (5 ^ k) ((cheatRow k).2.length - 1 - i)))
theorem cheats_ok : (List.range 60).all (fun k => cheatOk (k + 1)) = true := by decide +kernel
theorem cheat_len : Go.Pinned.cheatRows.length = 61 := by decide +kernel
theorem cheat_tab {W : World} (h : VarReads Tryz.prog W "internal/strconv.leftcheats" Go.Pinned.leftcheats) : (∃ b, b < W.heap.size ∧ Cheats W b) ∧ 13 < W.heap.size := by
  obtain ⟨cs, fuel, p, hc, hd⟩ := var_at h (g := 13) (t := 224) (by kernel_rfl) (by kernel_rfl)
  unfold Go.Pinned.leftcheats at hd
  obtain ⟨a, cap, rfl, _, hrow⟩ := open_row2 Tryz.underlying224 (by kernel_rfl) hd
  rw [List.length_map, cheat_len] at hc
  have c1 : Tryz.prog.cellsOf 3 = 1 := by kernel_rfl
  have c9 : Tryz.prog.cellsOf 9 = 1 := by kernel_rfl
  have key : ∀ i, i < 61 → W.cell? ((a.add (i * 2)).add 0) = some (.int .i64 (cheatRow i).1) ∧ ∃ s : ByteArray, W.cell? ((a.add (i * 2)).add 1) = some (.string s) ∧ s.data.toList = (cheatRow i).2 := by
    intro i hi
    have hr : Go.Pinned.cheatRows[i]? = some (cheatRow i) := by
      unfold cheatRow
      rw [List.getD_eq_getElem?_getD, List.getElem?_eq_getElem (by rw [cheat_len]; exact hi)]
      rfl
    obtain ⟨c, n, q, hcell, ht⟩ := hrow i (.agg [.lit (.int .i64 (cheatRow i).1), .lit (.string (cheatRow i).2)]) (by rw [List.getElem?_map, hr]; rfl)
    have f0 := fld_int Tryz.underlying223 ht (i := 0) rfl (k := .i64) (z := (cheatRow i).1) rfl Tryz.underlying3 c1
    obtain ⟨s, f1, hs⟩ := fld_str Tryz.underlying223 ht (i := 1) rfl (l := (cheatRow i).2) rfl Tryz.underlying9 c9
    exact ⟨(hcell 0 (by decide)).trans f0, s, (hcell 1 (by decide)).trans f1, hs⟩
  have k0 := (key 0 (by decide)).1
  rw [Nat.zero_mul] at k0
  have e0 : (a.add 0).add 0 = a.add 0 := by simp [Addr.add]
  rw [e0] at k0
  obtain ⟨b, o, rfl⟩ := spot_none k0
  rw [add_at] at k0
  have hg := hc 0
  refine ⟨⟨b, World.block_lt_of_cell? W _ k0, o, cap, fun k hk1 hk60 => ?_⟩, World.block_lt_of_cell? W _ (hg.trans rfl)⟩
  obtain ⟨q0, s, q1, hs⟩ := key k (by omega)
  rw [add_at, add_at] at q0 q1
  have hok : cheatOk k = true := by
    have := List.all_eq_true.1 cheats_ok (k - 1) (List.mem_range.2 (by omega))
    rwa [show k - 1 + 1 = k by omega] at this
  unfold cheatOk at hok
  simp only [Bool.and_eq_true, decide_eq_true_eq, List.all_eq_true, List.mem_range] at hok
  obtain ⟨⟨⟨⟨h1, h2⟩, h3⟩, h4⟩, h5⟩ := hok
  have hsz : s.size = (cheatRow k).2.length := by rw [← hs]; rfl
  refine ⟨(cheatRow k).1, (cheatRow k).2.length, s, ⟨hg.trans rfl, q0, q1, hk1, hk60, h1, h2, h3, h4, hsz, fun i hi => ?_⟩⟩
  have hx := h5 i (by omega)
  rw [← hx, ← hs, List.getD_eq_getElem?_getD, List.getElem?_eq_getElem (show i < s.data.toList.length from hi)]
  rfl
/-- What the rows lay of the float reading's tables. -/
structure Laid (W : World) : Prop where
  info : VarReads Tryz.prog W "internal/strconv.float32info" Rows.laid_internal_strconv_float32info
  opt : VarReads Tryz.prog W "internal/strconv.optimize" Rows.laid_internal_strconv_optimize
  pow : VarReads Tryz.prog W "internal/strconv.powtab" Rows.laid_internal_strconv_powtab
  f32 : VarReads Tryz.prog W "internal/strconv.float32pow10" Rows.laid_internal_strconv_float32pow10
  cheats : VarReads Tryz.prog W "internal/strconv.leftcheats" Go.Pinned.leftcheats
  p10 : VarReads Tryz.prog W "internal/strconv.pow10Tab" Go.Pinned.pow10Tab
theorem aenv_of {W : World} (h : Laid W) : AEnv pTab W W.heap.size := by
  obtain ⟨i0, i1, i2⟩ := info_tab h.info
  have hp := powtab_tab h.pow
  obtain ⟨hc, hcg⟩ := cheat_tab h.cheats
  have ht := pow_tab h.p10
  have hf := f32_tab h.f32
  have ho := opt_tab h.opt
  have lt : ∀ {a : Addr} {v : Value}, W.cell? a = some v → a.block < W.heap.size := fun h => World.block_lt_of_cell? W _ h
  exact ⟨⟨i0, i1, i2, hp, hc, lt i0, by obtain ⟨_, _, _, _, hx, _⟩ := hp; exact lt hx, hcg⟩, ht, ⟨hf, by obtain ⟨_, _, _, _, hx, _⟩ := hf; exact lt hx⟩, ho, lt (ht.hi 0 (by decide)), lt ho, Nat.le_refl _⟩
end Go.Proofs.YtiebedcldbmlhaaGreatDoor.Fl
