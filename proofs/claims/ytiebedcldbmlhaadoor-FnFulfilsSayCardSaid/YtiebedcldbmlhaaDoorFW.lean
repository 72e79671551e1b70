/-
  The tables that the library's float reading leans on, out of the rows' list of package-level variables. Conditions: the variables read as the rows' text lays them.
-/
import Derived.Test.YtiebedcldbmlhaaDoorFV
import Derived.Test.YtiebedcldbmlhaaDoorRows
import Derived.ProofKit
import Derived.OpenShut
import Derived.LaidMore
import Derived.Lib.LaidRTab
import Derived.KernelRfl
namespace Go.Proofs.YtiebedcldbmlhaaDoor.Fl
open Go.RowKit
open Go.Lib (VarReads)
set_option linter.unusedVariables false

section
variable {H : Type} {enc : TypeId × Value → H} {P : Program} {w : World} {base : Nat} {sp : Nat → Bool} {held : Bool}
theorem fld_at {fs : Array Field} {t : TypeId} {fuel : Nat} {cs : List Value} {ds : List (DataW H)} {p : List MemPlace} (ht : P.underlying t = some (.struct fs)) (h : DataW.trod enc P w base sp held fuel t cs = some (.agg ds, p)) {i : Nat} {f : Field} (hf : fs[i]? = some f) {d : DataW H} (hd : ds[i]? = some d) :
    ∃ n q, DataW.trod enc P w base sp held n f.type ((cs.drop f.offset).take (P.cellsOf f.type)) = some (d, q) := by
  obtain ⟨xs, n, rfl, hx, _, _, hall⟩ := DataW.trod_struct ht h
  have h1 := hall i f hf
  simp only [Prod.mk.injEq, DataW.agg.injEq] at hx
  obtain ⟨rfl, _⟩ := hx
  rw [List.getElem?_map] at hd
  obtain ⟨b, hb, rfl⟩ := Option.map_eq_some_iff.1 hd
  rw [hb] at h1
  exact ⟨n, b.2, h1⟩
theorem one_at {cs : List Value} {off : Nat} {v : Value} (h : (cs.drop off).take 1 = [v]) : cs[off]? = some v := by
  have := congrArg (·[0]?) h
  simpa [List.getElem?_take, List.getElem?_drop] using this
theorem fld_int {fs : Array Field} {t : TypeId} {fuel : Nat} {cs : List Value} {ds : List (DataW H)} {p : List MemPlace} (ht : P.underlying t = some (.struct fs)) (h : DataW.trod enc P w base sp held fuel t cs = some (.agg ds, p)) {i : Nat} {f : Field} (hf : fs[i]? = some f) {k : IntKind} {z : Int} (hd : ds[i]? = some (.lit (.int k z))) (hk : P.underlying f.type = some (.int k)) (hc : P.cellsOf f.type = 1) :
    cs[f.offset]? = some (.int k z) := by
  obtain ⟨n, q, h1⟩ := fld_at ht h hf hd
  rw [hc] at h1
  obtain ⟨z', e1, e2, _⟩ := DataW.trod_int hk h1
  simp only [Prod.mk.injEq, DataW.lit.injEq, Lit.int.injEq, true_and] at e2
  obtain ⟨rfl, _⟩ := e2
  exact one_at e1
theorem fld_str {fs : Array Field} {t : TypeId} {fuel : Nat} {cs : List Value} {ds : List (DataW H)} {p : List MemPlace} (ht : P.underlying t = some (.struct fs)) (h : DataW.trod enc P w base sp held fuel t cs = some (.agg ds, p)) {i : Nat} {f : Field} (hf : fs[i]? = some f) {l : List UInt8} (hd : ds[i]? = some (.lit (.string l))) (hk : P.underlying f.type = some .string) (hc : P.cellsOf f.type = 1) :
    ∃ s : ByteArray, cs[f.offset]? = some (.string s) ∧ s.data.toList = l := by
  obtain ⟨n, q, h1⟩ := fld_at ht h hf hd
  rw [hc] at h1
  obtain ⟨s, e1, e2, _⟩ := DataW.trod_string hk h1
  simp only [Prod.mk.injEq, DataW.lit.injEq, Lit.string.injEq] at e2
  exact ⟨s, one_at e1, e2.1.symm⟩
theorem trod_float {t : TypeId} {k : FloatKind} {fuel : Nat} {v : Value} {x : DataW H × List MemPlace} (ht : P.underlying t = some (.float k)) (h : DataW.trod enc P w base sp held fuel t [v] = some x) : ∃ b, v = .float k b := by
  cases fuel with
  | zero => simp [DataW.trod] at h
  | succ n =>
    unfold DataW.trod at h
    rw [ht] at h
    split at h <;> simp_all
/-- A slice without spare whose elements are two cells each. -/
theorem open_row2 {t e : TypeId} {fuel : Nat} {cs : List Value} {ds : List (DataW H)} {p : List MemPlace} (ht : P.underlying t = some (.slice e)) (hc : P.cellsOf e = 2)
    (h : DataW.trod enc P w base sp held fuel t cs = some (.slice ds [], p)) :
    ∃ a cap, cs = [.slice (some a) ds.length cap] ∧ ds.length ≤ cap ∧ ∀ i d, ds[i]? = some d → ∃ c n q, (∀ j, j < 2 → w.cell? ((a.add (i * 2)).add j) = c[j]?) ∧ DataW.trod enc P w base sp held n e c = some (d, q) := by
  rcases DataW.trod_slice ht h with ⟨_, hx⟩ | ⟨a, len, cap, elems, rest, n, _, hcs, hx, _, hl, _, hlen, hel, _⟩
  · simp at hx
  · simp only [Prod.mk.injEq, DataW.slice.injEq] at hx
    obtain ⟨⟨rfl, _⟩, _⟩ := hx
    have el : (elems.map (·.1)).length = len := by simpa using hlen
    refine ⟨a, cap, by rw [el]; exact hcs, by rw [el]; exact hl, fun i d hd => ?_⟩
    have hi : i < len := by rw [← el]; exact (List.getElem?_eq_some_iff.1 hd).1
    have hE := hel i hi
    rw [hc] at hE
    rw [List.getElem?_map] at hd
    obtain ⟨b, hb, rfl⟩ := Option.map_eq_some_iff.1 hd
    rw [hb] at hE
    obtain ⟨c, hcc, hte⟩ := Option.bind_eq_some_iff.1 hE
    obtain ⟨_, _, h2⟩ := World.cells?_some hcc
    exact ⟨c, n, b.2, fun j hj => h2 j hj, hte⟩
end
theorem add_at (b o j : Nat) : (⟨b, o, none⟩ : Addr).add j = ⟨b, o + j, none⟩ := by
  unfold Addr.add
  split
  · rename_i h0; simp_all
  · rfl
theorem var_at {W : World} {n : String} {d : DataW Unit} {g : Nat} {t : TypeId} (h : VarReads Tryd.prog W n d) (hg : Tryd.prog.globalNamed n = some g) (ht : (Tryd.prog.globals[g]?).map (·.type) = some t) :
    ∃ (cs : List Value) (fuel : Nat) (p : List MemPlace), (∀ i, W.cell? ⟨g, i, none⟩ = cs[i]?) ∧ DataW.trod (fun _ => ()) Tryd.prog W 0 (fun _ => true) false fuel t cs = some (d, p) := by
  obtain ⟨g', t', cs, fuel, p, hg', ht', hv, hd⟩ := h
  obtain rfl := Option.some.inj (hg.symm.trans hg')
  obtain rfl := Option.some.inj (ht.symm.trans ht')
  exact ⟨cs.toList, fuel, p, fun i => by rw [World.var?_cell hg hv i, Array.getElem?_toList], hd⟩
theorem spot_none {w : World} {a : Addr} {v : Value} (h : w.cell? (a.add 0) = some v) : ∃ b o, a = ⟨b, o, none⟩ := by
  obtain ⟨b, o, s⟩ := a
  obtain rfl : s = none := by simpa [Addr.add] using World.cell?_spot h
  exact ⟨b, o, rfl⟩
end Go.Proofs.YtiebedcldbmlhaaDoor.Fl
