/-
  A new decimal's cells; conversions between floats. Conditions: none.
-/
import Derived.Test.YtiebedcldbmlhaaDoorFN
namespace Go.Proofs.YtiebedcldbmlhaaDoor.Fl
open Go.RowKit
set_option linter.unusedVariables false

noncomputable def zdec : Value := ((Tryd.prog.info? 120).bind (·.zero)).getD undef
noncomputable def zcs : Array Value := match zdec with
  | .agg cs => cs
  | _ => #[]
theorem zero_run (w : World) : (zeroValue 120).run Tryd.prog w = .ok (.agg zcs) w := by kernel_rfl
theorem zdec_list : zcs.toList = List.replicate 800 (.int .u8 0) ++ [.int .i64 0, .int .i64 0, .bool false, .bool false] := by kernel_rfl
theorem zdec_at (i : Nat) : zcs[i]? = (List.replicate 800 (Value.int .u8 0) ++ [.int .i64 0, .int .i64 0, .bool false, .bool false])[i]? := by
  rw [← zdec_list, Array.getElem?_toList]
theorem rep_lt {α : Type} (n : Nat) (a : α) (l : List α) (i : Nat) (h : i < n) : (List.replicate n a ++ l)[i]? = some a := by
  rw [List.getElem?_append_left (by rw [List.length_replicate]; exact h), List.getElem?_replicate, if_pos h]
theorem rep_ge {α : Type} (n : Nat) (a : α) (l : List α) (j : Nat) : (List.replicate n a ++ l)[n + j]? = l[j]? := by
  rw [List.getElem?_append_right (by rw [List.length_replicate]; omega), List.length_replicate, Nat.add_sub_cancel_left]
theorem rep_len {α : Type} (n : Nat) (a : α) (l : List α) : (List.replicate n a ++ l).length = n + l.length := by
  rw [List.length_append, List.length_replicate]
theorem zdec_size : zcs.size = 804 := by
  have h := congrArg List.length zdec_list
  rw [rep_len, Array.length_toList] at h
  exact h
theorem zdec_raw : Raw zcs :=
  ⟨zdec_size, fun i hi => ⟨0, by decide, (zdec_at i).trans (rep_lt 800 _ _ i hi)⟩, ⟨false, (zdec_at 802).trans (rep_ge 800 _ _ 2)⟩, ⟨false, (zdec_at 803).trans (rep_ge 800 _ _ 3)⟩⟩
theorem zdec_nd : zcs[800]? = some (.int .i64 0) := (zdec_at 800).trans (rep_ge 800 _ _ 0)
theorem zdec_dp : zcs[801]? = some (.int .i64 0) := (zdec_at 801).trans (rep_ge 800 _ _ 1)

theorem fconv_run (src dst : TypeId) (s k : FloatKind) (b : Nat) (u : TypeDesc) (hs : Tryd.prog.underlying src = some u) (hd : Tryd.prog.underlying dst = some (.float k)) (w : World) :
    ∃ r q, (convert src dst (.float s b)).run Tryd.prog w = .ok (.float k r) (w.drewN q) := by
  have hc : (convert src dst (.float s b)).run Tryd.prog w = (Conv.floatToFloat s b k).run Tryd.prog w := by
    cases u <;> simp [convert, run_underlying hs, run_underlying hd]
  rw [hc]
  unfold Conv.floatToFloat
  split
  · exact ⟨b, 0, rfl⟩
  · split
    · by_cases hf : (Question.nanConv k b).forced = true
      · exact ⟨0, 0, by simp [hf]; rfl⟩
      · exact ⟨_, 1, by simp [hf]; exact ⟨rfl, rfl⟩⟩
    · exact ⟨_, 0, rfl⟩
    · rename_i sg m e he
      by_cases hI : (k.decode (k.encode (.number sg m e))).isInfinity = true
      · by_cases hf : (Question.floatToFloat b).forced = true
        · exact ⟨0, 0, by simp [hI, hf]; rfl⟩
        · exact ⟨_, 1, by simp [hI, hf]; exact ⟨rfl, rfl⟩⟩
      · exact ⟨_, 0, by simp [hI]; exact ⟨rfl, rfl⟩⟩
end Go.Proofs.YtiebedcldbmlhaaDoor.Fl
