/-
  Joined: Segments, of any pattern: its parts as rows of values, and the names; a panic is told.
  Conditions: each law's own.
-/
import Derived.Test.YtiebedcldbmlhaaGreatDoorK40
import Derived.Laws.OwnMore
namespace Go.Proofs.YtiebedcldbmlhaaGreatDoor
open Go.RowKit
set_option linter.unusedVariables false

theorem info49 : (Tryz.prog.info? 49).map (fun i => (i.zero.map (fun z => z.cells.size), i.size, i.bytes)) = some (some 11, 11, 96) := by kernel_rfl
/-- The recover that has nothing to catch. -/
theorem catch_idle27 (a b c : Addr) (w : World) :
    CallsD Tryz.prog 35 #[.pointer (some a), .pointer (some b), .pointer (some c)] .returning w fun e u' w' => e = .returned (.tuple #[]) ∧ u' = .returning ∧ w' = w := by
  refine callsD_of_wpS Tryz.func35 rfl fun c₀ cs hu => ?_
  apply wpS_seq
  apply wpS_region
  simp [wpOpsS, go_sem, recoverD, hu, Tryz.ntmps35, Exit.thenS]
  refine wpS_cond (t := false) (by simp [Act.eval, Array.replicate]) ?_
  simp only [Bool.false_eq_true, if_false]
  refine wpS_of_wp (wp_skip ?_)
  cases c₀
  simp_all [bodyPostS, results, Tryz.results35]
/-- A row's cells, one by one. -/
theorem own_cellV {w : World} {base : Nat} {e : TypeId} {v : Value} {n : Nat} {M : List Seg} {zs : List Value} (h : w.ownsRow base e 11 v n (zrowV M zs)) (hn : 0 < n) : ∃ g cap, v = .slice (some ⟨g, 0, none⟩) n cap ∧ base ≤ g ∧ g < w.heap.size ∧
    ∀ (i : Nat) (x : Seg) (z : Value), M[i]? = some x → zs[i]? = some z → ∀ j u, (zcellsV x z)[j]? = some u → w.cell? ⟨g, i * 11 + j, none⟩ = some u := by
  have hc := fun g hg => h.cells (g := g) hg
  obtain ⟨_, ⟨_, h0⟩ | ⟨g, cap, cur, rfl, hb, hh, _⟩⟩ := h
  · omega
  · refine ⟨g, cap, rfl, hb, (Array.getElem?_eq_some_iff.1 hh).1, fun i x z hx hz j u hu => ?_⟩
    have := hc g rfl _ u (zrowV_at M zs i x z hx hz j u hu)
    rw [add_cell, Nat.zero_add] at this
    exact this
theorem own_cell2 {w : World} {base : Nat} {e : TypeId} {v : Value} {n : Nat} {l : List Con} {ds : List Value} (h : w.ownsRow base e 2 v n (crow l ds)) (hn : 0 < n) : ∃ g cap, v = .slice (some ⟨g, 0, none⟩) n cap ∧ g < w.heap.size ∧
    ∀ (i : Nat) (c : Con) (d : Value), l[i]? = some c → ds[i]? = some d → w.cell? ⟨g, i * 2, none⟩ = some (.int .i16 c.id) ∧ w.cell? ⟨g, i * 2 + 1, none⟩ = some d := by
  have hc := fun g hg => h.cells (g := g) hg
  obtain ⟨_, ⟨_, h0⟩ | ⟨g, cap, cur, rfl, hb, hh, _⟩⟩ := h
  · omega
  · refine ⟨g, cap, rfl, (Array.getElem?_eq_some_iff.1 hh).1, fun i c d hx hz => ?_⟩
    obtain ⟨k1, k2⟩ := crow_at l ds i c d hx hz
    have h1 := hc g rfl _ _ k1
    have h2 := hc g rfl _ _ k2
    rw [add_cell, Nat.zero_add] at h1 h2
    exact ⟨h1, h2⟩
/-- What a loop that makes a row of its own and one variable leaves of the rest. -/
theorem own_grown {w w2 : World} {base g : Nat} {e : TypeId} {sz n : Nat} {v : Value} {xs : List Value} (h : w.ownsRow base e sz v n xs) (hg : w.grownBy w2 (some g)) (hb : g < base) : w2.ownsRow base e sz v n xs :=
  h.kept hg (own_ne fun k hk => by cases hk; exact fun e => by have := (h.lt _ e).1; omega)
theorem own_zero {w : World} {base : Nat} {e : TypeId} {sz : Nat} {v : Value} {n : Nat} {xs : List Value} (h : w.ownsRow base e sz v n xs) : ∃ ao cap, v = .slice ao n cap := own_form h

/-- The three results, stored. -/
def stored3 (w2 : World) (a b c : Nat) (x y z : Value) : World := (((w2.setCell ⟨a, 0, none⟩ x).setCell ⟨b, 0, none⟩ y).setCell ⟨c, 0, none⟩ z).drew
theorem stored3_a {w2 : World} {a b c : Nat} {x y z o : Value} {t : TypeId} (h1 : a ≠ b) (h2 : a ≠ c) (q : w2.heap[a]? = some (.cells #[o] t (0, 0))) : (stored3 w2 a b c x y z).heap[a]? = some (.cells #[x] t (0, 0)) := by
  have k1 : (w2.setCell ⟨a, 0, none⟩ x).heap[a]? = some (.cells #[x] t (0, 0)) := obj_set (i := 0) x q
  have k2 := (Below.heap_setCell (w2.setCell ⟨a, 0, none⟩ x) ⟨b, 0, none⟩ y a h1).trans k1
  unfold stored3
  rw [drew_heap, Below.heap_setCell _ ⟨c, 0, none⟩ z a h2]
  exact k2
theorem stored3_b {w2 : World} {a b c : Nat} {x y z o : Value} {t : TypeId} (h1 : a ≠ b) (h3 : b ≠ c) (q : w2.heap[b]? = some (.cells #[o] t (0, 0))) : (stored3 w2 a b c x y z).heap[b]? = some (.cells #[y] t (0, 0)) := by
  have k1 := (Below.heap_setCell w2 ⟨a, 0, none⟩ x b (Ne.symm h1)).trans q
  have k2 : ((w2.setCell ⟨a, 0, none⟩ x).setCell ⟨b, 0, none⟩ y).heap[b]? = some (.cells #[y] t (0, 0)) := obj_set (i := 0) y k1
  unfold stored3
  rw [drew_heap, Below.heap_setCell _ ⟨c, 0, none⟩ z b h3]
  exact k2
theorem stored3_c {w2 : World} {a b c : Nat} {x y z o : Value} {t : TypeId} (h2 : a ≠ c) (h3 : b ≠ c) (q : w2.heap[c]? = some (.cells #[o] t (0, 0))) : (stored3 w2 a b c x y z).heap[c]? = some (.cells #[z] t (0, 0)) := by
  have k1 := (Below.heap_setCell w2 ⟨a, 0, none⟩ x c (Ne.symm h2)).trans q
  have k2 := (Below.heap_setCell (w2.setCell ⟨a, 0, none⟩ x) ⟨b, 0, none⟩ y c (Ne.symm h3)).trans k1
  unfold stored3
  rw [drew_heap]
  exact obj_set (i := 0) z k2
theorem stored3_keep {w2 : World} {a b c : Nat} {x y z : Value} (k : Nat) (h1 : k ≠ a) (h2 : k ≠ b) (h3 : k ≠ c) : (stored3 w2 a b c x y z).heap[k]? = w2.heap[k]? := by
  unfold stored3
  rw [drew_heap, Below.heap_setCell _ ⟨c, 0, none⟩ z k h3, Below.heap_setCell _ ⟨b, 0, none⟩ y k h2, Below.heap_setCell _ ⟨a, 0, none⟩ x k h1]
theorem stored3_below {w w2 : World} {a b c B : Nat} {x y z : Value} (h : Below B w w2) (h1 : B ≤ a) (h2 : B ≤ b) (h3 : B ≤ c) : Below B w (stored3 w2 a b c x y z) := by
  have hh := ((h.setCell (p := ⟨a, 0, none⟩) h1 x).setCell (p := ⟨b, 0, none⟩) h2 y).setCell (p := ⟨c, 0, none⟩) h3 z
  exact ⟨hh.os, hh.tape, hh.output, hh.size, hh.block⟩
theorem grown_step {W wr w5 w6 : World} {g : Nat} {row : Option Nat} (h : W.grownBy wr (some g)) (hb : Below wr.heap.size wr w5) (hg : w5.grownBy w6 row) (hrow : ∀ k, row = some k → W.heap.size ≤ k) (v : Value) : W.grownBy (w6.setCell ⟨g, 0, none⟩ v) (some g) := by
  refine ⟨hg.os.trans (hb.os.trans h.os), hg.tape.trans (hb.tape.trans h.tape), hg.output.trans (hb.output.trans h.output), ?_, fun k hk hne => ?_⟩
  · have h1 := h.size
    have h2 := hb.size
    have h3 := hg.size
    simp; omega
  · have h1 := h.size
    have h2 := hb.size
    rw [Below.heap_setCell w6 ⟨g, 0, none⟩ v k (fun e => hne (by rw [e]))]
    exact (hg.block k (by omega) (fun e => by have := hrow k e.symm; omega)).trans ((hb.block k (by omega)).trans (h.block k hk hne))
theorem own_grown2 {w w2 : World} {base g : Nat} {e : TypeId} {sz n : Nat} {v : Value} {xs : List Value} (h : w.ownsRow base e sz v n xs) (hg : w.grownBy w2 (some g)) (hb : v.ownBlock ≠ some g) : w2.ownsRow base e sz v n xs :=
  h.kept hg (own_ne fun k hk => by cases hk; exact hb)
/-- append of any list to one of the call's own. -/
theorem wp_append_row {P : Program} {w : World} {o : Oper} {a : Act} {K : Act → World → Prop} {Q : Exit → Act → World → Prop} (s x : Operand) (t : TypeId)
    (ho : o.op = .call { callee := .builtin .append, args := #[s, x], argTypes := #[t, t] })
    (base : Nat) (e : TypeId) (i : TypeInfo) (z : Value) (size bytes : Nat) (ht : P.underlying t = some (.slice e)) (hi : P.info? e = some i) (hz : i.zero = some z)
    (hsize : i.size = size) (hby : i.bytes = bytes) (hzs : z.cells.size = size) (hsz : 0 < size)
    (v : Value) (n : Nat) (xs : List Value) (hs : a.eval s = v) (hown : w.ownsRow base e size v n xs)
    (d : Value) (b2 m : Nat) (news : List Value) (hx : a.eval x = d) (hd : w.ownsRow b2 e size d m news) (h1 : ∀ u ∈ news, u.oneCell' = true)
    (h63 : n + m ≤ maxLen) (hbytes : (n + m) * bytes ≤ 140737488355328) (hbase : base ≤ w.heap.size) (k : Nat) (hk : k = n + m)
    (h : ∀ v' w', w'.ownsRow base e size v' k (xs ++ news) → w.grownBy w' v.ownBlock → K (a.put o.dst v') w') : o.wp P a w K Q := by
  subst hk
  have hc := fun g hg => hd.cells (g := g) hg
  have hl := hd.1
  rcases hd.2 with ⟨rfl, rfl⟩ | ⟨g, cap, cur, rfl, _⟩
  · have hn : news = [] := List.eq_nil_of_length_eq_zero (by simpa using hl)
    subst hn
    have hrun := run_append_owned_none (P := P) (w := w) base t o.type e i size ht hi v n xs hown
    unfold Oper.wp execOp
    simp only [ho, resolve, invoke, builtin, Sem.run_bind, Sem.run_pure, Result.andThen_ok, List.map_toArray, List.map_cons, List.map_nil, hs, hx, hrun]
    exact h v w (by rw [Nat.add_zero, List.append_nil]; exact hown) ⟨rfl, rfl, rfl, Nat.le_refl _, fun _ _ _ => rfl⟩
  · exact wp_append_own w s x t ho base e i z size bytes ht hi hz hsize hby hzs hsz v n xs hs hown ⟨g, 0, none⟩ m cap news hx hl (fun j u hu => hc g rfl j u hu) h1 h63 hbytes hbase fun v' w' h2 h3 _ => h v' w' h2 h3
theorem oneCon_dlen {c : Bs} {con : Con} (h : oneCon c = some con) : con.data.length ≤ c.length + 1 := by
  by_cases hb : ((nne c [40]).isSome && (lb c 41).isSome) = true
  · obtain ⟨st, h1⟩ : ∃ st, nne c [40] = some st := by
      cases h1 : nne c [40] with
      | none => rw [h1] at hb; cases hb
      | some st => exact ⟨st, rfl⟩
    obtain ⟨en, h2⟩ : ∃ en, lb c 41 = some en := by
      cases h2 : lb c 41 with
      | none => rw [h2] at hb; simp at hb
      | some en => exact ⟨en, rfl⟩
    rw [oneCon_both h1 h2] at h
    split at h
    · cases h
    · split at h
      · cases h
        exact Nat.zero_le _
      · cases h
        have hm := splitNE_len ((c.drop (st + 1)).take (en - (st + 1))) 44
        rw [List.length_take, List.length_drop] at hm
        show (if _ then _ else _ : List Bs).length ≤ _
        split
        · rw [List.length_map]; omega
        · omega
  · rw [oneCon_other (by simpa using hb)] at h
    cases h
    exact Nat.zero_le _
theorem allCons_dlen (B : Nat) : ∀ (l : List Bs) (cs : List Con), allCons l = some cs → (∀ c ∈ l, c.length ≤ B) → ∀ c ∈ cs, c.data.length ≤ B + 1
  | [], cs, h, _ => by unfold allCons at h; cases h; simp
  | a :: l, cs, h, hl => by
    unfold allCons at h
    cases ha : oneCon a with
    | none => rw [ha] at h; cases h
    | some y =>
      rw [ha] at h
      simp only at h
      cases hr : allCons l with
      | none => rw [hr] at h; cases h
      | some r =>
        rw [hr] at h
        cases h
        intro c hc
        rcases List.mem_cons.1 hc with rfl | hc
        · have := oneCon_dlen ha
          have := hl a (List.mem_cons_self ..)
          omega
        · exact allCons_dlen B l r hr (fun c hc => hl c (List.mem_cons_of_mem _ hc)) c hc
theorem paramPart_dlen {p : Bs} {st pl st' pl' : Nat} {q : Bs} {x : Seg} (h : paramPart p st pl = some (q, x, st', pl')) : ∀ c ∈ x.cons, c.data.length ≤ p.length + 1 := by
  cases hs : stOf p with
  | none =>
    rw [paramPart_plain hs] at h
    have := (plainPart_facts p st pl).2.2.2.1
    have h1 : (plainPart p st pl).2.1 = x := by rw [Option.some.inj h]
    rw [h1] at this
    rw [this]; simp
  | some a =>
    cases he : enOf p with
    | none =>
      have hp : paramPart p st pl = some (plainPart p st pl) := by
        unfold paramPart plainPart partOf
        unfold enOf at he
        simp only [he]
        generalize (if 0 < paramEnd p then nne (p.take (paramEnd p)) [60] else none) = o
        cases o <;> rfl
      rw [hp] at h
      have := (plainPart_facts p st pl).2.2.2.1
      have h1 : (plainPart p st pl).2.1 = x := by rw [Option.some.inj h]
      rw [h1] at this
      rw [this]; simp
    | some z =>
      rw [paramPart_cons hs he] at h
      split at h
      · cases h
      · cases hc : allCons (splitNE ((p.drop (a + 1)).take (z - (a + 1))) 59) with
        | none => rw [hc] at h; cases h
        | some cons =>
          rw [hc] at h
          have h1 : (partOf p st pl (unesc (trimmed (p.take a))) cons).2.1 = x := by
            have h3 : partOf p st pl (unesc (trimmed (p.take a))) cons = (q, x, st', pl') := Option.some.inj h
            rw [h3]
          have h2 : x.cons = cons := by rw [← h1]; rfl
          rw [h2]
          refine allCons_dlen _ _ _ hc fun c hm => ?_
          have := splitNE_mem hm
          rw [List.length_take, List.length_drop] at this
          omega
theorem go_dlen (B : Nat) : ∀ (k : Nat) (p : Bs) (st pl : Nat) (S : List Seg) (N : List Bs) (T : List Seg) (U : List Bs), parseGo k p st pl S N = some (T, U) → p.length ≤ B → (∀ x ∈ S, ∀ c ∈ x.cons, c.data.length ≤ B + 1) → ∀ x ∈ T, ∀ c ∈ x.cons, c.data.length ≤ B + 1
  | 0, p, st, pl, S, N, T, U, h, hl, hS => by unfold parseGo at h; cases h; exact hS
  | k + 1, p, st, pl, S, N, T, U, h, hl, hS => by
    by_cases h0 : p = []
    · subst h0; rw [go_step_end] at h; cases h; exact hS
    · by_cases hp : paramPos p = some 0
      · rcases hpt : paramPart p st pl with _ | ⟨q, x, st', pl'⟩
        · rw [step_none hp hpt h0] at h; cases h
        rw [step_param2 hp hpt h0] at h
        refine go_dlen B k _ _ _ _ _ T U h (by rw [List.length_drop]; omega) (fun y hy => ?_)
        rcases List.mem_append.1 hy with hm | hm
        · exact hS y hm
        · obtain rfl : y = x := by simpa using hm
          intro c hc
          have := paramPart_dlen hpt c hc
          omega
      · rw [go_step_const h0 hp] at h
        refine go_dlen B k _ _ _ _ _ T U h (by rw [List.length_drop]; omega) (fun y hy => ?_)
        rcases List.mem_append.1 hy with hm | hm
        · exact hS y hm
        · obtain rfl : y = (constPart p (paramPos p)).2 := by simpa using hm
          rw [(constPart_facts p (paramPos p)).2.2.2]
          simp
theorem parse_dlen {p : Bs} {M : List Seg} {N : List Bs} (h : parse p = some (M, N)) (hl : p.length ≤ 1000000) : ∀ x ∈ M, ∀ c ∈ x.cons, c.data.length ≤ 1000001 := by
  rw [parse_o] at h
  cases hg : parseGo p.length p 0 0 [] [] with
  | none => rw [hg] at h; cases h
  | some TU =>
    obtain ⟨T, U⟩ := TU
    have hgl := go_dlen 1000000 _ _ _ _ _ _ T U hg hl (by simp)
    rw [hg] at h
    simp only [Option.bind_some] at h
    cases hm : metaFwd (cmpBack (markLast T)).1 with
    | none => rw [hm] at h; cases h
    | some M' =>
      rw [hm] at h
      simp only [Option.bind_some] at h
      split at h
      · cases h
      · cases h
        have h2 := (all_keeps hm).2
        intro x hx
        have h3 : x.cons ∈ M.map (·.cons) := List.mem_map.2 ⟨x, hx, rfl⟩
        rw [h2] at h3
        obtain ⟨y, hy, he⟩ := List.mem_map.1 h3
        rw [← he]
        exact hgl y hy
theorem info40 : (Tryz.prog.info? 40).map (fun i => (i.zero.map (fun z => z.cells.size), i.size, i.bytes)) = some (some 2, 2, 32) := by kernel_rfl
theorem catch_dies27 (a b c : Addr) (dT : TypeId) (dx v1 v2 v3 : Value) (w : World) (h1 : w.cell? a = some v1) (z1 : w.frozen? a = false)
    (h2 : (w.setCell a (.slice none 0 0)).cell? b = some v2) (z2 : (w.setCell a (.slice none 0 0)).frozen? b = false)
    (h3 : ((w.setCell a (.slice none 0 0)).setCell b (.slice none 0 0)).cell? c = some v3) (z3 : ((w.setCell a (.slice none 0 0)).setCell b (.slice none 0 0)).frozen? c = false) :
    CallsD Tryz.prog 35 #[.pointer (some a), .pointer (some b), .pointer (some c)] (.panicking [{ v := .iface dT dx, recovered := false }]) w fun e u' w' =>
      e = .returned (.tuple #[]) ∧ u' = .panicking [{ v := .iface dT dx, recovered := true }] ∧ w' = ((w.setCell a (.slice none 0 0)).setCell b (.slice none 0 0)).setCell c (.bool false) := by
  refine callsD_of_wpS Tryz.func35 rfl fun c₀ cs hu => ?_
  apply wpS_seq
  apply wpS_region
  simp [wpOpsS, go_sem, recoverD, hu, Tryz.ntmps35, Exit.thenS]
  refine wpS_cond (t := true) (by simp [Act.eval, Array.replicate]) ?_
  simp only [if_true]
  apply wpS_region
  simp [wpOpsS, go_sem, h1, z1, h2, z2, h3, z3, bodyPostS, results, Tryz.results35]

/-- What a panic leaves hangs on the results' slots alone. -/
theorem leaves_slots {P : Program} {fn : Func} {R : Ending → World → Prop} {t1 t2 : Array Value} (h : results fn t1 = results fn t2) : ∀ (ds : List Deferred) (u : FrameMode) (w : World), Leaves P fn t1 R ds u w → Leaves P fn t2 R ds u w
  | [], .returning, w, hh => by
    obtain ⟨v, h1, h2⟩ := hh
    exact ⟨v, h ▸ h1, h2⟩
  | [], .panicking c, w, hh => hh
  | [], .run, w, hh => hh
  | d :: ds, u, w, hh => by
    obtain ⟨h0, fv, cap, f, args, h1, h2, h3⟩ := hh
    refine ⟨h0, fv, cap, f, args, h1, h2, h3.mono ?_⟩
    intro e u' w' h4
    cases e with
    | returned v => exact leaves_slots h ds _ w' h4
    | panicked c => exact leaves_slots h ds _ w' h4
    | outgrown => exact h4
theorem results27_put (t : Array Value) (d : Nat) (x : Value) (hd : 4 < d) : results Tryz.f27 (t.setIfInBounds d x) = results Tryz.f27 t := by
  unfold results
  rw [Tryz.results27]
  have e2 : (t.setIfInBounds d x).getD 2 undef = t.getD 2 undef := by simp only [Array.getD_eq_getD_getElem?, Array.getElem?_setIfInBounds, if_neg (show ¬ d = 2 by omega)]
  have e3 : (t.setIfInBounds d x).getD 3 undef = t.getD 3 undef := by simp only [Array.getD_eq_getD_getElem?, Array.getElem?_setIfInBounds, if_neg (show ¬ d = 3 by omega)]
  have e4 : (t.setIfInBounds d x).getD 4 undef = t.getD 4 undef := by simp only [Array.getD_eq_getD_getElem?, Array.getElem?_setIfInBounds, if_neg (show ¬ d = 4 by omega)]
  simp only [List.mapM_toArray, List.mapM_cons, List.mapM_nil, e2, e3, e4]
theorem panic27 {R : Ending → World → Prop} {d : Nat} {c} {a : Act} {x : Value} {w : World} (hd : 4 < d) (h : bodyPostD Tryz.prog Tryz.f27 R (.panic c) (a.put (some d) x) w) : bodyPostD Tryz.prog Tryz.f27 R (.panic c) a w :=
  leaves_slots (results27_put a.tmps d x hd) _ _ _ h

/-- What Segments leaves. -/
def SegD (w : World) (o : Option (List Seg × List Bs)) (e : Ending) (w' : World) : Prop :=
  Below w.heap.size w w' ∧ match o with
  | none => e = .returned (.tuple #[.slice none 0 0, .slice none 0 0, .bool false])
  | some (M, N) => ∃ v pv zs, e = .returned (.tuple #[v, pv, .bool true]) ∧ zs.length = M.length ∧ (∀ z ∈ zs, ∃ a n c, z = Value.slice a n c) ∧ w'.ownsRow w.heap.size 49 11 v M.length (zrowV M zs) ∧ w'.ownsRow w.heap.size 9 1 pv N.length (svals N)

set_option maxHeartbeats 4000000 in
set_option maxRecDepth 100000 in
theorem segments_all (s : ByteArray) (w : World) (hE : EnvZ w) (hs : s.size ≤ 1000000) :
    Calls Tryz.prog 27 #[.string s] w (SegD w (parse s.data.toList)) := by
  have hmf : ∀ (fn : Fn) (first cap : Array Value) (w : World), (Instr.makeFunc fn first cap).run Tryz.prog w = .ok (.func fn first cap) w := fun _ _ _ _ => rfl
  obtain ⟨i49, z49, hi49, hz49, hzs49, hsz49, hby49⟩ := infos_parts info49
  obtain ⟨i40, z40, hi40, hz40, hzs40, hsz40, hby40⟩ := infos_parts info40
  obtain ⟨i9, hi9, hz90, hz91, hz92⟩ := info_parts info9
  obtain ⟨W1, hW1⟩ : ∃ W1, W1 = (((w.alloc (Obj.cells #[Value.slice none 0 0] 44)).alloc (Obj.cells #[Value.slice none 0 0] 22)).alloc (Obj.cells #[Value.bool false] 4)) := ⟨_, rfl⟩
  have hbW : Below w.heap.size w W1 := by rw [hW1]; exact (((Below.refl _ _).alloc (Nat.le_refl _) _).alloc (by simp) _).alloc (by simp; omega) _
  have hsW : W1.heap.size = w.heap.size + 1 + 1 + 1 := by rw [hW1]; simp
  have s1 : (w.alloc (Obj.cells #[Value.slice none 0 0] 44)).heap.size = w.heap.size + 1 := by simp
  have s2 : ((w.alloc (Obj.cells #[Value.slice none 0 0] 44)).alloc (Obj.cells #[Value.slice none 0 0] 22)).heap.size = w.heap.size + 1 + 1 := by simp
  have k0 : W1.heap[w.heap.size]? = some (.cells #[.slice none 0 0] 44 (0, 0)) := by
    rw [hW1, Below.heap_alloc _ _ _ (by rw [s2]; omega), Below.heap_alloc _ _ _ (by rw [s1]; omega), heap_alloc_new]
  have k1 : W1.heap[w.heap.size + 1]? = some (.cells #[.slice none 0 0] 22 (0, 0)) := by
    rw [hW1, Below.heap_alloc _ _ _ (by rw [s2]; omega), ← s1, heap_alloc_new]
  have k2 : W1.heap[w.heap.size + 1 + 1]? = some (.cells #[.bool false] 4 (0, 0)) := by
    rw [hW1, ← s2, heap_alloc_new]
  clear s1 s2
  have hcall := zzparse_all s W1 (hE.below hbW) hs
  rcases hM : parse s.data.toList with _ | ⟨M, N⟩
  · rw [hM] at hcall
    have HCALL := Lib.hid hcall
    have HBW := Lib.hid hbW
    have HSW := Lib.hid hsW
    have HW1 := Lib.hid hW1
    clear hcall hbW hsW hW1 hM hE
    go_enter_defers Tryz.func27, Tryz.ntmps27
    go_wp2_with fail
    rw [← HW1.out]
    refine HCALL.out.mono ?_
    rintro e w2 ⟨hb2, dT, dx, rfl⟩
    have q0 := (hb2.block _ (by have := HSW.out; omega)).trans k0
    have q1 := (hb2.block _ (by have := HSW.out; omega)).trans k1
    have q2 := (hb2.block _ (by have := HSW.out; omega)).trans k2
    have n1 : w.heap.size ≠ w.heap.size + 1 := by omega
    have n2 : w.heap.size ≠ w.heap.size + 1 + 1 := by omega
    have n3 : w.heap.size + 1 ≠ w.heap.size + 1 + 1 := by omega
    have HB2 := Lib.hid (HBW.out.trans (hb2.mono HBW.out.size))
    have r1 := (Below.heap_setCell w2 ⟨w.heap.size, 0, none⟩ (.slice none 0 0) (w.heap.size + 1) (Ne.symm n1)).trans q1
    have r2 := (Below.heap_setCell (w2.setCell ⟨w.heap.size, 0, none⟩ (.slice none 0 0)) ⟨w.heap.size + 1, 0, none⟩ (.slice none 0 0) (w.heap.size + 1 + 1) (Ne.symm n3)).trans ((Below.heap_setCell w2 ⟨w.heap.size, 0, none⟩ (.slice none 0 0) (w.heap.size + 1 + 1) (Ne.symm n2)).trans q2)
    have HCD := Lib.hid (catch_dies27 ⟨w.heap.size, 0, none⟩ ⟨w.heap.size + 1, 0, none⟩ ⟨w.heap.size + 1 + 1, 0, none⟩ dT dx _ _ _ w2 (obj_cell (i := 0) q0 rfl) (obj_free (i := 0) q0) (obj_cell (i := 0) r1 rfl) (obj_free (i := 0) r1) (obj_cell (i := 0) r2 rfl) (obj_free (i := 0) r2))
    obtain ⟨X, hX⟩ : ∃ X, X = ((w2.setCell ⟨w.heap.size, 0, none⟩ (.slice none 0 0)).setCell ⟨w.heap.size + 1, 0, none⟩ (.slice none 0 0)).setCell ⟨w.heap.size + 1 + 1, 0, none⟩ (.bool false) := ⟨_, rfl⟩
    have y0 : X.heap[w.heap.size]? = some (.cells #[.slice none 0 0] 44 (0, 0)) := by
      rw [hX]
      exact (Below.heap_setCell _ ⟨w.heap.size + 1 + 1, 0, none⟩ _ _ n2).trans ((Below.heap_setCell _ ⟨w.heap.size + 1, 0, none⟩ _ _ n1).trans (obj_set (i := 0) _ q0))
    have y1 : X.heap[w.heap.size + 1]? = some (.cells #[.slice none 0 0] 22 (0, 0)) := by
      rw [hX]
      exact (Below.heap_setCell _ ⟨w.heap.size + 1 + 1, 0, none⟩ _ _ n3).trans (obj_set (i := 0) _ r1)
    have y2 : X.heap[w.heap.size + 1 + 1]? = some (.cells #[.bool false] 4 (0, 0)) := by
      rw [hX]
      exact obj_set (i := 0) _ r2
    have x0 := obj_cell (i := 0) y0 rfl
    have x1 := obj_cell (i := 0) y1 rfl
    have x2 := obj_cell (i := 0) y2 rfl
    have hbX : Below w.heap.size w X := by
      rw [hX]
      exact ((HB2.out.setCell (p := ⟨w.heap.size, 0, none⟩) (Nat.le_refl _) _).setCell (p := ⟨w.heap.size + 1, 0, none⟩) (Nat.le_succ _) _).setCell (p := ⟨w.heap.size + 1 + 1, 0, none⟩) (by show w.heap.size ≤ w.heap.size + 1 + 1; omega) _
    have HBX := Lib.hid hbX
    rw [← hX] at HCD
    clear hX hbX hb2 q0 q1 q2 r1 r2 k0 k1 k2 y0 y1 y2 n1 n2 n3 HCALL HW1
    go_wp2_with fail
    refine leaves_cons (f := 35) (args := #[.pointer (some ⟨w.heap.size, 0, none⟩), .pointer (some ⟨w.heap.size + 1, 0, none⟩), .pointer (some ⟨w.heap.size + 1 + 1, 0, none⟩)]) (by simp) (by simp [go_sem]) ?_
    refine HCD.out.mono ?_
    rintro e u' X' ⟨rfl, rfl, rfl⟩
    have HR : SegD w none (.returned (.tuple #[.slice none 0 0, .slice none 0 0, .bool false])) X' := ⟨HBX.out, rfl⟩
    obtain ⟨R, hRd⟩ : ∃ R : Ending → World → Prop, R = SegD w none := ⟨_, rfl⟩
    rw [← hRd] at HR ⊢
    clear hRd HBX HB2
    refine ⟨_, ?_, HR⟩
    rw [results_cell3 (p := 2) (u := 3) (q := 4) (a := 44) (b := 22) (c := 4) Tryz.results27]
    simp only [Array.getD, List.size_toArray, List.length_cons, List.length_nil]
    simp [asAddr, Result.andThen, go_sem, x0, x1, x2]
  rw [hM] at hcall
  have hML := (parse_goodD hM (by rw [size_data]; exact hs)).2.2.2
  have HCLEN := Lib.hid (parse_conlen hM (by rw [size_data]; exact hs))
  have HDLEN := Lib.hid (parse_dlen hM (by rw [size_data]; exact hs))
  have HCALL := Lib.hid hcall
  have HBW := Lib.hid hbW
  have HSW := Lib.hid hsW
  have HW1 := Lib.hid hW1
  clear hcall hbW hsW hW1 hM hE
  go_enter_defers Tryz.func27, Tryz.ntmps27
  go_wp2_with fail
  rw [← HW1.out]
  refine HCALL.out.mono ?_
  rintro e w2 ⟨hb2, v, pv, zs, rfl, hzl, hv, hpv, hcr⟩
  obtain ⟨va, vcap, rfl⟩ := own_form hv
  obtain ⟨pa, pcap, rfl⟩ := own_form hpv
  have q0 := (hb2.block _ (by have := HSW.out; omega)).trans k0
  have q1 := (hb2.block _ (by have := HSW.out; omega)).trans k1
  have q2 := (hb2.block _ (by have := HSW.out; omega)).trans k2
  have hsz2 := hb2.size
  have hlt2 : w.heap.size + 1 + 1 < w2.heap.size := by have := HSW.out; omega
  have f1 := obj_free (i := 0) q1
  have c1 := obj_cell (i := 0) q1 rfl
  have HB2 := Lib.hid hb2
  have HV := Lib.hid hv
  have HCR := Lib.hid hcr
  have HZL := Lib.hid hzl
  have HPV := Lib.hid hpv
  clear hcr hzl
  have Q0 := Lib.hid q0
  have Q1 := Lib.hid q1
  have Q2 := Lib.hid q2
  obtain ⟨m, hm⟩ : ∃ m, m = M.length := ⟨_, rfl⟩
  have HM := Lib.hid hm
  rw [← hm] at hML HV ⊢
  clear hb2 hv hpv q0 q1 q2 k0 k1 k2 HCALL hsz2 hm
  go_wp2_with fail
  obtain ⟨W3, hW3⟩ : ∃ W3, W3 = w2.setCell ⟨w.heap.size + 1, 0, none⟩ (.slice pa N.length pcap) := ⟨_, rfl⟩
  rw [← hW3]
  have z3 : W3.heap.size = w2.heap.size := by rw [hW3]; simp
  have q0 : W3.heap[w.heap.size]? = some (.cells #[.slice none 0 0] 44 (0, 0)) := by rw [hW3, Below.heap_setCell _ ⟨w.heap.size + 1, 0, none⟩ _ _ (by simp)]; exact Q0.out
  have q1 : W3.heap[w.heap.size + 1]? = some (.cells #[.slice pa N.length pcap] 22 (0, 0)) := by rw [hW3]; exact obj_set (i := 0) _ Q1.out
  have q2 : W3.heap[w.heap.size + 1 + 1]? = some (.cells #[.bool false] 4 (0, 0)) := by rw [hW3, Below.heap_setCell _ ⟨w.heap.size + 1, 0, none⟩ _ _ (by simp)]; exact Q2.out
  have hv3 : W3.ownsRow W1.heap.size 72 11 (.slice va m vcap) m (zrowV M zs) := own_keep HV.out fun k hk => by rw [hW3]; exact Below.heap_setCell _ ⟨w.heap.size + 1, 0, none⟩ _ _ (by have := (HV.out.lt k hk).1; have := HSW.out; show k ≠ w.heap.size + 1; omega)
  have hp3 : W3.ownsRow W1.heap.size 9 1 (.slice pa N.length pcap) N.length (svals N) := own_keep HPV.out fun k hk => by rw [hW3]; exact Below.heap_setCell _ ⟨w.heap.size + 1, 0, none⟩ _ _ (by have := (HPV.out.lt k hk).1; have := HSW.out; show k ≠ w.heap.size + 1; omega)
  have hb3 : Below w.heap.size w W3 := by rw [hW3]; exact (HBW.out.trans (HB2.out.mono HBW.out.size)).setCell (p := ⟨w.heap.size + 1, 0, none⟩) (by show w.heap.size ≤ w.heap.size + 1; omega) _
  have hl3 : w.heap.size + 1 + 1 < W3.heap.size := by rw [z3]; exact hlt2
  have HV3 := Lib.hid hv3
  have HP3 := Lib.hid hp3
  have HB3 := Lib.hid hb3
  have T0 := Lib.hid q0
  have T1 := Lib.hid q1
  have T2 := Lib.hid q2
  have HL3 := Lib.hid hl3
  have HCR3 := Lib.hid (show ∀ (i : Nat) (x : Seg) (zv : Value), M[i]? = some x → zs[i]? = some zv → CRow W3 W1.heap.size zv x.cons from fun i x zv h1 h2 => (HCR.out i x zv h1 h2).grown (row := some (w.heap.size + 1)) (by rw [hW3]; exact ⟨rfl, rfl, rfl, by simp, fun k _ hk => Below.heap_setCell _ ⟨w.heap.size + 1, 0, none⟩ _ _ (fun e => hk (by rw [e]))⟩) (fun k hk => by cases hk; exact ⟨_, 22, Q1.out, by decide, by decide⟩))
  clear HCR hW3 z3 q0 q1 q2 hv3 hp3 hb3 HV HPV HB2 HBW Q0 Q1 Q2 f1 c1 HW1 hlt2
  go_loopw [19] (fun i wr => ∃ (k : Nat) (ov : Value) (ys : List Value), k ≤ m ∧ i = .int .i64 k ∧ ys.length = k ∧ (∀ z ∈ ys, ∃ a n c, z = Value.slice a n c) ∧ wr.heap[w.heap.size]? = some (.cells #[ov] 44 (0, 0)) ∧ wr.ownsRow W3.heap.size 49 11 ov k (zrowV (M.take k) ys) ∧ W3.grownBy wr (some w.heap.size)) (fun i _ => m - (intOf i).toNat)
  case atStart => exact ⟨0, _, [], Nat.zero_le _, rfl, rfl, (by simp), T0.out, World.ownsRow_nil _ _ _ _, ⟨rfl, rfl, rfl, Nat.le_refl _, fun _ _ _ => rfl⟩⟩
  case round =>
    obtain ⟨k, ov, ys, hk, rfl, hyl, hys, hcell, hown, hgr⟩ := hrel
    have HYL := Lib.hid hyl
    have HYS := Lib.hid hys
    clear hyl hys
    by_cases hlt : k < m
    · obtain ⟨x, hx⟩ : ∃ x, M[k]? = some x := ⟨M[k]'(by have := HM.out; omega), List.getElem?_eq_getElem _⟩
      obtain ⟨zv, hzv⟩ : ∃ zv, zs[k]? = some zv := ⟨zs[k]'(by have := HM.out; have := HZL.out; omega), List.getElem?_eq_getElem _⟩
      obtain ⟨gv, gcap, he, hgb, hgl, hcs⟩ := own_cellV (own_grown HV3.out hgr (by have := HSW.out; omega)) (by omega)
      cases he
      have hcx := hcs k x zv hx hzv
      have hcrw := (HCR3.out k x zv hx hzv).grown hgr (fun j hj => by cases hj; exact ⟨_, 44, T0.out, by decide, by decide⟩)
      obtain ⟨za, zcap, hzf⟩ : ∃ za zcap, zv = .slice za x.cons.length zcap := by
        obtain ⟨_, _, h2, _⟩ := hcrw
        exact own_form h2
      subst hzf
      have HCW := Lib.hid hcrw
      have hncb := HCLEN.out x (List.mem_of_getElem? hx)
      obtain ⟨nc, hnc⟩ : ∃ nc, nc = x.cons.length := ⟨_, rfl⟩
      have HNC := Lib.hid hnc
      rw [← hnc] at hcx HCW hncb
      clear hnc hzv hcrw
      obtain ⟨a0, e0⟩ : ∃ v, v = bs x.const := ⟨_, rfl⟩
      obtain ⟨a1, e1⟩ : ∃ v, v = bs x.name := ⟨_, rfl⟩
      obtain ⟨a2, e2⟩ : ∃ v, v = bs x.cmp := ⟨_, rfl⟩
      obtain ⟨b3, e3⟩ : ∃ v, v = x.isParam := ⟨_, rfl⟩
      obtain ⟨b4, e4⟩ : ∃ v, v = x.greedy := ⟨_, rfl⟩
      obtain ⟨b5, e5⟩ : ∃ v, v = x.optional := ⟨_, rfl⟩
      obtain ⟨b6, e6⟩ : ∃ v, v = x.optSlash := ⟨_, rfl⟩
      obtain ⟨b7, e7⟩ : ∃ v, v = x.last := ⟨_, rfl⟩
      obtain ⟨p8, e8⟩ : ∃ v, v = x.partCount := ⟨_, rfl⟩
      obtain ⟨p9, e9⟩ : ∃ v, v = x.length := ⟨_, rfl⟩
      have hz : ∀ zv, zcellsV x zv = [Value.string a0, Value.string a1, Value.string a2, Value.bool b3, Value.bool b4, Value.bool b5, Value.bool b6, Value.bool b7, Value.int IntKind.i64 p8, Value.int IntKind.i64 p9, zv] := by intro zv; rw [e0, e1, e2, e3, e4, e5, e6, e7, e8, e9]; rfl
      rw [hz] at hcx
      have d0 : wr.cell? ⟨gv, k * 11, none⟩ = _ := hcx 0 _ rfl
      have d1 := hcx 1 _ rfl
      have d2 := hcx 2 _ rfl
      have d3 := hcx 3 _ rfl
      have d4 := hcx 4 _ rfl
      have d5 := hcx 5 _ rfl
      have d6 := hcx 6 _ rfl
      have d7 := hcx 7 _ rfl
      have d8 := hcx 8 _ rfl
      have d9 := hcx 9 _ rfl
      have d10 := hcx 10 _ rfl
      have HZ := Lib.hid hz
      have HX := Lib.hid hx
      have HCELL := Lib.hid hcell
      have HO := Lib.hid hown
      have HGR := Lib.hid hgr
      clear e0 e1 e2 e3 e4 e5 e6 e7 e8 e9 hz hx hcell hown hgr hcx hcs
      go_upto_region 7 with fail
      obtain ⟨W5, hW5⟩ : ∃ W5, W5 = ((wr.alloc (Obj.cells #[Value.string a0, Value.string a1, Value.string a2, Value.bool b3, Value.bool b4, Value.bool b5, Value.bool b6, Value.bool b7, Value.int IntKind.i64 p8, Value.int IntKind.i64 p9, Value.slice za nc zcap] 72)).alloc (Obj.cells #[Value.string a0, Value.string a1, Value.string a2, Value.bool b3, Value.bool b4, Value.bool b5, Value.bool b6, Value.bool b7, Value.int IntKind.i64 p8, Value.int IntKind.i64 p9, Value.slice none 0 0] 49)) := ⟨_, rfl⟩
      rw [← hW5]
      have s1 : (wr.alloc (Obj.cells #[Value.string a0, Value.string a1, Value.string a2, Value.bool b3, Value.bool b4, Value.bool b5, Value.bool b6, Value.bool b7, Value.int IntKind.i64 p8, Value.int IntKind.i64 p9, Value.slice za nc zcap] 72)).heap.size = wr.heap.size + 1 := by simp
      have hb5 : Below wr.heap.size wr W5 := by rw [hW5]; exact ((Below.refl _ _).alloc (Nat.le_refl _) _).alloc (by simp) _
      have hz5 : W5.heap.size = wr.heap.size + 1 + 1 := by rw [hW5]; simp
      have h72 : W5.heap[wr.heap.size]? = some (.cells #[Value.string a0, Value.string a1, Value.string a2, Value.bool b3, Value.bool b4, Value.bool b5, Value.bool b6, Value.bool b7, Value.int IntKind.i64 p8, Value.int IntKind.i64 p9, Value.slice za nc zcap] 72 (0, 0)) := by rw [hW5, Below.heap_alloc _ _ _ (by rw [s1]; omega), heap_alloc_new]
      have h49 : W5.heap[wr.heap.size + 1]? = some (.cells #[Value.string a0, Value.string a1, Value.string a2, Value.bool b3, Value.bool b4, Value.bool b5, Value.bool b6, Value.bool b7, Value.int IntKind.i64 p8, Value.int IntKind.i64 p9, Value.slice none 0 0] 49 (0, 0)) := by rw [hW5, ← s1, heap_alloc_new]
      have hwl : w.heap.size < wr.heap.size := by have := HGR.out.size; have := HL3.out; omega
      have hov := (hb5.block w.heap.size hwl).trans HCELL.out
      have n10 := obj_cell (i := 10) h72 rfl
      have m0 := obj_cell (i := 0) h49 rfl
      have m1 := obj_cell (i := 1) h49 rfl
      have m2 := obj_cell (i := 2) h49 rfl
      have m3 := obj_cell (i := 3) h49 rfl
      have m4 := obj_cell (i := 4) h49 rfl
      have m5 := obj_cell (i := 5) h49 rfl
      have m6 := obj_cell (i := 6) h49 rfl
      have m7 := obj_cell (i := 7) h49 rfl
      have m8 := obj_cell (i := 8) h49 rfl
      have m9 := obj_cell (i := 9) h49 rfl
      have m10 := obj_cell (i := 10) h49 rfl
      have co := obj_cell (i := 0) hov rfl
      have HB5 := Lib.hid hb5
      have HZ5 := Lib.hid hz5
      have HOV := Lib.hid hov
      have HWL := Lib.hid hwl
      have HX49 := Lib.hid h49
      have HO5 := Lib.hid (own_below HO.out hb5)
      have HCW5 := Lib.hid (show CRow W5 W1.heap.size (.slice za nc zcap) x.cons from HCW.out.below hb5)
      have hbase : W3.heap.size ≤ W5.heap.size := by have := HGR.out.size; have := hb5.size; omega
      obtain ⟨xb, hxb⟩ : ∃ xb, xb = wr.heap.size + 1 := ⟨_, rfl⟩
      have HXB := Lib.hid hxb
      rw [← hxb] at HX49 ⊢
      clear s1 hb5 hz5 h72 h49 hwl hov hW5 d0 d1 d2 d3 d4 d5 d6 d7 d8 d9 d10 m0 m1 m2 m3 m4 m5 m6 m7 m8 m9 m10 hxb HCW co
      go_wp2_with fail
      go_loopw [47] (fun i wx => ∃ (m2 : Nat) (cv : Value) (us : List Value), m2 ≤ nc ∧ i = .int .i64 m2 ∧ wx.heap[xb]? = some (.cells #[Value.string a0, Value.string a1, Value.string a2, Value.bool b3, Value.bool b4, Value.bool b5, Value.bool b6, Value.bool b7, Value.int IntKind.i64 p8, Value.int IntKind.i64 p9, cv] 49 (0, 0)) ∧ wx.ownsRow W5.heap.size 40 2 cv m2 us ∧ W5.grownBy wx (some xb)) (fun i _ => nc - (intOf i).toNat)
      case atStart => exact ⟨0, .slice none 0 0, [], Nat.zero_le _, rfl, HX49.out, World.ownsRow_nil _ _ _ _, ⟨rfl, rfl, rfl, Nat.le_refl _, fun _ _ _ => rfl⟩⟩
      case round =>
        obtain ⟨m2, cv, us, hm2, rfl, hxo, hxr, hxg⟩ := hrel
        obtain ⟨cva, cvcap, rfl⟩ := own_form hxr
        have HXO := Lib.hid hxo
        have HXR := Lib.hid hxr
        have HXG := Lib.hid hxg
        have hcw6 := HCW5.out.grown hxg (fun j hj => by cases hj; exact ⟨_, 49, HX49.out, by decide, by decide⟩)
        have HCW6 := Lib.hid hcw6
        have hxbl : xb < wr.heap.size := lt_of_obj hxo
        clear hxr hxg hcw6
        by_cases hmn : m2 < nc
        · obtain ⟨c, hc⟩ : ∃ c, x.cons[m2]? = some c := ⟨x.cons[m2]'(by have := HNC.out; omega), List.getElem?_eq_getElem (by have := HNC.out; omega)⟩
          obtain ⟨dvs, hdl, hrow66, hdat⟩ := HCW6.out
          obtain ⟨dv, hdv⟩ : ∃ dv, dvs[m2]? = some dv := ⟨dvs[m2]'(by have := HNC.out; omega), List.getElem?_eq_getElem _⟩
          have hdown := hdat m2 c dv hc hdv
          obtain ⟨da, dcap, rfl⟩ := own_form hdown
          rw [← HNC.out] at hrow66
          obtain ⟨g66, cap66, hsl, hg66, hc66⟩ := own_cell2 hrow66 (by omega)
          cases hsl
          obtain ⟨e0, e1⟩ := hc66 m2 c _ hc hdv
          have hdb := HDLEN.out x (List.mem_of_getElem? HX.out) c (List.mem_of_getElem? hc)
          obtain ⟨cid, hcid⟩ : ∃ cid, cid = c.id := ⟨_, rfl⟩
          obtain ⟨nd, hnd⟩ : ∃ nd, nd = c.data.length := ⟨_, rfl⟩
          rw [← hcid] at e0
          rw [← hnd] at e1 hdown hdb
          have HDO := Lib.hid hdown
          clear hdl hrow66 hdat hdown hc66 hdv hcid hnd
          obtain ⟨DL, hDL⟩ : ∃ DL, DL = svals c.data := ⟨_, rfl⟩
          rw [← hDL] at HDO
          have hone : ∀ u ∈ DL, u.oneCell' = true := by rw [hDL]; exact svals_one _
          have HONE := Lib.hid hone
          clear hc hDL hone
          go_upto_region 10 with fail
          obtain ⟨W6, hW6⟩ : ∃ W6, W6 = wr.alloc (Obj.cells #[Value.int IntKind.i16 cid, Value.slice da nd dcap] 66) := ⟨_, rfl⟩
          rw [← hW6]
          have hb6 : Below wr.heap.size wr W6 := by rw [hW6]; exact (Below.refl _ _).alloc (Nat.le_refl _) _
          have hz6 : W6.heap.size = wr.heap.size + 1 := by rw [hW6]; simp
          have h66 : W6.heap[wr.heap.size]? = some (.cells #[Value.int IntKind.i16 cid, Value.slice da nd dcap] 66 (0, 0)) := by rw [hW6]; exact heap_alloc_new wr _
          obtain ⟨cb, hcb⟩ : ∃ cb, cb = wr.heap.size := ⟨_, rfl⟩
          rw [← hcb] at h66 ⊢
          have HS3 := Lib.hid (show ∀ v : World, v.heap[xb]? = W6.heap[xb]? → v.heap[cb]? = W6.heap[cb]? → v.cell? ⟨xb, 10, none⟩ = some (.slice cva m2 cvcap) ∧ v.cell? ⟨cb, 0, none⟩ = some (.int .i16 cid) ∧ v.cell? ⟨cb, 1, none⟩ = some (.slice da nd dcap) from fun v h1 h2 => ⟨obj_cell (h1.trans ((hb6.block xb hxbl).trans HXO.out)) rfl, obj_cell (h2.trans h66) rfl, obj_cell (h2.trans h66) rfl⟩)
          have HS := Lib.hid (HS3.out W6.drew rfl rfl)
          have hxb6 : xb < W6.heap.size := by omega
          have hcb6 : cb < W6.heap.size := by omega
          have HO66 := Lib.hid h66
          have HXO6 := Lib.hid ((hb6.block xb hxbl).trans HXO.out)
          have HXR6 := Lib.hid (own_below HXR.out hb6)
          have HDO6 := Lib.hid (own_below HDO.out hb6)
          have HB6 := Lib.hid hb6
          have HCB := Lib.hid hcb
          have hW5w : W5.heap.size ≤ W6.heap.size := by have := HXG.out.size; have := hb6.size; omega
          clear hW6 hb6 hz6 h66 hcb e0 e1 hxo
          refine wp_region_any (by kernel_rfl) ?_
          refine AnyN.plain (S := fun v => v.cell? ⟨xb, 10, none⟩ = some (.slice cva m2 cvcap) ∧ v.cell? ⟨cb, 0, none⟩ = some (.int .i16 cid) ∧ v.cell? ⟨cb, 1, none⟩ = some (.slice da nd dcap)) (need := fun j => j == 1 || j == 3 || j == 4 || j == 5 || j == 7 || j == 8 || j == 9 || j == 10 || j == 11) _ _ _ _ ?_
          change AnyN _ _ _ _ _ _ _ _ _ (World.drew W6)
          refine AnyN.take (i := 0) (x := .pointer (some ⟨xb, 10, none⟩)) rfl (by kernel_rfl) (by kernel_rfl) (by kernel_rfl) rfl (fun c a w h => panic27 (d := 51) (by decide) h) (Or.inl ⟨by rfl, fun v => by go_simp⟩) ?_
          try simp only [List.getElem_toArray, List.getElem_cons_zero, Act.put, List.setIfInBounds_toArray, List.set_cons_zero, List.set_cons_succ]
          refine AnyN.take (i := 2) (x := .pointer (some ⟨cb, 0, none⟩)) rfl (by kernel_rfl) (by kernel_rfl) (by kernel_rfl) rfl (fun c a w h => panic27 (d := 53) (by decide) h) (Or.inl ⟨by rfl, fun v => by go_simp⟩) ?_
          try simp only [List.getElem_toArray, List.getElem_cons_zero, List.getElem_cons_succ, Act.put, List.setIfInBounds_toArray, List.set_cons_zero, List.set_cons_succ]
          refine AnyN.take (i := 6) (x := .pointer (some ⟨cb, 1, none⟩)) rfl (by kernel_rfl) (by kernel_rfl) (by kernel_rfl) rfl (fun c a w h => panic27 (d := 57) (by decide) h) (Or.inl ⟨by rfl, fun v => by go_simp⟩) ?_
          try simp only [List.getElem_toArray, List.getElem_cons_zero, List.getElem_cons_succ, Act.put, List.setIfInBounds_toArray, List.set_cons_zero, List.set_cons_succ]
          refine AnyN.load (i := 1) (x := .slice cva m2 cvcap) rfl (by kernel_rfl) (by kernel_rfl) (by kernel_rfl) (by kernel_rfl) (fun c a w h => panic27 (d := 52) (by decide) h) (Or.inl ⟨by rfl, fun v hv => by obtain ⟨v0, v1, v2⟩ := hv; go_simp⟩) HS.out ?_
          try simp only [List.getElem_toArray, List.getElem_cons_zero, List.getElem_cons_succ, Act.put, List.setIfInBounds_toArray, List.set_cons_zero, List.set_cons_succ]
          refine AnyN.load (i := 3) (x := .int .i16 cid) rfl (by kernel_rfl) (by kernel_rfl) (by kernel_rfl) (by kernel_rfl) (fun c a w h => panic27 (d := 54) (by decide) h) (Or.inl ⟨by rfl, fun v hv => by obtain ⟨v0, v1, v2⟩ := hv; go_simp⟩) HS.out ?_
          try simp only [List.getElem_toArray, List.getElem_cons_zero, List.getElem_cons_succ, Act.put, List.setIfInBounds_toArray, List.set_cons_zero, List.set_cons_succ]
          refine AnyN.load (i := 7) (x := .slice da nd dcap) rfl (by kernel_rfl) (by kernel_rfl) (by kernel_rfl) (by kernel_rfl) (fun c a w h => panic27 (d := 58) (by decide) h) (Or.inl ⟨by rfl, fun v hv => by obtain ⟨v0, v1, v2⟩ := hv; go_simp⟩) HS.out ?_
          try simp only [List.getElem_toArray, List.getElem_cons_zero, List.getElem_cons_succ, Act.put, List.setIfInBounds_toArray, List.set_cons_zero, List.set_cons_succ]
          refine AnyN.load (i := 4) (x := .int .i64 (IntKind.i64.wrap cid)) rfl (by kernel_rfl) (by kernel_rfl) (by kernel_rfl) (by kernel_rfl) (fun c a w h => panic27 (d := 55) (by decide) h) (Or.inl ⟨by rfl, fun v hv => by obtain ⟨v0, v1, v2⟩ := hv; go_simp⟩) HS.out ?_
          try simp only [List.getElem_toArray, List.getElem_cons_zero, List.getElem_cons_succ, Act.put, List.setIfInBounds_toArray, List.set_cons_zero, List.set_cons_succ]
          refine AnyN.all (rs := [5]) (by kernel_rfl) (by simp) (one_of ?_)
          refine op_via rfl rfl (fun K hK => ?_)
          try simp only [List.getElem_toArray, List.getElem_cons_zero, List.getElem_cons_succ]
          go_simp
          obtain ⟨W7, hW7⟩ : ∃ W7, W7 = (W6.alloc (Obj.cells #[] 9)).drew := ⟨_, rfl⟩
          have hb7 : Below W6.heap.size W6 W7 := by rw [hW7]; exact ⟨rfl, rfl, rfl, by simp, fun j hj => Below.heap_alloc W6 _ j hj⟩
          have hz7 : W7.heap.size = W6.heap.size + 1 := by rw [hW7]; simp
          have h7 : W7.heap[W6.heap.size]? = some (.cells #[] 9 (0, 0)) := by rw [hW7]; exact heap_alloc_new W6 _
          refine hK _ _ ⟨fun _ => HS3.out _ (Below.heap_alloc W6 _ xb hxb6) (Below.heap_alloc W6 _ cb hcb6), ?_⟩
          clear hK K
          try simp only [List.getElem_toArray, List.getElem_cons_zero, List.getElem_cons_succ, Act.put, List.setIfInBounds_toArray, List.set_cons_zero, List.set_cons_succ]
          rw [← hW7]
          have hown0 : W7.ownsRow W6.heap.size 9 1 (.slice (some ⟨W6.heap.size, 0, none⟩) 0 0) 0 [] := ⟨rfl, .inr ⟨W6.heap.size, 0, #[], rfl, Nat.le_refl _, h7, Nat.le_refl _, Nat.zero_le _, rfl, rfl⟩⟩
          refine AnyN.all (rs := [8]) (by kernel_rfl) (by simp) (one_of ?_)
          refine op_via rfl rfl (fun K hK => ?_)
          refine wp_append_row (.tmp 56) (.tmp 58) 22 rfl W6.heap.size 9 i9 (.string ⟨#[]⟩) 1 16 Tryz.underlying22 hi9 hz90 hz91 hz92 rfl (by decide) _ 0 [] (by rfl) hown0 _ _ nd DL (by rfl) (own_below HDO6.out hb7) HONE.out (by simp [maxLen]; omega) (by omega) (by omega) nd (by omega) ?_
          intro dv2 W8 hown8 hgrow8
          obtain ⟨d2a, d2cap, rfl⟩ := own_form hown8
          have hb8 : Below W6.heap.size W6 W8 := hb7.grown hgrow8 (by omega) (fun k hk => by have : W6.heap.size = k := Option.some.inj hk; omega)
          refine hK _ _ ⟨fun _ => HS3.out _ (hb8.block xb hxb6) (hb8.block cb hcb6), ?_⟩
          clear hK K hown0 hgrow8 h7 hb7 hz7 hW7 hown8
          try simp only [List.getElem_toArray, List.getElem_cons_zero, List.getElem_cons_succ, Act.put, List.setIfInBounds_toArray, List.set_cons_zero, List.set_cons_succ]
          refine AnyN.all (rs := [9]) (by kernel_rfl) (by simp) (one_of ?_)
          refine op_via rfl rfl (fun K hK => ?_)
          try simp only [List.getElem_toArray, List.getElem_cons_zero, List.getElem_cons_succ]
          go_simp
          refine hK _ _ ⟨fun _ => HS3.out _ (hb8.block xb hxb6) (hb8.block cb hcb6), ?_⟩
          clear hK K
          try simp only [List.getElem_toArray, List.getElem_cons_zero, List.getElem_cons_succ, Act.put, List.setIfInBounds_toArray, List.set_cons_zero, List.set_cons_succ]
          refine AnyN.all (rs := [10]) (by kernel_rfl) (by simp) (one_of ?_)
          refine op_via rfl rfl (fun K hK => ?_)
          try simp only [List.getElem_toArray, List.getElem_cons_zero, List.getElem_cons_succ]
          go_simp
          have hb9 : Below W6.heap.size W6 (W8.alloc (Obj.cells #[Value.int IntKind.i64 (IntKind.i64.wrap cid), Value.slice d2a nd d2cap] 40)) := hb8.alloc hb8.size _
          refine hK _ _ ⟨fun _ => HS3.out _ (hb9.block xb hxb6) (hb9.block cb hcb6), ?_⟩
          clear hK K
          try simp only [List.getElem_toArray, List.getElem_cons_zero, List.getElem_cons_succ, Act.put, List.setIfInBounds_toArray, List.set_cons_zero, List.set_cons_succ]
          refine AnyN.all (rs := [11]) (by kernel_rfl) (by simp) (one_of ?_)
          refine op_via rfl rfl (fun K hK => ?_)
          refine wp_append_own _ (.tmp 52) (.tmp 61) 47 rfl W5.heap.size 40 i40 z40 2 32 Tryz.underlying47 hi40 hz40 hsz40 hby40 hzs40 (by decide) (.slice cva m2 cvcap) m2 us (by rfl) (own_below HXR6.out hb9) ⟨W8.heap.size, 0, none⟩ 1 1 [Value.int IntKind.i64 (IntKind.i64.wrap cid), Value.slice d2a nd d2cap] (by rfl) rfl (by intro j u hu; rw [add_cell, Nat.zero_add]; simpa [cell_alloc, objCell] using hu) (by intro u hu; simp only [List.mem_cons, List.not_mem_nil, or_false] at hu; rcases hu with rfl | rfl <;> rfl) (by simp [maxLen]; omega) (by omega) (by have := hb9.size; omega) ?_
          intro v4 w4 hown4 hgrow4 hnil4
          obtain ⟨g4, cap4, rfl⟩ := own_form hown4
          have hz4 : w4.heap[xb]? = W6.heap[xb]? := (hgrow4.block xb (by have := hb9.size; omega) (fun e => own_other HXR6.out HXO6.out (by decide) e.symm)).trans (hb9.block xb hxb6)
          have hk4 : w4.heap[cb]? = W6.heap[cb]? := (hgrow4.block cb (by have := hb9.size; omega) (fun e => own_other HXR6.out HO66.out (by decide) e.symm)).trans (hb9.block cb hcb6)
          have hzo4 := hz4.trans HXO6.out
          have z10 := obj_cell (i := 10) hzo4 rfl
          have zf10 := obj_free (i := 10) hzo4
          have HZ4 := Lib.hid hzo4
          have HOWN4 := Lib.hid hown4
          have HGR4 := Lib.hid hgrow4
          have HB9 := Lib.hid hb9
          refine hK _ _ ⟨fun _ => HS3.out _ hz4 hk4, ?_⟩
          clear hK K hown4 hgrow4 hnil4 hz4 hk4 hzo4 hb8 hb9
          try simp only [List.getElem_toArray, List.getElem_cons_zero, List.getElem_cons_succ, Act.put, List.setIfInBounds_toArray, List.set_cons_zero, List.set_cons_succ]
          refine AnyN.all (rs := [12]) (by kernel_rfl) (by simp) (one_of ?_)
          refine op_via rfl rfl (fun K hK => ?_)
          try simp only [List.getElem_toArray, List.getElem_cons_zero, List.getElem_cons_succ]
          go_simp
          refine hK _ _ ⟨fun h => absurd h (by decide), ?_⟩
          clear hK K
          try simp only [List.getElem_toArray, List.getElem_cons_zero, List.getElem_cons_succ, Act.put, List.setIfInBounds_toArray, List.set_cons_zero, List.set_cons_succ]
          refine AnyN.all (rs := [13]) (by kernel_rfl) (by simp) (one_of ?_)
          refine op_via rfl rfl (fun K hK => ?_)
          try simp only [List.getElem_toArray, List.getElem_cons_zero, List.getElem_cons_succ]
          go_simp
          refine hK _ _ ⟨fun h => absurd h (by decide), ?_⟩
          clear hK K
          try simp only [List.getElem_toArray, List.getElem_cons_zero, List.getElem_cons_succ, Act.put, List.setIfInBounds_toArray, List.set_cons_zero, List.set_cons_succ]
          refine AnyN.fin (by kernel_rfl) ?_ _
          have HG9 := Lib.hid (grown_stepi (i := 10) HXG.out (HB6.out.trans (HB9.out.mono HB6.out.size)) HGR4.out (fun j hj => (HXR6.out.lt j hj).1) (.slice g4 (m2 + 1) cap4))
          have HR9 := Lib.hid (show (w4.setCell ⟨xb, 10, none⟩ (.slice g4 (m2 + 1) cap4)).ownsRow W5.heap.size 40 2 (.slice g4 (m2 + 1) cap4) (m2 + 1) _ from own_keep HOWN4.out fun j hj => Below.heap_setCell _ ⟨xb, 10, none⟩ _ _ (fun e => own_other HOWN4.out HZ4.out (by decide) (by rw [hj, e])))
          go_wp2_with fail
          go_roundw
          case rel => exact ⟨m2 + 1, .slice g4 (m2 + 1) cap4, _, by omega, by go_num, obj_set (i := 10) _ HZ4.out, HR9.out, HG9.out⟩
          case measure => simp [intOf]; omega
        · obtain rfl : m2 = nc := by omega
          have m0 := obj_cell (i := 0) hxo rfl
          have m1 := obj_cell (i := 1) hxo rfl
          have m2' := obj_cell (i := 2) hxo rfl
          have m3 := obj_cell (i := 3) hxo rfl
          have m4 := obj_cell (i := 4) hxo rfl
          have m5 := obj_cell (i := 5) hxo rfl
          have m6 := obj_cell (i := 6) hxo rfl
          have m7 := obj_cell (i := 7) hxo rfl
          have m8 := obj_cell (i := 8) hxo rfl
          have m9 := obj_cell (i := 9) hxo rfl
          have m10 := obj_cell (i := 10) hxo rfl
          have hov6 := (HXG.out.block w.heap.size (by have := HZ5.out; have := HWL.out; omega) (fun e => by cases e; have := HXB.out; have := HWL.out; omega)).trans HOV.out
          have co := obj_cell (i := 0) hov6 rfl
          have HOV6 := Lib.hid hov6
          have HO6 := Lib.hid (own_grown2 HO5.out HXG.out (fun e => by have := (HO.out.lt _ e).2; have := HXB.out; omega))
          have hlts := fun k' h => (HO6.out.lt (k := k') h).1
          have HLT := Lib.hid hlts
          have HONE := Lib.hid (show ∀ u ∈ [Value.string a0, Value.string a1, Value.string a2, Value.bool b3, Value.bool b4, Value.bool b5, Value.bool b6, Value.bool b7, Value.int IntKind.i64 p8, Value.int IntKind.i64 p9, Value.slice cva m2 cvcap], u.oneCell' = true by rw [← HZ.out]; exact zcellsV_one x _ rfl)
          have hsz5 := HXG.out.size
          clear hlts hov6 hxo
          go_wp2_with (at_builtin; refine wpList_append_own _ rfl (.tmp 65) (.tmp 67) 44 rfl W3.heap.size 49 i49 z49 11 96 Tryz.underlying44 hi49 hz49 hsz49 hby49 hzs49 (by decide) _ _ _ (by rfl) (HO6.out.alloc _) ⟨wr.heap.size, 0, none⟩ 1 1 [Value.string a0, Value.string a1, Value.string a2, Value.bool b3, Value.bool b4, Value.bool b5, Value.bool b6, Value.bool b7, Value.int IntKind.i64 p8, Value.int IntKind.i64 p9, Value.slice cva m2 cvcap] (by rfl) rfl (by intro j y hy; rw [add_cell, Nat.zero_add]; simpa [cell_alloc, objCell] using hy) HONE.out (by simp [maxLen]; omega) (by omega) (by simp; omega) ?_; intro v' w6 hown' hgrow hnil'; obtain ⟨oa, ocap, rfl⟩ := own_form hown'; have hb6 := (hgrow.block w.heap.size (by have := HZ5.out; have := HWL.out; simp; omega) (fun e => by have := HLT.out _ e.symm; have := HL3.out; omega)).trans ((Below.heap_alloc wr _ w.heap.size (by have := HZ5.out; have := HWL.out; omega)).trans HOV6.out); have c6 := obj_cell (i := 0) hb6 rfl; have f6 := obj_free (i := 0) hb6)
          have HOWN := Lib.hid hown'
          have HGROW := Lib.hid hgrow
          have HB6 := Lib.hid hb6
          clear hown' hgrow hb6 hnil'
          have hrow6 : (w6.setCell ⟨w.heap.size, 0, none⟩ (.slice oa (k + 1) ocap)).ownsRow W3.heap.size 49 11 (.slice oa (k + 1) ocap) (k + 1) (zrowV (M.take (k + 1)) (ys ++ [.slice cva m2 cvcap])) := by
            rw [zrowV_take HX.out HYL.out, HZ.out]
            exact own_keep HOWN.out fun j hj => Below.heap_setCell _ ⟨w.heap.size, 0, none⟩ _ _ (by have := (HOWN.out.lt j hj).1; have := HL3.out; show j ≠ w.heap.size; omega)
          have hbx := HB5.out.grown HXG.out HB5.out.size (fun j hj => by cases hj; have := HXB.out; omega)
          exact ⟨⟨k + 1, .slice oa (k + 1) ocap, ys ++ [.slice cva m2 cvcap], by omega, by go_num, by rw [List.length_append, HYL.out]; rfl, (by
            intro z hz
            rcases List.mem_append.1 hz with h | h
            · exact HYS.out z h
            · exact ⟨_, _, _, List.mem_singleton.1 h⟩), obj_set (i := 0) _ HB6.out, hrow6, grown_step HGR.out (hbx.alloc hbx.size _) HGROW.out (fun j hj => HLT.out j hj) _⟩, by simp [intOf]; omega⟩
    · obtain rfl : k = m := by omega
      obtain ⟨oa, ocap, rfl⟩ := own_form hown
      have ht1 := (hgr.block _ (by have := HL3.out; omega) (by simp)).trans T1.out
      have ht2 := (hgr.block _ (by have := HL3.out; omega) (by simp; omega)).trans T2.out
      have c0 := obj_cell (i := 0) hcell rfl
      have c1 := obj_cell (i := 0) ht1 rfl
      have c2 := obj_cell (i := 0) ht2 rfl
      have f0 := obj_free (i := 0) hcell
      have f1 := obj_free (i := 0) ht1
      have f2 := obj_free (i := 0) ht2
      have HCELL := Lib.hid hcell
      have HT1 := Lib.hid ht1
      have HT2 := Lib.hid ht2
      have HO := Lib.hid hown
      have HGR := Lib.hid hgr
      clear hcell ht1 ht2 hown hgr
      go_wp2_with fail
      go_region
      rw [show (((wr.setCell ⟨w.heap.size, 0, none⟩ (.slice oa k ocap)).setCell ⟨w.heap.size + 1, 0, none⟩ (.slice pa N.length pcap)).setCell ⟨w.heap.size + 1 + 1, 0, none⟩ (.bool true)).drew = stored3 wr w.heap.size (w.heap.size + 1) (w.heap.size + 1 + 1) (.slice oa k ocap) (.slice pa N.length pcap) (.bool true) from rfl]
      obtain ⟨X, hX⟩ : ∃ X, X = stored3 wr w.heap.size (w.heap.size + 1) (w.heap.size + 1 + 1) (.slice oa k ocap) (.slice pa N.length pcap) (.bool true) := ⟨_, rfl⟩
      rw [← hX]
      have HX := Lib.hid hX
      clear hX c0 c1 c2 f0 f1 f2
      go_wp2_with fail
      refine leaves_cons (f := 35) (args := #[.pointer (some ⟨w.heap.size, 0, none⟩), .pointer (some ⟨w.heap.size + 1, 0, none⟩), .pointer (some ⟨w.heap.size + 1 + 1, 0, none⟩)]) (by simp) (by simp [go_sem]) ?_
      refine (catch_idle27 _ _ _ _).mono ?_
      rintro e u' X ⟨rfl, rfl, rfl⟩
      have n1 : w.heap.size ≠ w.heap.size + 1 := by omega
      have n2 : w.heap.size ≠ w.heap.size + 1 + 1 := by omega
      have n3 : w.heap.size + 1 ≠ w.heap.size + 1 + 1 := by omega
      have hx0 : X.heap[w.heap.size]? = some (.cells #[.slice oa k ocap] 44 (0, 0)) := by rw [HX.out]; exact stored3_a n1 n2 HCELL.out
      have hx1 : X.heap[w.heap.size + 1]? = some (.cells #[.slice pa N.length pcap] 22 (0, 0)) := by rw [HX.out]; exact stored3_b n1 n3 HT1.out
      have hx2 : X.heap[w.heap.size + 1 + 1]? = some (.cells #[.bool true] 4 (0, 0)) := by rw [HX.out]; exact stored3_c n2 n3 HT2.out
      have x0 := obj_cell (i := 0) hx0 rfl
      have x1 := obj_cell (i := 0) hx1 rfl
      have x2 := obj_cell (i := 0) hx2 rfl
      have hkeep : ∀ j, w.heap.size + 1 + 1 < j → X.heap[j]? = wr.heap[j]? := fun j hj => by
        rw [HX.out]
        exact stored3_keep j (by omega) (by omega) (by omega)
      have hbr : Below w.heap.size w wr := ⟨HGR.out.os.trans HB3.out.os, HGR.out.tape.trans HB3.out.tape, HGR.out.output.trans HB3.out.output, Nat.le_trans HB3.out.size HGR.out.size, fun j hj => (HGR.out.block j (Nat.lt_of_lt_of_le hj HB3.out.size) (fun e => by cases e; omega)).trans (HB3.out.block j hj)⟩
      have hbX : Below w.heap.size w X := by
        rw [HX.out]
        exact stored3_below hbr (Nat.le_refl _) (by omega) (by omega)
      have hr1 : X.ownsRow w.heap.size 49 11 (.slice oa k ocap) M.length (zrowV M ys) := by
        have h := HO.out
        rw [show M.take k = M by rw [HM.out, List.take_length]] at h
        rw [← HM.out]
        exact own_base (own_keep h fun j hj => hkeep j (by have := (h.lt j hj).1; have := HL3.out; omega)) (by have := HL3.out; omega)
      have hr2 : X.ownsRow w.heap.size 9 1 (.slice pa N.length pcap) N.length (svals N) := by
        have h := own_grown HP3.out HGR.out (by have := HSW.out; omega)
        exact own_base (own_keep h fun j hj => hkeep j (by have := (h.lt j hj).1; have := HSW.out; omega)) (by have := HSW.out; omega)
      have HBX := Lib.hid hbX
      have HR1 := Lib.hid hr1
      have HR2 := Lib.hid hr2
      clear hkeep hbX hr1 hr2 hx0 hx1 hx2 n1 n2 n3 hbr
      obtain ⟨R, hRd⟩ : ∃ R : Ending → World → Prop, R = SegD w (some (M, N)) := ⟨_, rfl⟩
      have hR : R (.returned (.tuple #[.slice oa k ocap, .slice pa N.length pcap, .bool true])) X := by rw [hRd]; exact ⟨HBX.out, _, _, ys, rfl, by rw [HYL.out]; exact HM.out, HYS.out, HR1.out, HR2.out⟩
      rw [← hRd]
      clear hRd HBX HR1 HR2 HX HCELL HT1 HT2 HO HGR HV3 HP3 HB3 T0 T1 T2
      have HR := Lib.hid hR
      clear hR
      show Leaves Tryz.prog Tryz.f27 _ R [] .returning X
      refine ⟨_, ?_, HR.out⟩
      rw [results_cell3 (p := 2) (u := 3) (q := 4) (a := 44) (b := 22) (c := 4) Tryz.results27]
      simp only [Array.getD, List.size_toArray, List.length_cons, List.length_nil]
      simp [asAddr, Result.andThen, go_sem, x0, x1, x2]
end Go.Proofs.YtiebedcldbmlhaaGreatDoor
