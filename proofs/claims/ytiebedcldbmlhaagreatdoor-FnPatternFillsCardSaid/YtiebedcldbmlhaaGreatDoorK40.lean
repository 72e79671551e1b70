/-
  Joined: ZzParse, of any pattern: its parts as rows of values with their constraints, and the names; a panic is told.
  Conditions: each law's own.
-/
import Derived.Test.YtiebedcldbmlhaaGreatDoorK35
import Derived.Test.YtiebedcldbmlhaaGreatDoorK25
import Derived.Maps.AppendAt
namespace Go.Proofs.YtiebedcldbmlhaaGreatDoor
open Go.RowKit
set_option linter.unusedVariables false

/-- A part as eleven values, the last one its constraints' list. -/
def zcellsV (x : Seg) (zv : Value) : List Value :=
  [.string (bs x.const), .string (bs x.name), .string (bs x.cmp), .bool x.isParam, .bool x.greedy, .bool x.optional, .bool x.optSlash, .bool x.last, .int .i64 x.partCount, .int .i64 x.length, zv]
def zrowV : List Seg → List Value → List Value
  | x :: M, z :: zs => zcellsV x z ++ zrowV M zs
  | _, _ => []
theorem zcellsV_len (x : Seg) (zv : Value) : (zcellsV x zv).length = 11 := rfl
theorem zcellsV_one (x : Seg) (zv : Value) (h : zv.oneCell' = true) : ∀ u ∈ zcellsV x zv, u.oneCell' = true := by
  intro u hu
  simp only [zcellsV, List.mem_cons, List.not_mem_nil, or_false] at hu
  rcases hu with rfl | rfl | rfl | rfl | rfl | rfl | rfl | rfl | rfl | rfl | rfl <;> first | rfl | exact h
theorem zrowV_snoc : ∀ (M : List Seg) (zs : List Value) (x : Seg) (z : Value), zs.length = M.length → zrowV (M ++ [x]) (zs ++ [z]) = zrowV M zs ++ zcellsV x z
  | [], [], x, z, _ => by simp [zrowV]
  | [], a :: zs, x, z, h => by simp at h
  | y :: M, [], x, z, h => by simp at h
  | y :: M, a :: zs, x, z, h => by
    show zcellsV y a ++ zrowV (M ++ [x]) (zs ++ [z]) = (zcellsV y a ++ zrowV M zs) ++ zcellsV x z
    rw [zrowV_snoc M zs x z (by simpa using h), List.append_assoc]
theorem zrowV_take {M : List Seg} {zs : List Value} {k : Nat} {x : Seg} {z : Value} (h : M[k]? = some x) (hz : zs.length = k) : zrowV (M.take (k + 1)) (zs ++ [z]) = zrowV (M.take k) zs ++ zcellsV x z := by
  obtain ⟨hk, rfl⟩ := List.getElem?_eq_some_iff.1 h
  rw [List.take_succ_eq_append_getElem hk, zrowV_snoc _ _ _ _ (by rw [List.length_take]; omega)]
theorem zrowV_at : ∀ (M : List Seg) (zs : List Value) (i : Nat) (x : Seg) (z : Value), M[i]? = some x → zs[i]? = some z → ∀ (j : Nat) (u : Value), (zcellsV x z)[j]? = some u → (zrowV M zs)[i * 11 + j]? = some u
  | [], zs, i, x, z, h, _, j, u, hu => by simp at h
  | y :: M, [], i, x, z, h, hz, j, u, hu => by simp at hz
  | y :: M, a :: zs, 0, x, z, h, hz, j, u, hu => by
    obtain rfl : y = x := by simpa using h
    obtain rfl : a = z := by simpa using hz
    have hj : j < (zcellsV y a).length := (List.getElem?_eq_some_iff.1 hu).1
    show (zcellsV y a ++ zrowV M zs)[0 * 11 + j]? = some u
    rw [Nat.zero_mul, Nat.zero_add, List.getElem?_append_left hj]
    exact hu
  | y :: M, a :: zs, i + 1, x, z, h, hz, j, u, hu => by
    have h1 := zrowV_at M zs i x z (by simpa using h) (by simpa using hz) j u hu
    show (zcellsV y a ++ zrowV M zs)[(i + 1) * 11 + j]? = some u
    rw [List.getElem?_append_right (by rw [zcellsV_len]; omega), zcellsV_len, show (i + 1) * 11 + j - 11 = i * 11 + j by omega]
    exact h1
/-- A list of constraints as rows of two values. -/
def crow : List Con → List Value → List Value
  | c :: l, d :: ds => .int .i16 c.id :: d :: crow l ds
  | _, _ => []
theorem crow_snoc : ∀ (l : List Con) (ds : List Value) (c : Con) (d : Value), ds.length = l.length → crow (l ++ [c]) (ds ++ [d]) = crow l ds ++ [.int .i16 c.id, d]
  | [], [], c, d, _ => rfl
  | [], a :: ds, c, d, h => by simp at h
  | y :: l, [], c, d, h => by simp at h
  | y :: l, a :: ds, c, d, h => by
    show Value.int .i16 y.id :: a :: crow (l ++ [c]) (ds ++ [d]) = (Value.int .i16 y.id :: a :: crow l ds) ++ _
    rw [crow_snoc l ds c d (by simpa using h)]; rfl
theorem crow_take {l : List Con} {ds : List Value} {k : Nat} {c : Con} {d : Value} (hc : l[k]? = some c) (hd : ds[k]? = some d) : crow (l.take (k + 1)) (ds.take (k + 1)) = crow (l.take k) (ds.take k) ++ [.int .i16 c.id, d] := by
  obtain ⟨h1, rfl⟩ := List.getElem?_eq_some_iff.1 hc
  obtain ⟨h2, rfl⟩ := List.getElem?_eq_some_iff.1 hd
  rw [List.take_succ_eq_append_getElem h1, List.take_succ_eq_append_getElem h2, crow_snoc _ _ _ _ (by rw [List.length_take, List.length_take]; omega)]
theorem crow_at : ∀ (l : List Con) (ds : List Value) (i : Nat) (c : Con) (d : Value), l[i]? = some c → ds[i]? = some d → (crow l ds)[i * 2 + 0]? = some (.int .i16 c.id) ∧ (crow l ds)[i * 2 + 1]? = some d
  | [], ds, i, c, d, h, _ => by simp at h
  | y :: l, [], i, c, d, h, hd => by simp at hd
  | y :: l, a :: ds, 0, c, d, h, hd => by
    obtain rfl : y = c := by simpa using h
    obtain rfl : a = d := by simpa using hd
    exact ⟨rfl, rfl⟩
  | y :: l, a :: ds, i + 1, c, d, h, hd => by
    obtain ⟨h1, h2⟩ := crow_at l ds i c d (by simpa using h) (by simpa using hd)
    refine ⟨?_, ?_⟩
    · rw [show (i + 1) * 2 + 0 = (i * 2 + 0) + 1 + 1 by omega]; exact h1
    · rw [show (i + 1) * 2 + 1 = (i * 2 + 1) + 1 + 1 by omega]; exact h2
/-- A list of constraints in memory, as values. -/
def CRow (W : World) (base : Nat) (zv : Value) (cons : List Con) : Prop :=
  ∃ dvs : List Value, dvs.length = cons.length ∧ W.ownsRow base 66 2 zv cons.length (crow cons dvs) ∧ ∀ (i : Nat) (c : Con) (d : Value), cons[i]? = some c → dvs[i]? = some d → W.ownsRow base 9 1 d c.data.length (svals c.data)
/-- A step that leaves all old blocks but one that is of another type. -/
theorem CRow.grown {W W2 : World} {base : Nat} {zv : Value} {cons : List Con} (h : CRow W base zv cons) {row : Option Nat} (hg : W.grownBy W2 row) (hr : ∀ k, row = some k → ∃ cs e, W.heap[k]? = some (.cells cs e (0, 0)) ∧ e ≠ 66 ∧ e ≠ 9) : CRow W2 base zv cons := by
  obtain ⟨dvs, h1, h2, h3⟩ := h
  have key : ∀ {e : TypeId} {s n : Nat} {v : Value} {xs : List Value}, (e = 66 ∨ e = 9) → W.ownsRow base e s v n xs → W2.ownsRow base e s v n xs := fun {e s n v xs} he hh => hh.kept hg (by
    cases hv : v.ownBlock with
    | none =>
      cases row with
      | none => exact .inl rfl
      | some _ => exact .inl rfl
    | some g =>
      right
      intro e2
      obtain ⟨cs, e', ho, n1, n2⟩ := hr g e2.symm
      exact own_other hh ho (by rcases he with rfl | rfl <;> first | exact fun h => n1 h.symm | exact fun h => n2 h.symm) hv)
  exact ⟨dvs, h1, key (.inl rfl) h2, fun i c d hc hd => key (.inr rfl) (h3 i c d hc hd)⟩
theorem CRow.below {W W2 : World} {base : Nat} {zv : Value} {cons : List Con} (h : CRow W base zv cons) (hb : Below W.heap.size W W2) : CRow W2 base zv cons :=
  h.grown (grown_of_below hb) (by intro k hk; cases hk)
theorem CRow.base {W : World} {base b2 : Nat} {zv : Value} {cons : List Con} (h : CRow W base zv cons) (hb : b2 ≤ base) : CRow W b2 zv cons := by
  obtain ⟨dvs, h1, h2, h3⟩ := h
  exact ⟨dvs, h1, own_base h2 hb, fun i c d hc hd => own_base (h3 i c d hc hd) hb⟩
theorem consAt_list {W : World} {base g : Nat} : ∀ (cons : List Con) (ks : List Nat), ks.length = cons.length → (∀ (i : Nat) (c : Con), cons[i]? = some c → ∃ k : Nat, ks[i]? = some k ∧ ConAt W base g k c) →
    ∃ dvs : List Value, dvs.length = cons.length ∧ ∀ (i : Nat) (c : Con), cons[i]? = some c → ∃ k d, ks[i]? = some k ∧ dvs[i]? = some d ∧ W.heap[k]? = some (.cells #[.int .i16 c.id, d] 66 (0, 0)) ∧ W.ownsRow base 9 1 d c.data.length (svals c.data)
  | [], ks, hl, h => ⟨[], rfl, fun i c hc => by simp at hc⟩
  | c :: l, [], hl, h => by simp at hl
  | c :: l, k :: ks, hl, h => by
    obtain ⟨dvs, h1, h2⟩ := consAt_list l ks (by simpa using hl) (fun i x hx => by simpa using h (i + 1) x (by simpa using hx))
    obtain ⟨k', hk, _, _, d, hd, hown, _⟩ := h 0 c rfl
    obtain rfl : k = k' := by simpa using hk
    refine ⟨d :: dvs, by simp [h1], fun i x hx => ?_⟩
    cases i with
    | zero =>
      obtain rfl : c = x := by simpa using hx
      exact ⟨k, d, rfl, rfl, hd, hown⟩
    | succ i =>
      obtain ⟨k2, d2, a1, a2, a3, a4⟩ := h2 i x (by simpa using hx)
      exact ⟨k2, d2, by simpa using a1, by simpa using a2, a3, a4⟩
theorem info66 : (Tryz.prog.info? 66).map (fun i => (i.zero.map (fun z => z.cells.size), i.size, i.bytes)) = some (some 2, 2, 32) := by kernel_rfl
theorem info72 : (Tryz.prog.info? 72).map (fun i => (i.zero.map (fun z => z.cells.size), i.size, i.bytes)) = some (some 11, 11, 96) := by kernel_rfl
theorem infos_parts {P : Program} {t : TypeId} {n b : Nat} (h : (P.info? t).map (fun i => (i.zero.map (fun z => z.cells.size), i.size, i.bytes)) = some (some n, n, b)) : ∃ i z, P.info? t = some i ∧ i.zero = some z ∧ z.cells.size = n ∧ i.size = n ∧ i.bytes = b := by
  obtain ⟨i, h1, h2⟩ := Option.map_eq_some_iff.1 h
  simp only [Prod.mk.injEq, Option.map_eq_some_iff] at h2
  obtain ⟨⟨z, hz, hzs⟩, h3, h4⟩ := h2
  exact ⟨i, z, h1, hz, hzs, h3, h4⟩
theorem own_blk {w : World} {b : Nat} {e : TypeId} {s n : Nat} {v : Value} {x : List Value} {k : Nat} (h : w.ownsRow b e s v n x) (hk : v.ownBlock = some k) : ∃ cs, w.heap[k]? = some (.cells cs e (0, 0)) := by
  rcases h.2 with ⟨rfl, _⟩ | ⟨g, cap, cur, rfl, _, hg, _⟩
  · simp [Value.ownBlock] at hk
  · simp only [Value.ownBlock, Option.some.injEq] at hk
    subst hk
    exact ⟨cur, hg⟩
theorem grown_stepi {W wr w5 w6 : World} {g i : Nat} {row : Option Nat} (h : W.grownBy wr (some g)) (hb : Below wr.heap.size wr w5) (hg : w5.grownBy w6 row) (hrow : ∀ k, row = some k → W.heap.size ≤ k) (v : Value) : W.grownBy (w6.setCell ⟨g, i, none⟩ v) (some g) := by
  refine ⟨hg.os.trans (hb.os.trans h.os), hg.tape.trans (hb.tape.trans h.tape), hg.output.trans (hb.output.trans h.output), ?_, fun k hk hne => ?_⟩
  · have h1 := h.size
    have h2 := hb.size
    have h3 := hg.size
    simp; omega
  · have h1 := h.size
    have h2 := hb.size
    rw [Below.heap_setCell w6 ⟨g, i, none⟩ v k (fun e => hne (by rw [e]))]
    exact (hg.block k (by omega) (fun e => by have := hrow k e.symm; omega)).trans ((hb.block k (by omega)).trans (h.block k hk hne))
theorem paramPart_conlen {p : Bs} {st pl st' pl' : Nat} {q : Bs} {x : Seg} (h : paramPart p st pl = some (q, x, st', pl')) : x.cons.length ≤ p.length + 1 := by
  cases hs : stOf p with
  | none =>
    rw [paramPart_plain hs] at h
    have h1 : (plainPart p st pl).2.1 = x := by rw [Option.some.inj h]
    rw [← h1, (plainPart_facts p st pl).2.2.2.1]
    simp
  | some a =>
    cases he : enOf p with
    | none =>
      have hp : paramPart p st pl = some (plainPart p st pl) := by
        unfold paramPart plainPart partOf
        unfold enOf at he
        simp only [he]
        generalize (if 0 < paramEnd p then nne (p.take (paramEnd p)) [60] else none) = o
        cases o <;> rfl
      rw [hp] at h
      have h1 : (plainPart p st pl).2.1 = x := by rw [Option.some.inj h]
      rw [← h1, (plainPart_facts p st pl).2.2.2.1]
      simp
    | some z =>
      rw [paramPart_cons hs he] at h
      split at h
      · cases h
      · cases hc : allCons (splitNE ((p.drop (a + 1)).take (z - (a + 1))) 59) with
        | none => rw [hc] at h; cases h
        | some cons =>
          rw [hc] at h
          have h3 : partOf p st pl (unesc (trimmed (p.take a))) cons = (q, x, st', pl') := Option.some.inj h
          have h1 : (partOf p st pl (unesc (trimmed (p.take a))) cons).2.1 = x := by rw [h3]
          have h2 : x.cons = cons := by rw [← h1]; rfl
          rw [h2, allCons_length _ _ hc]
          have := splitNE_len ((p.drop (a + 1)).take (z - (a + 1))) 59
          rw [List.length_take, List.length_drop] at this
          omega
theorem go_conlen (B : Nat) : ∀ (k : Nat) (p : Bs) (st pl : Nat) (S : List Seg) (N : List Bs) (T : List Seg) (U : List Bs), parseGo k p st pl S N = some (T, U) → p.length ≤ B → (∀ x ∈ S, x.cons.length ≤ B + 1) → ∀ x ∈ T, x.cons.length ≤ B + 1
  | 0, p, st, pl, S, N, T, U, h, hl, hS => by unfold parseGo at h; cases h; exact hS
  | k + 1, p, st, pl, S, N, T, U, h, hl, hS => by
    by_cases h0 : p = []
    · subst h0; rw [go_step_end] at h; cases h; exact hS
    · by_cases hp : paramPos p = some 0
      · rcases hpt : paramPart p st pl with _ | ⟨q, x, st', pl'⟩
        · rw [step_none hp hpt h0] at h; cases h
        rw [step_param2 hp hpt h0] at h
        refine go_conlen B k _ _ _ _ _ T U h (by rw [List.length_drop]; omega) (fun y hy => ?_)
        rcases List.mem_append.1 hy with hm | hm
        · exact hS y hm
        · obtain rfl : y = x := by simpa using hm
          have := paramPart_conlen hpt
          omega
      · rw [go_step_const h0 hp] at h
        refine go_conlen B k _ _ _ _ _ T U h (by rw [List.length_drop]; omega) (fun y hy => ?_)
        rcases List.mem_append.1 hy with hm | hm
        · exact hS y hm
        · obtain rfl : y = (constPart p (paramPos p)).2 := by simpa using hm
          rw [(constPart_facts p (paramPos p)).2.2.2]
          simp
theorem parse_conlen {p : Bs} {M : List Seg} {N : List Bs} (h : parse p = some (M, N)) (hl : p.length ≤ 1000000) : ∀ x ∈ M, x.cons.length ≤ 1000001 := by
  rw [parse_o] at h
  cases hg : parseGo p.length p 0 0 [] [] with
  | none => rw [hg] at h; cases h
  | some TU =>
    obtain ⟨T, U⟩ := TU
    have hgl := go_conlen 1000000 _ _ _ _ _ _ T U hg hl (by simp)
    rw [hg] at h
    simp only [Option.bind_some] at h
    cases hm : metaFwd (cmpBack (markLast T)).1 with
    | none => rw [hm] at h; cases h
    | some M' =>
      rw [hm] at h
      simp only [Option.bind_some] at h
      split at h
      · cases h
      · cases h
        have h1 := hgl
        have h2 := (all_keeps hm).2
        intro x hx
        have h3 : x.cons ∈ M.map (·.cons) := List.mem_map.2 ⟨x, hx, rfl⟩
        rw [h2] at h3
        obtain ⟨y, hy, he⟩ := List.mem_map.1 h3
        rw [← he]
        exact h1 y hy

/-- What ZzParse leaves. -/
def ZpD (w : World) (o : Option (List Seg × List Bs)) (e : Ending) (w' : World) : Prop :=
  Below w.heap.size w w' ∧ match o with
  | none => Dies e
  | some (M, N) => ∃ v pv zs, e = .returned (.tuple #[v, pv]) ∧ zs.length = M.length ∧ w'.ownsRow w.heap.size 72 11 v M.length (zrowV M zs) ∧ w'.ownsRow w.heap.size 9 1 pv N.length (svals N) ∧
      ∀ (i : Nat) (x : Seg) (zv : Value), M[i]? = some x → zs[i]? = some zv → CRow w' w.heap.size zv x.cons

set_option maxHeartbeats 4000000 in
set_option maxRecDepth 100000 in
theorem zzparse_all (s : ByteArray) (w : World) (hE : EnvZ w) (hs : s.size ≤ 1000000) :
    Calls Tryz.prog 36 #[.string s] w (ZpD w (parse s.data.toList)) := by
  have hcall := parse_all s w hE hs
  rcases hM : parse s.data.toList with _ | ⟨M, N⟩
  · rw [hM] at hcall
    have HCALL := Lib.hid hcall
    clear hcall hM hE
    go_enter Tryz.func36, Tryz.ntmps36
    go_wp2_with fail
    refine HCALL.out.mono ?_
    rintro e w1 ⟨⟨dT, dx, rfl⟩, hb1⟩
    have HB1 := Lib.hid hb1
    clear hb1
    go_wp2_with fail
    exact ⟨rfl, HB1.out, _, _, rfl⟩
  rw [hM] at hcall
  obtain ⟨hgood, hnames, h30, hML⟩ := parse_goodD hM (by rw [size_data]; exact hs)
  have HCLEN := Lib.hid (parse_conlen hM (by rw [size_data]; exact hs))
  obtain ⟨i66, z66, hi66, hz66, hzs66, hsz66, hby66⟩ := infos_parts info66
  have HCALL := Lib.hid hcall
  obtain ⟨i72, z72, hi72, hz72, hzs72, hsz72, hby72⟩ := infos_parts info72
  clear hcall hM hgood hnames h30
  go_enter Tryz.func36, Tryz.ntmps36
  go_wp2_with fail
  refine HCALL.out.mono ?_
  rintro e w1 ⟨gs, cvs, qo, cap, pv, st, pl, rfl, hin, hnod, hemp, hrow, hown, hb1⟩
  obtain ⟨ao, ncap, rfl⟩ := own_form hown
  obtain ⟨W2, hW2⟩ : ∃ W2, W2 = w1.alloc (Obj.cells #[Value.slice qo M.length cap, Value.slice ao N.length ncap, Value.int IntKind.i64 st, Value.int IntKind.i64 pl] 79) := ⟨_, rfl⟩
  have hb2 : Below w1.heap.size w1 W2 := by rw [hW2]; exact (Below.refl _ _).alloc (Nat.le_refl _) _
  have hQ1 : W2.cell? ⟨w1.heap.size, 1, none⟩ = some (.slice ao N.length ncap) := by rw [hW2]; simp [cell_alloc, objCell]
  have hQ0 : W2.cell? ⟨w1.heap.size, 0, none⟩ = some (.slice qo M.length cap) := by rw [hW2]; simp [cell_alloc, objCell]
  have hsW : W2.heap.size = w1.heap.size + 1 := by rw [hW2]; simp
  have HIN := Lib.hid (hin.below hb2)
  have HEMP := Lib.hid hemp
  have HROW := Lib.hid (show ∀ (i : Nat) (g : Nat), gs[i]? = some g → ∃ r, qo = some ⟨r, 0, none⟩ ∧ W2.cell? ⟨r, i, none⟩ = some (.pointer (some ⟨g, 0, none⟩)) from fun i g h => by
    obtain ⟨r, h1, h2, h3⟩ := hrow i g h
    exact ⟨r, h1, (hb2.cell (p := ⟨r, i, none⟩) h2).trans h3⟩)
  have HB12 := Lib.hid hb2
  have HBW1 := Lib.hid hb1
  have HOWN := Lib.hid (own_below hown hb2)
  have HB2 := Lib.hid (hb1.trans (hb2.mono hb1.size))
  have HSW := Lib.hid hsW
  have HW2 := Lib.hid hW2
  have HQ1 := Lib.hid hQ1
  obtain ⟨m, hm⟩ : ∃ m, m = M.length := ⟨_, rfl⟩
  have HM := Lib.hid hm
  rw [← hm] at hQ0 HW2 hML ⊢
  clear hin hemp hrow hown hb1 hb2 hsW hW2 hQ1 HCALL hm hnod
  go_wp2_with fail
  rw [← HW2.out]
  go_loopw [5, 16] (fun v i wr => ∃ (k : Nat) (zs : List Value), k ≤ m ∧ i = .int .i64 k ∧ zs.length = k ∧ wr.ownsRow W2.heap.size 72 11 v k (zrowV (M.take k) zs) ∧ (∀ (i : Nat) (x : Seg) (zv : Value), M[i]? = some x → zs[i]? = some zv → CRow wr w.heap.size zv x.cons) ∧ Below W2.heap.size W2 wr) (fun _ i _ => m - (intOf i).toNat)
  case atStart => exact ⟨0, [], Nat.zero_le _, rfl, rfl, World.ownsRow_nil _ _ _ _, fun i x zv _ h => by simp at h, Below.refl _ _⟩
  case round =>
    obtain ⟨k, zs, hk, rfl, hzl, hown, hcrs, hb⟩ := hrel
    obtain ⟨oa, ocap, rfl⟩ := own_form hown
    have HZL := Lib.hid hzl
    have HCRS := Lib.hid hcrs
    clear hzl hcrs
    have HO := Lib.hid hown
    have HB := Lib.hid hb
    clear hown hb
    by_cases hlt : k < m
    · obtain ⟨x, hx⟩ : ∃ x, M[k]? = some x := ⟨M[k]'(by have := HM.out; omega), List.getElem?_eq_getElem _⟩
      obtain ⟨g, cv, hg, hcv, ho⟩ := HIN.out.2.2 k x hx
      have hgl : g < W2.heap.size := ho.lt
      obtain ⟨base, hbase, ks, hks, hrow84, _, hat⟩ := HEMP.out k x g cv hx hg hcv
      obtain ⟨ca, cc, rfl⟩ := own_form hrow84
      obtain ⟨dvs, hdl, hdv⟩ := consAt_list x.cons ks hks hat
      obtain ⟨nc, hnc⟩ : ∃ nc, nc = ks.length := ⟨_, rfl⟩
      rw [← hnc] at hrow84 ho
      have HNC := Lib.hid (show nc = x.cons.length by rw [hnc, hks])
      have HR84 := Lib.hid hrow84
      have HDL := Lib.hid hdl
      have HDV := Lib.hid hdv
      clear hks hrow84 hat hnc hdl hdv
      obtain ⟨r, hqo, hr⟩ := HROW.out k g hg
      subst hqo
      have hrk := (HB.out.cell (p := ⟨r, k, none⟩) (cell_lt hr)).trans hr
      have hso : SegObj wr g x (.slice ca nc cc) := (HB.out.block g hgl).trans ho
      have HX := Lib.hid hx
      have HSO := Lib.hid hso
      have HGL := Lib.hid hgl
      clear hx hg hcv ho hr
      obtain ⟨a0, e0⟩ : ∃ v, v = bs x.const := ⟨_, rfl⟩
      obtain ⟨a1, e1⟩ : ∃ v, v = bs x.name := ⟨_, rfl⟩
      obtain ⟨a2, e2⟩ : ∃ v, v = bs x.cmp := ⟨_, rfl⟩
      obtain ⟨b3, e3⟩ : ∃ v, v = x.isParam := ⟨_, rfl⟩
      obtain ⟨b4, e4⟩ : ∃ v, v = x.greedy := ⟨_, rfl⟩
      obtain ⟨b5, e5⟩ : ∃ v, v = x.optional := ⟨_, rfl⟩
      obtain ⟨b6, e6⟩ : ∃ v, v = x.optSlash := ⟨_, rfl⟩
      obtain ⟨b7, e7⟩ : ∃ v, v = x.last := ⟨_, rfl⟩
      obtain ⟨p8, e8⟩ : ∃ v, v = x.partCount := ⟨_, rfl⟩
      obtain ⟨p9, e9⟩ : ∃ v, v = x.length := ⟨_, rfl⟩
      have HZ := Lib.hid (show ∀ zv, zcellsV x zv = [Value.string a0, Value.string a1, Value.string a2, Value.bool b3, Value.bool b4, Value.bool b5, Value.bool b6, Value.bool b7, Value.int IntKind.i64 p8, Value.int IntKind.i64 p9, zv] by intro zv; rw [e0, e1, e2, e3, e4, e5, e6, e7, e8, e9]; rfl)
      have hsc : segCells x (.slice ca nc cc) = [(Value.string a0), (Value.bool b3), (Value.string a1), (Value.string a2), (Value.int IntKind.i64 p8), (Value.bool b4), (Value.bool b5), (Value.bool b7), (Value.bool b6), .slice ca nc cc, (Value.int IntKind.i64 p9)] := by rw [e0, e1, e2, e3, e4, e5, e6, e7, e8, e9]; rfl
      have hblk : wr.heap[g]? = some (.cells #[(Value.string a0), (Value.bool b3), (Value.string a1), (Value.string a2), (Value.int IntKind.i64 p8), (Value.bool b4), (Value.bool b5), (Value.bool b7), (Value.bool b6), .slice ca nc cc, (Value.int IntKind.i64 p9)] 99 (0, 0)) := by
        have h := HSO.out
        unfold SegObj at h
        rw [hsc] at h
        exact h
      have HBLK := Lib.hid hblk
      clear e0 e1 e2 e3 e4 e5 e6 e7 e8 e9 hsc hblk HSO
      have hS : ∀ v : World, v.heap[g]? = wr.heap[g]? → v.cell? ⟨g, 0, none⟩ = some (Value.string a0) ∧ v.cell? ⟨g, 2, none⟩ = some (Value.string a1) ∧ v.cell? ⟨g, 3, none⟩ = some (Value.string a2) ∧ v.cell? ⟨g, 1, none⟩ = some (Value.bool b3) ∧ v.cell? ⟨g, 5, none⟩ = some (Value.bool b4) ∧ v.cell? ⟨g, 6, none⟩ = some (Value.bool b5) ∧ v.cell? ⟨g, 8, none⟩ = some (Value.bool b6) ∧ v.cell? ⟨g, 7, none⟩ = some (Value.bool b7) ∧ v.cell? ⟨g, 4, none⟩ = some (Value.int IntKind.i64 p8) ∧ v.cell? ⟨g, 10, none⟩ = some (Value.int IntKind.i64 p9) := fun v hv => by
        have h := hv.trans HBLK.out
        exact ⟨obj_cell h rfl, obj_cell h rfl, obj_cell h rfl, obj_cell h rfl, obj_cell h rfl, obj_cell h rfl, obj_cell h rfl, obj_cell h rfl, obj_cell h rfl, obj_cell h rfl⟩
      have HSS := Lib.hid hS
      have HS := Lib.hid (hS wr.drew rfl)
      clear hS
      go_upto_region 6 with fail
      refine wp_region_any (by kernel_rfl) ?_
      refine AnyN.plain (S := fun v => v.cell? ⟨g, 0, none⟩ = some (Value.string a0) ∧ v.cell? ⟨g, 2, none⟩ = some (Value.string a1) ∧ v.cell? ⟨g, 3, none⟩ = some (Value.string a2) ∧ v.cell? ⟨g, 1, none⟩ = some (Value.bool b3) ∧ v.cell? ⟨g, 5, none⟩ = some (Value.bool b4) ∧ v.cell? ⟨g, 6, none⟩ = some (Value.bool b5) ∧ v.cell? ⟨g, 8, none⟩ = some (Value.bool b6) ∧ v.cell? ⟨g, 7, none⟩ = some (Value.bool b7) ∧ v.cell? ⟨g, 4, none⟩ = some (Value.int IntKind.i64 p8) ∧ v.cell? ⟨g, 10, none⟩ = some (Value.int IntKind.i64 p9)) (need := fun j => (j % 4 == 3 || j == 41) || j == 42) _ _ _ _ ?_
      change AnyN _ _ _ _ _ _ _ _ _ (World.drew wr)
      refine AnyN.take (i := 0) (x := .pointer (some ⟨g, 0, none⟩)) rfl (by kernel_rfl) (by kernel_rfl) (by kernel_rfl) rfl (fun _ _ _ h => h) (Or.inl ⟨by rfl, fun v => by go_simp⟩) ?_
      try simp only [List.getElem_toArray, List.getElem_cons_zero, Act.put, List.setIfInBounds_toArray, List.set_cons_zero, List.set_cons_succ]
      refine AnyN.take (i := 1) (x := .pointer (some ⟨g, 0, none⟩)) rfl (by kernel_rfl) (by kernel_rfl) (by kernel_rfl) rfl (fun _ _ _ h => h) (Or.inl ⟨by rfl, fun v => by go_simp⟩) ?_
      try simp only [List.getElem_toArray, List.getElem_cons_zero, List.getElem_cons_succ, Act.put, List.setIfInBounds_toArray, List.set_cons_zero, List.set_cons_succ]
      refine AnyN.take (i := 2) (x := .pointer (some ⟨g, 0, none⟩)) rfl (by kernel_rfl) (by kernel_rfl) (by kernel_rfl) rfl (fun _ _ _ h => h) (Or.inl ⟨by rfl, fun v => by go_simp⟩) ?_
      try simp only [List.getElem_toArray, List.getElem_cons_zero, List.getElem_cons_succ, Act.put, List.setIfInBounds_toArray, List.set_cons_zero, List.set_cons_succ]
      refine AnyN.take (i := 4) (x := .pointer (some ⟨g, 0, none⟩)) rfl (by kernel_rfl) (by kernel_rfl) (by kernel_rfl) rfl (fun _ _ _ h => h) (Or.inl ⟨by rfl, fun v => by go_simp⟩) ?_
      try simp only [List.getElem_toArray, List.getElem_cons_zero, List.getElem_cons_succ, Act.put, List.setIfInBounds_toArray, List.set_cons_zero, List.set_cons_succ]
      refine AnyN.take (i := 5) (x := .pointer (some ⟨g, 0, none⟩)) rfl (by kernel_rfl) (by kernel_rfl) (by kernel_rfl) rfl (fun _ _ _ h => h) (Or.inl ⟨by rfl, fun v => by go_simp⟩) ?_
      try simp only [List.getElem_toArray, List.getElem_cons_zero, List.getElem_cons_succ, Act.put, List.setIfInBounds_toArray, List.set_cons_zero, List.set_cons_succ]
      refine AnyN.take (i := 6) (x := .pointer (some ⟨g, 2, none⟩)) rfl (by kernel_rfl) (by kernel_rfl) (by kernel_rfl) rfl (fun _ _ _ h => h) (Or.inl ⟨by rfl, fun v => by go_simp⟩) ?_
      try simp only [List.getElem_toArray, List.getElem_cons_zero, List.getElem_cons_succ, Act.put, List.setIfInBounds_toArray, List.set_cons_zero, List.set_cons_succ]
      refine AnyN.take (i := 8) (x := .pointer (some ⟨g, 0, none⟩)) rfl (by kernel_rfl) (by kernel_rfl) (by kernel_rfl) rfl (fun _ _ _ h => h) (Or.inl ⟨by rfl, fun v => by go_simp⟩) ?_
      try simp only [List.getElem_toArray, List.getElem_cons_zero, List.getElem_cons_succ, Act.put, List.setIfInBounds_toArray, List.set_cons_zero, List.set_cons_succ]
      refine AnyN.take (i := 9) (x := .pointer (some ⟨g, 0, none⟩)) rfl (by kernel_rfl) (by kernel_rfl) (by kernel_rfl) rfl (fun _ _ _ h => h) (Or.inl ⟨by rfl, fun v => by go_simp⟩) ?_
      try simp only [List.getElem_toArray, List.getElem_cons_zero, List.getElem_cons_succ, Act.put, List.setIfInBounds_toArray, List.set_cons_zero, List.set_cons_succ]
      refine AnyN.take (i := 10) (x := .pointer (some ⟨g, 3, none⟩)) rfl (by kernel_rfl) (by kernel_rfl) (by kernel_rfl) rfl (fun _ _ _ h => h) (Or.inl ⟨by rfl, fun v => by go_simp⟩) ?_
      try simp only [List.getElem_toArray, List.getElem_cons_zero, List.getElem_cons_succ, Act.put, List.setIfInBounds_toArray, List.set_cons_zero, List.set_cons_succ]
      refine AnyN.take (i := 12) (x := .pointer (some ⟨g, 0, none⟩)) rfl (by kernel_rfl) (by kernel_rfl) (by kernel_rfl) rfl (fun _ _ _ h => h) (Or.inl ⟨by rfl, fun v => by go_simp⟩) ?_
      try simp only [List.getElem_toArray, List.getElem_cons_zero, List.getElem_cons_succ, Act.put, List.setIfInBounds_toArray, List.set_cons_zero, List.set_cons_succ]
      refine AnyN.take (i := 13) (x := .pointer (some ⟨g, 0, none⟩)) rfl (by kernel_rfl) (by kernel_rfl) (by kernel_rfl) rfl (fun _ _ _ h => h) (Or.inl ⟨by rfl, fun v => by go_simp⟩) ?_
      try simp only [List.getElem_toArray, List.getElem_cons_zero, List.getElem_cons_succ, Act.put, List.setIfInBounds_toArray, List.set_cons_zero, List.set_cons_succ]
      refine AnyN.take (i := 14) (x := .pointer (some ⟨g, 1, none⟩)) rfl (by kernel_rfl) (by kernel_rfl) (by kernel_rfl) rfl (fun _ _ _ h => h) (Or.inl ⟨by rfl, fun v => by go_simp⟩) ?_
      try simp only [List.getElem_toArray, List.getElem_cons_zero, List.getElem_cons_succ, Act.put, List.setIfInBounds_toArray, List.set_cons_zero, List.set_cons_succ]
      refine AnyN.take (i := 16) (x := .pointer (some ⟨g, 0, none⟩)) rfl (by kernel_rfl) (by kernel_rfl) (by kernel_rfl) rfl (fun _ _ _ h => h) (Or.inl ⟨by rfl, fun v => by go_simp⟩) ?_
      try simp only [List.getElem_toArray, List.getElem_cons_zero, List.getElem_cons_succ, Act.put, List.setIfInBounds_toArray, List.set_cons_zero, List.set_cons_succ]
      refine AnyN.take (i := 17) (x := .pointer (some ⟨g, 0, none⟩)) rfl (by kernel_rfl) (by kernel_rfl) (by kernel_rfl) rfl (fun _ _ _ h => h) (Or.inl ⟨by rfl, fun v => by go_simp⟩) ?_
      try simp only [List.getElem_toArray, List.getElem_cons_zero, List.getElem_cons_succ, Act.put, List.setIfInBounds_toArray, List.set_cons_zero, List.set_cons_succ]
      refine AnyN.take (i := 18) (x := .pointer (some ⟨g, 5, none⟩)) rfl (by kernel_rfl) (by kernel_rfl) (by kernel_rfl) rfl (fun _ _ _ h => h) (Or.inl ⟨by rfl, fun v => by go_simp⟩) ?_
      try simp only [List.getElem_toArray, List.getElem_cons_zero, List.getElem_cons_succ, Act.put, List.setIfInBounds_toArray, List.set_cons_zero, List.set_cons_succ]
      refine AnyN.take (i := 20) (x := .pointer (some ⟨g, 0, none⟩)) rfl (by kernel_rfl) (by kernel_rfl) (by kernel_rfl) rfl (fun _ _ _ h => h) (Or.inl ⟨by rfl, fun v => by go_simp⟩) ?_
      try simp only [List.getElem_toArray, List.getElem_cons_zero, List.getElem_cons_succ, Act.put, List.setIfInBounds_toArray, List.set_cons_zero, List.set_cons_succ]
      refine AnyN.take (i := 21) (x := .pointer (some ⟨g, 0, none⟩)) rfl (by kernel_rfl) (by kernel_rfl) (by kernel_rfl) rfl (fun _ _ _ h => h) (Or.inl ⟨by rfl, fun v => by go_simp⟩) ?_
      try simp only [List.getElem_toArray, List.getElem_cons_zero, List.getElem_cons_succ, Act.put, List.setIfInBounds_toArray, List.set_cons_zero, List.set_cons_succ]
      refine AnyN.take (i := 22) (x := .pointer (some ⟨g, 6, none⟩)) rfl (by kernel_rfl) (by kernel_rfl) (by kernel_rfl) rfl (fun _ _ _ h => h) (Or.inl ⟨by rfl, fun v => by go_simp⟩) ?_
      try simp only [List.getElem_toArray, List.getElem_cons_zero, List.getElem_cons_succ, Act.put, List.setIfInBounds_toArray, List.set_cons_zero, List.set_cons_succ]
      refine AnyN.take (i := 24) (x := .pointer (some ⟨g, 0, none⟩)) rfl (by kernel_rfl) (by kernel_rfl) (by kernel_rfl) rfl (fun _ _ _ h => h) (Or.inl ⟨by rfl, fun v => by go_simp⟩) ?_
      try simp only [List.getElem_toArray, List.getElem_cons_zero, List.getElem_cons_succ, Act.put, List.setIfInBounds_toArray, List.set_cons_zero, List.set_cons_succ]
      refine AnyN.take (i := 25) (x := .pointer (some ⟨g, 0, none⟩)) rfl (by kernel_rfl) (by kernel_rfl) (by kernel_rfl) rfl (fun _ _ _ h => h) (Or.inl ⟨by rfl, fun v => by go_simp⟩) ?_
      try simp only [List.getElem_toArray, List.getElem_cons_zero, List.getElem_cons_succ, Act.put, List.setIfInBounds_toArray, List.set_cons_zero, List.set_cons_succ]
      refine AnyN.take (i := 26) (x := .pointer (some ⟨g, 8, none⟩)) rfl (by kernel_rfl) (by kernel_rfl) (by kernel_rfl) rfl (fun _ _ _ h => h) (Or.inl ⟨by rfl, fun v => by go_simp⟩) ?_
      try simp only [List.getElem_toArray, List.getElem_cons_zero, List.getElem_cons_succ, Act.put, List.setIfInBounds_toArray, List.set_cons_zero, List.set_cons_succ]
      refine AnyN.take (i := 28) (x := .pointer (some ⟨g, 0, none⟩)) rfl (by kernel_rfl) (by kernel_rfl) (by kernel_rfl) rfl (fun _ _ _ h => h) (Or.inl ⟨by rfl, fun v => by go_simp⟩) ?_
      try simp only [List.getElem_toArray, List.getElem_cons_zero, List.getElem_cons_succ, Act.put, List.setIfInBounds_toArray, List.set_cons_zero, List.set_cons_succ]
      refine AnyN.take (i := 29) (x := .pointer (some ⟨g, 0, none⟩)) rfl (by kernel_rfl) (by kernel_rfl) (by kernel_rfl) rfl (fun _ _ _ h => h) (Or.inl ⟨by rfl, fun v => by go_simp⟩) ?_
      try simp only [List.getElem_toArray, List.getElem_cons_zero, List.getElem_cons_succ, Act.put, List.setIfInBounds_toArray, List.set_cons_zero, List.set_cons_succ]
      refine AnyN.take (i := 30) (x := .pointer (some ⟨g, 7, none⟩)) rfl (by kernel_rfl) (by kernel_rfl) (by kernel_rfl) rfl (fun _ _ _ h => h) (Or.inl ⟨by rfl, fun v => by go_simp⟩) ?_
      try simp only [List.getElem_toArray, List.getElem_cons_zero, List.getElem_cons_succ, Act.put, List.setIfInBounds_toArray, List.set_cons_zero, List.set_cons_succ]
      refine AnyN.take (i := 32) (x := .pointer (some ⟨g, 0, none⟩)) rfl (by kernel_rfl) (by kernel_rfl) (by kernel_rfl) rfl (fun _ _ _ h => h) (Or.inl ⟨by rfl, fun v => by go_simp⟩) ?_
      try simp only [List.getElem_toArray, List.getElem_cons_zero, List.getElem_cons_succ, Act.put, List.setIfInBounds_toArray, List.set_cons_zero, List.set_cons_succ]
      refine AnyN.take (i := 33) (x := .pointer (some ⟨g, 0, none⟩)) rfl (by kernel_rfl) (by kernel_rfl) (by kernel_rfl) rfl (fun _ _ _ h => h) (Or.inl ⟨by rfl, fun v => by go_simp⟩) ?_
      try simp only [List.getElem_toArray, List.getElem_cons_zero, List.getElem_cons_succ, Act.put, List.setIfInBounds_toArray, List.set_cons_zero, List.set_cons_succ]
      refine AnyN.take (i := 34) (x := .pointer (some ⟨g, 4, none⟩)) rfl (by kernel_rfl) (by kernel_rfl) (by kernel_rfl) rfl (fun _ _ _ h => h) (Or.inl ⟨by rfl, fun v => by go_simp⟩) ?_
      try simp only [List.getElem_toArray, List.getElem_cons_zero, List.getElem_cons_succ, Act.put, List.setIfInBounds_toArray, List.set_cons_zero, List.set_cons_succ]
      refine AnyN.take (i := 36) (x := .pointer (some ⟨g, 0, none⟩)) rfl (by kernel_rfl) (by kernel_rfl) (by kernel_rfl) rfl (fun _ _ _ h => h) (Or.inl ⟨by rfl, fun v => by go_simp⟩) ?_
      try simp only [List.getElem_toArray, List.getElem_cons_zero, List.getElem_cons_succ, Act.put, List.setIfInBounds_toArray, List.set_cons_zero, List.set_cons_succ]
      refine AnyN.take (i := 37) (x := .pointer (some ⟨g, 0, none⟩)) rfl (by kernel_rfl) (by kernel_rfl) (by kernel_rfl) rfl (fun _ _ _ h => h) (Or.inl ⟨by rfl, fun v => by go_simp⟩) ?_
      try simp only [List.getElem_toArray, List.getElem_cons_zero, List.getElem_cons_succ, Act.put, List.setIfInBounds_toArray, List.set_cons_zero, List.set_cons_succ]
      refine AnyN.take (i := 38) (x := .pointer (some ⟨g, 10, none⟩)) rfl (by kernel_rfl) (by kernel_rfl) (by kernel_rfl) rfl (fun _ _ _ h => h) (Or.inl ⟨by rfl, fun v => by go_simp⟩) ?_
      try simp only [List.getElem_toArray, List.getElem_cons_zero, List.getElem_cons_succ, Act.put, List.setIfInBounds_toArray, List.set_cons_zero, List.set_cons_succ]
      refine AnyN.load (i := 3) (x := (Value.string a0)) rfl (by kernel_rfl) (by kernel_rfl) (by kernel_rfl) (by kernel_rfl) (fun _ _ _ h => h) (Or.inl ⟨by rfl, fun v hv => by obtain ⟨u0, u1, u2, u3, u4, u5, u6, u7, u8, u9⟩ := hv; go_simp⟩) HS.out ?_
      try simp only [List.getElem_toArray, List.getElem_cons_zero, List.getElem_cons_succ, Act.put, List.setIfInBounds_toArray, List.set_cons_zero, List.set_cons_succ]
      refine AnyN.load (i := 7) (x := (Value.string a1)) rfl (by kernel_rfl) (by kernel_rfl) (by kernel_rfl) (by kernel_rfl) (fun _ _ _ h => h) (Or.inl ⟨by rfl, fun v hv => by obtain ⟨u0, u1, u2, u3, u4, u5, u6, u7, u8, u9⟩ := hv; go_simp⟩) HS.out ?_
      try simp only [List.getElem_toArray, List.getElem_cons_zero, List.getElem_cons_succ, Act.put, List.setIfInBounds_toArray, List.set_cons_zero, List.set_cons_succ]
      refine AnyN.load (i := 11) (x := (Value.string a2)) rfl (by kernel_rfl) (by kernel_rfl) (by kernel_rfl) (by kernel_rfl) (fun _ _ _ h => h) (Or.inl ⟨by rfl, fun v hv => by obtain ⟨u0, u1, u2, u3, u4, u5, u6, u7, u8, u9⟩ := hv; go_simp⟩) HS.out ?_
      try simp only [List.getElem_toArray, List.getElem_cons_zero, List.getElem_cons_succ, Act.put, List.setIfInBounds_toArray, List.set_cons_zero, List.set_cons_succ]
      refine AnyN.load (i := 15) (x := (Value.bool b3)) rfl (by kernel_rfl) (by kernel_rfl) (by kernel_rfl) (by kernel_rfl) (fun _ _ _ h => h) (Or.inl ⟨by rfl, fun v hv => by obtain ⟨u0, u1, u2, u3, u4, u5, u6, u7, u8, u9⟩ := hv; go_simp⟩) HS.out ?_
      try simp only [List.getElem_toArray, List.getElem_cons_zero, List.getElem_cons_succ, Act.put, List.setIfInBounds_toArray, List.set_cons_zero, List.set_cons_succ]
      refine AnyN.load (i := 19) (x := (Value.bool b4)) rfl (by kernel_rfl) (by kernel_rfl) (by kernel_rfl) (by kernel_rfl) (fun _ _ _ h => h) (Or.inl ⟨by rfl, fun v hv => by obtain ⟨u0, u1, u2, u3, u4, u5, u6, u7, u8, u9⟩ := hv; go_simp⟩) HS.out ?_
      try simp only [List.getElem_toArray, List.getElem_cons_zero, List.getElem_cons_succ, Act.put, List.setIfInBounds_toArray, List.set_cons_zero, List.set_cons_succ]
      refine AnyN.load (i := 23) (x := (Value.bool b5)) rfl (by kernel_rfl) (by kernel_rfl) (by kernel_rfl) (by kernel_rfl) (fun _ _ _ h => h) (Or.inl ⟨by rfl, fun v hv => by obtain ⟨u0, u1, u2, u3, u4, u5, u6, u7, u8, u9⟩ := hv; go_simp⟩) HS.out ?_
      try simp only [List.getElem_toArray, List.getElem_cons_zero, List.getElem_cons_succ, Act.put, List.setIfInBounds_toArray, List.set_cons_zero, List.set_cons_succ]
      refine AnyN.load (i := 27) (x := (Value.bool b6)) rfl (by kernel_rfl) (by kernel_rfl) (by kernel_rfl) (by kernel_rfl) (fun _ _ _ h => h) (Or.inl ⟨by rfl, fun v hv => by obtain ⟨u0, u1, u2, u3, u4, u5, u6, u7, u8, u9⟩ := hv; go_simp⟩) HS.out ?_
      try simp only [List.getElem_toArray, List.getElem_cons_zero, List.getElem_cons_succ, Act.put, List.setIfInBounds_toArray, List.set_cons_zero, List.set_cons_succ]
      refine AnyN.load (i := 31) (x := (Value.bool b7)) rfl (by kernel_rfl) (by kernel_rfl) (by kernel_rfl) (by kernel_rfl) (fun _ _ _ h => h) (Or.inl ⟨by rfl, fun v hv => by obtain ⟨u0, u1, u2, u3, u4, u5, u6, u7, u8, u9⟩ := hv; go_simp⟩) HS.out ?_
      try simp only [List.getElem_toArray, List.getElem_cons_zero, List.getElem_cons_succ, Act.put, List.setIfInBounds_toArray, List.set_cons_zero, List.set_cons_succ]
      refine AnyN.load (i := 35) (x := (Value.int IntKind.i64 p8)) rfl (by kernel_rfl) (by kernel_rfl) (by kernel_rfl) (by kernel_rfl) (fun _ _ _ h => h) (Or.inl ⟨by rfl, fun v hv => by obtain ⟨u0, u1, u2, u3, u4, u5, u6, u7, u8, u9⟩ := hv; go_simp⟩) HS.out ?_
      try simp only [List.getElem_toArray, List.getElem_cons_zero, List.getElem_cons_succ, Act.put, List.setIfInBounds_toArray, List.set_cons_zero, List.set_cons_succ]
      refine AnyN.load (i := 39) (x := (Value.int IntKind.i64 p9)) rfl (by kernel_rfl) (by kernel_rfl) (by kernel_rfl) (by kernel_rfl) (fun _ _ _ h => h) (Or.inl ⟨by rfl, fun v hv => by obtain ⟨u0, u1, u2, u3, u4, u5, u6, u7, u8, u9⟩ := hv; go_simp⟩) HS.out ?_
      try simp only [List.getElem_toArray, List.getElem_cons_zero, List.getElem_cons_succ, Act.put, List.setIfInBounds_toArray, List.set_cons_zero, List.set_cons_succ]
      refine AnyN.take (i := 40) (x := .agg #[(Value.string a0), (Value.string a1), (Value.string a2), (Value.bool b3), (Value.bool b4), (Value.bool b5), (Value.bool b6), (Value.bool b7), (Value.int IntKind.i64 p8), (Value.int IntKind.i64 p9), .slice none 0 0]) rfl (by kernel_rfl) (by kernel_rfl) (by kernel_rfl) rfl (fun _ _ _ h => h) (Or.inl ⟨by rfl, fun v => by go_simp⟩) ?_
      try simp only [List.getElem_toArray, List.getElem_cons_zero, List.getElem_cons_succ, Act.put, List.setIfInBounds_toArray, List.set_cons_zero, List.set_cons_succ]
      refine AnyN.all (rs := [41]) (by kernel_rfl) (by simp) (one_of ?_)
      refine op_via rfl rfl (fun K hK => ?_)
      try simp only [List.getElem_toArray, List.getElem_cons_zero, List.getElem_cons_succ]
      go_simp
      refine hK _ _ ⟨fun _ => HSS.out _ (Below.heap_alloc wr.drew _ g (show g < wr.heap.size from hso.lt)), ?_⟩
      clear hK K
      try simp only [List.getElem_toArray, List.getElem_cons_zero, List.getElem_cons_succ, Act.put, List.setIfInBounds_toArray, List.set_cons_zero, List.set_cons_succ]
      refine AnyN.all (rs := [42]) (by kernel_rfl) (by simp) (one_of ?_)
      refine op_via rfl rfl (fun K hK => ?_)
      try simp only [List.getElem_toArray, List.getElem_cons_zero, List.getElem_cons_succ]
      go_simp
      obtain ⟨W5, hW5⟩ : ∃ W5, W5 = (wr.alloc (Obj.cells #[Value.string a0, Value.string a1, Value.string a2, Value.bool b3, Value.bool b4, Value.bool b5, Value.bool b6, Value.bool b7, Value.int IntKind.i64 p8, Value.int IntKind.i64 p9, Value.slice none 0 0] 72)).drew := ⟨_, rfl⟩
      rw [← hW5]
      have hb5 : Below wr.heap.size wr W5 := by rw [hW5]; exact ⟨rfl, rfl, rfl, by simp, fun j hj => Below.heap_alloc wr _ j hj⟩
      have h5 : W5.heap[wr.heap.size]? = some (.cells #[Value.string a0, Value.string a1, Value.string a2, Value.bool b3, Value.bool b4, Value.bool b5, Value.bool b6, Value.bool b7, Value.int IntKind.i64 p8, Value.int IntKind.i64 p9, Value.slice none 0 0] 72 (0, 0)) := by rw [hW5]; exact heap_alloc_new wr _
      refine hK _ _ ⟨fun _ => HSS.out _ (hb5.block g hso.lt), ?_⟩
      clear hK K hW5
      try simp only [List.getElem_toArray, List.getElem_cons_zero, List.getElem_cons_succ, Act.put, List.setIfInBounds_toArray, List.set_cons_zero, List.set_cons_succ]
      refine AnyN.fin (by kernel_rfl) ?_ _
      obtain ⟨zb, hzb⟩ : ∃ zb, zb = wr.heap.size := ⟨_, rfl⟩
      have HZB := Lib.hid hzb
      rw [← hzb]
      rw [← hzb] at h5
      clear hzb
      have hc9 : W5.cell? ⟨g, 9, none⟩ = some (.slice ca nc cc) := obj_cell ((hb5.block g hso.lt).trans HBLK.out) rfl
      have n0 := obj_cell (i := 0) h5 rfl
      have n1 := obj_cell (i := 1) h5 rfl
      have n2 := obj_cell (i := 2) h5 rfl
      have n3 := obj_cell (i := 3) h5 rfl
      have n4 := obj_cell (i := 4) h5 rfl
      have n5 := obj_cell (i := 5) h5 rfl
      have n6 := obj_cell (i := 6) h5 rfl
      have n7 := obj_cell (i := 7) h5 rfl
      have n8 := obj_cell (i := 8) h5 rfl
      have n9 := obj_cell (i := 9) h5 rfl
      have n10 := obj_cell (i := 10) h5 rfl
      have HB5 := Lib.hid hb5
      have H5 := Lib.hid h5
      clear HS HSS h5 hb5 n0 n1 n2 n3 n4 n5 n6 n7 n8 n9 n10
      go_wp2_with fail
      have HW5 := Lib.hid (show W5.heap[zb]? = some (.cells #[Value.string a0, Value.string a1, Value.string a2, Value.bool b3, Value.bool b4, Value.bool b5, Value.bool b6, Value.bool b7, Value.int IntKind.i64 p8, Value.int IntKind.i64 p9, Value.slice none 0 0] 72 (0, 0)) from H5.out)
      have hzb5 : zb < W5.heap.size := lt_of_obj HW5.out
      go_loopw [10, 66] (fun _ i wx => ∃ (m2 : Nat) (zv : Value), m2 ≤ nc ∧ i = .int .i64 m2 ∧ wx.heap[zb]? = some (.cells #[Value.string a0, Value.string a1, Value.string a2, Value.bool b3, Value.bool b4, Value.bool b5, Value.bool b6, Value.bool b7, Value.int IntKind.i64 p8, Value.int IntKind.i64 p9, zv] 72 (0, 0)) ∧ wx.ownsRow W5.heap.size 66 2 zv m2 (crow (x.cons.take m2) (dvs.take m2)) ∧ W5.grownBy wx (some zb)) (fun _ i _ => nc - (intOf i).toNat)
      case atStart => exact ⟨0, .slice none 0 0, Nat.zero_le _, rfl, HW5.out, World.ownsRow_nil _ _ _ _, ⟨rfl, rfl, rfl, Nat.le_refl _, fun _ _ _ => rfl⟩⟩
      case round =>
        obtain ⟨m2, zv, hm2, rfl, hzo, hzr, hzg⟩ := hrel
        have HZO := Lib.hid hzo
        have HZR := Lib.hid hzr
        have HZG := Lib.hid hzg
        have n0 := obj_cell (i := 0) hzo rfl
        have n1 := obj_cell (i := 1) hzo rfl
        have n2 := obj_cell (i := 2) hzo rfl
        have n3 := obj_cell (i := 3) hzo rfl
        have n4 := obj_cell (i := 4) hzo rfl
        have n5 := obj_cell (i := 5) hzo rfl
        have n6 := obj_cell (i := 6) hzo rfl
        have n7 := obj_cell (i := 7) hzo rfl
        have n8 := obj_cell (i := 8) hzo rfl
        have n9 := obj_cell (i := 9) hzo rfl
        have n10 := obj_cell (i := 10) hzo rfl
        have fz := obj_free (i := 10) hzo
        by_cases hmn : m2 < nc
        · obtain ⟨c, hc⟩ : ∃ c, x.cons[m2]? = some c := ⟨x.cons[m2]'(by have := HNC.out; omega), List.getElem?_eq_getElem (by have := HNC.out; omega)⟩
          obtain ⟨kk, dv, hkk, hdv, hko, hdo⟩ := HDV.out m2 c hc
          have hold : Below w1.heap.size w1 W5 := HB12.out.trans ((HB.out.trans (HB5.out.mono HB.out.size)).mono HB12.out.size)
          have hz1 : w1.heap.size ≤ zb := by have := HB12.out.size; have := HB.out.size; have := HZB.out; omega
          obtain ⟨g3, cap3, hsl, hg3a, hg3b, hcells⟩ := own_some HR84.out (by omega)
          obtain ⟨rfl, _, rfl⟩ := slice_inj hsl
          have hkeep : ∀ k, k < w1.heap.size → wr.heap[k]? = w1.heap[k]? := fun k hk => (HZG.out.block k (by have := hold.size; omega) (fun e => by cases e; omega)).trans (hold.block k hk)
          have hcl : wr.cell? ⟨g3, m2, none⟩ = some (.pointer (some ⟨kk, 0, none⟩)) := (World.cell?_of_block (a := ⟨g3, m2, none⟩) (hkeep g3 hg3b)).trans (hcells m2 _ (by unfold ptrs; rw [List.getElem?_map, hkk]; rfl))
          have hkl := lt_of_obj hko
          have hkw := (hkeep kk hkl).trans hko
          have hncm : nc ≤ 9223372036854775807 := by
            obtain ⟨_, _, _, _, _, _, q1, q2, _, _⟩ := own_obj HR84.out (by omega)
            unfold maxLen at q2
            omega
          have hlen : m2 ≤ 1000001 := by have h1 := HCLEN.out x (List.mem_of_getElem? HX.out); have h2 := HNC.out; omega
          obtain ⟨za, zcap, rfl⟩ := own_form HZR.out
          obtain ⟨da, dcap, rfl⟩ := own_form hdo
          have HS3 := Lib.hid (show ∀ v : World, v.heap[zb]? = wr.heap[zb]? → v.heap[kk]? = wr.heap[kk]? → v.cell? ⟨zb, 10, none⟩ = some (.slice za m2 zcap) ∧ v.cell? ⟨kk, 0, none⟩ = some (.int .i16 c.id) ∧ v.cell? ⟨kk, 1, none⟩ = some (.slice da c.data.length dcap) from fun v h1 h2 => ⟨obj_cell (h1.trans HZO.out) rfl, obj_cell (h2.trans hkw) rfl, obj_cell (h2.trans hkw) rfl⟩)
          have HS := Lib.hid (HS3.out wr.drew rfl rfl)
          have hzw : zb < wr.heap.size := lt_of_obj HZO.out
          have hkz : kk < wr.heap.size := by omega
          have HKW := Lib.hid hkw
          have HC := Lib.hid hc
          have HDVI := Lib.hid hdv
          have hW5w : W5.heap.size ≤ wr.heap.size := HZG.out.size
          clear hc hkk hdv hko hdo hold hsl hcells hkeep hkw hg3a hg3b n0 n1 n2 n3 n4 n5 n6 n7 n8 n9 n10
          go_upto_region 10 with fail
          refine wp_region_any (by kernel_rfl) ?_
          refine AnyN.plain (S := fun v => v.cell? ⟨zb, 10, none⟩ = some (.slice za m2 zcap) ∧ v.cell? ⟨kk, 0, none⟩ = some (.int .i16 c.id) ∧ v.cell? ⟨kk, 1, none⟩ = some (.slice da c.data.length dcap)) (need := fun j => j == 1 || j == 4 || j == 5 || j == 6) _ _ _ _ ?_
          change AnyN _ _ _ _ _ _ _ _ _ (World.drew wr)
          refine AnyN.take (i := 0) (x := .pointer (some ⟨zb, 10, none⟩)) rfl (by kernel_rfl) (by kernel_rfl) (by kernel_rfl) rfl (fun _ _ _ h => h) (Or.inl ⟨by rfl, fun v => by go_simp⟩) ?_
          try simp only [List.getElem_toArray, List.getElem_cons_zero, Act.put, List.setIfInBounds_toArray, List.set_cons_zero, List.set_cons_succ]
          refine AnyN.take (i := 2) (x := .pointer (some ⟨kk, 0, none⟩)) rfl (by kernel_rfl) (by kernel_rfl) (by kernel_rfl) rfl (fun _ _ _ h => h) (Or.inl ⟨by rfl, fun v => by go_simp⟩) ?_
          try simp only [List.getElem_toArray, List.getElem_cons_zero, List.getElem_cons_succ, Act.put, List.setIfInBounds_toArray, List.set_cons_zero, List.set_cons_succ]
          refine AnyN.take (i := 3) (x := .pointer (some ⟨kk, 0, none⟩)) rfl (by kernel_rfl) (by kernel_rfl) (by kernel_rfl) rfl (fun _ _ _ h => h) (Or.inl ⟨by rfl, fun v => by go_simp⟩) ?_
          try simp only [List.getElem_toArray, List.getElem_cons_zero, List.getElem_cons_succ, Act.put, List.setIfInBounds_toArray, List.set_cons_zero, List.set_cons_succ]
          refine AnyN.load (i := 1) (x := .slice za m2 zcap) rfl (by kernel_rfl) (by kernel_rfl) (by kernel_rfl) (by kernel_rfl) (fun _ _ _ h => h) (Or.inl ⟨by rfl, fun v hv => by obtain ⟨v0, v1, v2⟩ := hv; go_simp⟩) HS.out ?_
          try simp only [List.getElem_toArray, List.getElem_cons_zero, List.getElem_cons_succ, Act.put, List.setIfInBounds_toArray, List.set_cons_zero, List.set_cons_succ]
          refine AnyN.load (i := 4) (x := .agg #[.int .i16 c.id, .slice da c.data.length dcap]) rfl (by kernel_rfl) (by kernel_rfl) (by kernel_rfl) (by kernel_rfl) (fun _ _ _ h => h) (Or.inl ⟨by rfl, fun v hv => by obtain ⟨v0, v1, v2⟩ := hv; go_simp⟩) HS.out ?_
          try simp only [List.getElem_toArray, List.getElem_cons_zero, List.getElem_cons_succ, Act.put, List.setIfInBounds_toArray, List.set_cons_zero, List.set_cons_succ]
          refine AnyN.all (rs := [5]) (by kernel_rfl) (by simp) (one_of ?_)
          refine op_via rfl rfl (fun K hK => ?_)
          try simp only [List.getElem_toArray, List.getElem_cons_zero, List.getElem_cons_succ]
          go_simp
          refine hK _ _ ⟨fun _ => HS3.out _ (Below.heap_alloc wr.drew _ zb hzw) (Below.heap_alloc wr.drew _ kk hkz), ?_⟩
          clear hK K
          try simp only [List.getElem_toArray, List.getElem_cons_zero, List.getElem_cons_succ, Act.put, List.setIfInBounds_toArray, List.set_cons_zero, List.set_cons_succ]
          refine AnyN.all (rs := [6]) (by kernel_rfl) (by simp) (one_of ?_)
          refine op_via rfl rfl (fun K hK => ?_)
          refine wp_append_lies _ (.tmp 71) (.tmp 75) 70 rfl W5.heap.size 66 i66 z66 2 32 Tryz.underlying70 hi66 hz66 hsz66 hby66 hzs66 (by decide) (.slice za m2 zcap) m2 (crow (x.cons.take m2) (dvs.take m2)) (by rfl) (own_below HZR.out (show Below wr.heap.size wr _ from ((Below.refl _ _).drew).alloc (Nat.le_refl _) _)) ⟨_, 0, none⟩ 1 1 [.int .i16 c.id, .slice da c.data.length dcap] (by rfl) rfl (by intro j u hu; rw [add_cell, Nat.zero_add]; simpa [cell_alloc, objCell] using hu) (by intro u hu; simp only [List.mem_cons, List.not_mem_nil, or_false] at hu; rcases hu with rfl | rfl <;> rfl) (by omega) (by simp [maxLen]; omega) (by omega) (by simp; omega) _ (by rfl) ?_
          intro g4 cap4 w4 hown4 hgrow4 hat4 hlt4
          have hz4 : w4.heap[zb]? = wr.heap[zb]? := (hgrow4.block zb (by simp; omega) (fun e => own_other HZR.out HZO.out (by decide) e.symm)).trans (Below.heap_alloc wr _ zb hzw)
          have hk4 : w4.heap[kk]? = wr.heap[kk]? := (hgrow4.block kk (by simp; omega) (fun e => by have := (HZR.out.lt kk e.symm).1; omega)).trans (Below.heap_alloc wr _ kk hkz)
          have hzo4 := hz4.trans HZO.out
          have z10 := obj_cell (i := 10) hzo4 rfl
          have zf10 := obj_free (i := 10) hzo4
          have HZ4 := Lib.hid hzo4
          have HOWN4 := Lib.hid hown4
          have HGR4 := Lib.hid hgrow4
          refine hK _ _ ⟨fun _ => HS3.out _ hz4 hk4, ?_⟩
          clear hK K hown4 hgrow4 hat4 hz4 hk4 hzo4
          try simp only [List.getElem_toArray, List.getElem_cons_zero, List.getElem_cons_succ, Act.put, List.setIfInBounds_toArray, List.set_cons_zero, List.set_cons_succ]
          refine AnyN.all (rs := [7]) (by kernel_rfl) (by simp) (one_of ?_)
          refine op_via rfl rfl (fun K hK => ?_)
          try simp only [List.getElem_toArray, List.getElem_cons_zero, List.getElem_cons_succ]
          go_simp
          refine hK _ _ ⟨fun h => absurd h (by decide), ?_⟩
          clear hK K
          try simp only [List.getElem_toArray, List.getElem_cons_zero, List.getElem_cons_succ, Act.put, List.setIfInBounds_toArray, List.set_cons_zero, List.set_cons_succ]
          refine AnyN.all (rs := [8]) (by kernel_rfl) (by simp) (one_of ?_)
          refine op_via rfl rfl (fun K hK => ?_)
          try simp only [List.getElem_toArray, List.getElem_cons_zero, List.getElem_cons_succ]
          go_simp
          refine hK _ _ ⟨fun h => absurd h (by decide), ?_⟩
          clear hK K
          try simp only [List.getElem_toArray, List.getElem_cons_zero, List.getElem_cons_succ, Act.put, List.setIfInBounds_toArray, List.set_cons_zero, List.set_cons_succ]
          refine AnyN.fin (by kernel_rfl) ?_ _
          have HG9 := Lib.hid (grown_stepi (i := 10) HZG.out (show Below wr.heap.size wr _ from ((Below.refl _ _).alloc (Nat.le_refl _) (.cells #[.int .i16 c.id, .slice da c.data.length dcap] 66)).drew) HGR4.out (fun j hj => (HZR.out.lt j hj).1) (.slice (some ⟨g4, 0, none⟩) (m2 + 1) cap4))
          have HR9 := Lib.hid (show (w4.setCell ⟨zb, 10, none⟩ (.slice (some ⟨g4, 0, none⟩) (m2 + 1) cap4)).ownsRow W5.heap.size 66 2 (.slice (some ⟨g4, 0, none⟩) (m2 + 1) cap4) (m2 + 1) (crow (x.cons.take (m2 + 1)) (dvs.take (m2 + 1))) by
            rw [crow_take HC.out HDVI.out]
            exact own_keep HOWN4.out fun j hj => Below.heap_setCell _ ⟨zb, 10, none⟩ _ _ (fun e => own_other HOWN4.out HZ4.out (by decide) (by rw [hj, e])))
          go_wp2_with fail
          go_roundw
          case rel => exact ⟨m2 + 1, .slice (some ⟨g4, 0, none⟩) (m2 + 1) cap4, by omega, by go_num, obj_set (i := 10) _ HZ4.out, HR9.out, HG9.out⟩
          case measure => simp [intOf]; omega
        · obtain rfl : m2 = nc := by omega
          have hzt : crow (x.cons.take m2) (dvs.take m2) = crow x.cons dvs := by rw [HNC.out, List.take_length, ← HDL.out, List.take_length]
          obtain ⟨za, zcap, rfl⟩ := own_form HZR.out
          have hbz := HB.out.size
          have hbz5 := HB5.out.size
          have hgz := HZG.out.size
          have HO5 := Lib.hid (own_below HO.out HB5.out)
          have HO6 := Lib.hid (HO5.out.kept HZG.out (by
            cases hv : (Value.slice oa k ocap).ownBlock with
            | none => exact .inl rfl
            | some g9 => right; intro e; cases e; have := (HO.out.lt _ hv).2; have := HZB.out; omega))
          have HZI := Lib.hid (show ∀ u ∈ [Value.string a0, Value.string a1, Value.string a2, Value.bool b3, Value.bool b4, Value.bool b5, Value.bool b6, Value.bool b7, Value.int IntKind.i64 p8, Value.int IntKind.i64 p9, Value.slice za m2 zcap], u.oneCell' = true by rw [← HZ.out]; exact zcellsV_one x _ rfl)
          have hlt79 := fun k' h => (HO6.out.lt (k := k') h).1
          have HLT := Lib.hid hlt79
          clear hlt79
          go_wp2_with (at_builtin; refine wpList_append_own _ rfl (.tmp 79) (.tmp 81) 67 rfl W2.heap.size 72 i72 z72 11 96 Tryz.underlying67 hi72 hz72 hsz72 hby72 hzs72 (by decide) _ _ _ (by rfl) (HO6.out.alloc _) ⟨wr.heap.size, 0, none⟩ 1 1 [Value.string a0, Value.string a1, Value.string a2, Value.bool b3, Value.bool b4, Value.bool b5, Value.bool b6, Value.bool b7, Value.int IntKind.i64 p8, Value.int IntKind.i64 p9, Value.slice za m2 zcap] (by rfl) rfl (by intro j y hy; rw [add_cell, Nat.zero_add]; simpa [cell_alloc, objCell] using hy) HZI.out (by simp [maxLen]; omega) (by omega) (by simp; omega) ?_; intro v' w2 hown' hgrow hnil')
          have hold : Below w1.heap.size w1 W5 := HB12.out.trans ((HB.out.trans (HB5.out.mono HB.out.size)).mono HB12.out.size)
          have hz1 : w1.heap.size ≤ zb := by have := HB12.out.size; have := HB.out.size; have := HZB.out; omega
          have hkeep : ∀ k, k < w1.heap.size → wr.heap[k]? = w1.heap[k]? := fun k hk => (HZG.out.block k (by have := hold.size; omega) (fun e => by cases e; omega)).trans (hold.block k hk)
          have hww5 : w.heap.size ≤ W5.heap.size := by have := HBW1.out.size; have := hold.size; omega
          have hbw5 : Below W2.heap.size W2 wr := (HB.out.trans (HB5.out.mono HB.out.size)).grown HZG.out (by omega) (fun k' h => by cases h; have := HZB.out; omega)
          have hrow2 : w2.ownsRow W2.heap.size 72 11 v' (k + 1) (zrowV (M.take (k + 1)) (zs ++ [.slice za m2 zcap])) := by rw [zrowV_take HX.out HZL.out, HZ.out]; exact hown'
          have hr72 : ∀ k', (Value.slice oa k ocap).ownBlock = some k' → ∃ cs e, (wr.alloc (Obj.cells #[Value.string a0, Value.string a1, Value.string a2, Value.bool b3, Value.bool b4, Value.bool b5, Value.bool b6, Value.bool b7, Value.int IntKind.i64 p8, Value.int IntKind.i64 p9, Value.slice za m2 zcap] 72)).heap[k']? = some (.cells cs e (0, 0)) ∧ e ≠ 66 ∧ e ≠ 9 := fun k' hk' => by
            obtain ⟨cs, hcs⟩ := own_blk (HO6.out.alloc (Obj.cells #[Value.string a0, Value.string a1, Value.string a2, Value.bool b3, Value.bool b4, Value.bool b5, Value.bool b6, Value.bool b7, Value.int IntKind.i64 p8, Value.int IntKind.i64 p9, Value.slice za m2 zcap] 72)) hk'
            exact ⟨cs, 72, hcs, by decide, by decide⟩
          have hcr2 : ∀ {zv : Value} {cons : List Con}, CRow wr w.heap.size zv cons → CRow w2 w.heap.size zv cons := fun h => (h.below ((Below.refl _ _).alloc (Nat.le_refl _) (Obj.cells #[Value.string a0, Value.string a1, Value.string a2, Value.bool b3, Value.bool b4, Value.bool b5, Value.bool b6, Value.bool b7, Value.int IntKind.i64 p8, Value.int IntKind.i64 p9, Value.slice za m2 zcap] 72))).grown hgrow hr72
          have hnew : CRow wr w.heap.size (.slice za m2 zcap) x.cons := by
            refine ⟨dvs, HDL.out, ?_, fun i c d hc hd => ?_⟩
            · have h1 := HZR.out
              rw [hzt] at h1
              rw [← HNC.out]
              exact own_base h1 hww5
            · obtain ⟨k2, d2, a1, a2, a3, a4⟩ := HDV.out i c hc
              obtain rfl : d2 = d := Option.some.inj (a2.symm.trans hd)
              exact own_base (own_keep a4 fun k' hk' => hkeep k' (a4.lt k' hk').2) hbase
          have hbw := (hbw5.alloc (by omega) (Obj.cells #[Value.string a0, Value.string a1, Value.string a2, Value.bool b3, Value.bool b4, Value.bool b5, Value.bool b6, Value.bool b7, Value.int IntKind.i64 p8, Value.int IntKind.i64 p9, Value.slice za m2 zcap] 72)).grown hgrow (by simp; omega) (fun k' h => HLT.out k' h)
          refine ⟨⟨k + 1, zs ++ [.slice za m2 zcap], by omega, by go_num, by rw [List.length_append, HZL.out]; rfl, hrow2, fun i y zv hy hz => ?_, hbw⟩, by simp [intOf]; omega⟩
          by_cases hi : i < zs.length
          · rw [List.getElem?_append_left hi] at hz
            exact hcr2 (((HCRS.out i y zv hy hz).below HB5.out).grown HZG.out (fun k' hk' => by cases hk'; exact ⟨_, 72, HW5.out, by decide, by decide⟩))
          · rw [List.getElem?_append_right (by omega)] at hz
            obtain ⟨hl, _⟩ := List.getElem?_eq_some_iff.1 hz
            have hi0 : i - zs.length = 0 := by simp at hl; omega
            rw [hi0] at hz
            obtain rfl : Value.slice za m2 zcap = zv := by simpa using hz
            have hik : i = k := by have := HZL.out; omega
            rw [hik, HX.out] at hy
            obtain rfl : x = y := Option.some.inj hy
            exact hcr2 hnew
    · obtain rfl : k = m := by omega
      have hq := (HB.out.cell (p := ⟨w1.heap.size, 1, none⟩) (cell_lt HQ1.out)).trans HQ1.out
      have htk : zrowV (M.take k) zs = zrowV M zs := by rw [HM.out, List.take_length]
      have HTK := Lib.hid htk
      clear htk
      go_upto_region 14 with fail
      go_quiet (fail)
      go_wp2_with fail
      have hdr : Below wr.heap.size wr (wr.drewN nq) := ⟨rfl, rfl, rfl, Nat.le_refl _, fun _ _ => rfl⟩
      go_ret2
      refine ⟨HB2.out.trans ((HB.out.trans (hdr.mono HB.out.size)).mono HB2.out.size), _, _, zs, rfl, by rw [HZL.out]; exact HM.out, ?_, ?_, fun i x zv hx hz => (HCRS.out i x zv hx hz).below hdr⟩
      · have h := HO.out
        rw [HTK.out] at h
        rw [← HM.out]
        exact own_base (own_below h hdr) (by have := HB2.out.size; have := HSW.out; omega)
      · exact own_below (own_below HOWN.out HB.out) hdr
end Go.Proofs.YtiebedcldbmlhaaGreatDoor
