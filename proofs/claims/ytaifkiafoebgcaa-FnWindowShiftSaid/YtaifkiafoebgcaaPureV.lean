/-
  What is proved: the three statements of the replay window, over the printed functions. Conditions: those of the statements' kinds.
-/
import Derived.Test.YtaifkiafoebgcaaV1
import Derived.Test.YtaifkiafoebgcaaV2
import Derived.Test.YtaifkiafoebgcaaV3
namespace Go.Proofs.Ytaifkiafoebgcaa.V
open Go.RowKit Go.Proofs.YtaifkiafoebgcaaW.PrintWords Go.Proofs.YtaifkiafoebgcaaW.PrintLast Go.Proofs.YtaifkiafoebgcaaW.PrintMore
set_option linter.unusedVariables false
set_option linter.unusedSimpArgs false

theorem vwrap (x : Int) (h0 : 0 ≤ x) (h1 : x ≤ 4611686018427387904) : wrap64 x = x := by unfold wrap64; omega
theorem vsucc (j : Nat) (h : j ≤ 4611686018427387904) : wrap64 ((j : Int) + 1) = ((j + 1 : Nat) : Int) := by unfold wrap64; omega
theorem uwrap (x : Int) (h0 : 0 ≤ x) (h1 : x < 18446744073709551616) : IntKind.u64.wrap x = x := by rw [IntKind.wrap_u64]; omega
theorem wf_u64 {x : Int} (h : (Lit.int .u64 x).wf = true) : 0 ≤ x ∧ x < 18446744073709551616 := by
  simp [Lit.wf, IntKind.min, IntKind.max, IntKind.signed, IntKind.bits] at h
  omega
theorem rd_nat (l : List Int) (i : Nat) (h : i < l.length) : rd l (i : Int) = l[i] := by simp [rd, h]
theorem rdOf_nat (l : List Bool) (i : Nat) (h : i < l.length) : rdOf false l (i : Int) = l[i] := by simp [rdOf, h]

theorem replayFrom_length (win msb most : Nat) (acc : List Bool) : ∀ (ns : List Nat) (i latest : Nat) (bs : List Nat), (replayFrom win msb most acc i ns latest bs).length = ns.length
  | [], _, _, _ => rfl
  | n :: rest, i, latest, bs => by
    unfold replayFrom
    split
    · split <;> simp [replayFrom_length win msb most acc rest]
    · simp [replayFrom_length win msb most acc rest]

theorem takes_all (N i : Nat) : takes (List.replicate N true) i = true := by
  unfold takes
  by_cases h : N ≤ i
  · rw [decide_eq_true (by simpa using h)]; rfl
  · have h2 : i < N := by omega
    simp [List.getD_eq_getElem?_getD, List.getElem?_replicate, h2]

/-! ### Rising -/
def rises : Int → List Int → List Int
  | _, [] => []
  | n, x :: xs => (n + (1 + Int.tmod x 1099511627776)) :: rises (n + (1 + Int.tmod x 1099511627776)) xs
theorem rises_length : ∀ (l : List Int) (n : Int), (rises n l).length = l.length
  | [], _ => rfl
  | x :: xs, n => by simp [rises, rises_length xs]
def Rising : Nat → List Nat → Prop
  | _, [] => True
  | a, n :: ns => a < n ∧ Rising n ns
theorem Rising.mono {a b : Nat} (h : a ≤ b) : ∀ {ns : List Nat}, Rising b ns → Rising a ns
  | [], _ => trivial
  | n :: ns, ⟨h1, h2⟩ => ⟨by omega, h2⟩
theorem tmod_range (x : Int) (h : 0 ≤ x) : 0 ≤ Int.tmod x 1099511627776 ∧ Int.tmod x 1099511627776 < 1099511627776 := by
  rw [Int.tmod_eq_emod_of_nonneg h]; omega
theorem rises_rising : ∀ (l : List Int) (n : Int), 0 ≤ n → (∀ x ∈ l, 0 ≤ x) → Rising n.toNat ((rises n l).map Int.toNat)
  | [], _, _, _ => trivial
  | x :: xs, n, hn, hx => by
    have h1 := tmod_range x (hx x (by simp))
    refine ⟨by omega, rises_rising xs _ (by omega) (fun y hy => hx y (by simp [hy]))⟩
theorem rises_range : ∀ (l : List Int) (n : Int), 0 ≤ n → (∀ x ∈ l, 0 ≤ x) → ∀ y ∈ rises n l, 0 ≤ y ∧ y ≤ n + l.length * 1099511627776
  | [], _, _, _, y, hy => by simp [rises] at hy
  | x :: xs, n, hn, hx, y, hy => by
    have h1 := tmod_range x (hx x (by simp))
    simp only [rises, List.mem_cons] at hy
    simp only [List.length_cons]
    rcases hy with rfl | hy
    · omega
    · have := rises_range xs _ (by omega) (fun y hy => hx y (by simp [hy])) y hy
      omega
theorem rising_replay (win msb most : Nat) (acc : List Bool) (hacc : ∀ i, takes acc i = true) : ∀ (ns : List Nat) (i latest : Nat) (bs : List Nat), Rising latest ns → replayFrom win msb most acc i ns latest bs = ns.map (fun n => decide (n ≤ most))
  | [], _, _, _, _ => rfl
  | n :: rest, i, latest, bs, ⟨h1, h2⟩ => by
    unfold replayFrom
    by_cases hm : n ≤ most
    · have hf : fresh win latest most bs n = true := by unfold fresh; rw [decide_eq_true hm, decide_eq_true h1]; rfl
      rw [if_pos hf, if_pos (hacc i), Nat.max_eq_right (by omega), rising_replay win msb most acc hacc rest _ _ _ h2]
      simp [hm]
    · have hf : fresh win latest most bs n = false := by unfold fresh; rw [decide_eq_false hm]; rfl
      rw [if_neg (by rw [hf]; simp), rising_replay win msb most acc hacc rest _ _ _ (h2.mono (by omega))]
      simp [hm]

theorem rising_l0 (x0 x1 : Int) (l : List Int) (hl : l.length ≤ 300) (hx : ∀ x ∈ l, 0 ≤ x ∧ x < 18446744073709551616) (d : Nat) : ∀ (i m : Nat) (acc : List Int) (n : Int), l.length = i + d → acc.length = i → 0 ≤ n → n ≤ i * 1099511627776 →
    laws_FnWindowRising.l0 (m + d + 1) x0 x1 acc (List.replicate i true) n l (l.length : Int) (i : Int) = ((impl_Replay.f x0 x1 (acc ++ rises n (l.drop i)) (List.replicate l.length true)).bind fun t => if (t.length : Int) = ((acc ++ rises n (l.drop i)).length : Int) then laws_FnWindowRising.l1 m x1 (acc ++ rises n (l.drop i)) t (t.length : Int) 0 else some false) := by
  induction d with
  | zero =>
    intro i m acc n h1 h2 h3 h4
    rw [Nat.add_zero]
    unfold laws_FnWindowRising.l0
    rw [if_neg (by omega), show i = l.length by omega, List.drop_length]
    unfold rises
    rw [List.append_nil]
  | succ d ih =>
    intro i m acc n h1 h2 h3 h4
    have hi : i < l.length := by omega
    have hxi := hx l[i] (List.getElem_mem hi)
    have ht := tmod_range l[i] hxi.1
    unfold laws_FnWindowRising.l0
    rw [if_pos (by omega), if_pos (by omega), if_pos (by omega), if_pos (by omega), if_pos (by rw [List.length_replicate]; omega), rd_nat l i hi, uwrap (1 + _) (by omega) (by omega), uwrap (n + _) (by omega) (by omega), ← List.replicate_succ', vsucc i (by omega)]
    rw [List.drop_eq_getElem_cons hi]
    have hr : rises n (l[i] :: l.drop (i + 1)) = (n + (1 + Int.tmod l[i] 1099511627776)) :: rises (n + (1 + Int.tmod l[i] 1099511627776)) (l.drop (i + 1)) := rfl
    rw [hr]
    have ih := ih (i + 1) m (acc ++ [n + (1 + Int.tmod l[i] 1099511627776)]) (n + (1 + Int.tmod l[i] 1099511627776)) (by omega) (by simp [h2]) (by omega) (by omega)
    rw [List.append_assoc] at ih
    exact ih

theorem rising_l1 (x1 : Int) (x7 : List Int) (t : List Bool) (hl : t.length ≤ 300) (h7 : x7.length = t.length) (ht : ∀ j (h : j < t.length) (h' : j < x7.length), t[j] = decide (x7[j] ≤ x1)) : ∀ (d i m : Nat), t.length = i + d → laws_FnWindowRising.l1 (m + d + 1) x1 x7 t (t.length : Int) (i : Int) = some true
  | 0, i, m, h1 => by
    simp only [laws_FnWindowRising.l1]
    rw [if_neg (by omega)]
  | d + 1, i, m, h1 => by
    simp only [laws_FnWindowRising.l1]
    rw [if_pos (by omega), if_pos (by omega), if_pos (by omega), if_pos (by omega), rdOf_nat t i (by omega), rd_nat x7 i (by omega), ht i (by omega) (by omega), if_neg (by simp), vsucc i (by omega)]
    exact rising_l1 x1 x7 t hl h7 ht d (i + 1) m (by omega)

theorem impl_some {window most : Int} {numbers : List Int} (accept : List Bool) (h1 : 1 ≤ window) (h2 : window ≤ 500) (h3 : 0 < most) (h4 : most < 281474976710656) (h5 : ∀ x ∈ numbers, 0 ≤ x ∧ x < 18446744073709551616) (h6 : numbers.length ≤ 1000) :
    impl_Replay.f window most numbers accept = some (replayFrom window.toNat (msbOf window.toNat) most.toNat accept 0 (numbers.map Int.toNat) 0 (zeros window.toNat)) := by
  unfold impl_Replay.f
  rw [if_pos ⟨h1, h2, h3, h4, h5, h6⟩]

theorem WindowRising (a0 : Int) (a1 : Int) (l2 : List Int) (w0 : (Lit.int .i64 a0).wf = true) (w1 : (Lit.int .u64 a1).wf = true) (hw : ∀ x ∈ l2, (Lit.int .u64 x).wf = true) : ∃ k, laws_FnWindowRising.f k a0 a1 l2 = some true := by
  refine ⟨(l2.length + 1) + l2.length + 1 + 1, ?_⟩
  have hj : ∀ k, laws_FnWindowRising.j0 (k + 1) a0 a1 l2 true = some true := fun k => rfl
  unfold laws_FnWindowRising.f
  split
  · rfl
  rename_i g0
  split
  · exact hj _
  rename_i g1
  split
  · exact hj _
  rename_i g2
  split
  · exact hj _
  split
  · exact hj _
  rename_i g3
  split
  · exact hj _
  rename_i g4
  by_cases hl : (l2.length : Int) > 300
  · rw [decide_eq_true hl]; exact hj _
  · rw [decide_eq_false hl]
    have hw1 := wf_u64 w1
    have hx : ∀ x ∈ l2, 0 ≤ x ∧ x < 18446744073709551616 := fun x hx => wf_u64 (hw x hx)
    have hr := rises_range l2 0 (by omega) (fun x hx' => (hx x hx').1)
    rw [uwrap a0 (by omega) (by omega)] at g3
    have h := rising_l0 a0 a1 l2 (by omega) hx l2.length 0 (l2.length + 1) [] 0 (by omega) rfl (by omega) (by omega)
    rw [List.drop_zero, List.nil_append] at h
    have hi := impl_some (window := a0) (most := a1) (numbers := rises 0 l2) (List.replicate l2.length true) (by omega) (by omega) (by omega) (by omega) (fun x hx' => by have := hr x hx'; omega) (by rw [rises_length]; omega)
    have hri : Rising 0 ((rises 0 l2).map Int.toNat) := rises_rising l2 0 (by omega) (fun x hx' => (hx x hx').1)
    rw [hi, Option.bind_some, rising_replay _ _ _ _ (takes_all _) _ _ _ _ hri, if_pos (by simp)] at h
    refine Eq.trans ?_ (h.trans ?_)
    · simp only [laws_FnWindowRising.j0]
      rw [if_neg (by simp)]
      rfl
    · have h2 := rising_l1 a1 (rises 0 l2) (((rises 0 l2).map Int.toNat).map (fun n => decide (n ≤ a1.toNat))) (by simp [rises_length]; omega) (by simp) (by
        intro j h1 h2
        have := hr (rises 0 l2)[j] (List.getElem_mem h2)
        simp only [List.getElem_map]
        rw [decide_eq_decide]
        omega) l2.length 0 0 (by simp [rises_length])
      rw [Nat.zero_add] at h2
      exact h2

/-! ### Untaken -/
def pick {α : Type} : List Bool → List α → List α
  | a :: ps, x :: xs => if a then x :: pick ps xs else pick ps xs
  | _, _ => []
theorem pick_nil {α : Type} (ps : List Bool) : pick ps ([] : List α) = [] := by cases ps <;> rfl
theorem pick_cons {α : Type} (a : Bool) (ps : List Bool) (x : α) (xs : List α) : pick (a :: ps) (x :: xs) = if a then x :: pick ps xs else pick ps xs := rfl
theorem pick_map {α β : Type} (f : α → β) : ∀ (ps : List Bool) (xs : List α), pick ps (xs.map f) = (pick ps xs).map f
  | [], _ => rfl
  | _ :: _, [] => rfl
  | a :: ps, x :: xs => by
    rw [List.map_cons, pick_cons, pick_cons, pick_map f ps xs]
    cases a <;> rfl
theorem pick_length {α : Type} : ∀ (ps : List Bool) (xs : List α), (pick ps xs).length ≤ xs.length
  | [], _ => by simp [pick]
  | _ :: _, [] => by simp [pick]
  | a :: ps, x :: xs => by
    rw [pick_cons]
    have := pick_length ps xs
    split <;> simp <;> omega
theorem pick_mem {α : Type} : ∀ (ps : List Bool) (xs : List α), ∀ y ∈ pick ps xs, y ∈ xs
  | [], _, y, h => by simp [pick] at h
  | _ :: _, [], y, h => by simp [pick] at h
  | a :: ps, x :: xs, y, h => by
    rw [pick_cons] at h
    cases a
    · exact List.mem_cons_of_mem _ (pick_mem ps xs y (by simpa using h))
    · simp at h
      rcases h with rfl | h
      · simp
      · exact List.mem_cons_of_mem _ (pick_mem ps xs y h)

theorem untaken_replay (win msb most : Nat) (acc yes : List Bool) (hy : ∀ i, takes yes i = true) (ns : List Nat) : ∀ (i j latest : Nat) (bs : List Nat), acc.length = i + ns.length →
    pick (acc.drop i) (replayFrom win msb most acc i ns latest bs) = replayFrom win msb most yes j (pick (acc.drop i) ns) latest bs := by
  induction ns with
  | nil =>
    intro i j latest bs h
    rw [pick_nil]
    exact pick_nil _
  | cons n rest ih =>
    intro i j latest bs h
    rw [List.length_cons] at h
    have hi : i < acc.length := by omega
    have ht : takes acc i = acc[i] := by
      unfold takes
      rw [decide_eq_false (by omega), Bool.false_or, List.getD_eq_getElem?_getD, List.getElem?_eq_getElem hi]
      rfl
    rw [List.drop_eq_getElem_cons hi, pick_cons]
    unfold replayFrom
    rw [ht]
    cases ha : acc[i]
    · by_cases hf : fresh win latest most bs n = true
      · rw [if_pos hf, if_neg (by simp), pick_cons, if_neg (by simp), if_neg (by simp)]
        have := ih (i + 1) j latest bs (by omega)
        rw [this]
        cases pick (acc.drop (i + 1)) rest <;> rfl
      · rw [if_neg hf, pick_cons, if_neg (by simp), if_neg (by simp)]
        have := ih (i + 1) j latest bs (by omega)
        rw [this]
        cases pick (acc.drop (i + 1)) rest <;> rfl
    · by_cases hf : fresh win latest most bs n = true
      · rw [if_pos hf, if_pos rfl, pick_cons, if_pos rfl, if_pos rfl]
        simp only []
        rw [if_pos hf, if_pos (hy j), ih (i + 1) (j + 1) _ _ (by omega)]
      · rw [if_neg hf, pick_cons, if_pos rfl, if_pos rfl]
        simp only []
        rw [if_neg hf, ih (i + 1) (j + 1) _ _ (by omega)]

theorem untaken_l0 (x0 x1 : Int) (l : List Int) (acc : List Bool) (hl : l.length ≤ 300) (ha : acc.length = l.length) (d : Nat) : ∀ (i m : Nat) (x9 : List Int), l.length = i + d → x9.length ≤ i →
    laws_FnWindowUntaken.l0 (m + d + 1) x0 x1 l acc x9 (List.replicate x9.length true) l (l.length : Int) (i : Int) = ((impl_Replay.f x0 x1 l acc).bind fun t136 => ((impl_Replay.f x0 x1 (x9 ++ pick (acc.drop i) (l.drop i)) (List.replicate (x9 ++ pick (acc.drop i) (l.drop i)).length true)).bind fun t139 => (if (t136.length : Int) = (l.length : Int) then (laws_FnWindowUntaken.j2 m acc t136 t139 ((t139.length : Int) != ((x9 ++ pick (acc.drop i) (l.drop i)).length : Int))) else (laws_FnWindowUntaken.j2 m acc t136 t139 true)))) := by
  induction d with
  | zero =>
    intro i m x9 h1 h2
    rw [Nat.add_zero]
    unfold laws_FnWindowUntaken.l0
    rw [if_neg (by omega), show i = l.length by omega, List.drop_length, pick_nil, List.append_nil]
  | succ d ih =>
    intro i m x9 h1 h2
    have hi : i < l.length := by omega
    unfold laws_FnWindowUntaken.l0
    rw [if_pos (by omega), if_pos (by omega), if_pos (by omega), if_pos (by omega), rdOf_nat acc i (by omega), rd_nat l i hi, vsucc i (by omega)]
    rw [List.drop_eq_getElem_cons hi, List.drop_eq_getElem_cons (show i < acc.length by omega), pick_cons]
    cases hb : acc[i]
    · rw [if_neg (by simp), if_neg (by simp)]
      exact ih (i + 1) m x9 (by omega) (by omega)
    · rw [if_pos rfl, if_pos rfl, if_pos (by omega), if_pos (by rw [List.length_replicate]; omega), ← List.replicate_succ']
      have ih := ih (i + 1) m (x9 ++ [l[i]]) (by omega) (by simp; omega)
      rw [List.append_assoc, List.length_append, List.length_singleton] at ih
      exact ih

theorem untaken_l1 (acc a b : List Bool) (hl : a.length ≤ 300) (hb : b.length ≤ 300) (ha : acc.length = a.length) (d : Nat) : ∀ (i k m : Nat), a.length = i + d → pick (acc.drop i) (a.drop i) = b.drop k → laws_FnWindowUntaken.l1 (m + d + 1) acc a b (k : Int) (a.length : Int) (i : Int) = some true := by
  induction d with
  | zero =>
    intro i k m h1 h2
    rw [Nat.add_zero]
    unfold laws_FnWindowUntaken.l1
    rw [if_neg (by omega)]
  | succ d ih =>
    intro i k m h1 h2
    have hi : i < a.length := by omega
    unfold laws_FnWindowUntaken.l1
    rw [if_pos (by omega), if_pos (by omega), if_pos (by omega), rdOf_nat acc i (by omega)]
    rw [List.drop_eq_getElem_cons hi, List.drop_eq_getElem_cons (show i < acc.length by omega), pick_cons] at h2
    cases hc : acc[i]
    · rw [hc, if_neg (by simp)] at h2
      rw [if_neg (by simp), vsucc i (by omega)]
      exact ih (i + 1) k m (by omega) h2
    · rw [hc, if_pos rfl] at h2
      have hk : k < b.length := by
        rcases Nat.lt_or_ge k b.length with h | h
        · exact h
        · rw [List.drop_of_length_le h] at h2
          exact absurd h2 (by simp)
      rw [List.drop_eq_getElem_cons hk] at h2
      injection h2 with h3 h4
      rw [if_pos rfl, if_pos (by omega), if_pos (by omega), if_pos (by omega), rdOf_nat a i hi, rdOf_nat b k hk, h3, if_neg (by simp), vsucc i (by omega), vsucc k (by omega)]
      exact ih (i + 1) (k + 1) m (by omega) h4

theorem windowed_cases (a0 a1 : Int) (l2 : List Int) (l3 : List Bool) (w1 : (Lit.int .u64 a1).wf = true) : laws_windowed.f a0 a1 l2 l3 = some false ∨ (laws_windowed.f a0 a1 l2 l3 = some true ∧ 1 ≤ a0 ∧ a0 ≤ 500 ∧ a0 ≤ a1 ∧ a1 < 281474976710656 ∧ l2.length = l3.length ∧ l2.length ≤ 300) := by
  unfold laws_windowed.f
  by_cases h1 : a0 ≥ 1
  case neg => rw [if_neg h1]; exact .inl rfl
  rw [if_pos h1]
  by_cases h2 : a0 ≤ 500
  case neg => rw [if_neg h2]; exact .inl rfl
  rw [if_pos h2]
  by_cases h3 : Int.tmod a0 64 ≤ 32
  case neg => rw [if_neg h3]; exact .inl rfl
  rw [if_pos h3, uwrap a0 (by omega) (by omega)]
  by_cases h4 : a1 ≥ a0
  case neg => rw [if_neg h4]; exact .inl rfl
  rw [if_pos h4]
  by_cases h5 : a1 < 281474976710656
  case neg => rw [if_neg h5]; exact .inl rfl
  rw [if_pos h5]
  by_cases h6 : (l2.length : Int) = (l3.length : Int)
  case neg => rw [if_neg h6]; exact .inl rfl
  rw [if_pos h6]
  by_cases h7 : (l2.length : Int) ≤ 300
  · rw [decide_eq_true h7]
    exact .inr ⟨rfl, h1, h2, h4, h5, by omega, by omega⟩
  · rw [decide_eq_false h7]; exact .inl rfl

theorem WindowUntaken (a0 : Int) (a1 : Int) (l2 : List Int) (l3 : List Bool) (w0 : (Lit.int .i64 a0).wf = true) (w1 : (Lit.int .u64 a1).wf = true) (hw : ∀ x ∈ l2, (Lit.int .u64 x).wf = true) : ∃ k, laws_FnWindowUntaken.f k a0 a1 l2 l3 = some true := by
  refine ⟨(l2.length + 1 + 1) + l2.length + 1 + 1, ?_⟩
  have hj : ∀ k, laws_FnWindowUntaken.j0 (k + 1) a0 a1 l2 l3 true = some true := fun k => rfl
  unfold laws_FnWindowUntaken.f
  split
  · exact hj _
  by_cases hl3 : (l3.length : Int) > 2147483647
  · rw [decide_eq_true hl3]; exact hj _
  rw [decide_eq_false hl3]
  have hj0 : ∀ k, laws_FnWindowUntaken.j0 (k + 1) a0 a1 l2 l3 false = ((laws_windowed.f a0 a1 l2 l3).bind fun t127 => (if t127 = true then (laws_FnWindowUntaken.l0 k a0 a1 l2 l3 ([] : List Int) ([] : List Bool) l2 (l2.length : Int) 0) else (some true))) := fun k => rfl
  refine (hj0 _).trans ?_
  rcases windowed_cases a0 a1 l2 l3 w1 with h | ⟨h, g1, g2, g3, g4, g5, g6⟩
  · rw [h]; rfl
  · rw [h, Option.bind_some, if_pos rfl]
    have hx : ∀ x ∈ l2, 0 ≤ x ∧ x < 18446744073709551616 := fun x hx => wf_u64 (hw x hx)
    have h0 := untaken_l0 a0 a1 l2 l3 g6 g5.symm l2.length 0 (l2.length + 1 + 1) [] (by omega) (by simp)
    rw [List.drop_zero, List.drop_zero, List.nil_append] at h0
    have hp := pick_length l3 l2
    have i1 := impl_some (window := a0) (most := a1) (numbers := l2) l3 (by omega) (by omega) (by omega) (by omega) hx (by omega)
    have i2 := impl_some (window := a0) (most := a1) (numbers := pick l3 l2) (List.replicate (pick l3 l2).length true) (by omega) (by omega) (by omega) (by omega) (fun x hx' => hx x (pick_mem _ _ _ hx')) (by omega)
    have hu := untaken_replay a0.toNat (msbOf a0.toNat) a1.toNat l3 (List.replicate (pick l3 l2).length true) (takes_all _) (l2.map Int.toNat) 0 0 0 (zeros a0.toNat) (by simp [g5])
    rw [List.drop_zero, pick_map] at hu
    rw [i1, Option.bind_some, i2, Option.bind_some, ← hu] at h0
    obtain ⟨A, hA⟩ : ∃ A, A = replayFrom a0.toNat (msbOf a0.toNat) a1.toNat l3 0 (l2.map Int.toNat) 0 (zeros a0.toNat) := ⟨_, rfl⟩
    have hAl : A.length = l2.length := by rw [hA, replayFrom_length, List.length_map]
    have hBl : (pick l3 A).length = (pick l3 l2).length := by rw [hA, hu, replayFrom_length, List.length_map]
    rw [← hA, if_pos (by omega), hBl, bne_self_eq_false] at h0
    refine Eq.trans ?_ (h0.trans ?_)
    · rfl
    · have hj2 : ∀ m, laws_FnWindowUntaken.j2 (m + 1) l3 A (pick l3 A) false = laws_FnWindowUntaken.l1 m l3 A (pick l3 A) 0 (A.length : Int) 0 := fun m => rfl
      refine (hj2 _).trans ?_
      have h1 := untaken_l1 l3 A (pick l3 A) (by omega) (by omega) (by omega) A.length 0 0 0 (by omega) (by rw [List.drop_zero, List.drop_zero, List.drop_zero])
      rw [hAl, Nat.zero_add] at h1
      rw [hAl]
      exact h1

/-! ### Shift -/
theorem shifted_zero (c n msb : Nat) : shifted (List.replicate c 0) n msb = List.replicate c 0 := by
  have hg : ∀ j, (List.replicate c 0).getD j 0 = 0 := by
    intro j
    rw [List.getD_eq_getElem?_getD, List.getElem?_replicate]
    split <;> rfl
  have hw : ∀ i, word (List.replicate c 0) n i = 0 := by
    intro i
    unfold word carry
    simp only [hg]
    simp
  have hm : mid (List.replicate c 0) n 0 = List.replicate c 0 := by
    unfold mid
    rw [List.eq_replicate_iff]
    refine ⟨by simp, ?_⟩
    intro b hb
    obtain ⟨i, _, rfl⟩ := List.mem_map.1 hb
    rw [if_neg (by omega)]
    exact hw i
  unfold shifted
  rw [hm, hw]
  rw [List.eq_replicate_iff]
  refine ⟨by simp, ?_⟩
  intro b hb
  rcases List.mem_or_eq_of_mem_set hb with h | h
  · exact List.eq_of_mem_replicate h
  · rw [h]; exact Nat.zero_and _
theorem bitAt_zero (c win d : Nat) : bitAt (List.replicate c 0) win d = false := by
  unfold bitAt
  have hg : (List.replicate c 0).getD (d / 64) 0 = 0 := by
    rw [List.getD_eq_getElem?_getD, List.getElem?_replicate]
    split <;> rfl
  rw [hg, Nat.zero_testBit, Bool.and_false]
theorem fresh_zero (win most c n : Nat) (hw : 0 < win) (h : n ≤ most) : fresh win 0 most (List.replicate c 0) n = true := by
  unfold fresh
  rw [decide_eq_true h, bitAt_zero, decide_eq_true (show 0 < win + n by omega)]
  simp
theorem taken_zero (win msb most c n : Nat) : taken win msb 0 most (List.replicate c 0) n = setAt (List.replicate c 0) win 0 := by
  unfold taken
  split
  · rw [shifted_zero]
  · rw [Nat.zero_sub, Nat.zero_mod]
theorem fresh_shift (win latest most : Nat) (bs : List Nat) (n b : Nat) (h : n + b ≤ most) : fresh win (latest + b) most bs (n + b) = fresh win latest most bs n := by
  unfold fresh
  rw [decide_eq_true h, decide_eq_true (show n ≤ most by omega), show latest + b - (n + b) = latest - n by omega]
  congr 2
  · rw [decide_eq_decide]; omega
  · congr 1
    rw [decide_eq_decide]; omega
theorem taken_shift (win msb latest most : Nat) (bs : List Nat) (n b : Nat) : taken win msb (latest + b) most bs (n + b) = taken win msb latest most bs n := by
  unfold taken
  rw [show latest + b - (n + b) = latest - n by omega, show n + b - (latest + b) = n - latest by omega]
  by_cases h : latest < n
  · rw [if_pos h, if_pos (by omega)]
  · rw [if_neg h, if_neg (by omega)]

theorem shift_replay (win msb most b : Nat) (hw : 0 < win) (acc : List Bool) (ns : List Nat) : ∀ (i l1 l2 : Nat) (bs : List Nat), (∀ n ∈ ns, n + b ≤ most) → (l2 = l1 + b ∨ (l1 = 0 ∧ l2 = 0 ∧ ∃ c, bs = List.replicate c 0)) →
    replayFrom win msb most acc i ns l1 bs = replayFrom win msb most acc i (ns.map (· + b)) l2 bs := by
  induction ns with
  | nil => intro i l1 l2 bs h1 h2; rfl
  | cons n rest ih =>
    intro i l1 l2 bs h1 h2
    have hn : n + b ≤ most := h1 n (by simp)
    have hr : ∀ m ∈ rest, m + b ≤ most := fun m hm => h1 m (by simp [hm])
    rw [List.map_cons]
    unfold replayFrom
    rcases h2 with rfl | ⟨rfl, rfl, c, rfl⟩
    · rw [fresh_shift win l1 most bs n b hn, taken_shift]
      rw [ih (i + 1) (max l1 n) (max (l1 + b) (n + b)) _ hr (.inl (by omega)), ih (i + 1) l1 (l1 + b) bs hr (.inl rfl)]
    · rw [fresh_zero win most c n hw (by omega), fresh_zero win most c (n + b) hw hn, taken_zero, taken_zero, if_pos rfl, if_pos rfl, Nat.zero_max, Nat.zero_max]
      rw [ih (i + 1) n (n + b) _ hr (.inl rfl), ih (i + 1) 0 0 _ hr (.inr ⟨rfl, rfl, c, rfl⟩)]

theorem shift_l0 (x0 x3 : Int) (l : List Int) (acc : List Bool) (h3 : 0 ≤ x3) (h4 : x3 ≤ 70368744177663) (hl : l.length ≤ 300) (hx : ∀ x ∈ l, 0 ≤ x) (K : Nat) (d : Nat) : ∀ (i m : Nat) (x10 : List Int), l.length = i + d → x10.length = i →
    laws_FnWindowShift.l0 (m + d + 1) x0 l acc x3 281474976710655 x10 l (l.length : Int) (i : Int) = some true ∨
    ((∀ x ∈ l.drop i, x ≤ 70368744177663) ∧ laws_FnWindowShift.l0 (m + d + 1) x0 l acc x3 281474976710655 x10 l (l.length : Int) (i : Int) = laws_FnWindowShift.l0 (m + 1) x0 l acc x3 281474976710655 (x10 ++ (l.drop i).map (· + x3)) l (l.length : Int) (l.length : Int)) := by
  induction d with
  | zero =>
    intro i m x10 h1 h2
    have hi : i = l.length := by omega
    subst hi
    right
    rw [List.drop_length]
    refine ⟨by simp, ?_⟩
    rw [List.map_nil, List.append_nil, Nat.add_zero]
  | succ d ih =>
    intro i m x10 h1 h2
    have hi : i < l.length := by omega
    have hxi := hx l[i] (List.getElem_mem hi)
    have hu : laws_FnWindowShift.l0 (m + (d + 1) + 1) x0 l acc x3 281474976710655 x10 l (l.length : Int) (i : Int) = if l[i] > 70368744177663 then some true else laws_FnWindowShift.l0 (m + d + 1) x0 l acc x3 281474976710655 (x10 ++ [IntKind.u64.wrap (l[i] + x3)]) l (l.length : Int) ((i + 1 : Nat) : Int) := by
      rw [laws_FnWindowShift.l0]
      rw [if_pos (by omega), if_pos (by omega), if_pos (by omega), rd_nat l i hi, if_pos (show x10.length < 17592186044416 by omega), vsucc i (by omega)]
      rfl
    rw [hu]
    by_cases hc : l[i] > 70368744177663
    · rw [if_pos hc]; exact .inl rfl
    · rw [if_neg hc, uwrap (l[i] + x3) (by omega) (by omega), List.drop_eq_getElem_cons hi, List.map_cons]
      rcases ih (i + 1) m (x10 ++ [l[i] + x3]) (by omega) (by simp [h2]) with h | ⟨h, h'⟩
      · exact .inl h
      · right
        refine ⟨?_, ?_⟩
        · intro x hx'
          rcases List.mem_cons.1 hx' with rfl | hx'
          · omega
          · exact h x hx'
        · rw [h', List.append_assoc]
          rfl

theorem shift_l1 (a : List Bool) (hl : a.length ≤ 300) (d : Nat) : ∀ (i m : Nat), a.length = i + d → laws_FnWindowShift.l1 (m + d + 1) a a (a.length : Int) (i : Int) = some true := by
  induction d with
  | zero =>
    intro i m h1
    rw [Nat.add_zero]
    unfold laws_FnWindowShift.l1
    rw [if_neg (by omega)]
  | succ d ih =>
    intro i m h1
    unfold laws_FnWindowShift.l1
    rw [if_pos (by omega), if_pos (by omega), if_pos (by omega), if_pos (by omega), if_neg (by simp), vsucc i (by omega)]
    exact ih (i + 1) m (by omega)

theorem WindowShift (a0 : Int) (l1 : List Int) (l2 : List Bool) (a3 : Int) (w0 : (Lit.int .i64 a0).wf = true) (hw : ∀ x ∈ l1, (Lit.int .u64 x).wf = true) (w3 : (Lit.int .u64 a3).wf = true) : ∃ k, laws_FnWindowShift.f k a0 l1 l2 a3 = some true := by
  refine ⟨(l1.length + 1 + 1) + l1.length + 1 + 1 + 1, ?_⟩
  have hj : ∀ k, laws_FnWindowShift.j0 (k + 1) a0 l1 l2 a3 true = some true := fun k => rfl
  unfold laws_FnWindowShift.f
  split
  · exact hj _
  by_cases hl3 : (l2.length : Int) > 2147483647
  · rw [decide_eq_true hl3]; exact hj _
  rw [decide_eq_false hl3]
  have hj0 : ∀ k, laws_FnWindowShift.j0 (k + 1) a0 l1 l2 a3 false = ((laws_windowed.f a0 281474976710655 l1 l2).bind fun t113 => (if t113 = true then (laws_FnWindowShift.j1 k a0 l1 l2 a3 281474976710655 (decide (a3 > ((281474976710655 : Int) / 4)))) else (laws_FnWindowShift.j1 k a0 l1 l2 a3 281474976710655 true))) := fun k => rfl
  have hj1 : ∀ k, laws_FnWindowShift.j1 (k + 1) a0 l1 l2 a3 281474976710655 true = some true := fun k => rfl
  have hj1' : ∀ k, laws_FnWindowShift.j1 (k + 1) a0 l1 l2 a3 281474976710655 false = laws_FnWindowShift.l0 k a0 l1 l2 a3 281474976710655 ([] : List Int) l1 (l1.length : Int) 0 := fun k => rfl
  refine (hj0 _).trans ?_
  have h3 := wf_u64 w3
  rcases windowed_cases a0 281474976710655 l1 l2 (by decide) with h | ⟨h, g1, g2, g3, g4, g5, g6⟩
  · rw [h, Option.bind_some, if_neg (by simp)]; exact hj1 _
  · rw [h, Option.bind_some, if_pos rfl]
    by_cases hb : a3 > (281474976710655 : Int) / 4
    · rw [decide_eq_true hb]; exact hj1 _
    rw [decide_eq_false hb]
    refine (hj1' _).trans ?_
    have hx : ∀ x ∈ l1, 0 ≤ x ∧ x < 18446744073709551616 := fun x hx => wf_u64 (hw x hx)
    rcases shift_l0 a0 a3 l1 l2 h3.1 (by omega) g6 (fun x hx' => (hx x hx').1) 0 l1.length 0 (l1.length + 1 + 1) [] (by omega) rfl with h0 | ⟨hm, h0⟩
    · exact h0
    · refine h0.trans ?_
      rw [List.drop_zero] at hm ⊢
      rw [List.nil_append]
      have i1 := impl_some (window := a0) (most := 281474976710655) (numbers := l1) l2 (by omega) (by omega) (by omega) (by omega) hx (by omega)
      have i2 := impl_some (window := a0) (most := 281474976710655) (numbers := l1.map (· + a3)) l2 (by omega) (by omega) (by omega) (by omega) (fun x hx' => by
        obtain ⟨y, hy, rfl⟩ := List.mem_map.1 hx'
        have := hx y hy
        have := hm y hy
        omega) (by rw [List.length_map]; omega)
      have hmap : (l1.map (· + a3)).map Int.toNat = (l1.map Int.toNat).map (· + a3.toNat) := by
        rw [List.map_map, List.map_map]
        apply List.map_congr_left
        intro y hy
        have := hx y hy
        simp only [Function.comp]
        omega
      have hmost : (281474976710655 : Int).toNat = 281474976710655 := rfl
      have hs := shift_replay a0.toNat (msbOf a0.toNat) 281474976710655 a3.toNat (by omega) l2 (l1.map Int.toNat) 0 0 0 (zeros a0.toNat) (fun n hn => by
        obtain ⟨y, hy, rfl⟩ := List.mem_map.1 hn
        have := hx y hy
        have := hm y hy
        omega) (.inr ⟨rfl, rfl, _, rfl⟩)
      rw [hmap, hmost, ← hs] at i2
      rw [hmost] at i1
      obtain ⟨A, hA⟩ : ∃ A, A = replayFrom a0.toNat (msbOf a0.toNat) 281474976710655 l2 0 (l1.map Int.toNat) 0 (zeros a0.toNat) := ⟨_, rfl⟩
      have hAl : A.length = l1.length := by rw [hA, replayFrom_length, List.length_map]
      have hhead : ∀ (h : 0 < A.length), A[0] = true := by
        intro h
        cases hl : l1 with
        | nil => rw [hl, List.length_nil] at hAl; omega
        | cons y ys =>
          have hy := hx y (by rw [hl]; simp)
          have hy2 := hm y (by rw [hl]; simp)
          have hf : fresh a0.toNat 0 281474976710655 (zeros a0.toNat) y.toNat = true := fresh_zero _ _ _ _ (by omega) (by omega)
          have : A[0]? = some true := by
            rw [hA, hl, List.map_cons]
            unfold replayFrom
            rw [if_pos hf]
            split <;> rfl
          rw [List.getElem?_eq_getElem h] at this
          exact Option.some.inj this
      have hlast : ∀ m, laws_FnWindowShift.j3 (m + 1) A A false = laws_FnWindowShift.l1 m A A (A.length : Int) 0 := fun m => rfl
      have h1 := shift_l1 A (by omega) A.length 0 0 (by omega)
      have hend : laws_FnWindowShift.j3 (l1.length + 1 + 1) A A false = some true := by
        refine (hlast _).trans ?_
        rw [Nat.zero_add, hAl] at h1
        rw [hAl]
        exact h1
      rw [laws_FnWindowShift.l0, if_neg (by omega), i1, Option.bind_some, i2, Option.bind_some, ← hA, if_pos (by omega), if_pos (by omega)]
      by_cases hl0 : (l1.length : Int) > 0
      · rw [if_pos hl0, if_pos (by omega), show rdOf false A 0 = true from by
          have := rdOf_nat A 0 (by omega)
          rw [hhead (by omega)] at this
          exact this]
        exact hend
      · rw [if_neg hl0]
        exact hend
end Go.Proofs.Ytaifkiafoebgcaa.V
