/-
  What is proved: the pure statements of the two laws on packets that are put together. Conditions: none beyond the law's own.
-/
import Derived.Test.YtaifkiafoebgcaaP2
namespace Go.Proofs.Ytaifkiafoebgcaa.P
open Go.RowKit Go.Proofs.YtaifkiafoebgcaaW.PrintWords
set_option linter.unusedVariables false

theorem wrap_id (x : Int) (h0 : -4611686018427387904 ≤ x) (h1 : x ≤ 9223372036854775807) : wrap64 x = x := by unfold wrap64; omega
theorem wrap_succ (j : Nat) (h : j ≤ 4611686018427387904) : wrap64 ((j : Int) + 1) = ((j + 1 : Nat) : Int) := by unfold wrap64; omega

theorem nums_bytes (s : ByteArray) : strOfNums (bytesOf s) = s := by
  unfold strOfNums bytesOf
  rw [List.map_map]
  have h : (s.data.toList.map ((fun n : Int => UInt8.ofNat n.toNat) ∘ fun b : UInt8 => (b.toNat : Int))) = s.data.toList := by
    conv => rhs; rw [← List.map_id s.data.toList]
    apply List.map_congr_left
    intro b _
    simp
  rw [h]
theorem map_nums_bytes (l : List ByteArray) : (l.map bytesOf).map strOfNums = l := by
  rw [List.map_map]
  conv => rhs; rw [← List.map_id l]
  apply List.map_congr_left
  intro b _
  exact nums_bytes b
theorem bytesOf_append (a b : ByteArray) : bytesOf (a ++ b) = bytesOf a ++ bytesOf b := by
  unfold bytesOf
  rw [ByteArray.data_append, Array.toList_append, List.map_append]

/-- The same on strings. -/
def compB (n : Int) : List ByteArray → ByteArray → List ByteArray → List ByteArray
  | [], cur, out => out ++ [cur]
  | p :: rest, cur, out => if 0 < cur.size ∧ n ≤ (cur.size : Int) + p.size then compB n rest p (out ++ [cur]) else compB n rest (cur ++ p) out

theorem compI_B (n : Int) : ∀ (l : List ByteArray) (cur : ByteArray) (out : List ByteArray), compI n (l.map bytesOf) (bytesOf cur) (out.map bytesOf) = (compB n l cur out).map bytesOf
  | [], cur, out => by simp [compI, compB]
  | p :: rest, cur, out => by
    rw [List.map_cons]
    unfold compI compB
    simp only [bytesOf_length]
    split
    · have h := compI_B n rest p (out ++ [cur])
      rwa [List.map_append] at h
    · have h := compI_B n rest (cur ++ p) out
      rwa [bytesOf_append] at h

theorem empty_append (p : ByteArray) : ByteArray.empty ++ p = p := by
  simp

theorem packed_cons (a : ByteArray) (rest : List ByteArray) (n : Int) : packed (a :: rest) n = (compB n rest a []).map bytesOf := by
  rw [← compI_B]
  unfold packed packedI
  rw [List.length_map, List.map_cons]
  cases rest with
  | nil => simp [compI]
  | cons b r =>
    rw [if_neg (by simp)]
    rw [compI, if_neg (by simp)]
    rfl

def sumSize (l : List ByteArray) : Nat := (l.map ByteArray.size).sum
theorem total_map (l : List ByteArray) : total (l.map bytesOf) = sumSize l := by
  unfold total sumSize
  rw [List.map_map]
  congr 1
  apply List.map_congr_left
  intro b _
  exact bytesOf_length b

theorem compact_f (a : ByteArray) (rest : List ByteArray) (n : Int) (h : (a :: rest).length + sumSize (a :: rest) ≤ 1048576) : impl_Compact.f (a :: rest) n = some (compB n rest a []) := by
  unfold impl_Compact.f
  rw [total_map, if_pos h, packed_cons, map_nums_bytes]

/-! ### The printed functions -/
theorem zz_some : ∀ (d k : Nat) (l : List ByteArray) (j : Nat), d = l.length - j → d < k → l.length ≤ 2147483647 → j ≤ l.length →
    ∃ b, laws_zzFits2.l0 k l (l.length : Int) (j : Int) = some b := by
  intro d
  induction d with
  | zero =>
    intro k l j hd hk hl hj
    obtain ⟨k, rfl⟩ : ∃ m, k = m + 1 := ⟨k - 1, by omega⟩
    simp only [laws_zzFits2.l0]
    rw [if_neg (by omega)]
    exact ⟨_, rfl⟩
  | succ d ih =>
    intro k l j hd hk hl hj
    obtain ⟨k, rfl⟩ : ∃ m, k = m + 1 := ⟨k - 1, by omega⟩
    simp only [laws_zzFits2.l0]
    rw [if_pos (by omega), if_pos (by omega), if_pos (by omega), wrap_succ j (by omega)]
    split
    · exact ⟨_, rfl⟩
    · exact ih k l (j + 1) (by omega) (by omega) hl (by omega)

/-- What zzFits2 says of the sizes. -/
theorem zz_true : ∀ (d k : Nat) (l : List ByteArray) (j : Nat), d = l.length - j → d < k → l.length ≤ 2147483647 → j ≤ l.length →
    laws_zzFits2.l0 k l (l.length : Int) (j : Int) = some true → ∀ s ∈ l.drop j, s.size ≤ 2147483647 := by
  intro d
  induction d with
  | zero =>
    intro k l j hd hk hl hj _ s hs
    rw [List.drop_eq_nil_of_le (by omega)] at hs
    cases hs
  | succ d ih =>
    intro k l j hd hk hl hj h s hs
    obtain ⟨k, rfl⟩ : ∃ m, k = m + 1 := ⟨k - 1, by omega⟩
    simp only [laws_zzFits2.l0] at h
    rw [if_pos (by omega), if_pos (by omega), if_pos (by omega), wrap_succ j (by omega)] at h
    have hlt : j < l.length := by omega
    have hrd : rdOf ByteArray.empty l (j : Int) = l[j] := by simp [rdOf, List.getD_eq_getElem?_getD, List.getElem?_eq_getElem hlt]
    rw [hrd] at h
    by_cases hc : ((l[j]).size : Int) > 2147483647
    · rw [if_pos hc] at h
      cases h
    · rw [if_neg hc] at h
      rw [List.drop_eq_getElem_cons hlt] at hs
      rcases List.mem_cons.1 hs with rfl | hs
      · omega
      · exact ih k l (j + 1) (by omega) (by omega) hl (by omega) h s hs

theorem sumSize_cons (a : ByteArray) (l : List ByteArray) : sumSize (a :: l) = a.size + sumSize l := by simp [sumSize]
theorem sumSize_le {l : List ByteArray} (h : ∀ s ∈ l, s.size ≤ 2147483647) : sumSize l ≤ l.length * 2147483647 := by
  induction l with
  | nil => simp [sumSize]
  | cons a r ih =>
    rw [sumSize_cons, List.length_cons]
    have h1 := h a List.mem_cons_self
    have h2 := ih fun s hs => h s (List.mem_cons_of_mem _ hs)
    omega

theorem few_some : ∀ (d k : Nat) (l : List ByteArray) (j : Nat) (x : Int), d = l.length - j → d < k → l.length ≤ 2147483647 → (∀ s ∈ l, s.size ≤ 2147483647) → j ≤ l.length → 0 ≤ x → x + sumSize (l.drop j) ≤ 4611686018427387904 * 2 - 1 →
    laws_few.l0 k x l (l.length : Int) (j : Int) = some (decide (x + sumSize (l.drop j) < 2000)) := by
  intro d
  induction d with
  | zero =>
    intro k l j x hd hk hl hs hj hx hb
    obtain ⟨k, rfl⟩ : ∃ m, k = m + 1 := ⟨k - 1, by omega⟩
    simp only [laws_few.l0]
    rw [if_neg (by omega), List.drop_eq_nil_of_le (by omega)]
    simp [sumSize]
  | succ d ih =>
    intro k l j x hd hk hl hs hj hx hb
    obtain ⟨k, rfl⟩ : ∃ m, k = m + 1 := ⟨k - 1, by omega⟩
    have hlt : j < l.length := by omega
    have hrd : rdOf ByteArray.empty l (j : Int) = l[j] := by simp [rdOf, List.getD_eq_getElem?_getD, List.getElem?_eq_getElem hlt]
    rw [List.drop_eq_getElem_cons hlt, sumSize_cons] at hb ⊢
    simp only [laws_few.l0]
    rw [if_pos (by omega), if_pos (by omega), if_pos (by omega), wrap_succ j (by omega), hrd, wrap_id (x + (l[j].size : Int)) (by omega) (by omega), ih k l (j + 1) _ (by omega) (by omega) hl hs (by omega) (by omega) (by omega)]
    congr 2
    apply propext
    constructor <;> intro h <;> omega

theorem texts_same : ∀ (d k : Nat) (l : List ByteArray) (j : Nat), d = l.length - j → d < k → l.length ≤ 4611686018427387904 → j ≤ l.length →
    laws_texts.l0 k l l (l.length : Int) (j : Int) = some true := by
  intro d
  induction d with
  | zero =>
    intro k l j hd hk hl hj
    obtain ⟨k, rfl⟩ : ∃ m, k = m + 1 := ⟨k - 1, by omega⟩
    simp only [laws_texts.l0]
    rw [if_neg (by omega)]
  | succ d ih =>
    intro k l j hd hk hl hj
    obtain ⟨k, rfl⟩ : ∃ m, k = m + 1 := ⟨k - 1, by omega⟩
    simp only [laws_texts.l0]
    rw [if_pos (by omega), if_pos (by omega), if_pos (by omega), if_pos (by omega), if_pos trivial, wrap_succ j (by omega)]
    exact ih k l (j + 1) (by omega) (by omega) hl (by omega)
theorem texts_f (l : List ByteArray) (k : Nat) (hk : l.length < k) (hl : l.length ≤ 4611686018427387904) : laws_texts.f k l l = some true := by
  unfold laws_texts.f
  rw [if_pos rfl]
  exact texts_same l.length k l 0 (by omega) hk hl (by omega)

theorem toList_nil {s : ByteArray} (h : s.toList = []) : s.size = 0 := by
  have h2 : s.toList.length = s.size := by rw [_root_.Go.ByteArray.toList_eq]; exact data_length s
  rw [← h2, h]
  rfl
theorem toList_ne {s : ByteArray} (h : ¬ s.toList = ([] : List UInt8)) : 0 < s.size := by
  rcases Nat.eq_zero_or_pos s.size with h0 | h0
  · exfalso
    apply h
    have h2 : s.toList.length = s.size := by rw [_root_.Go.ByteArray.toList_eq]; exact data_length s
    exact List.eq_nil_of_length_eq_zero (by omega)
  · exact h0

theorem spec_some (n : Int) (l : List ByteArray) (hl : l.length ≤ 2000) (hs : sumSize l ≤ 2000) : ∀ (d k j : Nat) (done : List ByteArray) (cur : ByteArray), d = l.length - j → d < k → j ≤ l.length → done.length + 1 ≤ j → cur.size + sumSize (l.drop j) ≤ 4000 →
    spec_Compact.l0 k l n (done ++ [cur]) (j : Int) = some (compB n (l.drop j) cur done) := by
  intro d
  induction d with
  | zero =>
    intro k j done cur hd hk hj h1 h2
    obtain ⟨k, rfl⟩ : ∃ m, k = m + 1 := ⟨k - 1, by omega⟩
    simp only [spec_Compact.l0]
    rw [if_neg (by omega), List.drop_eq_nil_of_le (by omega)]
    rfl
  | succ d ih =>
    intro k j done cur hd hk hj h1 h2
    obtain ⟨k, rfl⟩ : ∃ m, k = m + 1 := ⟨k - 1, by omega⟩
    have hlt : j < l.length := by omega
    have hrd : rdOf ByteArray.empty l (j : Int) = l[j] := by simp [rdOf, List.getD_eq_getElem?_getD, List.getElem?_eq_getElem hlt]
    have hrc : rdOf ByteArray.empty (done ++ [cur]) (done.length : Int) = cur := by simp [rdOf, List.getD_eq_getElem?_getD]
    have hset : ∀ x : ByteArray, (done ++ [cur]).set (done.length : Int).toNat x = done ++ [x] := by intro x; simp
    rw [List.drop_eq_getElem_cons hlt, sumSize_cons] at h2
    rw [List.drop_eq_getElem_cons hlt]
    have b1 : j ≤ 4611686018427387904 := by omega
    have b2 : -4611686018427387904 ≤ (cur.size : Int) + (l[j].size : Int) := by omega
    have b3 : (cur.size : Int) + (l[j].size : Int) ≤ 9223372036854775807 := by omega
    have b4 : (done.length : Int) ≤ 9223372036854775807 := by omega
    have c1 : (j : Int) < (l.length : Int) := by omega
    have c2 : (0 : Int) ≤ (done.length : Int) := by omega
    have c3 : (done.length : Int) < ((done ++ [cur]).length : Int) := by rw [List.length_append]; simp only [List.length_singleton]; omega
    have c4 : (0 : Int) ≤ (j : Int) := by omega
    have c5 : cur.size + l[j].size ≤ 9223372036854775807 := by omega
    have c6 : (done ++ [cur]).length < 8796093022208 := by rw [List.length_append]; simp only [List.length_singleton]; omega
    simp only [spec_Compact.l0]
    have hlen : wrap64 (((done ++ [cur]).length : Int) - 1) = (done.length : Int) := by
      rw [List.length_append, List.length_singleton, show (((done.length + 1 : Nat) : Int) - 1) = (done.length : Int) by omega]
      exact wrap_id _ (by omega) b4
    simp only [hlen, hrc, hrd, wrap_succ j b1, hset, wrap_id _ b2 b3, if_pos c1, if_pos c2, if_pos c3, if_pos c4, if_pos c5, if_pos c6]
    clear hlen
    by_cases hc : cur.toList = ([] : List UInt8)
    · have h0 := toList_nil hc
      rw [if_pos hc]
      have e : compB n (l[j] :: l.drop (j + 1)) cur done = compB n (l.drop (j + 1)) (cur ++ l[j]) done := by
        rw [compB, if_neg (fun h => by omega)]
      rw [e]
      exact ih k (j + 1) done (cur ++ l[j]) (by omega) (by omega) (by omega) (by omega) (by rw [ByteArray.size_append]; omega)
    · have h0 := toList_ne hc
      rw [if_neg hc]
      by_cases hn : (cur.size : Int) + (l[j].size : Int) ≥ n
      · rw [if_pos hn]
        have e : compB n (l[j] :: l.drop (j + 1)) cur done = compB n (l.drop (j + 1)) l[j] (done ++ [cur]) := by
          rw [compB, if_pos ⟨h0, hn⟩]
        rw [e]
        exact ih k (j + 1) (done ++ [cur]) l[j] (by omega) (by omega) (by omega) (by rw [List.length_append]; simp only [List.length_singleton]; omega) (by omega)
      · rw [if_neg hn]
        have e : compB n (l[j] :: l.drop (j + 1)) cur done = compB n (l.drop (j + 1)) (cur ++ l[j]) done := by
          rw [compB, if_neg (fun h => hn h.2)]
        rw [e]
        exact ih k (j + 1) done (cur ++ l[j]) (by omega) (by omega) (by omega) (by omega) (by rw [ByteArray.size_append]; omega)

/-- What both laws' guards come to. -/
theorem guards (l0 : List ByteArray) (a1 : Int) (hb : l0.length ≤ 140737488351232) (j : Nat → Bool → Option Bool) (hj : ∀ k, j (k + 1) true = some true)
    (hg : l0.length + sumSize l0 < 2000 → l0 ≠ [] → ∃ K, ∀ k, K ≤ k → j k false = some true) :
    ∃ K, ∀ k, K ≤ k → ((laws_zzFits2.f k l0).bind fun t119 => (if t119 = true then ((laws_few.f k l0).bind fun t120 => (if t120 = true then (if a1 < 0 then (j k true) else (if a1 > 3000 then (j k true) else (j k ((l0.length : Int) == 0)))) else (j k true))) else (some true))) = some true := by
  by_cases hl : (l0.length : Int) > 2147483647
  · refine ⟨0, fun k _ => ?_⟩
    unfold laws_zzFits2.f
    rw [if_pos hl]
    rfl
  · by_cases hz : laws_zzFits2.l0 (l0.length + 1) l0 (l0.length : Int) ((0 : Nat) : Int) = some true
    · have hs := zz_true l0.length (l0.length + 1) l0 0 (by omega) (by omega) (by omega) (by omega) hz
      rw [List.drop_zero] at hs
      have hsum := sumSize_le hs
      have hsum2 : sumSize l0 ≤ 2147483647 * 2147483647 := Nat.le_trans hsum (Nat.mul_le_mul_right _ (by omega))
      have hfew : ∀ k, l0.length + 1 ≤ k → laws_few.f k l0 = some (decide ((l0.length : Int) + sumSize l0 < 2000)) := by
        intro k hk
        have h := few_some l0.length k l0 0 (l0.length : Int) (by omega) (by omega) (by omega) hs (by omega) (by omega) (by rw [List.drop_zero]; omega)
        rw [List.drop_zero] at h
        exact h
      have hzk : ∀ k, l0.length + 1 ≤ k → laws_zzFits2.f k l0 = some true := by
        intro k hk
        unfold laws_zzFits2.f
        rw [if_neg hl]
        exact at_rounds (g := fun k => laws_zzFits2.l0 k l0 (l0.length : Int) 0) (fun k => laws_zzFits2.mono_l k _ _ _) hk hz
      by_cases hsm : (l0.length : Int) + sumSize l0 < 2000
      · by_cases h0 : l0 = []
        · refine ⟨l0.length + 2, fun k hk => ?_⟩
          obtain ⟨m, rfl⟩ : ∃ m, k = m + 1 := ⟨k - 1, by omega⟩
          rw [hzk _ (by omega), Option.bind_some, if_pos rfl, hfew _ (by omega), Option.bind_some, if_pos (decide_eq_true hsm)]
          split
          · exact hj m
          · split
            · exact hj m
            · rw [h0]
              exact hj m
        · obtain ⟨K, hK⟩ := hg (by omega) h0
          refine ⟨max K (l0.length + 2), fun k hk => ?_⟩
          have hk1 : K ≤ k := Nat.le_trans (Nat.le_max_left _ _) hk
          have hk2 : l0.length + 2 ≤ k := Nat.le_trans (Nat.le_max_right _ _) hk
          obtain ⟨m, rfl⟩ : ∃ m, k = m + 1 := ⟨k - 1, by omega⟩
          rw [hzk _ (by omega), Option.bind_some, if_pos rfl, hfew _ (by omega), Option.bind_some, if_pos (decide_eq_true hsm)]
          split
          · exact hj m
          · split
            · exact hj m
            · have hne : ((l0.length : Int) == 0) = false := by
                rw [beq_eq_false_iff_ne]
                intro e
                exact h0 (List.eq_nil_of_length_eq_zero (by omega))
              rw [hne]
              exact hK _ hk1
      · refine ⟨l0.length + 2, fun k hk => ?_⟩
        obtain ⟨m, rfl⟩ : ∃ m, k = m + 1 := ⟨k - 1, by omega⟩
        rw [hzk _ (by omega), Option.bind_some, if_pos rfl, hfew _ (by omega), Option.bind_some, decide_eq_false hsm, if_neg (by simp)]
        exact hj m
    · obtain ⟨b, hb1⟩ := zz_some l0.length (l0.length + 1) l0 0 (by omega) (by omega) (by omega) (by omega)
      have hbf : b = false := by
        cases b with
        | false => rfl
        | true => exact absurd hb1 hz
      subst hbf
      refine ⟨l0.length + 1, fun k hk => ?_⟩
      have hzk : laws_zzFits2.f k l0 = some false := by
        unfold laws_zzFits2.f
        rw [if_neg hl]
        exact at_rounds (g := fun k => laws_zzFits2.l0 k l0 (l0.length : Int) 0) (fun k => laws_zzFits2.mono_l k _ _ _) hk hb1
      rw [hzk, Option.bind_some, if_neg (by simp)]

theorem compB_length (n : Int) : ∀ (l : List ByteArray) (cur : ByteArray) (out : List ByteArray), out.length < (compB n l cur out).length ∧ (compB n l cur out).length ≤ out.length + l.length + 1
  | [], cur, out => by simp [compB]
  | p :: rest, cur, out => by
    unfold compB
    split
    · have := compB_length n rest p (out ++ [cur])
      simp only [List.length_append, List.length_cons, List.length_nil] at this ⊢
      omega
    · have := compB_length n rest (cur ++ p) out
      simp only [List.length_cons] at this ⊢
      omega
theorem sumSize_append (a b : List ByteArray) : sumSize (a ++ b) = sumSize a + sumSize b := by simp [sumSize]
theorem compB_sum (n : Int) : ∀ (l : List ByteArray) (cur : ByteArray) (out : List ByteArray), sumSize (compB n l cur out) = sumSize out + cur.size + sumSize l
  | [], cur, out => by simp [compB, sumSize]
  | p :: rest, cur, out => by
    unfold compB
    split
    · rw [compB_sum n rest p (out ++ [cur]), sumSize_append, sumSize_cons, sumSize_cons]
      simp [sumSize]
      omega
    · rw [compB_sum n rest (cur ++ p) out, sumSize_cons, ByteArray.size_append]
      omega

/-- Each packet but the last is not empty, and is too long for the next one. -/
def Tight (n : Int) : List ByteArray → Prop
  | a :: b :: r => (0 < a.size ∧ n ≤ (a.size : Int) + b.size) ∧ Tight n (b :: r)
  | _ => True
theorem tight_snoc (n : Int) (cur p : ByteArray) (hc : 0 < cur.size ∧ n ≤ (cur.size : Int) + p.size) : ∀ out : List ByteArray, Tight n (out ++ [cur]) → Tight n (out ++ [cur] ++ [p])
  | [], _ => ⟨hc, trivial⟩
  | [a], h => ⟨h.1, hc, trivial⟩
  | a :: b :: r, h => ⟨h.1, tight_snoc n cur p hc (b :: r) h.2⟩
theorem tight_grow (n : Int) (cur p : ByteArray) : ∀ out : List ByteArray, Tight n (out ++ [cur]) → Tight n (out ++ [cur ++ p])
  | [], _ => trivial
  | [a], h => ⟨⟨h.1.1, by have := h.1.2; rw [ByteArray.size_append]; omega⟩, trivial⟩
  | a :: b :: r, h => ⟨h.1, tight_grow n cur p (b :: r) h.2⟩
theorem tight_compB (n : Int) : ∀ (l : List ByteArray) (cur : ByteArray) (out : List ByteArray), Tight n (out ++ [cur]) → Tight n (compB n l cur out)
  | [], cur, out, h => h
  | p :: rest, cur, out, h => by
    unfold compB
    split
    · rename_i hc
      exact tight_compB n rest p (out ++ [cur]) (tight_snoc n cur p hc out h)
    · exact tight_compB n rest (cur ++ p) out (tight_grow n cur p out h)
theorem compB_tight (n : Int) : ∀ (r : List ByteArray) (cur : ByteArray) (out : List ByteArray), Tight n (cur :: r) → compB n r cur out = out ++ cur :: r
  | [], cur, out, _ => rfl
  | p :: rest, cur, out, h => by
    unfold compB
    rw [if_pos h.1, compB_tight n rest p (out ++ [cur]) h.2]
    simp

theorem CompactAgainst (l0 : List ByteArray) (a1 : Int) (hb : l0.length ≤ 140737488351232) (_ : (Lit.int .i64 a1).wf = true) : ∃ k, laws_FnCompactAgainst.f k l0 a1 = some true := by
  obtain ⟨K, hK⟩ := guards l0 a1 hb (fun k b => laws_FnCompactAgainst.j0 k l0 a1 b) (fun k => by simp [laws_FnCompactAgainst.j0]) (by
    intro hsm hne
    obtain ⟨a, rest, rfl⟩ := List.exists_cons_of_ne_nil hne
    refine ⟨(a :: rest).length + 10, fun k hk => ?_⟩
    obtain ⟨k, rfl⟩ : ∃ m, k = m + 1 := ⟨k - 1, by omega⟩
    simp only [laws_FnCompactAgainst.j0]
    rw [if_neg (by simp), compact_f a rest a1 (by omega), Option.bind_some]
    have hspec : spec_Compact.f k (a :: rest) a1 = some (compB a1 rest a []) := by
      unfold spec_Compact.f
      rw [if_pos (by simp only [List.length_cons]; omega)]
      have h := spec_some a1 (a :: rest) (by omega) (by omega) rest.length k 1 [] a (by simp) (by simp at hk; omega) (by simp) (by simp) (by rw [List.drop_succ_cons, List.drop_zero]; rw [sumSize_cons] at hsm; omega)
      simpa [rdOf] using h
    have hlen := compB_length a1 rest a []
    simp only [List.length_cons, List.length_nil] at hlen hk hsm
    rw [hspec, Option.bind_some, if_pos (by omega), texts_f _ k (by omega) (by omega)]
    rfl)
  exact ⟨K, hK K (Nat.le_refl _)⟩

theorem CompactTwice (l0 : List ByteArray) (a1 : Int) (hb : l0.length ≤ 140737488351232) (_ : (Lit.int .i64 a1).wf = true) : ∃ k, laws_FnCompactTwice.f k l0 a1 = some true := by
  obtain ⟨K, hK⟩ := guards l0 a1 hb (fun k b => laws_FnCompactTwice.j0 k l0 a1 b) (fun k => by simp [laws_FnCompactTwice.j0]) (by
    intro hsm hne
    obtain ⟨a, rest, rfl⟩ := List.exists_cons_of_ne_nil hne
    refine ⟨(a :: rest).length + 10, fun k hk => ?_⟩
    obtain ⟨k, rfl⟩ : ∃ m, k = m + 1 := ⟨k - 1, by omega⟩
    simp only [laws_FnCompactTwice.j0]
    have hlen := compB_length a1 rest a []
    have hsum := compB_sum a1 rest a []
    have ht := tight_compB a1 rest a [] (by simp [Tight])
    rw [if_neg (by simp), compact_f a rest a1 (by omega), Option.bind_some]
    rw [sumSize_cons] at hsm
    simp only [sumSize, List.map_nil, List.sum_nil, List.length_cons, List.length_nil] at hlen hsum hk hsm
    rw [if_pos (by omega)]
    obtain ⟨b, r, hbr⟩ := List.exists_cons_of_ne_nil (show compB a1 rest a [] ≠ [] from fun e => by rw [e] at hlen; simp at hlen)
    rw [hbr] at ht hlen hsum ⊢
    have hs2 : sumSize (b :: r) = ((b :: r).map ByteArray.size).sum := rfl
    rw [compact_f b r a1 (by rw [hs2]; omega), Option.bind_some, compB_tight a1 r b [] ht, List.nil_append, texts_f _ k (by omega) (by omega)]
    rfl)
  exact ⟨K, hK K (Nat.le_refl _)⟩
end Go.Proofs.Ytaifkiafoebgcaa.P
