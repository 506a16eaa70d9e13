/-
  What is proved: plain laws of lists of bodies (their sizes, their cuts, their scripts), for the laws of several messages. Conditions: none beyond the lemmas' own.
-/
import Derived.Test.YtjflijebcpcbmaaDoorPu
import Derived.Test.YtjflijebcpcbmaaDoorGZ
namespace Go.Proofs.YtjflijebcpcbmaaDoor.G
open Go.RowKit Go.Proofs.YtjflijebcpcbmaaDoorW.PrintWords Go.Proofs.YtjflijebcpcbmaaDoorW.PrintLast Go.Proofs.YtjflijebcpcbmaaDoorW.PrintMore
set_option linter.unusedVariables false
set_option linter.unusedSimpArgs false

theorem piece_small {b : ByteArray} {q : Nat} {x : ByteArray} {p : Pc} (h : IsPiece b q x p) (hb : b.size < 900000) : x.size < 1000000 := by
  obtain ⟨h1, h2, h3, h4⟩ := h
  rw [h4, pieceBa_size _ _ _ _ h2]
  omega
theorem Pieces.all {P : ByteArray → Pc → Prop} {a : List ByteArray} {c : List Pc} (h : Pieces P a c) {Q : ByteArray → Prop} (hi : ∀ x p, P x p → Q x) : ∀ x ∈ a, Q x := by
  induction h with
  | nil => intro x hx; simp at hx
  | cons h1 _ ih =>
    intro x hx
    rcases List.mem_cons.1 hx with rfl | hx
    · exact hi _ _ h1
    · exact ih x hx
theorem Pieces.allp {P : ByteArray → Pc → Prop} {a : List ByteArray} {c : List Pc} (h : Pieces P a c) {Q : Pc → Prop} (hi : ∀ x p, P x p → Q p) : ∀ p ∈ c, Q p := by
  induction h with
  | nil => intro x hx; simp at hx
  | cons h1 _ ih =>
    intro x hx
    rcases List.mem_cons.1 hx with rfl | hx
    · exact hi _ _ h1
    · exact ih x hx
theorem rd40_at (l : List S40) (i : Nat) (h : i < l.length) : rd_T40 l (i : Int) = l[i] := by
  simp [rd_T40, List.getD_eq_getElem?_getD, List.getElem?_eq_getElem h]
theorem rd45_at (l : List S45) (i : Nat) (h : i < l.length) : rd_T45 l (i : Int) = l[i] := by
  simp [rd_T45, List.getD_eq_getElem?_getD, List.getElem?_eq_getElem h]

theorem fits_go (l : List ByteArray) (hl : l.length ≤ 2147483647) : ∀ (d j : Nat), j + d = l.length → ∃ r, Evt (fun k => laws_zzFits2.l0 k l (l.length : Int) (j : Int)) r ∧ (r = true → ∀ i (h : i < l.length), j ≤ i → l[i].size ≤ 2147483647)
  | 0, j, h => ⟨true, Evt.step (f := fun _ => some true) (Evt.const _) (fun k => by rw [laws_zzFits2.l0, if_neg (by omega)]), fun _ i hi hj => by omega⟩
  | d + 1, j, h => by
    have hj : j < l.length := by omega
    by_cases hs : l[j].size ≤ 2147483647
    · obtain ⟨r, e, h2⟩ := fits_go l hl d (j + 1) (by omega)
      have hw : wrap64 ((j : Int) + 1) = ((j + 1 : Nat) : Int) := by rw [wrapi _ (by omega) (by omega)]; omega
      refine ⟨r, e.step (fun k => by rw [laws_zzFits2.l0, if_pos (by omega), if_pos (by omega), if_pos (by omega), rdOf_at l j hj, if_neg (by omega), hw]), fun hr i hi hij => ?_⟩
      by_cases hij' : i = j
      · subst hij'; exact hs
      · exact h2 hr i hi (by omega)
    · exact ⟨false, Evt.step (f := fun _ => some false) (Evt.const _) (fun k => by rw [laws_zzFits2.l0, if_pos (by omega), if_pos (by omega), if_pos (by omega), rdOf_at l j hj, if_pos (by omega)]), fun hr => by cases hr⟩
theorem fits_evt (l : List ByteArray) : ∃ r, Evt (fun k => laws_zzFits2.f k l) r ∧ (r = true → l.length ≤ 2147483647 ∧ ∀ b ∈ l, b.size ≤ 2147483647) := by
  by_cases hl : l.length ≤ 2147483647
  · obtain ⟨r, e, h⟩ := fits_go l hl l.length 0 (by omega)
    refine ⟨r, e.congr (fun k => by rw [laws_zzFits2.f, if_neg (by omega)]; rfl), fun hr => ⟨hl, fun b hb => ?_⟩⟩
    obtain ⟨i, hi, rfl⟩ := List.getElem_of_mem hb
    exact h hr i hi (Nat.zero_le _)
  · exact ⟨false, Evt.of (fun k => by rw [laws_zzFits2.f, if_pos (by omega)]), fun hr => by cases hr⟩

theorem size_le_sum {l : List ByteArray} {b : ByteArray} (h : b ∈ l) : b.size ≤ sumB l := by
  induction l with
  | nil => simp at h
  | cons x l ih =>
    unfold sumB at ih ⊢
    rw [List.map_cons, List.sum_cons]
    rcases List.mem_cons.1 h with rfl | h
    · omega
    · have := ih h
      omega
theorem isLight_all {l : List ByteArray} {n : Int} (h : isLight l n = true) : ∃ m : Nat, n = m ∧ 0 < l.length ∧ l.length < 8 ∧ 1 ≤ m ∧ m ≤ 1000 ∧ ∀ b ∈ l, b.size < 600 ∧ b.size ≤ 100 * m := by
  unfold isLight at h
  simp only [Bool.and_eq_true, Bool.or_eq_true, decide_eq_true_eq] at h
  obtain ⟨⟨⟨⟨⟨h1, h2⟩, h3⟩, h4⟩, h5⟩, h6⟩ := h
  refine ⟨n.toNat, by omega, h1, h2, by omega, by omega, fun b hb => ?_⟩
  have := size_le_sum hb
  omega

/-- The bytes of the body of message q. -/
def BsOf (l : List ByteArray) (q : Nat) : List Nat := baNat (l.getD q ByteArray.empty)
theorem getD_at (l : List ByteArray) (q : Nat) (h : q < l.length) : l.getD q ByteArray.empty = l[q] := by
  simp [List.getD_eq_getElem?_getD, List.getElem?_eq_getElem h]
def PcOf (l : List ByteArray) (x : ByteArray) (p : Pc) : Prop := p.q < l.length ∧ IsPiece (l.getD p.q ByteArray.empty) p.q x p
/-- The first j bodies are cut: xs holds the pieces. -/
structure Acc (l : List ByteArray) (j : Nat) (xs : List ByteArray) (ps : List Pc) : Prop where
  pc : Pieces (PcOf l) xs ps
  len : xs.length ≤ 100 * j
  all : ∀ q, q < j → (∃ p ∈ ps, p.q = q) ∧ ∀ k, k < (BsOf l q).length → ∃ p ∈ ps, p.q = q ∧ p.o ≤ k ∧ k < p.o + p.n
theorem Acc.nil (l : List ByteArray) : Acc l 0 [] [] := ⟨.nil, Nat.zero_le _, fun q hq => by omega⟩
theorem PcOf.of {l : List ByteArray} {j : Nat} (hj : j < l.length) {x : ByteArray} {p : Pc} (h : IsPiece l[j] j x p) : PcOf l x p := by
  have hq := h.1
  unfold PcOf
  rw [hq, getD_at l j hj]
  exact ⟨hj, h⟩
theorem Acc.more {l : List ByteArray} {j : Nat} {xs : List ByteArray} {ps : List Pc} (h : Acc l j xs ps) (hj : j < l.length) {ys : List ByteArray} {rs : List Pc} (hp : Pieces (IsPiece l[j] j) ys rs) (hl : ys.length ≤ 100) (hc : ∀ k, k < l[j].size → ∃ p ∈ rs, p.o ≤ k ∧ k < p.o + p.n) (hne : rs ≠ []) : Acc l (j + 1) (xs ++ ys) (ps ++ rs) := by
  refine ⟨h.pc.append (hp.imp (fun x p g => PcOf.of hj g)), by have := h.len; rw [List.length_append]; omega, fun q hq => ?_⟩
  have hqs : ∀ p ∈ rs, p.q = j := hp.allp (fun x p g => g.1)
  by_cases hqj : q = j
  · subst hqj
    refine ⟨?_, fun k hk => ?_⟩
    · cases hr : rs with
      | nil => exact absurd hr hne
      | cons p t => exact ⟨p, by simp, hqs p (by rw [hr]; simp)⟩
    · unfold BsOf at hk
      rw [getD_at l q hj, baNat_length] at hk
      obtain ⟨p, p1, p2⟩ := hc k hk
      exact ⟨p, by simp [p1], hqs p p1, p2⟩
  · obtain ⟨⟨p, p1, p2⟩, h2⟩ := h.all q (by omega)
    refine ⟨⟨p, by simp [p1], p2⟩, fun k hk => ?_⟩
    obtain ⟨p, p1, p2⟩ := h2 k hk
    exact ⟨p, by simp [p1], p2⟩

theorem whole_at (l : List ByteArray) (q : Nat) (h : q < l.length) (hl : l.length < 8) (hs : l[q].size < 600) : Evt (fun k => laws_whole.f k 11 (q : Int) l[q]) (wholeOf (BsOf l) q) := by
  have hw := whole_evt l[q] q (by omega) (by omega)
  rw [whole_eq (BsOf l) q l[q] (by unfold BsOf; rw [getD_at l q h]) (by omega) (by omega)] at hw
  exact hw
theorem wholes_succ (l : List ByteArray) (j : Nat) : (List.range' 0 j).map (wholeOf (BsOf l)) ++ [wholeOf (BsOf l) j] = (List.range' 0 (j + 1)).map (wholeOf (BsOf l)) := by
  rw [List.range'_1_concat, List.map_append]
  simp

/-- What a script of all the pieces and of m pops tells. -/
theorem Acc.told {l : List ByteArray} {xs : List ByteArray} {ps : List Pc} (h : Acc l l.length xs ps) (hl : l.length < 8) (hb : ∀ b ∈ l, b.size < 600) {xs' : List ByteArray} (hp : xs.Perm xs') (ep : Nat) (he : ep < 65536) (m : Nat) (hm : m < 400000) :
    ∃ ts us, impl_Fragments.f ((recsFrom ep 0 xs').map pushS ++ List.replicate m popS) = some (ts ++ us) ∧ ts.length = xs'.length ∧ us.length = m ∧ (∀ k, laws_come.f k ((recsFrom ep 0 xs').map pushS ++ List.replicate m popS) (ts ++ us) = some ((List.range' 0 (min m l.length)).map (wholeOf (BsOf l)), true)) ∧ (m ≤ l.length → ∀ t ∈ us, t.f5 = (ep : Int)) := by
  obtain ⟨ps', d1, d2⟩ := h.pc.perm hp
  have hlen : xs'.length ≤ 700 := by have := h.len; have := hp.length_eq; omega
  have hg : GoodRecs (BsOf l) l.length ep (recsFrom ep 0 xs') ps' := goods_of (fun x p g => pieces_good (q := p.q) (b := l.getD p.q ByteArray.empty) (by
    have := hb _ (List.getElem_mem g.1)
    rw [getD_at l p.q g.1]
    omega) g.1 (by omega) (BsOf l) rfl ep he g.2) xs' ps' 0 d2 (by omega)
  have hrl := recsFrom_length ep 0 xs'
  obtain ⟨ts, us, t1, t2, t3, t4, t5⟩ := script_told (by omega) (recsFrom ep 0 xs') ps' hg (by omega) (fun q hq => by
    obtain ⟨⟨p, p1, p2⟩, h2⟩ := h.all q hq
    refine ⟨⟨p, d1.mem_iff.1 p1, p2⟩, fun k hk => ?_⟩
    obtain ⟨p, p1, p2⟩ := h2 k hk
    exact ⟨p, d1.mem_iff.1 p1, p2⟩) m hm
  refine ⟨ts, us, t1, by rw [t2, hrl], t3, fun k => ?_, t5⟩
  unfold laws_come.f
  rw [if_pos ⟨by rw [List.length_append, List.length_append, List.length_map, List.length_replicate, t2, t3], by rw [List.length_append, List.length_map, List.length_replicate]; omega⟩, t4]

/-- A loop that turns each piece into a record. -/
theorem setloop_go {F : Nat → List ByteArray → Int → Option Bool} {R : Nat → Int → ByteArray → Option ByteArray} (res : Bool) (ep n : Nat) (hn : n < 900000) (hR : ∀ (j : Nat) (x : ByteArray), j < 1000000 → x.size < 1000000 → Evt (fun k => R k (j : Int) x) (laterBa ep j x))
    (hF : ∀ (k : Nat) (l : List ByteArray) (j : Nat) (h : j < l.length), l.length = n → F (k + 1) l (j : Int) = (R k (j : Int) l[j]).bind fun t => F k (l.set j t) ((j + 1 : Nat) : Int)) (fin : List ByteArray) (hf : Evt (fun k => F k fin (n : Int)) res) :
    ∀ (d j : Nat) (pre xs : List ByteArray), j + d = n → pre.length = j → xs.length = d → (∀ x ∈ xs, x.size < 1000000) → fin = pre ++ recsFrom ep j xs → Evt (fun k => F k (pre ++ xs) (j : Int)) res
  | 0, j, pre, xs, h, hp, hx, hs, hfin => by
    have : xs = [] := List.eq_nil_of_length_eq_zero hx
    subst this
    have hj : j = n := by omega
    subst hj
    rw [hfin] at hf
    exact hf
  | d + 1, j, pre, xs, h, hp, hx, hs, hfin => by
    cases xs with
    | nil => simp at hx
    | cons x xs =>
      have hr := hR j x (by omega) (hs x (by simp))
      have ih := setloop_go res ep n hn hR hF fin hf d (j + 1) (pre ++ [laterBa ep j x]) xs (by omega) (by simp [hp]) (by simpa using hx) (fun y hy => hs y (by simp [hy])) (by rw [hfin, recsFrom]; simp)
      have hset : (pre ++ x :: xs).set j (laterBa ep j x) = (pre ++ [laterBa ep j x]) ++ xs := by
        rw [← hp, List.set_append_right _ _ (Nat.le_refl _)]
        simp
      have hlen : j < (pre ++ x :: xs).length := by simp [hp]
      have hat : (pre ++ x :: xs)[j] = x := by
        rw [List.getElem_append_right (by omega)]
        simp [hp]
      refine Evt.step (hr.bind (g := fun k t => F k ((pre ++ x :: xs).set j t) ((j + 1 : Nat) : Int)) ?_) (fun k => ?_)
      · rw [hset]
        exact ih
      · rw [hF k _ j hlen (by rw [List.length_append, hx, hp]; omega), hat]
end Go.Proofs.YtjflijebcpcbmaaDoor.G
