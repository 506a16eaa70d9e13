/-
 What is proved: what is known of a script of which the reference speaks. Conditions: few bytes in all.
-/
import Derived.Test.YtjflijebcpcbmaaDoorXPuE
import Derived.Test.YtjflijebcpcbmaaDoorXS2
namespace Go.Proofs.YtjflijebcpcbmaaDoor.G
open Go.RowKit Go.Proofs.YtjflijebcpcbmaaDoorW.PrintWords Go.Proofs.YtjflijebcpcbmaaDoorW.PrintLast Go.Proofs.YtjflijebcpcbmaaDoorW.PrintMore
set_option linter.unusedVariables false
set_option linter.unusedSimpArgs false

theorem rdS45_at (l : List S45) (i : Nat) (h : i < l.length) : rd_T45 l (i : Int) = l[i] := by
 simp [rd_T45, List.getD_eq_getElem?_getD, List.getElem?_eq_getElem h]
theorem fits5_go (l : List S45) (hl : l.length ≤ 2147483647) : ∀ (d j : Nat), j + d = l.length → ∃ r, Evt (fun k => laws_zzFits5.l0 k l (l.length : Int) (j : Int)) r ∧ (r = true → ∀ i (h : i < l.length), j ≤ i → l[i].f1.size ≤ 2147483647)
 | 0, j, h => ⟨true, Evt.step (f := fun _ => some true) (Evt.const _) (fun k => by rw [laws_zzFits5.l0, if_neg (by omega)]), fun _ i hi hj => by omega⟩
 | d + 1, j, h => by
   have hj : j < l.length := by omega
   by_cases hs : l[j].f1.size ≤ 2147483647
   ·obtain ⟨r, e, h2⟩ := fits5_go l hl d (j + 1) (by omega)
    have hw : wrap64 ((j : Int) + 1) = ((j + 1 : Nat) : Int) := by rw [wrapi _ (by omega) (by omega)]; omega
    refine ⟨r, e.step (fun k => ?_), fun hr i hi hij => ?_⟩
    ·rw [laws_zzFits5.l0, if_pos (by omega), if_pos (by omega), if_pos (by omega), rdS45_at l j hj, laws_zzFits6.f, if_neg (by omega)]
     simp only [Option.bind_some]
     rw [if_pos trivial, hw]
    ·by_cases hij' : i = j
     ·subst hij'; exact hs
     ·exact h2 hr i hi (by omega)
   ·refine ⟨false, Evt.step (f := fun _ => some false) (Evt.const _) (fun k => ?_), fun hr => by cases hr⟩
    rw [laws_zzFits5.l0, if_pos (by omega), if_pos (by omega), if_pos (by omega), rdS45_at l j hj, laws_zzFits6.f, if_pos (by omega)]
    simp only [Option.bind_some]
    rw [if_neg (by decide)]
theorem fits5_evt (l : List S45) : ∃ r, Evt (fun k => laws_zzFits5.f k l) r ∧ (r = true → l.length ≤ 2147483647 ∧ ∀ x ∈ l, x.f1.size ≤ 2147483647) := by
 by_cases hl : l.length ≤ 2147483647
 ·obtain ⟨r, e, h⟩ := fits5_go l hl l.length 0 (by omega)
  refine ⟨r, e.congr (fun k => by rw [laws_zzFits5.f, if_neg (by omega)]; rfl), fun hr => ⟨hl, fun b hb => ?_⟩⟩
  obtain ⟨i, hi, rfl⟩ := List.getElem_of_mem hb
  exact h hr i hi (Nat.zero_le _)
 ·exact ⟨false, Evt.of (fun k => by rw [laws_zzFits5.f, if_pos (by omega)]), fun hr => by cases hr⟩

theorem al_go (a b : S69) (ha : Okp a) (hb : Okp b) : ∀ (d i : Nat), i + d = a.f4.size → ∃ r, Evt (fun k => spec_alike.l0 k (i : Int) a.f0 a.f1 a.f2 a.f3 a.f4 a.f5 b.f0 b.f1 b.f2 b.f3 b.f4 b.f5) r ∧
 (r = true → ∀ i' j : Nat, i ≤ i' → i' < a.f4.size → j < b.f4.size → a.f3 + (i' : Int) = b.f3 + (j : Int) → (baNat a.f4).getD i' 0 = (baNat b.f4).getD j 0)
 | 0, i, h => ⟨true, Evt.step (f := fun _ => some true) (Evt.const _) (fun k => by rw [spec_alike.l0, if_neg (by omega)]), fun _ i' j h1 h2 => by omega⟩
 | d + 1, i, h => by
   obtain ⟨r, e, hr⟩ := al_go a b ha hb d (i + 1) (by omega)
   have a7 : 0 ≤ a.f3 ∧ a.f3 < 16777216 ∧ a.f4.size ≤ 2147483647 := ⟨ha.2.2.2.2.2.2.1, ha.2.2.2.2.2.2.2.1, ha.2.2.2.2.2.2.2.2.1⟩
   have b7 : 0 ≤ b.f3 ∧ b.f3 < 16777216 ∧ b.f4.size ≤ 2147483647 := ⟨hb.2.2.2.2.2.2.1, hb.2.2.2.2.2.2.2.1, hb.2.2.2.2.2.2.2.2.1⟩
   have hw : wrap64 ((i : Int) + 1) = ((i + 1 : Nat) : Int) := by rw [wrapi _ (by omega) (by omega)]; omega
   have hv : wrap64 (wrap64 (a.f3 + (i : Int)) - b.f3) = a.f3 + (i : Int) - b.f3 := by rw [wrapi (a.f3 + (i : Int)) (by omega) (by omega), wrapi _ (by omega) (by omega)]
   by_cases h1 : a.f3 + (i : Int) - b.f3 ≥ 0
   ·by_cases h2 : a.f3 + (i : Int) - b.f3 < (b.f4.size : Int)
    ·by_cases h3 : bt a.f4 (i : Int) = bt b.f4 (a.f3 + (i : Int) - b.f3)
     ·refine ⟨r, e.step (fun k => by rw [spec_alike.l0, hv, if_pos (by omega), if_pos h1, if_pos h2, if_pos (by omega), if_pos (by omega), if_pos h3, hw]), fun hrr i' j g1 g2 g3 g4 => ?_⟩
      by_cases hi : i' = i
      ·subst hi
       have hj : a.f3 + (i' : Int) - b.f3 = (j : Int) := by omega
       rw [hj, bt_nat, bt_nat] at h3
       omega
      ·exact hr hrr i' j (by omega) g2 g3 g4
     ·exact ⟨false, Evt.step (f := fun _ => some false) (Evt.const _) (fun k => by rw [spec_alike.l0, hv, if_pos (by omega), if_pos h1, if_pos h2, if_pos (by omega), if_pos (by omega), if_neg h3]), fun hrr => by cases hrr⟩
    ·refine ⟨r, e.step (fun k => by rw [spec_alike.l0, hv, if_pos (by omega), if_pos h1, if_neg h2, hw]), fun hrr i' j g1 g2 g3 g4 => ?_⟩
     by_cases hi : i' = i
     ·omega
     ·exact hr hrr i' j (by omega) g2 g3 g4
   ·refine ⟨r, e.step (fun k => by rw [spec_alike.l0, hv, if_pos (by omega), if_neg h1, hw]), fun hrr i' j g1 g2 g3 g4 => ?_⟩
    by_cases hi : i' = i
    ·omega
    ·exact hr hrr i' j (by omega) g2 g3 g4
theorem al_evt (a b : S69) (ha : Okp a) (hb : Okp b) : ∃ r, Evt (fun k => spec_alike.f k a.f0 a.f1 a.f2 a.f3 a.f4 a.f5 b.f0 b.f1 b.f2 b.f3 b.f4 b.f5) r ∧ (r = true → AL a b) := by
 have jt : Evt (fun k => spec_alike.j0 k true a.f0 a.f1 a.f2 a.f3 a.f4 a.f5 b.f0 b.f1 b.f2 b.f3 b.f4 b.f5) false := Evt.step (f := fun _ => some false) (Evt.const _) (fun k => by rw [spec_alike.j0, if_pos rfl])
 by_cases h0 : a.f0 = b.f0
 ·by_cases h1 : a.f1 = b.f1
  ·by_cases h5 : a.f5 = b.f5
   ·obtain ⟨r, e, hr⟩ := al_go a b ha hb a.f4.size 0 (by omega)
    refine ⟨r, ?_, fun h => ⟨h0, h1, h5, fun i j g1 g2 g3 => hr h i j (Nat.zero_le _) g1 g2 g3⟩⟩
    refine Evt.congr (f := fun k => spec_alike.j0 k false a.f0 a.f1 a.f2 a.f3 a.f4 a.f5 b.f0 b.f1 b.f2 b.f3 b.f4 b.f5) (e.step (fun k => by rw [spec_alike.j0, if_neg (by decide)]; rfl)) (fun k => by rw [spec_alike.f, if_pos h0, if_pos h1, show (a.f5 != b.f5) = false by simp [h5]])
   ·exact ⟨false, jt.congr (fun k => by rw [spec_alike.f, if_pos h0, if_pos h1, show (a.f5 != b.f5) = true by simp [h5]]), fun h => by cases h⟩
  ·exact ⟨false, jt.congr (fun k => by rw [spec_alike.f, if_pos h0, if_neg h1]), fun h => by cases h⟩
 ·exact ⟨false, jt.congr (fun k => by rw [spec_alike.f, if_neg h0]), fun h => by cases h⟩

theorem spGo_some (ep : Nat) : ∀ (k : Nat) (x : ByteArray) (bad : Bool) (acc : List S69), x.size < k → ∃ r, spGo ep k x bad acc = some r
 | 0, x, bad, acc, h => by omega
 | k + 1, x, bad, acc, h => by
   unfold spGo
   split
   ·exact ⟨_, rfl⟩
   ·split
    ·exact ⟨_, rfl⟩
    ·refine spGo_some ep k _ _ _ ?_
     unfold spRound
     simp only [dr_len]
     omega
theorem pieces_some (x : ByteArray) (h : 13 < x.size) (h2 : x.size ≤ 2147483647) : ∃ ps ok, spec_pieces.f x = some (ps, ok) := by
 unfold spec_pieces.f
 rw [if_pos ⟨by omega, by omega⟩]
 obtain ⟨⟨ps, ok⟩, h⟩ := spGo_some (nm (tk (dr x 3) 2)) (x.size + 1) (dr (dr (dr (dr x 3) 2) 6) 2) false [] (by simp only [dr_len]; omega)
 exact ⟨ps, ok, h⟩
theorem parsed_ok {ep : Nat} (he : ep < 65536) {bs : List Nat} {ps : List S69} (h : Parsed ep bs ps) : (∀ y ∈ bs, y < 256) → bs.length ≤ 2147483647 → (∀ p ∈ ps, Okp p ∧ p.f3 + p.f4.size ≤ p.f1) ∧ ps.length ≤ bs.length := by
 induction h with
 | nil => intro _ _; exact ⟨fun p hp => by simp at hp, Nat.le_refl _⟩
 | @cons bs p ps h1 h2 h3 hP ih =>
   intro hb hl
   obtain ⟨i1, i2⟩ := ih (fun y hy => hb y (List.mem_of_mem_drop hy)) (by rw [List.length_drop]; omega)
   have hg : ∀ (l : List Nat) (i : Nat), (∀ y ∈ l, y < 256) → l.getD i 0 < 256 := fun l i hl => by
    rw [List.getD_eq_getElem?_getD]
    by_cases h : i < l.length
    ·rw [List.getElem?_eq_getElem h]; exact hl _ (List.getElem_mem _)
    ·rw [List.getElem?_eq_none (by omega)]; exact (show 0 < 256 by decide)
   have hd : ∀ k, ∀ y ∈ bs.drop k, y < 256 := fun k y hy => hb y (List.mem_of_mem_drop hy)
   refine ⟨fun x hx => ?_, ?_⟩
   ·rcases List.mem_cons.1 hx with rfl | hx
    ·have hsz : (natBa ((bs.drop 12).take (hdOf bs).2.2.2.2)).size = (hdOf bs).2.2.2.2 := by rw [natBa_size, List.length_take, List.length_drop]; omega
     have g0 : (hdOf bs).1 < 256 := hg bs 0 hb
     have g1 : (hdOf bs).2.1 < 16777216 := by
      have a0 := hg (bs.drop 1) 0 (hd 1)
      have a1 := hg (bs.drop 1) 1 (hd 1)
      have a2 := hg (bs.drop 1) 2 (hd 1)
      show u24of (bs.drop 1) < _
      unfold u24of
      omega
     have g2 : (hdOf bs).2.2.1 < 65536 := by
      have a0 := hg (bs.drop 4) 0 (hd 4)
      have a1 := hg (bs.drop 4) 1 (hd 4)
      show u16of (bs.drop 4) < _
      unfold u16of
      omega
     rw [h2]
     unfold Okp
     simp only
     rw [hsz]
     omega
    ·exact i1 x hx
   ·rw [List.length_drop] at i2
    simp only [List.length_cons]
    omega
/-- What is known of a record's pieces. -/
theorem pieces_ok (x : ByteArray) (ps : List S69) (h : 13 < x.size) (h2 : x.size ≤ 2147483647) (hp : spec_pieces.f x = some (ps, true)) : (∀ p ∈ ps, Okp p ∧ p.f3 + p.f4.size ≤ p.f1) ∧ ps.length ≤ x.size := by
 unfold spec_pieces.f at hp
 rw [if_pos ⟨by omega, by omega⟩] at hp
 obtain ⟨ps', e1, e2⟩ := spGo_parsed _ _ _ _ _ hp
 rw [List.nil_append] at e1
 subst e1
 have hlen : (baNat (dr (dr (dr (dr x 3) 2) 6) 2)).length ≤ x.size := by rw [baNat_length]; simp only [dr_len]; omega
 obtain ⟨g1, g2⟩ := parsed_ok (nm_tk _ 2 (by omega)) e2 (baNat_lt _) (by omega)
 exact ⟨g1, by omega⟩
end Go.Proofs.YtjflijebcpcbmaaDoor.G
