/-
  What is proved: the plain statement of the law of several messages that are cut each to its own length: for every input the printed law answers true. Conditions: none.
-/
import Derived.Test.YtjflijebcpcbmaaDoorPuZ
import Derived.Test.YtjflijebcpcbmaaDoorG6
namespace Go.Proofs.YtjflijebcpcbmaaDoor.G
open Go.RowKit Go.Proofs.YtjflijebcpcbmaaDoorW.PrintWords Go.Proofs.YtjflijebcpcbmaaDoorW.PrintLast Go.Proofs.YtjflijebcpcbmaaDoorW.PrintMore
set_option linter.unusedVariables false
set_option linter.unusedSimpArgs false

theorem mm_end (l : List ByteArray) (hl : l.length < 8) (hb : ∀ b ∈ l, b.size < 600) (xs : List ByteArray) (ps : List Pc) (h : Acc l l.length xs ps) (xs' : List ByteArray) (hp : xs.Perm xs') :
    Evt (fun k => laws_FnManyMixed.l2 k l xs' ((List.range' 0 l.length).map (wholeOf (BsOf l))) (xs'.length : Int) 0) true := by
  obtain ⟨ts, us, t1, t2, t3, t4, t5⟩ := h.told hl hb hp 0 (by omega) (l.length + 1) (by omega)
  rw [show min (l.length + 1) l.length = l.length by omega] at t4
  have hlen : xs'.length ≤ 700 := by have := h.len; have := hp.length_eq; omega
  obtain ⟨ps', d1, d2⟩ := h.pc.perm hp
  have hrl := recsFrom_length 0 0 xs'
  have hw : wrap64 ((l.length : Int) + 1) = ((l.length + 1 : Nat) : Int) := by rw [wrapi _ (by omega) (by omega)]; omega
  refine setloop_go (F := fun k x i => laws_FnManyMixed.l2 k l x ((List.range' 0 l.length).map (wholeOf (BsOf l))) (xs'.length : Int) i) (R := fun k i x => laws_record.f k i x) true 0 xs'.length (by omega) (fun j x hj hx => by rw [← rec_later]; exact record_evt j x hj hx) (fun k x j hj hx => ?_) (recsFrom 0 0 xs') ?_ xs'.length 0 [] xs' (by omega) rfl rfl (d2.all (fun x p g => piece_small g.2 (by
    have := hb _ (List.getElem_mem g.1)
    rw [getD_at l p.q g.1]
    omega))) rfl
  · have hwj : wrap64 ((j : Int) + 1) = ((j + 1 : Nat) : Int) := by rw [wrapi _ (by omega) (by omega)]; omega
    rw [laws_FnManyMixed.l2, if_pos (by omega), if_pos (by omega), if_pos (by omega), rdOf_at x j hj, hwj, Int.toNat_natCast]
  · have hp := pops_evt (recsFrom 0 0 xs') (l.length + 1) (by omega) (by omega)
    have htx := texts_evt ((List.range' 0 l.length).map (wholeOf (BsOf l))) (by rw [List.length_map, List.length_range']; omega)
    refine Evt.step (hp.bind (g := fun k t218 => (impl_Fragments.f t218).bind fun t221 => ((laws_come.f k t218 t221).bind fun bt224 => (if bt224.2 = true then ((laws_texts.f k bt224.1 ((List.range' 0 l.length).map (wholeOf (BsOf l)))).bind fun t228 => (some t228)) else (some false)))) ?_) (fun k => by rw [laws_FnManyMixed.l2, if_neg (by omega), hw])
    refine (htx.bind (g := fun k t228 => some t228) (Evt.const true)).congr (fun k => ?_)
    rw [t1]
    simp only [Option.bind_some]
    rw [t4 k]
    simp only [Option.bind_some]
    rw [if_pos trivial]

theorem mm_l1 (l : List ByteArray) (x1 : Int) (by_ : List Int) (wh : List ByteArray) (x9 : Int) (x10 : ByteArray) (x29 : List ByteArray) (x30 x31 : Int) (xs : List ByteArray) (res : Bool) (hx : xs.length < 900000) : ∀ (d i : Nat) (acc : List ByteArray), i + d = xs.length → acc.length + d < 900000 →
    Evt (fun k => (laws_whole.f k 11 x9 x10).bind fun t208 => (if wh.length < 8796093022208 then (laws_FnManyMixed.l0 k l x1 by_ (acc ++ xs.drop i) (wh ++ [t208]) x29 x30 (wrap64 (x31 + 1))) else (none))) res → Evt (fun k => laws_FnManyMixed.l1 k l x1 by_ acc wh x9 x10 x29 x30 x31 xs (xs.length : Int) (i : Int)) res
  | 0, i, acc, h, ha, he => by
    rw [List.drop_of_length_le (by omega), List.append_nil] at he
    exact he.step (fun k => by rw [laws_FnManyMixed.l1, if_neg (by omega)])
  | d + 1, i, acc, h, ha, he => by
    have hi : i < xs.length := by omega
    have hw : wrap64 ((i : Int) + 1) = ((i + 1 : Nat) : Int) := by rw [wrapi _ (by omega) (by omega)]; omega
    have ih := mm_l1 l x1 by_ wh x9 x10 x29 x30 x31 xs res hx d (i + 1) (acc ++ [xs[i]]) (by omega) (by rw [List.length_append]; simp; omega) (by
      rw [List.append_assoc, List.singleton_append, ← List.drop_eq_getElem_cons hi]
      exact he)
    exact ih.step (fun k => by rw [laws_FnManyMixed.l1, if_pos (by omega), if_pos (by omega), if_pos (by omega), if_pos (by omega), rdOf_at xs i hi, hw])

theorem mm_l0 (l : List ByteArray) (n : Nat) (by_ : List Int) (hl : l.length < 8) (hb : ∀ b ∈ l, b.size < 600 ∧ b.size ≤ 100 * n) (hn : 1 ≤ n) (hn' : n ≤ 1000) : ∀ (d j : Nat) (acc : List ByteArray) (ps : List Pc), j + d = l.length → Acc l j acc ps →
    Evt (fun k => laws_FnManyMixed.l0 k l (n : Int) by_ acc ((List.range' 0 j).map (wholeOf (BsOf l))) l (l.length : Int) (j : Int)) true
  | 0, j, acc, ps, h, ha => by
    have hj : j = l.length := by omega
    subst hj
    have hlen := ha.len
    obtain ⟨l', c1, c2⟩ := shuffle_evt acc by_ (by omega)
    exact Evt.step (c1.bind (g := fun k t212 => laws_FnManyMixed.l2 k l t212 ((List.range' 0 l.length).map (wholeOf (BsOf l))) (t212.length : Int) 0) (mm_end l hl (fun b hb' => (hb b hb').1) acc ps ha l' c2)) (fun k => by rw [laws_FnManyMixed.l0, if_neg (by omega)])
  | d + 1, j, acc, ps, h, ha => by
    have hj : j < l.length := by omega
    have hbj := hb l[j] (List.getElem_mem _)
    have hlen := ha.len
    obtain ⟨ys, rs, a1, a2, a3, a4, a5⟩ := cut_evt l[j] j (n + j) 100 (by omega) (by omega) (by omega) (by omega) (by omega) (by omega) (by omega)
    have ih := mm_l0 l n by_ hl hb hn hn' d (j + 1) (acc ++ ys) (ps ++ rs) (by omega) (ha.more hj a2 a3 a4 a5)
    have hw : wrap64 ((n : Int) + (j : Int)) = ((n + j : Nat) : Int) := by rw [wrapi _ (by omega) (by omega)]; omega
    have hw1 : wrap64 ((j : Int) + 1) = ((j + 1 : Nat) : Int) := by rw [wrapi _ (by omega) (by omega)]; omega
    have hwl : ((List.range' 0 j).map (wholeOf (BsOf l))).length = j := by rw [List.length_map, List.length_range']
    have h1 := mm_l1 l n by_ ((List.range' 0 j).map (wholeOf (BsOf l))) (j : Int) l[j] l (l.length : Int) (j : Int) ys true (by omega) ys.length 0 acc (by omega) (by omega) (by
      refine (whole_at l j hj hl hbj.1).bind (g := fun k t208 => if ((List.range' 0 j).map (wholeOf (BsOf l))).length < 8796093022208 then (laws_FnManyMixed.l0 k l n by_ (acc ++ ys.drop 0) ((List.range' 0 j).map (wholeOf (BsOf l)) ++ [t208]) l l.length (wrap64 ((j : Int) + 1))) else none) ?_
      rw [wholes_succ, hw1, List.drop_zero]
      exact ih.congr (fun k => by rw [if_pos (by omega)]))
    refine Evt.step (a1.bind (g := fun k t201 => laws_FnManyMixed.l1 k l n by_ acc ((List.range' 0 j).map (wholeOf (BsOf l))) (j : Int) l[j] l (l.length : Int) (j : Int) t201 (t201.length : Int) 0) h1) (fun k => ?_)
    rw [laws_FnManyMixed.l0, if_pos (by omega), if_pos (by omega), if_pos (by omega), rdOf_at l j hj, hw]

def laws_FnManyMixed.Pure : Prop := ∀ (l0 : List ByteArray) (a1 : Int) (l2 : List Int), l0.length * 16 ≤ 140737488351232 → (Lit.int .i64 a1).wf = true → l2.length ≤ maxLen → l2.length * 8 ≤ 140737488351232 → (∀ x ∈ l2, (Lit.int .i64 x).wf = true) → ∃ k, laws_FnManyMixed.f k l0 a1 l2 = some true
theorem ManyMixed : laws_FnManyMixed.Pure := by
  intro l a1 l2 w0 w1 w2 w3 w4
  have key : Evt (fun k => laws_FnManyMixed.f k l a1 l2) true := by
    have jt : Evt (fun k => laws_FnManyMixed.j0 k l a1 l2 true) true := Evt.step (f := fun _ => some true) (Evt.const _) (fun k => by rw [laws_FnManyMixed.j0, if_pos rfl])
    obtain ⟨r, e, hr⟩ := fits_evt l
    refine Evt.congr (e.bind (g := fun k t198 => (if t198 = true then (laws_FnManyMixed.j0 k l a1 l2 (decide ((l2.length : Int) > 2147483647))) else (laws_FnManyMixed.j0 k l a1 l2 true))) ?_) (fun k => rfl)
    cases r
    · exact jt.congr (fun k => by rw [if_neg (by decide)])
    · obtain ⟨f1, f2⟩ := hr rfl
      refine Evt.congr (f := fun k => laws_FnManyMixed.j0 k l a1 l2 (decide ((l2.length : Int) > 2147483647))) ?_ (fun k => by rw [if_pos rfl])
      by_cases hl : (l2.length : Int) > 2147483647
      · rw [decide_eq_true hl]; exact jt
      · rw [decide_eq_false hl]
        have e1 := light_evt l a1 f2 f1
        refine Evt.step (e1.bind (g := fun k t199 => (if t199 = true then (laws_FnManyMixed.l0 k l a1 l2 ([] : List ByteArray) ([] : List ByteArray) l (l.length : Int) 0) else (some true))) ?_) (fun k => by rw [laws_FnManyMixed.j0, if_neg (by decide)])
        cases h1 : isLight l a1
        · exact (Evt.const true).congr (fun k => by rw [if_neg (by decide)])
        · obtain ⟨n, rfl, q1, q2, q3, q4, q5⟩ := isLight_all h1
          exact (mm_l0 l n l2 q2 q5 q3 q4 l.length 0 [] [] (by omega) (Acc.nil l)).congr (fun k => by rw [if_pos rfl]; rfl)
  obtain ⟨K, hK⟩ := key
  exact ⟨K, hK K (Nat.le_refl _)⟩
#print axioms ManyMixed
end Go.Proofs.YtjflijebcpcbmaaDoor.G
