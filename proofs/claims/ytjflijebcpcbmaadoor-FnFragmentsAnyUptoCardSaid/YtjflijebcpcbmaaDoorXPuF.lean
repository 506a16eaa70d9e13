/-
 What is proved: the plain statement of the law of any script: for every input of few bytes the printed law answers true. Conditions: at most 2000000000000 bytes in all.
-/
import Derived.Test.YtjflijebcpcbmaaDoorXPuL
import Derived.Test.YtjflijebcpcbmaaDoorXS3
namespace Go.Proofs.YtjflijebcpcbmaaDoor.G
open Go.RowKit Go.Proofs.YtjflijebcpcbmaaDoorW.PrintWords Go.Proofs.YtjflijebcpcbmaaDoorW.PrintLast Go.Proofs.YtjflijebcpcbmaaDoorW.PrintMore
set_option linter.unusedVariables false
set_option linter.unusedSimpArgs false

theorem rdS40_at (l : List S40) (i : Nat) (h : i < l.length) : rd_T40 l (i : Int) = l[i] := by
 simp [rd_T40, List.getD_eq_getElem?_getD, List.getElem?_eq_getElem h]
theorem Ags.length {ts us : List S40} (h : Ags ts us) : ts.length = us.length := by
 induction h with
 | nil => rfl
 | cons _ _ ih => simp [ih]
theorem Ags.get {ts us : List S40} (h : Ags ts us) : ∀ (i : Nat) (h1 : i < ts.length) (h2 : i < us.length), Ag ts[i] us[i] := by
 induction h with
 | nil => intro i h1; simp at h1
 | cons h0 _ ih =>
   intro i h1 h2
   cases i with
   | zero => exact h0
   | succ i => exact ih i (by simpa using h1) (by simpa using h2)
theorem run_len : ∀ (xs : List S45) (s : St) (ts : List S40), St.run s xs = some ts → ts.length = xs.length
 | [], s, ts, h => by
   rw [St.run] at h
   injection h with h
   subst h
   rfl
 | x :: xs, s, ts, h => by
   rw [St.run] at h
   obtain ⟨⟨t, s'⟩, h1, h2⟩ := Option.bind_eq_some_iff.1 h
   obtain ⟨ts', h3, rfl⟩ := Option.map_eq_some_iff.1 h2
   have := run_len xs s' ts' h3
   simp [this]
theorem known_ok {xs : List S45} {pss : List (List S69)} (h : KXs xs pss) : (∀ x ∈ xs, x.f1.size ≤ 2147483647) → ∀ p ∈ pss.flatten, Okp p ∧ p.f3 + p.f4.size ≤ p.f1 ∧ (p.f4.size = 0 → p.f1 ≤ 0) := by
 induction h with
 | nil => intro _ p hp; simp at hp
 | @push x ps xs pss hx hk _ ih =>
   intro hs p hp
   rw [List.flatten_cons] at hp
   rcases List.mem_append.1 hp with hp | hp
   ·rcases hk.kind with ⟨_, k2, k3⟩ | ⟨_, _, _, k4⟩
    ·have := (pieces_ok x.f1 ps hk.big (hs x (by simp)) k2).1 p hp
     exact ⟨this.1, this.2, k3 p hp⟩
    ·subst k4
     simp at hp
   ·exact ih (fun y hy => hs y (by simp [hy])) p hp
 | pop hx _ ih =>
   intro hs p hp
   rw [List.flatten_cons, List.nil_append] at hp
   exact ih (fun y hy => hs y (by simp [hy])) p hp
theorem known_good {Bs : Nat → List Nat} {ty ep : Nat → Nat} {xs : List S45} {pss : List (List S69)} (h : KXs xs pss) : bytesIn xs ≤ 20000 → Fits Bs ty ep pss.flatten → GoodXs Bs ty ep xs pss := by
 induction h with
 | nil => intro _ _; exact .nil
 | @push x ps xs pss hx hk _ ih =>
   intro hb hF
   rw [bytes_cons, if_pos hx] at hb
   rw [List.flatten_cons] at hF
   refine .push hx ⟨hk.big, by have := hk.b1; omega, hk.b1, hk.b2, ?_⟩ (ih (by omega) (fun p hp => hF p (List.mem_append_right _ hp)))
   rcases hk.kind with ⟨k1, k2, _⟩ | k
   ·exact .inl ⟨k1, k2, fun p hp => hF p (List.mem_append_left _ hp)⟩
   ·exact .inr k
 | pop hx _ ih =>
   intro hb hF
   rw [bytes_cons, if_neg (by rw [hx]; decide)] at hb
   rw [List.flatten_cons, List.nil_append] at hF
   exact .pop hx (ih (by omega) hF)

theorem same_go (ts us : List S40) (hA : Ags ts us) (hl : ts.length < 1000000) : ∀ (d j : Nat), j + d = ts.length → Evt (fun k => laws_FnFragmentsAny.l0 k ts us (ts.length : Int) (j : Int)) true
 | 0, j, h => Evt.step (f := fun _ => some true) (Evt.const _) (fun k => by rw [laws_FnFragmentsAny.l0, if_neg (by omega)])
 | d + 1, j, h => by
   have hj : j < ts.length := by omega
   have hle := hA.length
   have hj2 : j < us.length := by omega
   have hw : wrap64 ((j : Int) + 1) = ((j + 1 : Nat) : Int) := by rw [wrapi _ (by omega) (by omega)]; omega
   obtain ⟨a0, a1, a2, a3, a4, a5⟩ := hA.get j hj hj2
   refine (same_go ts us hA hl d (j + 1) (by omega)).step (fun k => ?_)
   have hb : ∀ b : Bool, ¬ ((b != b) = true) := fun b => by cases b <;> decide
   rw [laws_FnFragmentsAny.l0, if_pos (by omega), if_pos (by omega), if_pos (by omega), if_pos (by omega), rdS40_at ts j hj, rdS40_at us j hj2, a0, a1, a2, a3, a4, a5, if_neg (hb _), if_pos rfl, if_neg (hb _), if_neg (hb _), if_neg (hb _), if_pos rfl, hw]

def laws_FnFragmentsAny.Pure : Prop := ∀ (l0 : List S45), bytesIn l0 ≤ 2000000000000 → ∃ k, laws_FnFragmentsAny.f k l0 = some true
theorem FragmentsAny : laws_FnFragmentsAny.Pure := by
 intro l w0
 have key : Evt (fun k => laws_FnFragmentsAny.f k l) true := by
  have jt : Evt (fun k => laws_FnFragmentsAny.j0 k l true) true := Evt.step (f := fun _ => some true) (Evt.const _) (fun k => by rw [laws_FnFragmentsAny.j0, if_pos rfl])
  obtain ⟨r, e, hr⟩ := fits5_evt l
  refine Evt.congr (e.bind (g := fun k t134 => (if t134 = true then (if (l.length : Int) = 0 then (laws_FnFragmentsAny.j0 k l true) else ((spec_FragmentsKnown.f k l).bind fun t135 => (laws_FnFragmentsAny.j0 k l (!t135)))) else (some true))) ?_) (fun k => rfl)
  cases r
  ·exact (Evt.const true).congr (fun k => by rw [if_neg (by decide)])
  ·obtain ⟨f1, f2⟩ := hr rfl
   by_cases hz : (l.length : Int) = 0
   ·exact jt.congr (fun k => by rw [if_pos rfl, if_pos hz])
   ·refine Evt.congr (f := fun k => (spec_FragmentsKnown.f k l).bind fun t135 => (laws_FnFragmentsAny.j0 k l (!t135))) ?_ (fun k => by rw [if_pos rfl, if_neg hz])
    obtain ⟨r, e, hr⟩ := known_all l f1 f2 l.length 0 (by omega) [] 0 (fun p hp => by simp at hp) (Nat.le_refl _) (by rw [List.drop_zero]; omega)
    refine (e.congr (F := fun k => spec_FragmentsKnown.f k l) (fun k => rfl)).bind (g := fun k t135 => laws_FnFragmentsAny.j0 k l (!t135)) ?_
    cases r
    ·exact jt
    ·obtain ⟨g1, pss, g2, g3, g4, g5⟩ := hr rfl
     rw [List.drop_zero] at g2 g4
     rw [List.nil_append] at g3 g5
     have hA : Alikes pss.flatten := g3 List.Pairwise.nil
     have hok := known_ok g2 f2
     have hF := fits_of hA (fun p hp => (hok p hp).1) (fun p hp => (hok p hp).2)
     have hX := known_good (Bs := msOf pss.flatten) (ty := tyOf pss.flatten) (ep := epOf pss.flatten) g2 (by omega) hF
     obtain ⟨ts, us, t1, t2, t3⟩ := both_run (msOf_lt pss.flatten) hX [] [] 0 0 0 0 St.new (both_new _ _ _) (by omega) (by omega) (by omega)
     have hlt := run_len l St.new ts t1
     have hi : impl_Fragments.f l = some ts := by unfold impl_Fragments.f; rw [if_pos (by omega), t1]
     have hs : spec_Fragments.f l = some us := by unfold spec_Fragments.f; rw [if_pos (by omega), t2]
     have hle := t3.length
     have e1 : Evt (fun k => laws_FnFragmentsAny.j1 k ts us false) true := (same_go ts us t3 (by omega) ts.length 0 (by omega)).step (fun k => by rw [laws_FnFragmentsAny.j1, if_neg (by decide)]; rfl)
     refine e1.step (fun k => ?_)
     rw [laws_FnFragmentsAny.j0, if_neg (by decide), hi]
     simp only [Option.bind_some]
     rw [hs]
     simp only [Option.bind_some]
     rw [if_pos (by omega), show ((us.length : Int) != (l.length : Int)) = false by simp; omega]
 obtain ⟨K, hK⟩ := key
 exact ⟨K, hK K (Nat.le_refl _)⟩
#print axioms FragmentsAny
end Go.Proofs.YtjflijebcpcbmaaDoor.G
