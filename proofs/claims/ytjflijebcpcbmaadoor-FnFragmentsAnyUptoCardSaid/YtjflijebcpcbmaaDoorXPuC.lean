/-
 What is proved: what the reference's buffer tells at a pop: the next message, if all of it is there. Conditions: pieces that agree with the messages' bytes.
-/
import Derived.Test.YtjflijebcpcbmaaDoorXPuB
namespace Go.Proofs.YtjflijebcpcbmaaDoor.G
open Go.RowKit Go.Proofs.YtjflijebcpcbmaaDoorW.PrintWords Go.Proofs.YtjflijebcpcbmaaDoorW.PrintLast Go.Proofs.YtjflijebcpcbmaaDoorW.PrintMore
set_option linter.unusedVariables false
set_option linter.unusedSimpArgs false

theorem covStep_ge (q n : Int) (p : S69) : n ≤ covStep q n p := by
 unfold covStep
 split
 ·split <;> omega
 ·omega
theorem fold_ge (q : Int) : ∀ (l : List S69) (n : Int), n ≤ l.foldl (covStep q) n
 | [], n => Int.le_refl _
 | p :: l, n => Int.le_trans (covStep_ge q n p) (fold_ge q l _)
theorem fold_fix (q : Int) : ∀ (l : List S69) (n : Int), l.foldl (covStep q) n = n → ∀ p ∈ l, p.f2 = q → p.f3 ≤ n → p.f3 + p.f4.size ≤ n
 | [], n, _, p, hp => by simp at hp
 | x :: l, n, h, p, hp => fun h2 h3 => by
   have g1 := covStep_ge q n x
   have g2 := fold_ge q l (covStep q n x)
   have h' : l.foldl (covStep q) (covStep q n x) = n := h
   have e : covStep q n x = n := by omega
   rcases List.mem_cons.1 hp with rfl | hp
   ·unfold covStep at e
    rw [if_pos ⟨h2, h3⟩] at e
    split at e <;> omega
   ·rw [e] at h'
    exact fold_fix q l n h' p hp h2 h3
theorem fold_cov (q : Int) : ∀ (l : List S69) (n : Int), ∀ k, n ≤ k → k < l.foldl (covStep q) n → ∃ p ∈ l, p.f2 = q ∧ p.f3 ≤ k ∧ k < p.f3 + p.f4.size
 | [], n, k, h1, h2 => by simp at h2; omega
 | x :: l, n, k, h1, h2 => by
   by_cases hk : k < covStep q n x
   ·unfold covStep at hk
    split at hk
    ·rename_i hc
     split at hk
     ·exact ⟨x, by simp, hc.1, by omega, hk⟩
     ·omega
    ·omega
   ·obtain ⟨p, hp, g⟩ := fold_cov q l (covStep q n x) k (by omega) h2
    exact ⟨p, by simp [hp], g⟩
theorem fold_val (q : Int) : ∀ (l : List S69) (n : Int), l.foldl (covStep q) n = n ∨ ∃ p ∈ l, p.f2 = q ∧ l.foldl (covStep q) n = p.f3 + p.f4.size
 | [], n => .inl rfl
 | x :: l, n => by
   rcases fold_val q l (covStep q n x) with h | ⟨p, hp, h1, h2⟩
   ·have h' : (x :: l).foldl (covStep q) n = covStep q n x := h
    rw [h']
    unfold covStep
    split
    ·rename_i hc
     split
     ·exact .inr ⟨x, by simp, hc.1, rfl⟩
     ·exact .inl rfl
    ·exact .inl rfl
   ·exact .inr ⟨p, by simp [hp], h1, h2⟩
def endIn (q n : Int) (p : S69) : Bool := decide (p.f2 = q) && decide (p.f3 + p.f4.size ≤ n)
theorem count_lt {α : Type} (P Q : α → Bool) : ∀ (l : List α), (∀ x ∈ l, P x = true → Q x = true) → (∃ x ∈ l, Q x = true ∧ P x = false) → l.countP P < l.countP Q
 | [], _, ⟨x, hx, _⟩ => by simp at hx
 | y :: l, h, ⟨x, hx, h1, h2⟩ => by
   have hle : l.countP P ≤ l.countP Q := List.countP_mono_left (fun z hz => h z (by simp [hz]))
   rw [List.countP_cons, List.countP_cons]
   rcases List.mem_cons.1 hx with rfl | hx
   ·rw [h1, h2]
    simp
    omega
   ·have := count_lt P Q l (fun z hz => h z (by simp [hz])) ⟨x, hx, h1, h2⟩
    have hy := h y (by simp)
    cases hP : P y
    ·simp
     split <;> omega
    ·rw [hy hP]
     simp
     omega
theorem covIt_or (q : Int) (l : List S69) : ∀ (j : Nat), covIn q l (covIt q l j 0) = covIt q l j 0 ∨ j ≤ l.countP (endIn q (covIt q l j 0))
 | 0 => .inr (Nat.zero_le _)
 | j + 1 => by
   rw [covIt_out]
   rcases covIt_or q l j with h | h
   ·left
    rw [h, h]
   ·by_cases hf : covIn q l (covIt q l j 0) = covIt q l j 0
    ·left
     rw [hf, hf]
    ·right
     have hge : covIt q l j 0 ≤ covIn q l (covIt q l j 0) := fold_ge q l _
     obtain ⟨p, hp, h1, h2⟩ := (fold_val q l (covIt q l j 0)).resolve_left hf
     have h2' : covIn q l (covIt q l j 0) = p.f3 + p.f4.size := h2
     have := count_lt (endIn q (covIt q l j 0)) (endIn q (covIn q l (covIt q l j 0))) l (fun x hx hx2 => by
      unfold endIn at hx2 ⊢
      simp only [Bool.and_eq_true, decide_eq_true_eq] at hx2 ⊢
      exact ⟨hx2.1, by omega⟩) ⟨p, hp, by
       unfold endIn
       simp only [Bool.and_eq_true, decide_eq_true_eq]
       exact ⟨h1, by omega⟩, by
       unfold endIn
       rw [Bool.and_eq_false_iff]
       right
       exact decide_eq_false (by omega)⟩
     omega
theorem covIt_closed (q : Int) (l : List S69) : ∀ p ∈ l, p.f2 = q → p.f3 ≤ covIt q l l.length 0 → p.f3 + p.f4.size ≤ covIt q l l.length 0 := by
 intro p hp h2 h3
 rcases covIt_or q l l.length with h | h
 ·exact fold_fix q l _ h p hp h2 h3
 ·have hall : ∀ a ∈ l, endIn q (covIt q l l.length 0) a = true := List.countP_eq_length.1 (Nat.le_antisymm List.countP_le_length h)
  have := hall p hp
  unfold endIn at this
  simp only [Bool.and_eq_true, decide_eq_true_eq] at this
  exact this.2
theorem covIt_cov (q : Int) (l : List S69) : ∀ (j : Nat) (k : Int), 0 ≤ k → k < covIt q l j 0 → ∃ p ∈ l, p.f2 = q ∧ p.f3 ≤ k ∧ k < p.f3 + p.f4.size
 | 0, k, h0, h => by simp [covIt] at h; omega
 | j + 1, k, h0, h => by
   rw [covIt_out] at h
   by_cases hk : k < covIt q l j 0
   ·exact covIt_cov q l j k h0 hk
   ·exact fold_cov q l _ k (by omega) h
theorem cov_iff (q : Nat) (l : List S69) (hp : ∀ p ∈ l, 0 ≤ p.f3) (F : Nat) : (F : Int) ≤ covIt (q : Int) l l.length 0 ↔ ∀ k, k < F → CovS l q k := by
 constructor
 ·intro h k hk
  obtain ⟨p, h1, h2, h3, h4⟩ := covIt_cov (q : Int) l l.length (k : Int) (by omega) (by omega)
  have := hp p h1
  exact ⟨p, h1, h2, by omega, by omega⟩
 ·intro h
  have h0 : 0 ≤ covIt (q : Int) l l.length 0 := by
   have : ∀ j, 0 ≤ covIt (q : Int) l j 0 := by
    intro j
    induction j with
    | zero => exact Int.le_refl _
    | succ j ih => rw [covIt_out]; exact Int.le_trans ih (fold_ge _ _ _)
   exact this _
  by_cases hc : (F : Int) ≤ covIt (q : Int) l l.length 0
  ·exact hc
  ·obtain ⟨p, h1, h2, h3, h4⟩ := h (covIt (q : Int) l l.length 0).toNat (by omega)
   have := hp p h1
   have := covIt_closed (q : Int) l p h1 h2 (by omega)
   omega

theorem bodyGo_ok (B : List Nat) (q : Nat) : ∀ (l : List S69) (cur : List Nat) (D : Nat → Prop), cur.length = B.length → (∀ k, D k → cur[k]? = B[k]?) → (∀ p ∈ l, p.f2 = (q : Int) → ∃ o : Nat, p.f3 = (o : Int) ∧ o + p.f4.size ≤ B.length ∧ baNat p.f4 = (B.drop o).take p.f4.size) →
 ∃ r, bodyGo (q : Int) l cur = some r ∧ r.length = B.length ∧ ∀ k, (D k ∨ CovS l q k) → r[k]? = B[k]?
 | [], cur, D, h1, h2, _ => ⟨cur, rfl, h1, fun k hk => hk.elim (h2 k) (fun ⟨p, hp, _⟩ => by simp at hp)⟩
 | p :: l, cur, D, h1, h2, h3 => by
   by_cases hq : p.f2 = (q : Int)
   ·obtain ⟨o, e1, e2, e3⟩ := h3 p (by simp) hq
    have e3' : baN p.f4 = (B.drop o).take p.f4.size := e3
    have hlen : (baN p.f4).length = p.f4.size := baNat_length p.f4
    have hcl : (cur.take o ++ baN p.f4 ++ cur.drop (o + p.f4.size)).length = B.length := by
     rw [List.length_append, List.length_append, List.length_take, List.length_drop, hlen, h1]
     omega
    have hget : ∀ k, (D k ∨ (o ≤ k ∧ k < o + p.f4.size)) → (cur.take o ++ baN p.f4 ++ cur.drop (o + p.f4.size))[k]? = B[k]? := by
     intro k hk
     have hto : (cur.take o).length = o := by rw [List.length_take]; omega
     rw [List.append_assoc]
     by_cases ho : k < o
     ·rw [List.getElem?_append_left (by omega), List.getElem?_take, if_pos ho]
      exact h2 k (hk.resolve_right (by omega))
     ·rw [List.getElem?_append_right (by omega), hto]
      by_cases ho2 : k < o + p.f4.size
      ·rw [List.getElem?_append_left (by omega), e3', List.getElem?_take, if_pos (by omega), List.getElem?_drop, show o + (k - o) = k by omega]
      ·rw [List.getElem?_append_right (by omega), hlen, List.getElem?_drop, show o + p.f4.size + (k - o - p.f4.size) = k by omega]
       exact h2 k (hk.resolve_right (by omega))
    obtain ⟨r, r1, r2, r3⟩ := bodyGo_ok B q l _ (fun k => D k ∨ (o ≤ k ∧ k < o + p.f4.size)) hcl hget (fun x hx => h3 x (by simp [hx]))
    refine ⟨r, ?_, r2, fun k hk => r3 k ?_⟩
    ·rw [bodyGo, if_pos hq, e1, Int.toNat_natCast, if_pos (by omega)]
     exact r1
    ·rcases hk with hk | ⟨x, hx, g1, g2, g3⟩
     ·exact .inl (.inl hk)
     ·rcases List.mem_cons.1 hx with rfl | hx
      ·rw [e1, Int.toNat_natCast] at g2 g3
       exact .inl (.inr ⟨g2, g3⟩)
      ·exact .inr ⟨x, hx, g1, g2, g3⟩
   ·obtain ⟨r, r1, r2, r3⟩ := bodyGo_ok B q l cur D h1 h2 (fun x hx => h3 x (by simp [hx]))
    refine ⟨r, by rw [bodyGo, if_neg hq]; exact r1, r2, fun k hk => r3 k ?_⟩
    rcases hk with hk | ⟨x, hx, g1, g2, g3⟩
    ·exact .inl hk
    ·rcases List.mem_cons.1 hx with rfl | hx
     ·exact absurd g1 hq
     ·exact .inr ⟨x, hx, g1, g2, g3⟩

/-- The header, as numbers. -/
theorem head_nat (t l q : Nat) (ht : t < 256) (hl : l < 16777216) (hq : q < 65536) : baNat (headBa (t : Int) (l : Int) (q : Int) 0 (l : Int)) = hdr12 t l q 0 l := by
 have e3 : ∀ x : Nat, strOfNums [((x : Int) / 65536) % 256, ((x : Int) / 256) % 256, (x : Int) % 256] = natBa (be3 x) := fun x => by
  rw [← nums_eq]
  simp only [be3, List.map_cons, List.map_nil]
  congr 2
 have e2 : ∀ x : Nat, strOfNums [((x : Int) / 256) % 256, (x : Int) % 256] = natBa (be2 x) := fun x => by
  rw [← nums_eq]
  simp only [be2, List.map_cons, List.map_nil]
  congr 2
 have e1 : strOfNums [(t : Int)] = natBa [t] := by rw [← nums_eq]; rfl
 unfold headBa
 have e0 := e3 0
 rw [e1, e3 l, e2 q]
 rw [show strOfNums [(0 : Int) / 65536 % 256, (0 : Int) / 256 % 256, (0 : Int) % 256] = natBa (be3 0) from e3 0]
 rw [baNat_append, baNat_append, baNat_append, baNat_append, baNat_natBa _ (be_lt3 l), baNat_natBa _ (be_lt3 0), baNat_natBa _ (be_lt2 q), baNat_natBa _ (fun x hx => by simp at hx; omega)]
 show _ = [t, l / 65536, l / 256 % 256, l % 256, q / 256, q % 256, 0 / 65536, 0 / 256 % 256, 0 % 256, l / 65536, l / 256 % 256, l % 256]
 simp only [be3, be2, List.cons_append, List.nil_append]
 rw [show l / 65536 % 256 = l / 65536 by omega, show q / 256 % 256 = q / 256 by omega]

/-- What the reference tells at a pop. -/
theorem sbPop_yes {Bs : Nat → List Nat} {ty ep : Nat → Nat} {l : List S69} (hF : Fits Bs ty ep l) (q : Nat) (hH : HasS l q) (hC : ∀ k, k < (Bs q).length → CovS l q k) (hB : ∀ y ∈ Bs q, y < 256) :
 sbPop l q = some (⟨false, false, false, true, natBa (hdr12 (ty q) (Bs q).length q 0 (Bs q).length ++ Bs q), (ep q : Int), 0⟩, restOf (q : Int) l, q + 1) := by
 have hst : ∃ p, startOf (q : Int) l = some p := by
  obtain ⟨p, hp, h2, h3⟩ : ∃ p ∈ l, p.f2 = (q : Int) ∧ p.f3 = 0 := by
   by_cases h0 : 0 < (Bs q).length
   ·obtain ⟨p, hp, g1, g2, g3⟩ := hC 0 h0
    obtain ⟨q', o, n, F⟩ := hF p hp
    have := F.fo
    exact ⟨p, hp, g1, by omega⟩
   ·obtain ⟨p, hp, g1⟩ := hH
    obtain ⟨q', o, n, F⟩ := hF p hp
    have e : q' = q := by have := F.fq; omega
    subst e
    have := F.le
    have := F.fo
    exact ⟨p, hp, g1, by omega⟩
  have : (startOf (q : Int) l).isSome := by
   unfold startOf
   rw [List.find?_isSome]
   exact ⟨p, hp, by unfold isStart; rw [decide_eq_true h2, decide_eq_true h3]; rfl⟩
  exact Option.isSome_iff_exists.1 this
 obtain ⟨p, hp⟩ := hst
 have hpm := startOf_mem hp
 obtain ⟨q', o, n, F⟩ := hF p hpm
 have hpq : p.f2 = (q : Int) := by
  have := List.find?_some hp
  unfold isStart at this
  simp only [Bool.and_eq_true, decide_eq_true_eq] at this
  exact this.1
 have e : q' = q := by have := F.fq; omega
 subst e
 have h3 : ∀ x ∈ l, 0 ≤ x.f3 := fun x hx => by
  obtain ⟨_, _, _, G⟩ := hF x hx
  have := G.fo
  omega
 have hcov := (cov_iff q' l h3 (Bs q').length).2 hC
 obtain ⟨r, r1, r2, r3⟩ := bodyGo_ok (Bs q') q' l (List.replicate (Bs q').length 0) (fun _ => False) List.length_replicate (fun k h => h.elim) (fun x hx hx2 => by
  obtain ⟨q2, o2, n2, G⟩ := hF x hx
  have e2 : q2 = q' := by have := G.fq; omega
  subst e2
  have := G.fn
  exact ⟨o2, G.fo, by rw [G.fn]; exact G.le, by rw [G.fn]; exact G.dat⟩)
 have hr : r = Bs q' := by
  apply List.ext_getElem?
  intro k
  by_cases hk : k < (Bs q').length
  ·exact r3 k (.inr (hC k hk))
  ·rw [List.getElem?_eq_none (by omega), List.getElem?_eq_none (by omega)]
 subst hr
 unfold sbPop
 rw [hp]
 simp only
 rw [if_neg (by rw [F.fl]; omega), F.ft, F.fl, hpq, head_eq, Int.toNat_natCast]
 simp only [Option.bind_some]
 rw [r1, F.fe]
 simp only [Option.map_some]
 congr 3
 apply ba_ext
 rw [baNat_append, head_nat _ _ _ F.tl F.small F.ql, baNat_natBa]
 ·congr 1
  exact baNat_natBa _ hB
 ·intro x hx
  rcases List.mem_append.1 hx with hx | hx
  ·rw [← head_nat _ _ _ F.tl F.small F.ql] at hx
   exact baNat_lt _ x hx
  ·exact hB x hx
theorem sbPop_no {Bs : Nat → List Nat} {ty ep : Nat → Nat} {l : List S69} (hF : Fits Bs ty ep l) (q : Nat) (hN : ¬ (HasS l q ∧ ∀ k, k < (Bs q).length → CovS l q k)) : sbPop l q = some (z40, l, q) := by
 unfold sbPop
 cases hp : startOf (q : Int) l with
 | none => rfl
 | some p =>
   simp only
   have hpm := startOf_mem hp
   obtain ⟨q', o, n, F⟩ := hF p hpm
   have hpq : p.f2 = (q : Int) := by
    have := List.find?_some hp
    unfold isStart at this
    simp only [Bool.and_eq_true, decide_eq_true_eq] at this
    exact this.1
   have e : q' = q := by have := F.fq; omega
   subst e
   have h3 : ∀ x ∈ l, 0 ≤ x.f3 := fun x hx => by
    obtain ⟨_, _, _, G⟩ := hF x hx
    have := G.fo
    omega
   rw [if_pos]
   rw [F.fl]
   by_cases h : covIt (q' : Int) l l.length 0 < ((Bs q').length : Int)
   ·exact h
   ·exact absurd ⟨⟨p, hpm, hpq⟩, (cov_iff q' l h3 (Bs q').length).1 (by omega)⟩ hN
end Go.Proofs.YtjflijebcpcbmaaDoor.G
