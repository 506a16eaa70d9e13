/-
 What is proved: a record's pieces as the reference reads them are the fragments that the plain model reads. Conditions: the reference's reading lacks nothing.
-/
import Derived.Test.YtjflijebcpcbmaaDoorXPuA
import Derived.Test.YtjflijebcpcbmaaDoorXSpX
namespace Go.Proofs.YtjflijebcpcbmaaDoor.G
open Go.RowKit Go.Proofs.YtjflijebcpcbmaaDoorW.PrintWords Go.Proofs.YtjflijebcpcbmaaDoorW.PrintLast Go.Proofs.YtjflijebcpcbmaaDoorW.PrintMore
set_option linter.unusedVariables false
set_option linter.unusedSimpArgs false

theorem tk_nat (x : ByteArray) (n : Nat) : baNat (tk x n) = (baNat x).take n := by
 unfold tk
 rw [baNat_extract _ _ _ (Nat.min_le_right _ _), List.drop_zero, Nat.sub_zero]
 by_cases h : n ≤ x.size
 ·rw [Nat.min_eq_left h]
 ·rw [Nat.min_eq_right (by omega), List.take_of_length_le (by rw [baNat_length]; exact Nat.le_refl _), List.take_of_length_le (by rw [baNat_length]; omega)]
theorem dr_nat (x : ByteArray) (n : Nat) : baNat (dr x n) = (baNat x).drop n := by
 unfold dr
 rw [baNat_extract _ _ _ (Nat.le_refl _), List.take_of_length_le (by rw [List.length_drop, baNat_length]; exact Nat.le_refl _)]
 by_cases h : n ≤ x.size
 ·rw [Nat.min_eq_left h]
 ·rw [Nat.min_eq_right (by omega), List.drop_of_length_le (by rw [baNat_length]; exact Nat.le_refl _), List.drop_of_length_le (by rw [baNat_length]; omega)]
theorem dr_len (x : ByteArray) (n : Nat) : (dr x n).size = x.size - n := by
 have := congrArg List.length (dr_nat x n)
 rwa [baNat_length, List.length_drop, baNat_length] at this
theorem nm_nat (x : ByteArray) : nm x = ((baNat x).take 3).foldl (fun v y => v * 256 + y) 0 := rfl
theorem nm1 (x : ByteArray) (h : 1 ≤ x.size) : nm (tk x 1) = (baNat x).getD 0 0 := by
 rw [nm_nat, tk_nat, ← baNat_length] at *
 cases hl : baNat x with
 | nil => rw [hl] at h; simp at h
 | cons a l => simp
theorem nm2 (x : ByteArray) (h : 2 ≤ x.size) : nm (tk x 2) = u16of (baNat x) := by
 rw [nm_nat, tk_nat, ← baNat_length] at *
 unfold u16of
 match hl : baNat x with
 | [] => rw [hl] at h; simp at h
 | [a] => rw [hl] at h; simp at h
 | a :: b :: l => simp
theorem nm3 (x : ByteArray) (h : 3 ≤ x.size) : nm (tk x 3) = u24of (baNat x) := by
 rw [nm_nat, tk_nat, ← baNat_length] at *
 unfold u24of
 match hl : baNat x with
 | [] => rw [hl] at h; simp at h
 | [a] => rw [hl] at h; simp at h
 | [a, b] => rw [hl] at h; simp at h
 | a :: b :: c :: l => simp; omega

/-- The fragments of some bytes, as the pieces of a record of this epoch. -/
inductive Parsed (ep : Nat) : List Nat → List S69 → Prop
 | nil : Parsed ep [] []
 | cons {bs : List Nat} {p : S69} {ps : List S69} : 12 + (hdOf bs).2.2.2.2 ≤ bs.length → p = ⟨((hdOf bs).1 : Nat), ((hdOf bs).2.1 : Nat), ((hdOf bs).2.2.1 : Nat), ((hdOf bs).2.2.2.1 : Nat), natBa ((bs.drop 12).take (hdOf bs).2.2.2.2), (ep : Nat)⟩ → (hdOf bs).2.2.2.1 + (hdOf bs).2.2.2.2 ≤ (hdOf bs).2.1 → Parsed ep (bs.drop (12 + (hdOf bs).2.2.2.2)) ps → Parsed ep bs (p :: ps)
theorem spGo_bad (ep : Nat) (k : Nat) (x : ByteArray) (acc r : List S69) : spGo ep k x true acc ≠ some (r, true) := by
 cases k with
 | zero => simp [spGo]
 | succ k =>
   unfold spGo
   split
   ·simp
   ·simp
theorem spGo_parsed (ep : Nat) : ∀ (k : Nat) (x : ByteArray) (acc r : List S69), spGo ep k x false acc = some (r, true) → ∃ ps, r = acc ++ ps ∧ Parsed ep (baNat x) ps
 | 0, x, acc, r, h => by simp [spGo] at h
 | k + 1, x, acc, r, h => by
   unfold spGo at h
   split at h
   ·rename_i h0
    injection h with h
    injection h with h1 _
    have : baNat x = [] := List.eq_nil_of_length_eq_zero (by rw [baNat_length]; exact h0)
    exact ⟨[], by rw [h1, List.append_nil], by rw [this]; exact .nil⟩
   ·rename_i h0
    rw [if_neg (by decide)] at h
    cases hb : (spRound ep x).2.2
    ·rw [hb] at h
     obtain ⟨ps, e, hp⟩ := spGo_parsed ep k _ _ _ h
     refine ⟨(spRound ep x).1 :: ps, by rw [e, List.append_assoc]; rfl, ?_⟩
     unfold spRound at hb hp ⊢
     simp only [Bool.or_eq_false_iff, decide_eq_false_iff_not, dr_len] at hb
     obtain ⟨⟨⟨⟨⟨⟨b1, b2⟩, b3⟩, b4⟩, b5⟩, b6⟩, b7⟩ := hb
     simp only at hp ⊢
     have d4 : baNat (dr (dr x 1) 3) = (baNat x).drop 4 := by rw [dr_nat, dr_nat, List.drop_drop]
     have d6 : baNat (dr (dr (dr x 1) 3) 2) = (baNat x).drop 6 := by rw [dr_nat, d4, List.drop_drop]
     have d9 : baNat (dr (dr (dr (dr x 1) 3) 2) 3) = (baNat x).drop 9 := by rw [dr_nat, d6, List.drop_drop]
     have d12 : baNat (dr (dr (dr (dr (dr x 1) 3) 2) 3) 3) = (baNat x).drop 12 := by rw [dr_nat, d9, List.drop_drop]
     have e1 := nm1 x (by omega)
     have e2 := nm3 (dr x 1) (by rw [dr_len]; omega)
     have e3 := nm2 (dr (dr x 1) 3) (by rw [dr_len, dr_len]; omega)
     have e4 := nm3 (dr (dr (dr x 1) 3) 2) (by rw [dr_len, dr_len, dr_len]; omega)
     have e5 := nm3 (dr (dr (dr (dr x 1) 3) 2) 3) (by rw [dr_len, dr_len, dr_len, dr_len]; omega)
     rw [dr_nat] at e2
     rw [d4] at e3
     rw [d6] at e4
     rw [d9] at e5
     have hhd : hdOf (baNat x) = (nm (tk x 1), nm (tk (dr x 1) 3), nm (tk (dr (dr x 1) 3) 2), nm (tk (dr (dr (dr x 1) 3) 2) 3), nm (tk (dr (dr (dr (dr x 1) 3) 2) 3) 3)) := by
      unfold hdOf
      rw [e1, e2, e3, e4, e5]
     obtain ⟨n, hn⟩ : ∃ n, n = nm (tk (dr (dr (dr (dr x 1) 3) 2) 3) 3) := ⟨_, rfl⟩
     rw [← hn] at hhd hp b6 b7 ⊢
     have htk : (tk (dr (dr (dr (dr (dr x 1) 3) 2) 3) 3) n).size = n := by
      have := congrArg List.length (tk_nat (dr (dr (dr (dr (dr x 1) 3) 2) 3) 3) n)
      rw [baNat_length, List.length_take, d12, List.length_drop, baNat_length] at this
      omega
     have hdat : tk (dr (dr (dr (dr (dr x 1) 3) 2) 3) 3) n = natBa (((baNat x).drop 12).take n) := by
      apply ba_ext
      rw [tk_nat, d12, baNat_natBa]
      intro y hy
      exact baNat_lt x y (List.mem_of_mem_drop (List.mem_of_mem_take hy))
     refine Parsed.cons ?_ ?_ ?_ ?_
     ·rw [hhd, baNat_length]
      simp only
      omega
     ·rw [hhd, hdat]
     ·rw [hhd]
      simp only
      rw [htk] at b7
      omega
     ·rw [hhd]
      simp only
      rw [dr_nat, d12, List.drop_drop] at hp
      exact hp
    ·rw [hb] at h
     exact absurd h (spGo_bad ep k _ _ _)

def CovS (L : List S69) (q k : Nat) : Prop := ∃ p ∈ L, p.f2 = (q : Int) ∧ p.f3.toNat ≤ k ∧ k < p.f3.toNat + p.f4.size
def HasS (L : List S69) (q : Nat) : Prop := ∃ p ∈ L, p.f2 = (q : Int)
/-- A piece of these messages. -/
structure Fit (Bs : Nat → List Nat) (ty ep : Nat → Nat) (p : S69) (q o n : Nat) : Prop where
 fq : p.f2 = (q : Int)
 ql : q < 65536
 fo : p.f3 = (o : Int)
 fn : p.f4.size = n
 ft : p.f0 = (ty q : Int)
 fl : p.f1 = ((Bs q).length : Int)
 fe : p.f5 = (ep q : Int)
 small : (Bs q).length < 16777216
 le : o + n ≤ (Bs q).length
 pos : 0 < n ∨ (Bs q).length = 0
 dat : baNat p.f4 = ((Bs q).drop o).take n
 tl : ty q < 256
 el : ep q < 65536
def Fits (Bs : Nat → List Nat) (ty ep : Nat → Nat) (ps : List S69) : Prop := ∀ p ∈ ps, ∃ q o n, Fit Bs ty ep p q o n
theorem cov_add (L : List S69) (p : S69) {q o n : Nat} (h2 : p.f2 = (q : Int)) (h3 : p.f3 = (o : Int)) (h4 : p.f4.size = n) : (fun q' k => CovS L q' k ∨ (q' = q ∧ o ≤ k ∧ k < o + n)) = CovS (L ++ [p]) := by
 funext q' k
 refine propext ⟨?_, ?_⟩
 ·rintro (⟨y, hy, g⟩ | ⟨rfl, g1, g2⟩)
  ·exact ⟨y, by simp [hy], g⟩
  ·exact ⟨p, by simp, h2, by rw [h3, Int.toNat_natCast]; exact g1, by rw [h3, Int.toNat_natCast, h4]; exact g2⟩
 ·rintro ⟨y, hy, g1, g2, g3⟩
  rcases List.mem_append.1 hy with hy | hy
  ·exact .inl ⟨y, hy, g1, g2, g3⟩
  ·simp at hy
   subst hy
   rw [h3, Int.toNat_natCast] at g2 g3
   rw [h4] at g3
   exact .inr ⟨by omega, g2, g3⟩
theorem has_add (L : List S69) (p : S69) {q : Nat} (h2 : p.f2 = (q : Int)) : (fun q' => HasS L q' ∨ q' = q) = HasS (L ++ [p]) := by
 funext q'
 refine propext ⟨?_, ?_⟩
 ·rintro (⟨y, hy, g⟩ | rfl)
  ·exact ⟨y, by simp [hy], g⟩
  ·exact ⟨p, by simp, h2⟩
 ·rintro ⟨y, hy, g1⟩
  rcases List.mem_append.1 hy with hy | hy
  ·exact .inl ⟨y, hy, g1⟩
  ·simp at hy
   subst hy
   exact .inr (by omega)

def fresh_ (nx : Nat) (p : S69) : Bool := !decide (p.f2 < (nx : Int))
/-- The fragments of a record, and its pieces: both buffers take them in. -/
theorem frags_pieces {Bs : Nat → List Nat} {ty ep : Nat → Nat} {pc : Nat} (hpc : pc ≤ 1000) {er : Nat} : ∀ (bs : List Nat) (ps : List S69), Parsed er bs ps → Fits Bs ty ep ps → (∀ y ∈ bs, y < 256) → ∀ (fuel : Nat) (L : List S69) (acc : List S69) (np tot : Nat) (s : St) (ag : Bool), bs.length ≤ fuel → AInv Bs ty ep 65536 pc (CovS L) (HasS L) np tot s → np + ps.length ≤ 800 → tot + bs.length < 1900000 →
 ∃ s' ag', St.frags fuel s er bs ag = some (s', ag') ∧ s'.cur = s.cur ∧ AInv Bs ty ep 65536 pc (CovS (L ++ ps)) (HasS (L ++ ps)) (np + ps.length) (tot + bs.length) s' ∧ pushGo s.cur ps acc ag = (acc ++ ps.filter (fresh_ s.cur), ag') := by
 intro bs ps hP
 induction hP with
 | nil =>
   intro hF hb fuel L acc np tot s ag hf hA hnp ht
   refine ⟨s, ag, ?_, rfl, by rw [List.append_nil]; exact hA, by simp [pushGo]⟩
   cases fuel <;> rfl
 | @cons bs p ps h1 h2 h3 hP ih =>
   intro hF hb fuel L acc np tot s ag hf hA hnp ht
   obtain ⟨q, o, n, F⟩ := hF p (by simp)
   obtain ⟨t, l, q', o', n', hhd⟩ : ∃ t l q o n, hdOf bs = (t, l, q, o, n) := ⟨_, _, _, _, _, rfl⟩
   rw [hhd] at h1 h2 h3 hP ih
   simp only at h1 h2 h3 hP ih
   have hsz : (natBa ((bs.drop 12).take n')).size = n' := by rw [natBa_size, List.length_take, List.length_drop]; omega
   have f0 := F.ft
   have f1 := F.fl
   have f2 := F.fq
   have f3 := F.fo
   have f4 := F.fn
   have f5 := F.fe
   have fd := F.dat
   rw [h2] at f0 f1 f2 f3 f4 f5 fd
   simp only at f0 f1 f2 f3 f4 f5 fd
   rw [hsz] at f4
   have eq : q' = q := by omega
   have eo : o' = o := by omega
   have et : t = ty q := by omega
   have el : l = (Bs q).length := by omega
   have ee : er = ep q := by omega
   subst eq
   subst eo
   subst f4
   rw [et, el] at hhd
   have hlt : ∀ y ∈ (bs.drop 12).take n', y < 256 := fun y hy => hb y (List.mem_of_mem_drop (List.mem_of_mem_take hy))
   rw [baNat_natBa _ hlt] at fd
   cases fuel with
   | zero => omega
   | succ fuel =>
     obtain ⟨s1, g1, g2, g3⟩ := hA.frag hpc (by simp only [List.length_cons] at hnp; omega) bs q' o' n' _ hhd rfl (by omega) F.ql F.small F.le F.pos fd
     rw [cov_add L p F.fq F.fo F.fn, has_add L p F.fq] at g3
     obtain ⟨s2, ag2, i1, i2, i3, i4⟩ := ih (fun x hx => hF x (by simp [hx])) (fun y hy => hb y (List.mem_of_mem_drop hy)) fuel (L ++ [p]) (if p.f2 < (s.cur : Int) then acc else acc ++ [p]) (np + 1) (tot + n') s1 (againOf s bs) (by rw [List.length_drop]; omega) g3 (by simp only [List.length_cons] at hnp; omega) (by rw [List.length_drop]; omega)
     refine ⟨s2, ag2, ?_, i2.trans g2, ?_, ?_⟩
     ·rw [St.frags, if_neg (by omega), hhd]
      simp only
      rw [if_pos ⟨by omega, h1⟩, ee, g1]
      simp only [Option.bind_some]
      rw [ee] at i1
      exact i1
     ·rw [List.append_assoc] at i3
      simp only [List.length_cons]
      have e1 : np + (ps.length + 1) = np + 1 + ps.length := by omega
      rw [e1]
      refine ⟨i3.old, i3.none_, i3.some_, i3.far, i3.cnt, i3.sz, i3.cb, ?_, i3.npb, i3.cur⟩
      have := i3.sb
      rw [List.length_drop] at this
      omega
     ·rw [g2] at i4
      rw [pushGo]
      have hag : (decide (p.f2 < (s.cur : Int)) && decide (p.f3 = 0)) = againOf s bs := by
       unfold againOf
       rw [hhd, F.fq, F.fo]
       simp only
       rw [Bool.and_comm]
       congr 1
       ·exact decide_eq_decide.2 (by omega)
       ·exact decide_eq_decide.2 (by omega)
      rw [hag, i4]
      congr 1
      by_cases hc : p.f2 < (s.cur : Int)
      ·rw [if_pos hc, List.filter_cons]
       have : fresh_ s.cur p = false := by unfold fresh_; rw [decide_eq_true hc]; rfl
       rw [this]
       rfl
      ·rw [if_neg hc, List.filter_cons]
       have : fresh_ s.cur p = true := by unfold fresh_; rw [decide_eq_false hc]; rfl
       rw [this]
       simp
end Go.Proofs.YtjflijebcpcbmaaDoor.G
