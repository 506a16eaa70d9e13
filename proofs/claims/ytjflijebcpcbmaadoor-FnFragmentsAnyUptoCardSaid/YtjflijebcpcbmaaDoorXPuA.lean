/-
 What is proved: what fragments of messages of any kinds and epochs, and pops, make of the plain model's buffer. Conditions: fragments that agree with the messages' bytes, at most 900, few bytes.
-/
import Derived.Test.YtjflijebcpcbmaaDoorXPu
namespace Go.Proofs.YtjflijebcpcbmaaDoor.G
set_option linter.unusedVariables false
set_option linter.unusedSimpArgs false

structure AInv (Bs : Nat → List Nat) (ty ep : Nat → Nat) (N pc : Nat) (C : Nat → Nat → Prop) (Hs : Nat → Prop) (np tot : Nat) (s : St) : Prop where
 old : ∀ q, q < s.cur → s.m q = none
 none_ : ∀ q, s.cur ≤ q → s.m q = none → ¬ Hs q ∧ ∀ k, ¬ C q k
 some_ : ∀ q x, s.cur ≤ q → s.m q = some x → Hs q ∧ MInv (Bs q) (ty q) (ep q) q (C q) x ∧ x.rs ≠ []
 far : ∀ q, N ≤ q → s.m q = none
 cnt : s.cnt = totN (fun q => lenOf (s.m q)) N
 sz : s.sz = totN (fun q => szOf (s.m q)) N
 cb : s.cnt ≤ np
 sb : s.sz ≤ tot
 npb : s.np ≤ np
 cur : s.cur ≤ pc

theorem AInv.new (Bs : Nat → List Nat) (ty ep : Nat → Nat) (N : Nat) : AInv Bs ty ep N 0 (fun _ _ => False) (fun _ => False) 0 0 St.new :=
 ⟨fun _ _ => rfl, fun _ _ _ => ⟨id, fun _ => id⟩, fun _ _ _ h => (by cases h), fun _ _ => rfl, (by rw [totN_zero _ N (fun q _ => (rfl : lenOf (St.new.m q) = 0))]; rfl), (by rw [totN_zero _ N (fun q _ => (rfl : szOf (St.new.m q) = 0))]; rfl), Int.le_refl _, Int.le_refl _, Nat.le_refl _, Nat.zero_le _⟩

theorem AInv.ok {Bs : Nat → List Nat} {ty ep : Nat → Nat} {N pc : Nat} {C : Nat → Nat → Prop} {Hs : Nat → Prop} {np tot : Nat} {s : St} (h : AInv Bs ty ep N pc C Hs np tot s) (hpc : pc ≤ 1000) (hnp : np ≤ 900) (ht : tot < 2000000) : s.ok := by
 have h1 := h.cnt
 have h2 := h.sz
 have h3 := h.cb
 have h4 := h.sb
 have h5 := h.npb
 have h6 := h.cur
 unfold St.ok
 omega

theorem AInv.frag {Bs : Nat → List Nat} {ty ep : Nat → Nat} {N pc : Nat} {C : Nat → Nat → Prop} {Hs : Nat → Prop} {np tot : Nat} {s : St} (h : AInv Bs ty ep N pc C Hs np tot s) (hpc : pc ≤ 1000) (hnp : np < 900) (fb : List Nat) (q o n : Nat) (data : List Nat) (hH : hdOf fb = (ty q, (Bs q).length, q, o, n)) (hD : (fb.drop 12).take n = data)
 (ht : tot + n < 2000000) (hq : q < N) (hs : (Bs q).length < 16777216) (hn : o + n ≤ (Bs q).length) (hpos : 0 < n ∨ (Bs q).length = 0) (hd : data = ((Bs q).drop o).take n) :
 ∃ s', s.frag (ep q) fb = some s' ∧ s'.cur = s.cur ∧ AInv Bs ty ep N pc (fun q' k => C q' k ∨ (q' = q ∧ o ≤ k ∧ k < o + n)) (fun q' => Hs q' ∨ q' = q) (np + 1) (tot + n) s' := by
 have hok := h.ok hpc (by omega) (by omega)
 have h1 := h.cnt
 have h2 := h.sz
 have h3 := h.cb
 have h4 := h.sb
 have h5 := h.npb
 by_cases hold : q < s.cur
 ·refine ⟨s, by unfold St.frag; rw [hH, if_pos hold], rfl, ?_⟩
  refine ⟨h.old, fun q' hq' hm => ?_, fun q' x hq' hm => ?_, h.far, h1, h2, by omega, by omega, by omega, h.cur⟩
  ·obtain ⟨a, b⟩ := h.none_ q' hq' hm
   exact ⟨fun g => g.elim a (fun g => by omega), fun k g => g.elim (b k) (fun g => by omega)⟩
  ·obtain ⟨a, b, c⟩ := h.some_ q' x hq' hm
   refine ⟨.inl a, ?_, c⟩
   have : (fun k => C q' k ∨ (q' = q ∧ o ≤ k ∧ k < o + n)) = C q' := funext fun k => propext ⟨fun g => g.elim id (fun g => by omega), .inl⟩
   rw [this]
   exact b
 ·have hfr : s.frag (ep q) fb = match s.m q with
   | none => some (s.put q (((Msg.fresh (ty q) (Bs q).length).add ⟨o, n, data⟩).start (ty q, (Bs q).length, q, o, n) (ep q)) 1 n 1)
   | some x => if x.t = ty q ∧ x.l = (Bs q).length ∧ okR x.l x.rs then some (s.put q ((x.add ⟨o, n, data⟩).start (ty q, (Bs q).length, q, o, n) (ep q)) (dCnt x.rs ⟨o, n, data⟩) (dSz x.rs ⟨o, n, data⟩) 0) else none := by
   unfold St.frag
   rw [hH]
   simp only
   rw [if_neg hold, if_pos ⟨hn, hok⟩, hD]
   cases s.m q <;> rfl
  have hother : ∀ q', q' ≠ q → (fun k => C q' k ∨ (q' = q ∧ o ≤ k ∧ k < o + n)) = C q' := fun q' hq' => funext fun k => propext ⟨fun g => g.elim id (fun g => absurd g.1 hq'), .inl⟩
  have hself : (fun k => C q k ∨ (q = q ∧ o ≤ k ∧ k < o + n)) = fun k => C q k ∨ (o ≤ k ∧ k < o + n) := funext fun k => by simp
  have fin : ∀ (y : Msg) (d1 d2 : Int) (m : Nat), MInv (Bs q) (ty q) (ep q) q (fun k => C q k ∨ (o ≤ k ∧ k < o + n)) y → y.rs ≠ [] → (y.rs.length : Int) = lenOf (s.m q) + d1 → (sumL y.rs : Int) = szOf (s.m q) + d2 → d1 ≤ 1 → d2 ≤ n → m ≤ 1 →
   AInv Bs ty ep N pc (fun q' k => C q' k ∨ (q' = q ∧ o ≤ k ∧ k < o + n)) (fun q' => Hs q' ∨ q' = q) (np + 1) (tot + n) (s.put q y d1 d2 m) := by
   intro y d1 d2 m hy hne hl hz hd1 hd2 hm
   have u1 := totN_upd (fun q' => lenOf (s.m q')) q y.rs.length N hq
   have u2 := totN_upd (fun q' => szOf (s.m q')) q (sumL y.rs) N hq
   have e1 : totN (fun q' => lenOf ((s.put q y d1 d2 m).m q')) N = totN (fun k => if k = q then y.rs.length else lenOf (s.m k)) N := totN_eq _ _ N fun k _ => by
    show lenOf (if k = q then some y else s.m k) = _
    split <;> rfl
   have e2 : totN (fun q' => szOf ((s.put q y d1 d2 m).m q')) N = totN (fun k => if k = q then sumL y.rs else szOf (s.m k)) N := totN_eq _ _ N fun k _ => by
    show szOf (if k = q then some y else s.m k) = _
    split <;> rfl
   refine ⟨fun q' hq' => ?_, fun q' hq' hm' => ?_, fun q' x hq' hm' => ?_, fun q' hq' => ?_, ?_, ?_, ?_, ?_, ?_, h.cur⟩
   ·show (if q' = q then some y else s.m q') = none
    have hq'' : q' < s.cur := hq'
    rw [if_neg (by omega)]
    exact h.old q' hq'
   ·change (if q' = q then some y else s.m q') = none at hm'
    split at hm'
    ·cases hm'
    ·rename_i hne'
     obtain ⟨a, b⟩ := h.none_ q' hq' hm'
     exact ⟨fun g => g.elim a hne', fun k g => g.elim (b k) (fun g => hne' g.1)⟩
   ·change (if q' = q then some y else s.m q') = some x at hm'
    split at hm'
    ·rename_i he
     injection hm' with hm'
     subst hm'
     subst he
     exact ⟨.inr rfl, by rw [hself]; exact hy, hne⟩
    ·rename_i hne'
     obtain ⟨a, b, c⟩ := h.some_ q' x hq' hm'
     exact ⟨.inl a, by rw [hother q' hne']; exact b, c⟩
   ·show (if q' = q then some y else s.m q') = none
    rw [if_neg (by omega)]
    exact h.far q' hq'
   ·show s.cnt + d1 = _
    rw [e1]
    omega
   ·show s.sz + d2 = _
    rw [e2]
    omega
   ·show s.cnt + d1 ≤ _
    omega
   ·show s.sz + d2 ≤ _
    omega
   ·show s.np + m ≤ _
    omega
  cases hm : s.m q with
  | none =>
    rw [hm] at hfr
    simp only at hfr
    obtain ⟨hC1, hC2⟩ := h.none_ q (by omega) hm
    obtain ⟨f1, f2, f3, f4, f5, f6⟩ := (MInv.fresh (Bs q) (ty q) (ep q) q hs).frag o n n hn hpos data hd
    have hC : (fun k => False ∨ (o ≤ k ∧ k < o + n)) = fun k => C q k ∨ (o ≤ k ∧ k < o + n) := funext fun k => propext ⟨fun g => g.elim False.elim .inr, fun g => g.elim (fun g => absurd g (hC2 k)) .inr⟩
    rw [hC] at f1
    refine ⟨_, hfr, rfl, ?_⟩
    have hdc : dCnt (Msg.fresh (ty q) (Bs q).length).rs (⟨o, n, data⟩ : Rg (List Nat)) = 1 := by simp [Msg.fresh, dCnt, hasR, coversAt, idxOf, tillOf]
    have hds : dSz (Msg.fresh (ty q) (Bs q).length).rs (⟨o, n, data⟩ : Rg (List Nat)) = n := by simp [Msg.fresh, dSz, hasR, coversAt, idxOf, tillOf, sumL]
    rw [hdc] at f2
    rw [hds] at f3
    refine fin _ 1 n 1 f1 f6 ?_ ?_ (Int.le_refl _) (Int.le_refl _) (Nat.le_refl _)
    ·rw [hm, f2]; simp [lenOf, Msg.fresh]
    ·rw [hm, f3]; simp [szOf, Msg.fresh, sumL]
  | some x =>
    rw [hm] at hfr
    simp only at hfr
    obtain ⟨a, b, c⟩ := h.some_ q x (by omega) hm
    have hl9 : x.rs.length ≤ 900 := by
     have := totN_le (fun q' => lenOf (s.m q')) N q hq
     simp only [hm, lenOf] at this
     have hc : (x.rs.length : Int) ≤ s.cnt := by rw [h1]; exact Int.ofNat_le.2 this
     omega
    rw [if_pos ⟨b.t, b.l, b.ok hl9⟩] at hfr
    obtain ⟨f1, f2, f3, f4, f5, f6⟩ := b.frag o n n hn hpos data hd
    refine ⟨_, hfr, rfl, ?_⟩
    exact fin _ _ _ 0 f1 f6 (by rw [hm]; exact f2) (by rw [hm]; exact f3) f4 f5 (Nat.zero_le _)

theorem AInv.pop_no {Bs : Nat → List Nat} {ty ep : Nat → Nat} {N pc : Nat} {C : Nat → Nat → Prop} {Hs : Nat → Prop} {np tot : Nat} {s : St} (h : AInv Bs ty ep N pc C Hs np tot s) (hC : ¬ (Hs s.cur ∧ ∀ k, k < (Bs s.cur).length → C s.cur k)) : s.pop = some (none, s) := by
 unfold St.pop
 cases hm : s.m s.cur with
 | none => rfl
 | some x =>
   obtain ⟨a, b, c⟩ := h.some_ _ x (Nat.le_refl _) hm
   simp only
   obtain ⟨k, hk⟩ : ∃ k, ¬ (k < (Bs s.cur).length → C s.cur k) := Classical.not_forall.1 (fun g => hC ⟨a, g⟩)
   have hk1 : k < (Bs s.cur).length := by
    by_cases g : k < (Bs s.cur).length
    ·exact g
    ·exact absurd (fun g' => absurd g' g) hk
   rw [if_pos (b.lacks hk1 (fun g => hk fun _ => g))]

theorem AInv.pop_yes {Bs : Nat → List Nat} {ty ep : Nat → Nat} {N pc : Nat} {C : Nat → Nat → Prop} {Hs : Nat → Prop} {np tot : Nat} {s : St} (h : AInv Bs ty ep N pc C Hs np tot s) (hpc : pc < 1000) (hN : N ≤ 65536) (hty : ty s.cur < 256) (hnp : np ≤ 900) (ht : tot < 2000000) (hH : Hs s.cur) (hC : ∀ k, k < (Bs s.cur).length → C s.cur k) :
 s.cur < N ∧ ∃ s', s.pop = some (some (hdr12 (ty s.cur) (Bs s.cur).length s.cur 0 (Bs s.cur).length ++ Bs s.cur, ep s.cur), s') ∧ s'.cur = s.cur + 1 ∧ AInv Bs ty ep N (pc + 1) C Hs np tot s' := by
 have hok := h.ok (Nat.le_of_lt hpc) hnp ht
 have h1 := h.cnt
 have h2 := h.sz
 have h3 := h.cb
 have h4 := h.sb
 cases hm : s.m s.cur with
 | none => exact absurd hH (h.none_ _ (Nat.le_refl _) hm).1
 | some x =>
   obtain ⟨a, b, c⟩ := h.some_ _ x (Nat.le_refl _) hm
   have hcN : s.cur < N := by
    by_cases g : s.cur < N
    ·exact g
    ·rw [h.far _ (by omega)] at hm; cases hm
   have hl9 : x.rs.length ≤ 900 := by
    have := totN_le (fun q' => lenOf (s.m q')) N s.cur hcN
    simp only [hm, lenOf] at this
    have hc : (x.rs.length : Int) ≤ s.cnt := by rw [h1]; exact Int.ofNat_le.2 this
    omega
   obtain ⟨w1, w2, w3, w4, w5, w6⟩ := b.whole hC c
   refine ⟨hcN, { s with cur := s.cur + 1, sz := s.sz - sumL x.rs, cnt := s.cnt - x.rs.length, m := fun k => if k = s.cur then none else s.m k }, ?_, rfl, ?_⟩
   ·unfold St.pop
    rw [hm]
    simp only
    rw [if_neg w1, if_pos ⟨b.ok hl9, hok, ⟨by rw [w3]; exact hty, by rw [w4]; exact b.small, by rw [w5]; omega⟩, by have := h.cur; omega⟩, w2, w3, w4, w5, w6]
    rfl
   ·have u1 := totN_upd (fun q' => lenOf (s.m q')) s.cur 0 N hcN
    have u2 := totN_upd (fun q' => szOf (s.m q')) s.cur 0 N hcN
    simp only [hm] at u1 u2
    have e1 : totN (fun q' => lenOf (if q' = s.cur then none else s.m q')) N = totN (fun k => if k = s.cur then 0 else lenOf (s.m k)) N := totN_eq _ _ N fun k _ => by
     split <;> rfl
    have e2 : totN (fun q' => szOf (if q' = s.cur then none else s.m q')) N = totN (fun k => if k = s.cur then 0 else szOf (s.m k)) N := totN_eq _ _ N fun k _ => by
     split <;> rfl
    simp only [lenOf] at u1
    simp only [szOf] at u2
    refine ⟨fun q' hq' => ?_, fun q' hq' hm' => ?_, fun q' y hq' hm' => ?_, fun q' hq' => ?_, ?_, ?_, ?_, ?_, h.npb, by have := h.cur; show s.cur + 1 ≤ pc + 1; omega⟩
    ·show (if q' = s.cur then none else s.m q') = none
     split
     ·rfl
     ·have hq'' : q' < s.cur + 1 := hq'
      exact h.old q' (by omega)
    ·have hq'' : s.cur + 1 ≤ q' := hq'
     change (if q' = s.cur then none else s.m q') = none at hm'
     rw [if_neg (by omega)] at hm'
     exact h.none_ q' (by omega) hm'
    ·have hq'' : s.cur + 1 ≤ q' := hq'
     change (if q' = s.cur then none else s.m q') = some y at hm'
     rw [if_neg (by omega)] at hm'
     exact h.some_ q' y (by omega) hm'
    ·show (if q' = s.cur then none else s.m q') = none
     split
     ·rfl
     ·exact h.far q' hq'
    ·show s.cnt - x.rs.length = ((totN (fun q' => lenOf (if q' = s.cur then none else s.m q')) N : Nat) : Int)
     rw [e1]
     simp only [lenOf] at h1 ⊢
     omega
    ·show s.sz - sumL x.rs = ((totN (fun q' => szOf (if q' = s.cur then none else s.m q')) N : Nat) : Int)
     rw [e2]
     simp only [szOf] at h2 ⊢
     omega
    ·show s.cnt - x.rs.length ≤ _
     omega
    ·show s.sz - sumL x.rs ≤ _
     omega
end Go.Proofs.YtjflijebcpcbmaaDoor.G
