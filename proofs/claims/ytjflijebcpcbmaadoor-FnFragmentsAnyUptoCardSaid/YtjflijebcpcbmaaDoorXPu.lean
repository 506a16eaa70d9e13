/-
 What is proved: the plain laws of the stored pieces (what pushes and pops answer), joined from six texts. Conditions: none.
-/
import Derived.Test.YtjflijebcpcbmaaDoorXMod
import Derived.Test.YtjflijebcpcbmaaDoorXStp
import Derived.Test.YtjflijebcpcbmaaDoorXG0
import Derived.Test.YtjflijebcpcbmaaDoorXW
/- What is proved: what a fragment makes of one message of the plain model, and that a message that is covered comes out whole. Conditions: fragments that agree with the message's bytes. -/
namespace Go.Proofs.YtjflijebcpcbmaaDoor.G
set_option linter.unusedVariables false
set_option linter.unusedSimpArgs false

theorem drop_tw {α : Type} (p : α → Bool) : ∀ l : List α, l.drop (l.takeWhile p).length = l.dropWhile p
 | [] => rfl
 | x :: l => by
   rw [List.takeWhile_cons, List.dropWhile_cons]
   split
   ·simp [drop_tw p l]
   ·rfl
theorem tw_all {α : Type} (p : α → Bool) : ∀ (l : List α) (x : α), x ∈ l.takeWhile p → p x = true
 | [], x, h => by simp at h
 | y :: l, x, h => by
   rw [List.takeWhile_cons] at h
   split at h
   ·rcases List.mem_cons.1 h with rfl | h
    ·assumption
    ·exact tw_all p l x h
   ·simp at h
theorem dw_head {α : Type} (p : α → Bool) : ∀ (l : List α) (x : α) (r : List α), l.dropWhile p = x :: r → p x = false
 | [], x, r, h => by simp at h
 | y :: l, x, r, h => by
   rw [List.dropWhile_cons] at h
   split at h
   ·exact dw_head p l x r h
   ·rename_i hp
    injection h with h _
    subst h
    simpa using hp

def RisesP (rs : List (Rg (List Nat))) : Prop := rs.Pairwise (fun r s => r.off < s.off ∧ r.off + r.len < s.off + s.len)
def covers (rs : List (Rg (List Nat))) (k : Nat) : Prop := ∃ r ∈ rs, r.off ≤ k ∧ k < r.off + r.len

/-- The ranges parted at a new one: those before it, those within it, those behind. -/
theorem parts (rs : List (Rg (List Nat))) (hR : RisesP rs) (r : Rg (List Nat)) : ∃ pre mid post : List (Rg (List Nat)), rs = pre ++ (mid ++ post) ∧ idxOf rs r.off = pre.length ∧ tillOf rs (r.off + r.len) (idxOf rs r.off) = pre.length + mid.length ∧
 (∀ x ∈ pre, x.off < r.off) ∧ (∀ x ∈ mid ++ post, r.off ≤ x.off) ∧ (∀ x ∈ mid, x.off + x.len ≤ r.off + r.len) ∧ (∀ x ∈ post, r.off + r.len < x.off + x.len) := by
 let p : Rg (List Nat) → Bool := fun x => decide (x.off < r.off)
 let q : Rg (List Nat) → Bool := fun x => decide (x.off + x.len ≤ r.off + r.len)
 have h1 : rs = rs.takeWhile p ++ rs.dropWhile p := (List.takeWhile_append_dropWhile (p := p)).symm
 have h2 : rs.dropWhile p = (rs.dropWhile p).takeWhile q ++ (rs.dropWhile p).dropWhile q := (List.takeWhile_append_dropWhile (p := q)).symm
 have hRd : RisesP (rs.dropWhile p) := by rw [RisesP, h1, List.pairwise_append] at hR; exact hR.2.1
 have hRd2 : RisesP ((rs.dropWhile p).dropWhile q) := by rw [RisesP, h2, List.pairwise_append] at hRd; exact hRd.2.1
 refine ⟨rs.takeWhile p, (rs.dropWhile p).takeWhile q, (rs.dropWhile p).dropWhile q, by rw [← h2]; exact h1, rfl, ?_, ?_, ?_, ?_, ?_⟩
 ·unfold tillOf
  congr 1
  have : rs.drop (idxOf rs r.off) = rs.dropWhile p := drop_tw p rs
  rw [this]
 ·intro x hx
  exact of_decide_eq_true (tw_all p rs x hx)
 ·rw [← h2]
  intro x hx
  cases hd : rs.dropWhile p with
  | nil => rw [hd] at hx; simp at hx
  | cons y l =>
    have hy := dw_head p rs y l hd
    have hy' : r.off ≤ y.off := Nat.le_of_not_lt (of_decide_eq_false hy)
    rw [hd] at hx hRd
    rcases List.mem_cons.1 hx with rfl | hx
    ·exact hy'
    ·have := (List.pairwise_cons.1 hRd).1 x hx
     omega
 ·intro x hx
  exact of_decide_eq_true (tw_all q _ x hx)
 ·intro x hx
  cases hd : (rs.dropWhile p).dropWhile q with
  | nil => rw [hd] at hx; simp at hx
  | cons y l =>
    have hy := dw_head q _ y l hd
    have hy' : r.off + r.len < y.off + y.len := Nat.lt_of_not_le (of_decide_eq_false hy)
    rw [hd] at hx hRd2
    rcases List.mem_cons.1 hx with rfl | hx
    ·exact hy'
    ·have := (List.pairwise_cons.1 hRd2).1 x hx
     omega

theorem adv_law : ∀ (L : List (Rg (List Nat))) (c : Nat), RisesP L → c ≤ advance L c ∧ (∀ k, c ≤ k → k < advance L c → covers L k) ∧ (∀ r ∈ L, r.off ≤ advance L c → r.off + r.len ≤ advance L c)
 | [], c, _ => ⟨Nat.le_refl _, fun k h1 h2 => by unfold advance at h2; omega, fun r hr => by simp at hr⟩
 | r :: L, c, hR => by
   obtain ⟨hr, hL⟩ := List.pairwise_cons.1 hR
   unfold advance
   split
   ·rename_i hc
    obtain ⟨i1, i2, i3⟩ := adv_law L (max c (r.off + r.len)) hL
    refine ⟨by omega, fun k h1 h2 => ?_, fun x hx hxc => ?_⟩
    ·by_cases hk : k < max c (r.off + r.len)
     ·exact ⟨r, by simp, by omega, by omega⟩
     ·obtain ⟨x, hx, h⟩ := i2 k (by omega) h2
      exact ⟨x, by simp [hx], h⟩
    ·rcases List.mem_cons.1 hx with rfl | hx
     ·omega
     ·exact i3 x hx hxc
   ·rename_i hc
    refine ⟨Nat.le_refl _, fun k h1 h2 => by omega, fun x hx hxc => ?_⟩
    rcases List.mem_cons.1 hx with rfl | hx
    ·omega
    ·have := hr x hx
     omega

theorem asm_whole (B : List Nat) : ∀ (rs : List (Rg (List Nat))) (c : Nat), RisesP rs → (∀ r ∈ rs, r.off + r.len ≤ B.length ∧ r.p = (B.drop r.off).take r.len) → c ≤ B.length → (∀ r ∈ rs, c ≤ r.off + r.len) → (∀ k, c ≤ k → k < B.length → covers rs k) → asm rs c = some (B.drop c)
 | [], c, _, _, hc, _, hk => by
   have : B.length ≤ c := by
    by_cases h : c < B.length
    ·obtain ⟨r, hr, _⟩ := hk c (Nat.le_refl _) h
     simp at hr
    ·omega
   rw [List.drop_of_length_le this]
   rfl
 | r :: rs, c, hR, hB, hc, he, hk => by
   obtain ⟨hr, hL⟩ := List.pairwise_cons.1 hR
   obtain ⟨b1, b2⟩ := hB r (by simp)
   have e1 := he r (by simp)
   have h1 : r.off ≤ c := by
    by_cases h : c < B.length
    ·obtain ⟨x, hx, hx1, hx2⟩ := hk c (Nat.le_refl _) h
     rcases List.mem_cons.1 hx with rfl | hx
     ·exact hx1
     ·have := hr x hx
      omega
    ·omega
   have ih := asm_whole B rs (r.off + r.len) hL (fun x hx => hB x (by simp [hx])) b1 (fun x hx => by have := hr x hx; omega) (fun k k1 k2 => by
    obtain ⟨x, hx, hx1, hx2⟩ := hk k (by omega) k2
    rcases List.mem_cons.1 hx with rfl | hx
    ·omega
    ·exact ⟨x, hx, hx1, hx2⟩)
   unfold asm
   rw [if_pos ⟨h1, e1⟩, ih]
   simp only [Option.map_some, Option.some.injEq]
   rw [b2, List.drop_take, List.drop_drop, show r.off + (c - r.off) = c by omega, show r.len - (c - r.off) = r.off + r.len - c by omega]
   have := List.take_append_drop (r.off + r.len - c) (B.drop c)
   rw [List.drop_drop, show c + (r.off + r.len - c) = r.off + r.len by omega] at this
   exact this

/-- Message q with the bytes B, as far as C is covered. -/
structure MInv (B : List Nat) (ty ep q : Nat) (C : Nat → Prop) (x : Msg) : Prop where
 t : x.t = ty
 l : x.l = B.length
 small : B.length < 16777216
 rises : RisesP x.rs
 true_ : ∀ r ∈ x.rs, r.off + r.len ≤ B.length ∧ r.p = (B.drop r.off).take r.len ∧ r.p.length = r.len
 cov : ∀ k, covers x.rs k ↔ C k
 pre : (∀ k, k < x.cov → C k) ∧ ¬ C x.cov
 st : (∃ r ∈ x.rs, r.off = 0) ↔ x.st = true
 hd : x.st = true → x.hd.1 = ty ∧ x.hd.2.1 = B.length ∧ x.hd.2.2.1 = q ∧ x.ep = ep

theorem hasR_true {rs pre tl : List (Rg (List Nat))} {r : Rg (List Nat)} (e : rs = pre ++ tl) (hi : idxOf rs r.off = pre.length) (h : hasR rs r = true) :
 (∃ x ∈ pre, r.off + r.len ≤ x.off + x.len) ∨ (∃ x ∈ tl, x.off = r.off ∧ r.off + r.len ≤ x.off + x.len) := by
 unfold hasR coversAt at h
 rw [hi] at h
 rcases Bool.or_eq_true_iff.1 h with h | h
 ·left
  cases hp : pre.length with
  | zero => rw [hp] at h; cases h
  | succ k =>
    rw [hp] at h
    simp only at h
    have : rs[k]? = pre[k]? := by rw [e, List.getElem?_append_left (by omega)]
    rw [this] at h
    cases hx : pre[k]? with
    | none => rw [hx] at h; cases h
    | some x => rw [hx] at h; exact ⟨x, List.mem_of_getElem? hx, of_decide_eq_true h⟩
 ·right
  have : rs[pre.length]? = tl[0]? := by rw [e, List.getElem?_append_right (Nat.le_refl _), Nat.sub_self]
  rw [this] at h
  cases hx : tl[0]? with
  | none => rw [hx] at h; cases h
  | some x =>
    rw [hx] at h
    obtain ⟨h1, h2⟩ := Bool.and_eq_true_iff.1 h
    exact ⟨x, List.mem_of_getElem? hx, of_decide_eq_true h1, of_decide_eq_true h2⟩
theorem hasR_false {rs pre tl : List (Rg (List Nat))} {r : Rg (List Nat)} (hR : RisesP rs) (e : rs = pre ++ tl) (hi : idxOf rs r.off = pre.length) (h : hasR rs r = false) :
 (∀ x ∈ pre, x.off + x.len < r.off + r.len) ∧ (∀ x l, tl = x :: l → x.off = r.off → x.off + x.len < r.off + r.len) := by
 unfold hasR coversAt at h
 rw [hi] at h
 obtain ⟨h1, h2⟩ := (Bool.or_eq_false_iff).1 h
 constructor
 ·intro x hx
  obtain ⟨j, hj, rfl⟩ := List.getElem_of_mem hx
  cases hp : pre.length with
  | zero => omega
  | succ k =>
    rw [hp] at h1
    simp only at h1
    have hk : k < pre.length := by omega
    have : rs[k]? = some pre[k] := by rw [e, List.getElem?_append_left hk, List.getElem?_eq_getElem hk]
    rw [this] at h1
    have h3 : pre[k].off + pre[k].len < r.off + r.len := Nat.lt_of_not_le (of_decide_eq_false h1)
    by_cases hjk : j = k
    ·subst hjk; exact h3
    ·have hpre : RisesP pre := by rw [RisesP, e, List.pairwise_append] at hR; exact hR.1
     have := (List.pairwise_iff_getElem.1 hpre) j k hj hk (by omega)
     omega
 ·intro x l hl ho
  have : rs[pre.length]? = some x := by rw [e, List.getElem?_append_right (Nat.le_refl _), Nat.sub_self, hl]; rfl
  rw [this] at h2
  simp only at h2
  rw [ho, decide_eq_true rfl, Bool.true_and] at h2
  rw [ho]
  exact Nat.lt_of_not_le (of_decide_eq_false h2)

theorem covers_append (a b : List (Rg (List Nat))) (k : Nat) : covers (a ++ b) k ↔ covers a k ∨ covers b k := by
 unfold covers
 constructor
 ·rintro ⟨r, hr, h⟩
  rcases List.mem_append.1 hr with hr | hr
  ·exact .inl ⟨r, hr, h⟩
  ·exact .inr ⟨r, hr, h⟩
 ·rintro (⟨r, hr, h⟩ | ⟨r, hr, h⟩)
  ·exact ⟨r, by simp [hr], h⟩
  ·exact ⟨r, by simp [hr], h⟩
theorem sumL_append {α : Type} (a b : List (Rg α)) : sumL (a ++ b) = sumL a + sumL b := by simp [sumL]

/-- A fragment is added to a message. -/
theorem MInv.frag {B : List Nat} {ty ep q : Nat} {C : Nat → Prop} {x : Msg} (h : MInv B ty ep q C x) (o n f : Nat) (hn : o + n ≤ B.length) (hpos : 0 < n ∨ B.length = 0) (p : List Nat) (hp : p = (B.drop o).take n) :
 MInv B ty ep q (fun k => C k ∨ (o ≤ k ∧ k < o + n)) ((x.add ⟨o, n, p⟩).start (ty, B.length, q, o, f) ep) ∧
 ((x.add ⟨o, n, p⟩).start (ty, B.length, q, o, f) ep).rs.length = x.rs.length + dCnt x.rs ⟨o, n, p⟩ ∧
 (sumL ((x.add ⟨o, n, p⟩).start (ty, B.length, q, o, f) ep).rs : Int) = sumL x.rs + dSz x.rs ⟨o, n, p⟩ ∧
 dCnt x.rs ⟨o, n, p⟩ ≤ 1 ∧ dSz x.rs ⟨o, n, p⟩ ≤ n ∧ ((x.add ⟨o, n, p⟩).start (ty, B.length, q, o, f) ep).rs ≠ [] := by
 have hpl : p.length = n := by rw [hp, List.length_take, List.length_drop]; omega
 obtain ⟨pre, mid, post, e, hi, ht, h1, h2, h3, h4⟩ := parts x.rs h.rises ⟨o, n, p⟩
 simp only at hi ht h1 h2 h3 h4
 have hst : ∀ y : Msg, (y.start (ty, B.length, q, o, f) ep).rs = y.rs := fun y => by unfold Msg.start; split <;> rfl
 rw [hst]
 cases hh : hasR x.rs ⟨o, n, p⟩
 ·obtain ⟨f1, f2⟩ := hasR_false h.rises e hi hh
  simp only at f1 f2
  have hput : putR x.rs ⟨o, n, p⟩ = pre ++ ⟨o, n, p⟩ :: post := by
   unfold putR
   simp only
   rw [ht, hi, e, List.take_left]
   congr 2
   rw [← List.append_assoc, ← List.length_append, List.drop_left]
  have hadd : x.add ⟨o, n, p⟩ = { x with rs := pre ++ ⟨o, n, p⟩ :: post, cov := advance (⟨o, n, p⟩ :: post) x.cov } := by
   unfold Msg.add
   rw [hh, if_neg (by decide), hput, hi, List.drop_left]
  have hR := h.rises
  rw [RisesP, e, List.pairwise_append, List.pairwise_append] at hR
  obtain ⟨r1, ⟨r2, r3, r4⟩, r5⟩ := hR
  have hrp : ∀ y ∈ post, o < y.off ∧ o + n < y.off + y.len := fun y hy => by
   have g1 := h2 y (by simp [hy])
   have g2 := h4 y hy
   refine ⟨?_, g2⟩
   by_cases ho : y.off = o
   ·exfalso
    cases hm : mid ++ post with
    | nil => simp [List.append_eq_nil_iff] at hm; rw [hm.2] at hy; simp at hy
    | cons z l =>
      have hz : RisesP (z :: l) := by rw [← hm, RisesP, List.pairwise_append]; exact ⟨r2, r3, r4⟩
      have gz := h2 z (by rw [hm]; simp)
      have hyz : y ∈ z :: l := by rw [← hm]; simp [hy]
      rcases List.mem_cons.1 hyz with rfl | hyl
      ·have := f2 y l hm ho
       omega
      ·have := (List.pairwise_cons.1 hz).1 y hyl
       omega
   ·omega
  have hnew : RisesP (⟨o, n, p⟩ :: post) := List.pairwise_cons.2 ⟨fun y hy => hrp y hy, r3⟩
  have hnew2 : RisesP (pre ++ ⟨o, n, p⟩ :: post) := by
   rw [RisesP, List.pairwise_append]
   refine ⟨r1, hnew, fun a ha b hb => ?_⟩
   rcases List.mem_cons.1 hb with rfl | hb
   ·exact ⟨h1 a ha, f1 a ha⟩
   ·exact r5 a ha b (by simp [hb])
  have hcov : ∀ k, covers (pre ++ ⟨o, n, p⟩ :: post) k ↔ (C k ∨ (o ≤ k ∧ k < o + n)) := fun k => by
   rw [← h.cov k, e, covers_append, covers_append, covers_append]
   constructor
   ·rintro (g | ⟨y, hy, g⟩)
    ·exact .inl (.inl g)
    ·rcases List.mem_cons.1 hy with rfl | hy
     ·exact .inr g
     ·exact .inl (.inr (.inr ⟨y, hy, g⟩))
   ·rintro ((g | g | g) | g)
    ·exact .inl g
    ·obtain ⟨y, hy, g1, g2⟩ := g
     have := h3 y hy
     have := h2 y (by simp [hy])
     exact .inr ⟨⟨o, n, p⟩, by simp, by simp only; omega, by simp only; omega⟩
    ·obtain ⟨y, hy, g⟩ := g
     exact .inr ⟨y, by simp [hy], g⟩
    ·exact .inr ⟨⟨o, n, p⟩, by simp, g⟩
  obtain ⟨a1, a2, a3⟩ := adv_law (⟨o, n, p⟩ :: post) x.cov hnew
  have hpre : (∀ k, k < advance (⟨o, n, p⟩ :: post) x.cov → (C k ∨ (o ≤ k ∧ k < o + n))) ∧ ¬ (C (advance (⟨o, n, p⟩ :: post) x.cov) ∨ (o ≤ advance (⟨o, n, p⟩ :: post) x.cov ∧ advance (⟨o, n, p⟩ :: post) x.cov < o + n)) := by
   refine ⟨fun k hk => ?_, ?_⟩
   ·by_cases hk' : k < x.cov
    ·exact .inl (h.pre.1 k hk')
    ·rw [← hcov]
     obtain ⟨y, hy, g⟩ := a2 k (by omega) hk
     exact ⟨y, by rcases List.mem_cons.1 hy with rfl | hy <;> simp [*], g⟩
   ·rw [← hcov]
    by_cases hoc : o ≤ x.cov
    ·rintro ⟨y, hy, g1, g2⟩
     rcases List.mem_append.1 hy with hy | hy
     ·have hyo := h1 y hy
      have : ¬ covers x.rs x.cov := fun g => h.pre.2 ((h.cov _).1 g)
      have hye : y.off + y.len ≤ x.cov := by
       by_cases hlt : x.cov < y.off + y.len
       ·exact absurd ⟨y, by rw [e]; simp [hy], by omega, hlt⟩ this
       ·omega
      omega
     ·have := a3 y hy g1
      omega
    ·have : advance ((⟨o, n, p⟩ : Rg (List Nat)) :: post) x.cov = x.cov := by
      unfold advance
      rw [if_neg (by simpa using hoc)]
     rw [this, hcov]
     rintro (g | g)
     ·exact h.pre.2 g
     ·omega
  have htr : ∀ r ∈ pre ++ ⟨o, n, p⟩ :: post, r.off + r.len ≤ B.length ∧ r.p = (B.drop r.off).take r.len ∧ r.p.length = r.len := fun r hr => by
   rcases List.mem_append.1 hr with hr | hr
   ·exact h.true_ r (by rw [e]; simp [hr])
   ·rcases List.mem_cons.1 hr with rfl | hr
    ·exact ⟨hn, hp, hpl⟩
    ·exact h.true_ r (by rw [e]; simp [hr])
  have hzero : (∃ r ∈ pre ++ ⟨o, n, p⟩ :: post, r.off = 0) ↔ ((∃ r ∈ x.rs, r.off = 0) ∨ o = 0) := by
   constructor
   ·rintro ⟨r, hr, g⟩
    rcases List.mem_append.1 hr with hr | hr
    ·exact .inl ⟨r, by rw [e]; simp [hr], g⟩
    ·rcases List.mem_cons.1 hr with rfl | hr
     ·exact .inr g
     ·exact .inl ⟨r, by rw [e]; simp [hr], g⟩
   ·rintro (⟨r, hr, g⟩ | g)
    ·rw [e] at hr
     rcases List.mem_append.1 hr with hr | hr
     ·exact ⟨r, by simp [hr], g⟩
     ·have := h2 r hr
      exact ⟨⟨o, n, p⟩, by simp, by simp only; omega⟩
    ·exact ⟨⟨o, n, p⟩, by simp, g⟩
  refine ⟨?_, ?_, ?_, ?_, ?_, ?_⟩
  ·rw [hadd]
   unfold Msg.start
   simp only
   split
   ·rename_i hs
    exact ⟨h.t, h.l, h.small, hnew2, htr, hcov, hpre, ⟨fun _ => rfl, fun _ => hzero.2 (.inr hs.1)⟩, fun _ => ⟨rfl, rfl, rfl, rfl⟩⟩
   ·rename_i hs
    refine ⟨h.t, h.l, h.small, hnew2, htr, hcov, hpre, ?_, h.hd⟩
    simp only
    rw [hzero, h.st]
    constructor
    ·rintro (g | g)
     ·exact g
     ·cases hx : x.st with
      | true => rfl
      | false => exact absurd ⟨g, hx⟩ hs
    ·exact .inl
  ·rw [hadd]
   unfold dCnt
   rw [hh, if_neg (by decide), ht, hi, e]
   simp only [List.length_append, List.length_cons]
   omega
  ·rw [hadd]
   unfold dSz
   rw [hh, if_neg (by decide), ht, hi]
   have hmid : (x.rs.drop pre.length).take (pre.length + mid.length - pre.length) = mid := by
    rw [e, List.drop_left, show pre.length + mid.length - pre.length = mid.length by omega, List.take_left]
   rw [hmid, e]
   simp only
   rw [sumL_append, sumL_append, sumL_append]
   have : sumL ((⟨o, n, p⟩ : Rg (List Nat)) :: post) = n + sumL post := by simp [sumL]
   rw [this]
   omega
  ·unfold dCnt
   split <;> omega
  ·unfold dSz
   split <;> first | omega | (simp only; omega)
  ·rw [hadd]; simp
 ·have hadd : x.add ⟨o, n, p⟩ = x := by unfold Msg.add; rw [hh]; rfl
  have hsame : ∀ k, o ≤ k → k < o + n → C k := fun k k1 k2 => by
   rw [← h.cov]
   rcases hasR_true e hi hh with ⟨y, hy, g⟩ | ⟨y, hy, g0, g⟩
   ·have := h1 y hy
    simp only at g
    exact ⟨y, by rw [e]; simp [hy], by omega, by omega⟩
   ·simp only at g g0
    exact ⟨y, by rw [e]; exact List.mem_append_right _ hy, by omega, by omega⟩
  have hCeq : (fun k => C k ∨ (o ≤ k ∧ k < o + n)) = C := by
   funext k
   exact propext ⟨fun g => g.elim id (fun g => hsame k g.1 g.2), .inl⟩
  have hzz : o = 0 → x.st = true := fun h0 => by
   rw [← h.st]
   rcases hasR_true e hi hh with ⟨y, hy, g⟩ | ⟨y, hy, g0, g⟩
   ·have := h1 y hy
    omega
   ·simp only at g0
    exact ⟨y, by rw [e]; exact List.mem_append_right _ hy, by omega⟩
  have hstart : x.start (ty, B.length, q, o, f) ep = x := by
   unfold Msg.start
   rw [if_neg]
   rintro ⟨g1, g2⟩
   rw [hzz g1] at g2
   cases g2
  rw [hadd, hstart, hCeq]
  have hne : x.rs ≠ [] := by
   rcases hasR_true e hi hh with ⟨y, hy, g⟩ | ⟨y, hy, g0, g⟩
   ·intro h0; rw [h0] at e; have := List.append_eq_nil_iff.1 e.symm; rw [this.1] at hy; simp at hy
   ·intro h0; rw [h0] at e; have := List.append_eq_nil_iff.1 e.symm; rw [this.2] at hy; simp at hy
  refine ⟨h, ?_, ?_, ?_, ?_, hne⟩
  ·unfold dCnt; rw [hh]; simp
  ·unfold dSz; rw [hh]; simp
  ·unfold dCnt; rw [hh]; simp
  ·unfold dSz; rw [hh]; simp

/-- No fragment of a message yet. -/
theorem MInv.fresh (B : List Nat) (ty ep q : Nat) (hB : B.length < 16777216) : MInv B ty ep q (fun _ => False) (Msg.fresh ty B.length) :=
 ⟨rfl, rfl, hB, List.Pairwise.nil, fun r hr => by simp [Msg.fresh] at hr, fun k => ⟨fun ⟨r, hr, _⟩ => by simp [Msg.fresh] at hr, fun h => h.elim⟩, ⟨fun k hk => by simp [Msg.fresh] at hk, fun h => h⟩, ⟨fun ⟨r, hr, _⟩ => by simp [Msg.fresh] at hr, fun h => by simp [Msg.fresh] at h⟩, fun h => by simp [Msg.fresh] at h⟩

/-- A message that is covered comes out whole. -/
theorem MInv.whole {B : List Nat} {ty ep q : Nat} {C : Nat → Prop} {x : Msg} (h : MInv B ty ep q C x) (hC : ∀ k, k < B.length → C k) (hne : x.rs ≠ []) :
 ¬ x.cov < x.l ∧ asm x.rs 0 = some B ∧ x.hd.1 = ty ∧ x.hd.2.1 = B.length ∧ x.hd.2.2.1 = q ∧ x.ep = ep := by
 have hcov : ¬ x.cov < x.l := by rw [h.l]; exact fun g => h.pre.2 (hC _ g)
 have hst : x.st = true := by
  rw [← h.st]
  by_cases h0 : 0 < B.length
  ·obtain ⟨r, hr, g1, g2⟩ := (h.cov 0).2 (hC 0 h0)
   exact ⟨r, hr, by omega⟩
  ·cases hx : x.rs with
   | nil => exact absurd hx hne
   | cons r l =>
     have := (h.true_ r (by rw [hx]; simp)).1
     exact ⟨r, by simp, by omega⟩
 refine ⟨hcov, ?_, h.hd hst⟩
 have := asm_whole B x.rs 0 h.rises (fun r hr => ⟨(h.true_ r hr).1, (h.true_ r hr).2.1⟩) (Nat.zero_le _) (fun _ _ => Nat.zero_le _) (fun k _ hk => (h.cov k).2 (hC k hk))
 rw [List.drop_zero] at this
 exact this
theorem MInv.lacks {B : List Nat} {ty ep q : Nat} {C : Nat → Prop} {x : Msg} (h : MInv B ty ep q C x) {k : Nat} (hk : k < B.length) (hC : ¬ C k) : x.cov < x.l := by
 rw [h.l]
 by_cases g : k < x.cov
 ·exact absurd (h.pre.1 k g) hC
 ·omega
theorem MInv.ok {B : List Nat} {ty ep q : Nat} {C : Nat → Prop} {x : Msg} (h : MInv B ty ep q C x) (hn : x.rs.length ≤ 900) : okR x.l x.rs := ⟨hn, h.rises, fun r hr => by rw [h.l]; exact (h.true_ r hr).1, by rw [h.l]; exact h.small⟩
end Go.Proofs.YtjflijebcpcbmaaDoor.G

/- What is proved: what records of one fragment each, and pops, make of the plain model's buffer. Conditions: fragments that agree with the messages' bytes, at most 900, few bytes. -/
namespace Go.Proofs.YtjflijebcpcbmaaDoor.G
set_option linter.unusedVariables false
set_option linter.unusedSimpArgs false

def totN (f : Nat → Nat) : Nat → Nat
 | 0 => 0
 | n + 1 => totN f n + f n
theorem totN_le (f : Nat → Nat) : ∀ (n q : Nat), q < n → f q ≤ totN f n
 | 0, q, h => by omega
 | n + 1, q, h => by
   unfold totN
   by_cases e : q = n
   ·subst e; omega
   ·have := totN_le f n q (by omega)
    omega
theorem totN_eq (f g : Nat → Nat) : ∀ (n : Nat), (∀ q, q < n → f q = g q) → totN f n = totN g n
 | 0, _ => rfl
 | n + 1, h => by
   unfold totN
   rw [totN_eq f g n (fun q hq => h q (by omega)), h n (by omega)]
theorem totN_upd (f : Nat → Nat) (q v : Nat) : ∀ (n : Nat), q < n → totN (fun k => if k = q then v else f k) n + f q = totN f n + v
 | 0, h => by omega
 | n + 1, h => by
   unfold totN
   by_cases e : q = n
   ·subst e
    rw [totN_eq (fun k => if k = q then v else f k) f q (fun k hk => by rw [if_neg (by omega)]), if_pos rfl]
    omega
   ·have := totN_upd f q v n (by omega)
    rw [if_neg (fun h => e h.symm)]
    omega
theorem totN_zero (f : Nat → Nat) (n : Nat) (h : ∀ q, q < n → f q = 0) : totN f n = 0 := by
 rw [totN_eq f (fun _ => 0) n h]
 induction n with
 | zero => rfl
 | succ n ih => unfold totN; rw [ih (fun q hq => h q (by omega))]

def lenOf : Option Msg → Nat
 | none => 0
 | some x => x.rs.length
def szOf : Option Msg → Nat
 | none => 0
 | some x => sumL x.rs

/-- A record of handshake messages that holds one fragment. -/
structure IsRec (bs : List Nat) (ty l q o n ep : Nat) (data : List Nat) : Prop where
 len : bs.length = 25 + n
 b0 : bs.getD 0 0 = 22
 b1 : bs.getD 1 0 = 254
 b2 : bs.getD 2 0 = 253
 ep : u16of (bs.drop 3) = ep
 hd : hdOf (bs.drop 13) = (ty, l, q, o, n)
 data : ((bs.drop 13).drop 12).take n = data

structure BInv (Bs : Nat → List Nat) (N ep : Nat) (C : Nat → Nat → Prop) (Hs : Nat → Prop) (np tot : Nat) (s : St) : Prop where
 old : ∀ q, q < s.cur → s.m q = none
 none_ : ∀ q, s.cur ≤ q → s.m q = none → ¬ Hs q ∧ ∀ k, ¬ C q k
 some_ : ∀ q x, s.cur ≤ q → s.m q = some x → Hs q ∧ MInv (Bs q) 11 ep q (C q) x ∧ x.rs ≠ []
 far : ∀ q, N ≤ q → s.m q = none
 cnt : s.cnt = totN (fun q => lenOf (s.m q)) N
 sz : s.sz = totN (fun q => szOf (s.m q)) N
 cb : s.cnt ≤ np
 sb : s.sz ≤ tot
 npb : s.np ≤ np
 cur : s.cur ≤ N

theorem BInv.new (Bs : Nat → List Nat) (N ep : Nat) : BInv Bs N ep (fun _ _ => False) (fun _ => False) 0 0 St.new :=
 ⟨fun _ _ => rfl, fun _ _ _ => ⟨id, fun _ => id⟩, fun _ _ _ h => (by cases h), fun _ _ => rfl, (by rw [totN_zero _ N (fun q _ => (rfl : lenOf (St.new.m q) = 0))]; rfl), (by rw [totN_zero _ N (fun q _ => (rfl : szOf (St.new.m q) = 0))]; rfl), Int.le_refl _, Int.le_refl _, Nat.le_refl _, Nat.zero_le _⟩

theorem BInv.ok {Bs : Nat → List Nat} {N ep : Nat} {C : Nat → Nat → Prop} {Hs : Nat → Prop} {np tot : Nat} {s : St} (h : BInv Bs N ep C Hs np tot s) (hN : N ≤ 60000) (hnp : np ≤ 900) (ht : tot < 2000000) : s.ok := by
 have h1 := h.cnt
 have h2 := h.sz
 have h3 := h.cb
 have h4 := h.sb
 have h5 := h.npb
 have h6 := h.cur
 unfold St.ok
 omega

theorem frags_one (k ep : Nat) (s s' : St) (fb : List Nat) (n : Nat) (hl : fb.length = 12 + n) (hn : (hdOf fb).2.2.2.2 = n) (hf : s.frag ep fb = some s') : St.frags (k + 2) s ep fb false = some (s', againOf s fb) := by
 rw [St.frags, if_neg (by omega), if_pos ⟨by omega, by omega⟩, hf]
 simp only [Option.bind_some]
 rw [hn, List.drop_of_length_le (by omega), St.frags]
 rfl

theorem BInv.push {Bs : Nat → List Nat} {N ep : Nat} {C : Nat → Nat → Prop} {Hs : Nat → Prop} {np tot : Nat} {s : St} (h : BInv Bs N ep C Hs np tot s) (hN : N ≤ 60000) (hnp : np < 900) (bs : List Nat) (q o n : Nat) (data : List Nat) (hR : IsRec bs 11 (Bs q).length q o n ep data)
 (ht : tot + bs.length < 2000000) (hq : q < N) (hs : (Bs q).length < 16777216) (hn : o + n ≤ (Bs q).length) (hpos : 0 < n ∨ (Bs q).length = 0) (hd : data = ((Bs q).drop o).take n) :
 ∃ ag s', s.push bs = some (true, ag, s') ∧ s'.cur = s.cur ∧ BInv Bs N ep (fun q' k => C q' k ∨ (q' = q ∧ o ≤ k ∧ k < o + n)) (fun q' => Hs q' ∨ q' = q) (np + 1) (tot + n) s' := by
 have hok := h.ok hN (by omega) (by have := hR.len; omega)
 have hlen := hR.len
 have h1 := h.cnt
 have h2 := h.sz
 have h3 := h.cb
 have h4 := h.sb
 have h5 := h.npb
 have hpush : ∀ s', s.frag ep (bs.drop 13) = some s' → s.push bs = some (true, againOf s (bs.drop 13), s') := fun s' hf => by
  unfold St.push
  rw [if_pos ⟨by omega, hR.b1, hR.b2, by rw [hR.b0]; decide, by omega, by omega⟩, if_pos hR.b0, hR.ep]
  obtain ⟨k, hk⟩ : ∃ k, bs.length = k + 2 := ⟨bs.length - 2, by omega⟩
  rw [hk, frags_one k ep s s' (bs.drop 13) n (by rw [List.length_drop]; omega) (by rw [hR.hd]) hf]
  rfl
 by_cases hold : q < s.cur
 ·refine ⟨_, s, hpush s (by unfold St.frag; rw [hR.hd, if_pos hold]), rfl, ?_⟩
  refine ⟨h.old, fun q' hq' hm => ?_, fun q' x hq' hm => ?_, h.far, h1, h2, by omega, by omega, by omega, h.cur⟩
  ·obtain ⟨a, b⟩ := h.none_ q' hq' hm
   exact ⟨fun g => g.elim a (fun g => by omega), fun k g => g.elim (b k) (fun g => by omega)⟩
  ·obtain ⟨a, b, c⟩ := h.some_ q' x hq' hm
   refine ⟨.inl a, ?_, c⟩
   have : (fun k => C q' k ∨ (q' = q ∧ o ≤ k ∧ k < o + n)) = C q' := funext fun k => propext ⟨fun g => g.elim id (fun g => by omega), .inl⟩
   rw [this]
   exact b
 ·have hfr : s.frag ep (bs.drop 13) = match s.m q with
   | none => some (s.put q (((Msg.fresh 11 (Bs q).length).add ⟨o, n, data⟩).start (11, (Bs q).length, q, o, n) ep) 1 n 1)
   | some x => if x.t = 11 ∧ x.l = (Bs q).length ∧ okR x.l x.rs then some (s.put q ((x.add ⟨o, n, data⟩).start (11, (Bs q).length, q, o, n) ep) (dCnt x.rs ⟨o, n, data⟩) (dSz x.rs ⟨o, n, data⟩) 0) else none := by
   unfold St.frag
   rw [hR.hd]
   simp only
   rw [if_neg hold, if_pos ⟨hn, hok⟩, hR.data]
   cases s.m q <;> rfl
  have hother : ∀ q', q' ≠ q → (fun k => C q' k ∨ (q' = q ∧ o ≤ k ∧ k < o + n)) = C q' := fun q' hq' => funext fun k => propext ⟨fun g => g.elim id (fun g => absurd g.1 hq'), .inl⟩
  have hself : (fun k => C q k ∨ (q = q ∧ o ≤ k ∧ k < o + n)) = fun k => C q k ∨ (o ≤ k ∧ k < o + n) := funext fun k => by simp
  have fin : ∀ (y : Msg) (d1 d2 : Int) (m : Nat), MInv (Bs q) 11 ep q (fun k => C q k ∨ (o ≤ k ∧ k < o + n)) y → y.rs ≠ [] → (y.rs.length : Int) = lenOf (s.m q) + d1 → (sumL y.rs : Int) = szOf (s.m q) + d2 → d1 ≤ 1 → d2 ≤ n → m ≤ 1 →
   BInv Bs N ep (fun q' k => C q' k ∨ (q' = q ∧ o ≤ k ∧ k < o + n)) (fun q' => Hs q' ∨ q' = q) (np + 1) (tot + n) (s.put q y d1 d2 m) := by
   intro y d1 d2 m hy hne hl hz hd1 hd2 hm
   have u1 := totN_upd (fun q' => lenOf (s.m q')) q y.rs.length N hq
   have u2 := totN_upd (fun q' => szOf (s.m q')) q (sumL y.rs) N hq
   have e1 : totN (fun q' => lenOf ((s.put q y d1 d2 m).m q')) N = totN (fun k => if k = q then y.rs.length else lenOf (s.m k)) N := totN_eq _ _ N fun k _ => by
    show lenOf (if k = q then some y else s.m k) = _
    split <;> rfl
   have e2 : totN (fun q' => szOf ((s.put q y d1 d2 m).m q')) N = totN (fun k => if k = q then sumL y.rs else szOf (s.m k)) N := totN_eq _ _ N fun k _ => by
    show szOf (if k = q then some y else s.m k) = _
    split <;> rfl
   refine ⟨fun q' hq' => ?_, fun q' hq' hm' => ?_, fun q' x hq' hm' => ?_, fun q' hq' => ?_, ?_, ?_, ?_, ?_, ?_, h.cur⟩
   ·show (if q' = q then some y else s.m q') = none
    have hq'' : q' < s.cur := hq'
    rw [if_neg (by omega)]
    exact h.old q' hq'
   ·change (if q' = q then some y else s.m q') = none at hm'
    split at hm'
    ·cases hm'
    ·rename_i hne'
     obtain ⟨a, b⟩ := h.none_ q' hq' hm'
     exact ⟨fun g => g.elim a hne', fun k g => g.elim (b k) (fun g => hne' g.1)⟩
   ·change (if q' = q then some y else s.m q') = some x at hm'
    split at hm'
    ·rename_i he
     injection hm' with hm'
     subst hm'
     subst he
     exact ⟨.inr rfl, by rw [hself]; exact hy, hne⟩
    ·rename_i hne'
     obtain ⟨a, b, c⟩ := h.some_ q' x hq' hm'
     exact ⟨.inl a, by rw [hother q' hne']; exact b, c⟩
   ·show (if q' = q then some y else s.m q') = none
    rw [if_neg (by omega)]
    exact h.far q' hq'
   ·show s.cnt + d1 = _
    rw [e1]
    omega
   ·show s.sz + d2 = _
    rw [e2]
    omega
   ·show s.cnt + d1 ≤ _
    omega
   ·show s.sz + d2 ≤ _
    omega
   ·show s.np + m ≤ _
    omega
  cases hm : s.m q with
  | none =>
    rw [hm] at hfr
    simp only at hfr
    obtain ⟨hC1, hC2⟩ := h.none_ q (by omega) hm
    obtain ⟨f1, f2, f3, f4, f5, f6⟩ := (MInv.fresh (Bs q) 11 ep q hs).frag o n n hn hpos data hd
    have hC : (fun k => False ∨ (o ≤ k ∧ k < o + n)) = fun k => C q k ∨ (o ≤ k ∧ k < o + n) := funext fun k => propext ⟨fun g => g.elim False.elim .inr, fun g => g.elim (fun g => absurd g (hC2 k)) .inr⟩
    rw [hC] at f1
    refine ⟨_, _, hpush _ hfr, rfl, ?_⟩
    have hdc : dCnt (Msg.fresh 11 (Bs q).length).rs (⟨o, n, data⟩ : Rg (List Nat)) = 1 := by simp [Msg.fresh, dCnt, hasR, coversAt, idxOf, tillOf]
    have hds : dSz (Msg.fresh 11 (Bs q).length).rs (⟨o, n, data⟩ : Rg (List Nat)) = n := by simp [Msg.fresh, dSz, hasR, coversAt, idxOf, tillOf, sumL]
    rw [hdc] at f2
    rw [hds] at f3
    refine fin _ 1 n 1 f1 f6 ?_ ?_ (Int.le_refl _) (Int.le_refl _) (Nat.le_refl _)
    ·rw [hm, f2]; simp [lenOf, Msg.fresh]
    ·rw [hm, f3]; simp [szOf, Msg.fresh, sumL]
  | some x =>
    rw [hm] at hfr
    simp only at hfr
    obtain ⟨a, b, c⟩ := h.some_ q x (by omega) hm
    have hl9 : x.rs.length ≤ 900 := by
     have := totN_le (fun q' => lenOf (s.m q')) N q hq
     simp only [hm, lenOf] at this
     have hc : (x.rs.length : Int) ≤ s.cnt := by rw [h1]; exact Int.ofNat_le.2 this
     omega
    rw [if_pos ⟨b.t, b.l, b.ok hl9⟩] at hfr
    obtain ⟨f1, f2, f3, f4, f5, f6⟩ := b.frag o n n hn hpos data hd
    refine ⟨_, _, hpush _ hfr, rfl, ?_⟩
    exact fin _ _ _ 0 f1 f6 (by rw [hm]; exact f2) (by rw [hm]; exact f3) f4 f5 (Nat.zero_le _)

theorem BInv.pop_no {Bs : Nat → List Nat} {N ep : Nat} {C : Nat → Nat → Prop} {Hs : Nat → Prop} {np tot : Nat} {s : St} (h : BInv Bs N ep C Hs np tot s) (hC : ¬ (Hs s.cur ∧ ∀ k, k < (Bs s.cur).length → C s.cur k)) : s.pop = some (none, s) := by
 unfold St.pop
 cases hm : s.m s.cur with
 | none => rfl
 | some x =>
   obtain ⟨a, b, c⟩ := h.some_ _ x (Nat.le_refl _) hm
   simp only
   obtain ⟨k, hk⟩ : ∃ k, ¬ (k < (Bs s.cur).length → C s.cur k) := Classical.not_forall.1 (fun g => hC ⟨a, g⟩)
   have hk1 : k < (Bs s.cur).length := by
    by_cases g : k < (Bs s.cur).length
    ·exact g
    ·exact absurd (fun g' => absurd g' g) hk
   rw [if_pos (b.lacks hk1 (fun g => hk fun _ => g))]

theorem BInv.pop_yes {Bs : Nat → List Nat} {N ep : Nat} {C : Nat → Nat → Prop} {Hs : Nat → Prop} {np tot : Nat} {s : St} (h : BInv Bs N ep C Hs np tot s) (hN : N ≤ 60000) (hnp : np ≤ 900) (ht : tot < 2000000) (hH : Hs s.cur) (hC : ∀ k, k < (Bs s.cur).length → C s.cur k) :
 s.cur < N ∧ ∃ s', s.pop = some (some (hdr12 11 (Bs s.cur).length s.cur 0 (Bs s.cur).length ++ Bs s.cur, ep), s') ∧ s'.cur = s.cur + 1 ∧ BInv Bs N ep C Hs np tot s' := by
 have hok := h.ok hN hnp ht
 have h1 := h.cnt
 have h2 := h.sz
 have h3 := h.cb
 have h4 := h.sb
 cases hm : s.m s.cur with
 | none => exact absurd hH (h.none_ _ (Nat.le_refl _) hm).1
 | some x =>
   obtain ⟨a, b, c⟩ := h.some_ _ x (Nat.le_refl _) hm
   have hcN : s.cur < N := by
    by_cases g : s.cur < N
    ·exact g
    ·rw [h.far _ (by omega)] at hm; cases hm
   have hl9 : x.rs.length ≤ 900 := by
    have := totN_le (fun q' => lenOf (s.m q')) N s.cur hcN
    simp only [hm, lenOf] at this
    have hc : (x.rs.length : Int) ≤ s.cnt := by rw [h1]; exact Int.ofNat_le.2 this
    omega
   obtain ⟨w1, w2, w3, w4, w5, w6⟩ := b.whole hC c
   refine ⟨hcN, { s with cur := s.cur + 1, sz := s.sz - sumL x.rs, cnt := s.cnt - x.rs.length, m := fun k => if k = s.cur then none else s.m k }, ?_, rfl, ?_⟩
   ·unfold St.pop
    rw [hm]
    simp only
    rw [if_neg w1, if_pos ⟨b.ok hl9, hok, ⟨by rw [w3]; decide, by rw [w4]; exact b.small, by rw [w5]; omega⟩, by omega⟩, w2, w3, w4, w5, w6]
    rfl
   ·have u1 := totN_upd (fun q' => lenOf (s.m q')) s.cur 0 N hcN
    have u2 := totN_upd (fun q' => szOf (s.m q')) s.cur 0 N hcN
    simp only [hm] at u1 u2
    have e1 : totN (fun q' => lenOf (if q' = s.cur then none else s.m q')) N = totN (fun k => if k = s.cur then 0 else lenOf (s.m k)) N := totN_eq _ _ N fun k _ => by
     split <;> rfl
    have e2 : totN (fun q' => szOf (if q' = s.cur then none else s.m q')) N = totN (fun k => if k = s.cur then 0 else szOf (s.m k)) N := totN_eq _ _ N fun k _ => by
     split <;> rfl
    simp only [lenOf] at u1
    simp only [szOf] at u2
    refine ⟨fun q' hq' => ?_, fun q' hq' hm' => ?_, fun q' y hq' hm' => ?_, fun q' hq' => ?_, ?_, ?_, ?_, ?_, h.npb, hcN⟩
    ·show (if q' = s.cur then none else s.m q') = none
     split
     ·rfl
     ·have hq'' : q' < s.cur + 1 := hq'
      exact h.old q' (by omega)
    ·have hq'' : s.cur + 1 ≤ q' := hq'
     change (if q' = s.cur then none else s.m q') = none at hm'
     rw [if_neg (by omega)] at hm'
     exact h.none_ q' (by omega) hm'
    ·have hq'' : s.cur + 1 ≤ q' := hq'
     change (if q' = s.cur then none else s.m q') = some y at hm'
     rw [if_neg (by omega)] at hm'
     exact h.some_ q' y (by omega) hm'
    ·show (if q' = s.cur then none else s.m q') = none
     split
     ·rfl
     ·exact h.far q' hq'
    ·show s.cnt - x.rs.length = ((totN (fun q' => lenOf (if q' = s.cur then none else s.m q')) N : Nat) : Int)
     rw [e1]
     simp only [lenOf] at h1 ⊢
     omega
    ·show s.sz - sumL x.rs = ((totN (fun q' => szOf (if q' = s.cur then none else s.m q')) N : Nat) : Int)
     rw [e2]
     simp only [szOf] at h2 ⊢
     omega
    ·show s.cnt - x.rs.length ≤ _
     omega
    ·show s.sz - sumL x.rs ≤ _
     omega
end Go.Proofs.YtjflijebcpcbmaaDoor.G

/- What is proved: what scripts of records of one fragment each, and of pops, tell, by the plain model. Conditions: fragments that agree with the messages' bytes, at most 900 of them. -/
namespace Go.Proofs.YtjflijebcpcbmaaDoor.G
set_option linter.unusedVariables false
set_option linter.unusedSimpArgs false

structure Pc where
 q : Nat
 o : Nat
 n : Nat
/-- A record that holds this piece of these messages. -/
structure GoodRec (Bs : Nat → List Nat) (N ep : Nat) (R : ByteArray) (p : Pc) : Prop where
 q : p.q < N
 rec_ : IsRec (baNat R) 11 (Bs p.q).length p.q p.o p.n ep (((Bs p.q).drop p.o).take p.n)
 small : (Bs p.q).length < 16777216
 le : p.o + p.n ≤ (Bs p.q).length
 pos : 0 < p.n ∨ (Bs p.q).length = 0
 size : R.size ≤ 1000
def pushS (R : ByteArray) : S45 := ⟨true, R⟩
def CovP (C : Nat → Nat → Prop) (ps : List Pc) (q k : Nat) : Prop := C q k ∨ ∃ p ∈ ps, p.q = q ∧ p.o ≤ k ∧ k < p.o + p.n
def HasP (Hs : Nat → Prop) (ps : List Pc) (q : Nat) : Prop := Hs q ∨ ∃ p ∈ ps, p.q = q
theorem BInv.one {Bs : Nat → List Nat} {N ep : Nat} {C : Nat → Nat → Prop} {Hs : Nat → Prop} {np tot : Nat} {s : St} (h : BInv Bs N ep C Hs np tot s) (hN : N ≤ 60000) (hnp : np < 900) (ht : tot + 1000 < 2000000) {R : ByteArray} {p : Pc} (g : GoodRec Bs N ep R p) :
 ∃ t s', s.step (pushS R) = some (t, s') ∧ t.f0 = true ∧ t.f2 = false ∧ s'.cur = s.cur ∧ BInv Bs N ep (CovP C [p]) (HasP Hs [p]) (np + 1) (tot + 1000) s' := by
 have hl := baNat_length R
 have hs := g.size
 obtain ⟨ag, s', h1, h2, h3⟩ := h.push hN hnp (baNat R) p.q p.o p.n _ g.rec_ (by omega) g.q g.small g.le g.pos rfl
 refine ⟨⟨true, ag, false, false, (⟨#[]⟩ : ByteArray), 0, s'.sz⟩, s', ?_, rfl, rfl, h2, ?_⟩
 ·unfold St.step pushS
  simp only
  rw [if_pos trivial, h1]
  rfl
 ·have e1 : CovP C [p] = fun q' k => C q' k ∨ (q' = p.q ∧ p.o ≤ k ∧ k < p.o + p.n) := by
   funext q k
   refine propext ⟨fun g => g.elim .inl fun ⟨y, hy, e, a⟩ => ?_, fun g => g.elim .inl fun ⟨e, a⟩ => .inr ⟨p, by simp, e.symm, a⟩⟩
   simp at hy
   subst hy
   exact .inr ⟨e.symm, a⟩
  have e2 : HasP Hs [p] = fun q' => Hs q' ∨ q' = p.q := by
   funext q
   refine propext ⟨fun g => g.elim .inl fun ⟨y, hy, e⟩ => ?_, fun g => g.elim .inl fun e => .inr ⟨p, by simp, e.symm⟩⟩
   simp at hy
   subst hy
   exact .inr e.symm
  rw [e1, e2]
  have hn : p.n ≤ 1000 := by have := g.rec_.len; omega
  exact ⟨h3.old, h3.none_, h3.some_, h3.far, h3.cnt, h3.sz, h3.cb, by have := h3.sb; omega, h3.npb, h3.cur⟩

end Go.Proofs.YtjflijebcpcbmaaDoor.G

/- What is proved: what the laws' own small functions answer: numbers as bytes, pieces, records, cuts, orders. Conditions: texts of few bytes. -/
namespace Go.Proofs.YtjflijebcpcbmaaDoor.G
open Go.RowKit Go.Proofs.YtjflijebcpcbmaaDoorW.PrintWords Go.Proofs.YtjflijebcpcbmaaDoorW.PrintLast Go.Proofs.YtjflijebcpcbmaaDoorW.PrintMore
set_option linter.unusedVariables false
set_option linter.unusedSimpArgs false

/-- With rounds enough the answer is r. -/
def Evt {α : Type} (f : Nat → Option α) (r : α) : Prop := ∃ K, ∀ k, K ≤ k → f k = some r
theorem Evt.bind {α β : Type} {f : Nat → Option α} {g : Nat → α → Option β} {a : α} {r : β} (h : Evt f a) (h' : Evt (fun k => g k a) r) : Evt (fun k => (f k).bind (g k)) r := by
 obtain ⟨K, hK⟩ := h
 obtain ⟨L, hL⟩ := h'
 exact ⟨max K L, fun k hk => by show (f k).bind (g k) = some r; rw [hK k (by omega)]; exact hL k (by omega)⟩
theorem Evt.const {α : Type} (r : α) : Evt (fun _ => some r) r := ⟨0, fun _ _ => rfl⟩
theorem Evt.of {α : Type} {f : Nat → Option α} {r : α} (h : ∀ k, f k = some r) : Evt f r := ⟨0, fun k _ => h k⟩
theorem Evt.step {α : Type} {F f : Nat → Option α} {r : α} (h : Evt f r) (hs : ∀ k, F (k + 1) = f k) : Evt F r := by
 obtain ⟨K, hK⟩ := h
 exact ⟨K + 1, fun k hk => by
  obtain ⟨j, rfl⟩ : ∃ j, k = j + 1 := ⟨k - 1, by omega⟩
  rw [hs]
  exact hK j (by omega)⟩
theorem Evt.congr {α : Type} {F f : Nat → Option α} {r : α} (h : Evt f r) (hs : ∀ k, F k = f k) : Evt F r := by
 obtain ⟨K, hK⟩ := h
 exact ⟨K, fun k hk => by rw [hs]; exact hK k hk⟩

theorem nums_eq (l : List Nat) : strOfNums (l.map fun x : Nat => (x : Int)) = natBa l := by
 unfold strOfNums natBa
 rw [List.map_map]
 congr 2
theorem baNat_append (a b : ByteArray) : baNat (a ++ b) = baNat a ++ baNat b := by
 unfold baNat
 rw [ByteArray.data_append]
 simp
theorem baNat_natBa (l : List Nat) (h : ∀ x ∈ l, x < 256) : baNat (natBa l) = l := by
 unfold baNat natBa
 simp only [List.map_map]
 rw [List.map_congr_left (g := id)]
 ·simp
 ·intro x hx
  have := h x hx
  simp [UInt8.toNat_ofNat', Nat.mod_eq_of_lt this]
theorem natBa_size (l : List Nat) : (natBa l).size = l.length := by unfold natBa; show (l.map UInt8.ofNat).toArray.size = _; simp
theorem baNat_extract (s : ByteArray) (a b : Nat) (hb : b ≤ s.size) : baNat (s.extract a b) = ((baNat s).drop a).take (b - a) := by
 unfold baNat
 rw [ByteArray.data_extract]
 simp [List.map_drop, List.map_take, List.take_drop]
theorem ba_ext {a b : ByteArray} (h : baNat a = baNat b) : a = b := by
 unfold baNat at h
 have : a.data.toList = b.data.toList := by
  have hi : Function.Injective UInt8.toNat := fun x y hxy => UInt8.toNat_inj.1 hxy
  exact List.map_inj_right (fun x y => hi (a₁ := x) (a₂ := y)) |>.1 h
 cases a; cases b
 simp at this
 rw [this]

def be2 (x : Nat) : List Nat := [x / 256 % 256, x % 256]
def be3 (x : Nat) : List Nat := [x / 65536 % 256, x / 256 % 256, x % 256]
theorem wrapi (x : Int) (h : -9223372036854775808 ≤ x) (h' : x < 9223372036854775808) : wrap64 x = x := by unfold wrap64; omega
theorem be_lt2 (x : Nat) : ∀ y ∈ be2 x, y < 256 := fun y hy => by simp [be2] at hy; omega
theorem be_lt3 (x : Nat) : ∀ y ∈ be3 x, y < 256 := fun y hy => by simp [be3] at hy; omega
end Go.Proofs.YtjflijebcpcbmaaDoor.G

/- What is proved: cuts of bodies, and orders of lists, as the laws make them. Conditions: bodies of few bytes. -/
namespace Go.Proofs.YtjflijebcpcbmaaDoor.G
open Go.RowKit Go.Proofs.YtjflijebcpcbmaaDoorW.PrintWords Go.Proofs.YtjflijebcpcbmaaDoorW.PrintLast Go.Proofs.YtjflijebcpcbmaaDoorW.PrintMore
set_option linter.unusedVariables false
set_option linter.unusedSimpArgs false

inductive Pieces (P : ByteArray → Pc → Prop) : List ByteArray → List Pc → Prop
 | nil : Pieces P [] []
 | cons {x : ByteArray} {p : Pc} {xs : List ByteArray} {ps : List Pc} : P x p → Pieces P xs ps → Pieces P (x :: xs) (p :: ps)
theorem Pieces.append {P : ByteArray → Pc → Prop} {a b : List ByteArray} {c d : List Pc} (h : Pieces P a c) (h' : Pieces P b d) : Pieces P (a ++ b) (c ++ d) := by
 induction h with
 | nil => exact h'
 | cons h1 _ ih => exact .cons h1 ih
theorem Pieces.length {P : ByteArray → Pc → Prop} {a : List ByteArray} {c : List Pc} (h : Pieces P a c) : a.length = c.length := by
 induction h with
 | nil => rfl
 | cons _ _ ih => simp [ih]
end Go.Proofs.YtjflijebcpcbmaaDoor.G

/- What is proved: orders of lists, scripts, comparisons of lists, as the laws make them; the law of a message cut anew. Conditions: none beyond the law's own. -/
namespace Go.Proofs.YtjflijebcpcbmaaDoor.G
open Go.RowKit Go.Proofs.YtjflijebcpcbmaaDoorW.PrintWords Go.Proofs.YtjflijebcpcbmaaDoorW.PrintLast Go.Proofs.YtjflijebcpcbmaaDoorW.PrintMore
set_option linter.unusedVariables false
set_option linter.unusedSimpArgs false

end Go.Proofs.YtjflijebcpcbmaaDoor.G
