/-
  What is proved: the plain laws of the stored pieces (what pushes and pops answer), joined from six texts. Conditions: none.
-/
import Derived.Test.YtjflijebcpcbmaaDoorMod
import Derived.Test.YtjflijebcpcbmaaDoorStp
import Derived.Test.YtjflijebcpcbmaaDoorG4
import Derived.Test.YtjflijebcpcbmaaDoorG3
import Derived.Test.YtjflijebcpcbmaaDoorGL
/- What is proved: what a fragment makes of one message of the plain model, and that a message that is covered comes out whole. Conditions: fragments that agree with the message's bytes. -/
namespace Go.Proofs.YtjflijebcpcbmaaDoor.G
set_option linter.unusedVariables false
set_option linter.unusedSimpArgs false

theorem take_tw {α : Type} (p : α → Bool) : ∀ l : List α, l.take (l.takeWhile p).length = l.takeWhile p
  | [] => rfl
  | x :: l => by
    rw [List.takeWhile_cons]
    split
    · simp [take_tw p l]
    · rfl
theorem drop_tw {α : Type} (p : α → Bool) : ∀ l : List α, l.drop (l.takeWhile p).length = l.dropWhile p
  | [] => rfl
  | x :: l => by
    rw [List.takeWhile_cons, List.dropWhile_cons]
    split
    · simp [drop_tw p l]
    · rfl
theorem tw_all {α : Type} (p : α → Bool) : ∀ (l : List α) (x : α), x ∈ l.takeWhile p → p x = true
  | [], x, h => by simp at h
  | y :: l, x, h => by
    rw [List.takeWhile_cons] at h
    split at h
    · rcases List.mem_cons.1 h with rfl | h
      · assumption
      · exact tw_all p l x h
    · simp at h
theorem dw_head {α : Type} (p : α → Bool) : ∀ (l : List α) (x : α) (r : List α), l.dropWhile p = x :: r → p x = false
  | [], x, r, h => by simp at h
  | y :: l, x, r, h => by
    rw [List.dropWhile_cons] at h
    split at h
    · exact dw_head p l x r h
    · rename_i hp
      injection h with h _
      subst h
      simpa using hp

def RisesP (rs : List (Rg (List Nat))) : Prop := rs.Pairwise (fun r s => r.off < s.off ∧ r.off + r.len < s.off + s.len)
def covers (rs : List (Rg (List Nat))) (k : Nat) : Prop := ∃ r ∈ rs, r.off ≤ k ∧ k < r.off + r.len

/-- The ranges parted at a new one: those before it, those within it, those behind. -/
theorem parts (rs : List (Rg (List Nat))) (hR : RisesP rs) (r : Rg (List Nat)) : ∃ pre mid post : List (Rg (List Nat)), rs = pre ++ (mid ++ post) ∧ idxOf rs r.off = pre.length ∧ tillOf rs (r.off + r.len) (idxOf rs r.off) = pre.length + mid.length ∧
    (∀ x ∈ pre, x.off < r.off) ∧ (∀ x ∈ mid ++ post, r.off ≤ x.off) ∧ (∀ x ∈ mid, x.off + x.len ≤ r.off + r.len) ∧ (∀ x ∈ post, r.off + r.len < x.off + x.len) := by
  let p : Rg (List Nat) → Bool := fun x => decide (x.off < r.off)
  let q : Rg (List Nat) → Bool := fun x => decide (x.off + x.len ≤ r.off + r.len)
  have h1 : rs = rs.takeWhile p ++ rs.dropWhile p := (List.takeWhile_append_dropWhile (p := p)).symm
  have h2 : rs.dropWhile p = (rs.dropWhile p).takeWhile q ++ (rs.dropWhile p).dropWhile q := (List.takeWhile_append_dropWhile (p := q)).symm
  have hRd : RisesP (rs.dropWhile p) := by rw [RisesP, h1, List.pairwise_append] at hR; exact hR.2.1
  have hRd2 : RisesP ((rs.dropWhile p).dropWhile q) := by rw [RisesP, h2, List.pairwise_append] at hRd; exact hRd.2.1
  refine ⟨rs.takeWhile p, (rs.dropWhile p).takeWhile q, (rs.dropWhile p).dropWhile q, by rw [← h2]; exact h1, rfl, ?_, ?_, ?_, ?_, ?_⟩
  · unfold tillOf
    congr 1
    have : rs.drop (idxOf rs r.off) = rs.dropWhile p := drop_tw p rs
    rw [this]
  · intro x hx
    exact of_decide_eq_true (tw_all p rs x hx)
  · rw [← h2]
    intro x hx
    cases hd : rs.dropWhile p with
    | nil => rw [hd] at hx; simp at hx
    | cons y l =>
      have hy := dw_head p rs y l hd
      have hy' : r.off ≤ y.off := Nat.le_of_not_lt (of_decide_eq_false hy)
      rw [hd] at hx hRd
      rcases List.mem_cons.1 hx with rfl | hx
      · exact hy'
      · have := (List.pairwise_cons.1 hRd).1 x hx
        omega
  · intro x hx
    exact of_decide_eq_true (tw_all q _ x hx)
  · intro x hx
    cases hd : (rs.dropWhile p).dropWhile q with
    | nil => rw [hd] at hx; simp at hx
    | cons y l =>
      have hy := dw_head q _ y l hd
      have hy' : r.off + r.len < y.off + y.len := Nat.lt_of_not_le (of_decide_eq_false hy)
      rw [hd] at hx hRd2
      rcases List.mem_cons.1 hx with rfl | hx
      · exact hy'
      · have := (List.pairwise_cons.1 hRd2).1 x hx
        omega

theorem adv_law : ∀ (L : List (Rg (List Nat))) (c : Nat), RisesP L → c ≤ advance L c ∧ (∀ k, c ≤ k → k < advance L c → covers L k) ∧ (∀ r ∈ L, r.off ≤ advance L c → r.off + r.len ≤ advance L c)
  | [], c, _ => ⟨Nat.le_refl _, fun k h1 h2 => by unfold advance at h2; omega, fun r hr => by simp at hr⟩
  | r :: L, c, hR => by
    obtain ⟨hr, hL⟩ := List.pairwise_cons.1 hR
    unfold advance
    split
    · rename_i hc
      obtain ⟨i1, i2, i3⟩ := adv_law L (max c (r.off + r.len)) hL
      refine ⟨by omega, fun k h1 h2 => ?_, fun x hx hxc => ?_⟩
      · by_cases hk : k < max c (r.off + r.len)
        · exact ⟨r, by simp, by omega, by omega⟩
        · obtain ⟨x, hx, h⟩ := i2 k (by omega) h2
          exact ⟨x, by simp [hx], h⟩
      · rcases List.mem_cons.1 hx with rfl | hx
        · omega
        · exact i3 x hx hxc
    · rename_i hc
      refine ⟨Nat.le_refl _, fun k h1 h2 => by omega, fun x hx hxc => ?_⟩
      rcases List.mem_cons.1 hx with rfl | hx
      · omega
      · have := hr x hx
        omega

theorem asm_whole (B : List Nat) : ∀ (rs : List (Rg (List Nat))) (c : Nat), RisesP rs → (∀ r ∈ rs, r.off + r.len ≤ B.length ∧ r.p = (B.drop r.off).take r.len) → c ≤ B.length → (∀ r ∈ rs, c ≤ r.off + r.len) → (∀ k, c ≤ k → k < B.length → covers rs k) → asm rs c = some (B.drop c)
  | [], c, _, _, hc, _, hk => by
    have : B.length ≤ c := by
      by_cases h : c < B.length
      · obtain ⟨r, hr, _⟩ := hk c (Nat.le_refl _) h
        simp at hr
      · omega
    rw [List.drop_of_length_le this]
    rfl
  | r :: rs, c, hR, hB, hc, he, hk => by
    obtain ⟨hr, hL⟩ := List.pairwise_cons.1 hR
    obtain ⟨b1, b2⟩ := hB r (by simp)
    have e1 := he r (by simp)
    have h1 : r.off ≤ c := by
      by_cases h : c < B.length
      · obtain ⟨x, hx, hx1, hx2⟩ := hk c (Nat.le_refl _) h
        rcases List.mem_cons.1 hx with rfl | hx
        · exact hx1
        · have := hr x hx
          omega
      · omega
    have ih := asm_whole B rs (r.off + r.len) hL (fun x hx => hB x (by simp [hx])) b1 (fun x hx => by have := hr x hx; omega) (fun k k1 k2 => by
      obtain ⟨x, hx, hx1, hx2⟩ := hk k (by omega) k2
      rcases List.mem_cons.1 hx with rfl | hx
      · omega
      · exact ⟨x, hx, hx1, hx2⟩)
    unfold asm
    rw [if_pos ⟨h1, e1⟩, ih]
    simp only [Option.map_some, Option.some.injEq]
    rw [b2, List.drop_take, List.drop_drop, show r.off + (c - r.off) = c by omega, show r.len - (c - r.off) = r.off + r.len - c by omega]
    have := List.take_append_drop (r.off + r.len - c) (B.drop c)
    rw [List.drop_drop, show c + (r.off + r.len - c) = r.off + r.len by omega] at this
    exact this

/-- Message q with the bytes B, as far as C is covered. -/
structure MInv (B : List Nat) (ty ep q : Nat) (C : Nat → Prop) (x : Msg) : Prop where
  t : x.t = ty
  l : x.l = B.length
  small : B.length < 16777216
  rises : RisesP x.rs
  true_ : ∀ r ∈ x.rs, r.off + r.len ≤ B.length ∧ r.p = (B.drop r.off).take r.len ∧ r.p.length = r.len
  cov : ∀ k, covers x.rs k ↔ C k
  pre : (∀ k, k < x.cov → C k) ∧ ¬ C x.cov
  st : (∃ r ∈ x.rs, r.off = 0) ↔ x.st = true
  hd : x.st = true → x.hd.1 = ty ∧ x.hd.2.1 = B.length ∧ x.hd.2.2.1 = q ∧ x.ep = ep

theorem hasR_true {rs pre tl : List (Rg (List Nat))} {r : Rg (List Nat)} (e : rs = pre ++ tl) (hi : idxOf rs r.off = pre.length) (h : hasR rs r = true) :
    (∃ x ∈ pre, r.off + r.len ≤ x.off + x.len) ∨ (∃ x ∈ tl, x.off = r.off ∧ r.off + r.len ≤ x.off + x.len) := by
  unfold hasR coversAt at h
  rw [hi] at h
  rcases Bool.or_eq_true_iff.1 h with h | h
  · left
    cases hp : pre.length with
    | zero => rw [hp] at h; cases h
    | succ k =>
      rw [hp] at h
      simp only at h
      have : rs[k]? = pre[k]? := by rw [e, List.getElem?_append_left (by omega)]
      rw [this] at h
      cases hx : pre[k]? with
      | none => rw [hx] at h; cases h
      | some x => rw [hx] at h; exact ⟨x, List.mem_of_getElem? hx, of_decide_eq_true h⟩
  · right
    have : rs[pre.length]? = tl[0]? := by rw [e, List.getElem?_append_right (Nat.le_refl _), Nat.sub_self]
    rw [this] at h
    cases hx : tl[0]? with
    | none => rw [hx] at h; cases h
    | some x =>
      rw [hx] at h
      obtain ⟨h1, h2⟩ := Bool.and_eq_true_iff.1 h
      exact ⟨x, List.mem_of_getElem? hx, of_decide_eq_true h1, of_decide_eq_true h2⟩
theorem hasR_false {rs pre tl : List (Rg (List Nat))} {r : Rg (List Nat)} (hR : RisesP rs) (e : rs = pre ++ tl) (hi : idxOf rs r.off = pre.length) (h : hasR rs r = false) :
    (∀ x ∈ pre, x.off + x.len < r.off + r.len) ∧ (∀ x l, tl = x :: l → x.off = r.off → x.off + x.len < r.off + r.len) := by
  unfold hasR coversAt at h
  rw [hi] at h
  obtain ⟨h1, h2⟩ := (Bool.or_eq_false_iff).1 h
  constructor
  · intro x hx
    obtain ⟨j, hj, rfl⟩ := List.getElem_of_mem hx
    cases hp : pre.length with
    | zero => omega
    | succ k =>
      rw [hp] at h1
      simp only at h1
      have hk : k < pre.length := by omega
      have : rs[k]? = some pre[k] := by rw [e, List.getElem?_append_left hk, List.getElem?_eq_getElem hk]
      rw [this] at h1
      have h3 : pre[k].off + pre[k].len < r.off + r.len := Nat.lt_of_not_le (of_decide_eq_false h1)
      by_cases hjk : j = k
      · subst hjk; exact h3
      · have hpre : RisesP pre := by rw [RisesP, e, List.pairwise_append] at hR; exact hR.1
        have := (List.pairwise_iff_getElem.1 hpre) j k hj hk (by omega)
        omega
  · intro x l hl ho
    have : rs[pre.length]? = some x := by rw [e, List.getElem?_append_right (Nat.le_refl _), Nat.sub_self, hl]; rfl
    rw [this] at h2
    simp only at h2
    rw [ho, decide_eq_true rfl, Bool.true_and] at h2
    rw [ho]
    exact Nat.lt_of_not_le (of_decide_eq_false h2)

theorem covers_append (a b : List (Rg (List Nat))) (k : Nat) : covers (a ++ b) k ↔ covers a k ∨ covers b k := by
  unfold covers
  constructor
  · rintro ⟨r, hr, h⟩
    rcases List.mem_append.1 hr with hr | hr
    · exact .inl ⟨r, hr, h⟩
    · exact .inr ⟨r, hr, h⟩
  · rintro (⟨r, hr, h⟩ | ⟨r, hr, h⟩)
    · exact ⟨r, by simp [hr], h⟩
    · exact ⟨r, by simp [hr], h⟩
theorem sumL_append {α : Type} (a b : List (Rg α)) : sumL (a ++ b) = sumL a + sumL b := by simp [sumL]

/-- A fragment is added to a message. -/
theorem MInv.frag {B : List Nat} {ty ep q : Nat} {C : Nat → Prop} {x : Msg} (h : MInv B ty ep q C x) (o n f : Nat) (hn : o + n ≤ B.length) (hpos : 0 < n ∨ B.length = 0) (p : List Nat) (hp : p = (B.drop o).take n) :
    MInv B ty ep q (fun k => C k ∨ (o ≤ k ∧ k < o + n)) ((x.add ⟨o, n, p⟩).start (ty, B.length, q, o, f) ep) ∧
    ((x.add ⟨o, n, p⟩).start (ty, B.length, q, o, f) ep).rs.length = x.rs.length + dCnt x.rs ⟨o, n, p⟩ ∧
    (sumL ((x.add ⟨o, n, p⟩).start (ty, B.length, q, o, f) ep).rs : Int) = sumL x.rs + dSz x.rs ⟨o, n, p⟩ ∧
    dCnt x.rs ⟨o, n, p⟩ ≤ 1 ∧ dSz x.rs ⟨o, n, p⟩ ≤ n ∧ ((x.add ⟨o, n, p⟩).start (ty, B.length, q, o, f) ep).rs ≠ [] := by
  have hpl : p.length = n := by rw [hp, List.length_take, List.length_drop]; omega
  obtain ⟨pre, mid, post, e, hi, ht, h1, h2, h3, h4⟩ := parts x.rs h.rises ⟨o, n, p⟩
  simp only at hi ht h1 h2 h3 h4
  have hst : ∀ y : Msg, (y.start (ty, B.length, q, o, f) ep).rs = y.rs := fun y => by unfold Msg.start; split <;> rfl
  rw [hst]
  cases hh : hasR x.rs ⟨o, n, p⟩
  · obtain ⟨f1, f2⟩ := hasR_false h.rises e hi hh
    simp only at f1 f2
    have hput : putR x.rs ⟨o, n, p⟩ = pre ++ ⟨o, n, p⟩ :: post := by
      unfold putR
      simp only
      rw [ht, hi, e, List.take_left]
      congr 2
      rw [← List.append_assoc, ← List.length_append, List.drop_left]
    have hadd : x.add ⟨o, n, p⟩ = { x with rs := pre ++ ⟨o, n, p⟩ :: post, cov := advance (⟨o, n, p⟩ :: post) x.cov } := by
      unfold Msg.add
      rw [hh, if_neg (by decide), hput, hi, List.drop_left]
    have hR := h.rises
    rw [RisesP, e, List.pairwise_append, List.pairwise_append] at hR
    obtain ⟨r1, ⟨r2, r3, r4⟩, r5⟩ := hR
    have hrp : ∀ y ∈ post, o < y.off ∧ o + n < y.off + y.len := fun y hy => by
      have g1 := h2 y (by simp [hy])
      have g2 := h4 y hy
      refine ⟨?_, g2⟩
      by_cases ho : y.off = o
      · exfalso
        cases hm : mid ++ post with
        | nil => simp [List.append_eq_nil_iff] at hm; rw [hm.2] at hy; simp at hy
        | cons z l =>
          have hz : RisesP (z :: l) := by rw [← hm, RisesP, List.pairwise_append]; exact ⟨r2, r3, r4⟩
          have gz := h2 z (by rw [hm]; simp)
          have hyz : y ∈ z :: l := by rw [← hm]; simp [hy]
          rcases List.mem_cons.1 hyz with rfl | hyl
          · have := f2 y l hm ho
            omega
          · have := (List.pairwise_cons.1 hz).1 y hyl
            omega
      · omega
    have hnew : RisesP (⟨o, n, p⟩ :: post) := List.pairwise_cons.2 ⟨fun y hy => hrp y hy, r3⟩
    have hnew2 : RisesP (pre ++ ⟨o, n, p⟩ :: post) := by
      rw [RisesP, List.pairwise_append]
      refine ⟨r1, hnew, fun a ha b hb => ?_⟩
      rcases List.mem_cons.1 hb with rfl | hb
      · exact ⟨h1 a ha, f1 a ha⟩
      · exact r5 a ha b (by simp [hb])
    have hcov : ∀ k, covers (pre ++ ⟨o, n, p⟩ :: post) k ↔ (C k ∨ (o ≤ k ∧ k < o + n)) := fun k => by
      rw [← h.cov k, e, covers_append, covers_append, covers_append]
      constructor
      · rintro (g | ⟨y, hy, g⟩)
        · exact .inl (.inl g)
        · rcases List.mem_cons.1 hy with rfl | hy
          · exact .inr g
          · exact .inl (.inr (.inr ⟨y, hy, g⟩))
      · rintro ((g | g | g) | g)
        · exact .inl g
        · obtain ⟨y, hy, g1, g2⟩ := g
          have := h3 y hy
          have := h2 y (by simp [hy])
          exact .inr ⟨⟨o, n, p⟩, by simp, by simp only; omega, by simp only; omega⟩
        · obtain ⟨y, hy, g⟩ := g
          exact .inr ⟨y, by simp [hy], g⟩
        · exact .inr ⟨⟨o, n, p⟩, by simp, g⟩
    obtain ⟨a1, a2, a3⟩ := adv_law (⟨o, n, p⟩ :: post) x.cov hnew
    have hpre : (∀ k, k < advance (⟨o, n, p⟩ :: post) x.cov → (C k ∨ (o ≤ k ∧ k < o + n))) ∧ ¬ (C (advance (⟨o, n, p⟩ :: post) x.cov) ∨ (o ≤ advance (⟨o, n, p⟩ :: post) x.cov ∧ advance (⟨o, n, p⟩ :: post) x.cov < o + n)) := by
      refine ⟨fun k hk => ?_, ?_⟩
      · by_cases hk' : k < x.cov
        · exact .inl (h.pre.1 k hk')
        · rw [← hcov]
          obtain ⟨y, hy, g⟩ := a2 k (by omega) hk
          exact ⟨y, by rcases List.mem_cons.1 hy with rfl | hy <;> simp [*], g⟩
      · rw [← hcov]
        by_cases hoc : o ≤ x.cov
        · rintro ⟨y, hy, g1, g2⟩
          rcases List.mem_append.1 hy with hy | hy
          · have hyo := h1 y hy
            have : ¬ covers x.rs x.cov := fun g => h.pre.2 ((h.cov _).1 g)
            have hye : y.off + y.len ≤ x.cov := by
              by_cases hlt : x.cov < y.off + y.len
              · exact absurd ⟨y, by rw [e]; simp [hy], by omega, hlt⟩ this
              · omega
            omega
          · have := a3 y hy g1
            omega
        · have : advance ((⟨o, n, p⟩ : Rg (List Nat)) :: post) x.cov = x.cov := by
            unfold advance
            rw [if_neg (by simpa using hoc)]
          rw [this, hcov]
          rintro (g | g)
          · exact h.pre.2 g
          · omega
    have htr : ∀ r ∈ pre ++ ⟨o, n, p⟩ :: post, r.off + r.len ≤ B.length ∧ r.p = (B.drop r.off).take r.len ∧ r.p.length = r.len := fun r hr => by
      rcases List.mem_append.1 hr with hr | hr
      · exact h.true_ r (by rw [e]; simp [hr])
      · rcases List.mem_cons.1 hr with rfl | hr
        · exact ⟨hn, hp, hpl⟩
        · exact h.true_ r (by rw [e]; simp [hr])
    have hzero : (∃ r ∈ pre ++ ⟨o, n, p⟩ :: post, r.off = 0) ↔ ((∃ r ∈ x.rs, r.off = 0) ∨ o = 0) := by
      constructor
      · rintro ⟨r, hr, g⟩
        rcases List.mem_append.1 hr with hr | hr
        · exact .inl ⟨r, by rw [e]; simp [hr], g⟩
        · rcases List.mem_cons.1 hr with rfl | hr
          · exact .inr g
          · exact .inl ⟨r, by rw [e]; simp [hr], g⟩
      · rintro (⟨r, hr, g⟩ | g)
        · rw [e] at hr
          rcases List.mem_append.1 hr with hr | hr
          · exact ⟨r, by simp [hr], g⟩
          · have := h2 r hr
            exact ⟨⟨o, n, p⟩, by simp, by simp only; omega⟩
        · exact ⟨⟨o, n, p⟩, by simp, g⟩
    refine ⟨?_, ?_, ?_, ?_, ?_, ?_⟩
    · rw [hadd]
      unfold Msg.start
      simp only
      split
      · rename_i hs
        exact ⟨h.t, h.l, h.small, hnew2, htr, hcov, hpre, ⟨fun _ => rfl, fun _ => hzero.2 (.inr hs.1)⟩, fun _ => ⟨rfl, rfl, rfl, rfl⟩⟩
      · rename_i hs
        refine ⟨h.t, h.l, h.small, hnew2, htr, hcov, hpre, ?_, h.hd⟩
        simp only
        rw [hzero, h.st]
        constructor
        · rintro (g | g)
          · exact g
          · cases hx : x.st with
            | true => rfl
            | false => exact absurd ⟨g, hx⟩ hs
        · exact .inl
    · rw [hadd]
      unfold dCnt
      rw [hh, if_neg (by decide), ht, hi, e]
      simp only [List.length_append, List.length_cons]
      omega
    · rw [hadd]
      unfold dSz
      rw [hh, if_neg (by decide), ht, hi]
      have hmid : (x.rs.drop pre.length).take (pre.length + mid.length - pre.length) = mid := by
        rw [e, List.drop_left, show pre.length + mid.length - pre.length = mid.length by omega, List.take_left]
      rw [hmid, e]
      simp only
      rw [sumL_append, sumL_append, sumL_append]
      have : sumL ((⟨o, n, p⟩ : Rg (List Nat)) :: post) = n + sumL post := by simp [sumL]
      rw [this]
      omega
    · unfold dCnt
      split <;> omega
    · unfold dSz
      split <;> first | omega | (simp only; omega)
    · rw [hadd]; simp
  · have hadd : x.add ⟨o, n, p⟩ = x := by unfold Msg.add; rw [hh]; rfl
    have hsame : ∀ k, o ≤ k → k < o + n → C k := fun k k1 k2 => by
      rw [← h.cov]
      rcases hasR_true e hi hh with ⟨y, hy, g⟩ | ⟨y, hy, g0, g⟩
      · have := h1 y hy
        simp only at g
        exact ⟨y, by rw [e]; simp [hy], by omega, by omega⟩
      · simp only at g g0
        exact ⟨y, by rw [e]; exact List.mem_append_right _ hy, by omega, by omega⟩
    have hCeq : (fun k => C k ∨ (o ≤ k ∧ k < o + n)) = C := by
      funext k
      exact propext ⟨fun g => g.elim id (fun g => hsame k g.1 g.2), .inl⟩
    have hzz : o = 0 → x.st = true := fun h0 => by
      rw [← h.st]
      rcases hasR_true e hi hh with ⟨y, hy, g⟩ | ⟨y, hy, g0, g⟩
      · have := h1 y hy
        omega
      · simp only at g0
        exact ⟨y, by rw [e]; exact List.mem_append_right _ hy, by omega⟩
    have hstart : x.start (ty, B.length, q, o, f) ep = x := by
      unfold Msg.start
      rw [if_neg]
      rintro ⟨g1, g2⟩
      rw [hzz g1] at g2
      cases g2
    rw [hadd, hstart, hCeq]
    have hne : x.rs ≠ [] := by
      rcases hasR_true e hi hh with ⟨y, hy, g⟩ | ⟨y, hy, g0, g⟩
      · intro h0; rw [h0] at e; have := List.append_eq_nil_iff.1 e.symm; rw [this.1] at hy; simp at hy
      · intro h0; rw [h0] at e; have := List.append_eq_nil_iff.1 e.symm; rw [this.2] at hy; simp at hy
    refine ⟨h, ?_, ?_, ?_, ?_, hne⟩
    · unfold dCnt; rw [hh]; simp
    · unfold dSz; rw [hh]; simp
    · unfold dCnt; rw [hh]; simp
    · unfold dSz; rw [hh]; simp

/-- No fragment of a message yet. -/
theorem MInv.fresh (B : List Nat) (ty ep q : Nat) (hB : B.length < 16777216) : MInv B ty ep q (fun _ => False) (Msg.fresh ty B.length) :=
  ⟨rfl, rfl, hB, List.Pairwise.nil, fun r hr => by simp [Msg.fresh] at hr, fun k => ⟨fun ⟨r, hr, _⟩ => by simp [Msg.fresh] at hr, fun h => h.elim⟩, ⟨fun k hk => by simp [Msg.fresh] at hk, fun h => h⟩, ⟨fun ⟨r, hr, _⟩ => by simp [Msg.fresh] at hr, fun h => by simp [Msg.fresh] at h⟩, fun h => by simp [Msg.fresh] at h⟩

/-- A message that is covered comes out whole. -/
theorem MInv.whole {B : List Nat} {ty ep q : Nat} {C : Nat → Prop} {x : Msg} (h : MInv B ty ep q C x) (hC : ∀ k, k < B.length → C k) (hne : x.rs ≠ []) :
    ¬ x.cov < x.l ∧ asm x.rs 0 = some B ∧ x.hd.1 = ty ∧ x.hd.2.1 = B.length ∧ x.hd.2.2.1 = q ∧ x.ep = ep := by
  have hcov : ¬ x.cov < x.l := by rw [h.l]; exact fun g => h.pre.2 (hC _ g)
  have hst : x.st = true := by
    rw [← h.st]
    by_cases h0 : 0 < B.length
    · obtain ⟨r, hr, g1, g2⟩ := (h.cov 0).2 (hC 0 h0)
      exact ⟨r, hr, by omega⟩
    · cases hx : x.rs with
      | nil => exact absurd hx hne
      | cons r l =>
        have := (h.true_ r (by rw [hx]; simp)).1
        exact ⟨r, by simp, by omega⟩
  refine ⟨hcov, ?_, h.hd hst⟩
  have := asm_whole B x.rs 0 h.rises (fun r hr => ⟨(h.true_ r hr).1, (h.true_ r hr).2.1⟩) (Nat.zero_le _) (fun _ _ => Nat.zero_le _) (fun k _ hk => (h.cov k).2 (hC k hk))
  rw [List.drop_zero] at this
  exact this
theorem MInv.lacks {B : List Nat} {ty ep q : Nat} {C : Nat → Prop} {x : Msg} (h : MInv B ty ep q C x) {k : Nat} (hk : k < B.length) (hC : ¬ C k) : x.cov < x.l := by
  rw [h.l]
  by_cases g : k < x.cov
  · exact absurd (h.pre.1 k g) hC
  · omega
theorem MInv.ok {B : List Nat} {ty ep q : Nat} {C : Nat → Prop} {x : Msg} (h : MInv B ty ep q C x) (hn : x.rs.length ≤ 900) : okR x.l x.rs := ⟨hn, h.rises, fun r hr => by rw [h.l]; exact (h.true_ r hr).1, by rw [h.l]; exact h.small⟩
end Go.Proofs.YtjflijebcpcbmaaDoor.G

/- What is proved: what records of one fragment each, and pops, make of the plain model's buffer. Conditions: fragments that agree with the messages' bytes, at most 900, few bytes. -/
namespace Go.Proofs.YtjflijebcpcbmaaDoor.G
set_option linter.unusedVariables false
set_option linter.unusedSimpArgs false

def totN (f : Nat → Nat) : Nat → Nat
  | 0 => 0
  | n + 1 => totN f n + f n
theorem totN_le (f : Nat → Nat) : ∀ (n q : Nat), q < n → f q ≤ totN f n
  | 0, q, h => by omega
  | n + 1, q, h => by
    unfold totN
    by_cases e : q = n
    · subst e; omega
    · have := totN_le f n q (by omega)
      omega
theorem totN_eq (f g : Nat → Nat) : ∀ (n : Nat), (∀ q, q < n → f q = g q) → totN f n = totN g n
  | 0, _ => rfl
  | n + 1, h => by
    unfold totN
    rw [totN_eq f g n (fun q hq => h q (by omega)), h n (by omega)]
theorem totN_upd (f : Nat → Nat) (q v : Nat) : ∀ (n : Nat), q < n → totN (fun k => if k = q then v else f k) n + f q = totN f n + v
  | 0, h => by omega
  | n + 1, h => by
    unfold totN
    by_cases e : q = n
    · subst e
      rw [totN_eq (fun k => if k = q then v else f k) f q (fun k hk => by rw [if_neg (by omega)]), if_pos rfl]
      omega
    · have := totN_upd f q v n (by omega)
      rw [if_neg (fun h => e h.symm)]
      omega
theorem totN_zero (f : Nat → Nat) (n : Nat) (h : ∀ q, q < n → f q = 0) : totN f n = 0 := by
  rw [totN_eq f (fun _ => 0) n h]
  induction n with
  | zero => rfl
  | succ n ih => unfold totN; rw [ih (fun q hq => h q (by omega))]

def lenOf : Option Msg → Nat
  | none => 0
  | some x => x.rs.length
def szOf : Option Msg → Nat
  | none => 0
  | some x => sumL x.rs

/-- A record of handshake messages that holds one fragment. -/
structure IsRec (bs : List Nat) (ty l q o n ep : Nat) (data : List Nat) : Prop where
  len : bs.length = 25 + n
  b0 : bs.getD 0 0 = 22
  b1 : bs.getD 1 0 = 254
  b2 : bs.getD 2 0 = 253
  ep : u16of (bs.drop 3) = ep
  hd : hdOf (bs.drop 13) = (ty, l, q, o, n)
  data : ((bs.drop 13).drop 12).take n = data

structure BInv (Bs : Nat → List Nat) (N ep : Nat) (C : Nat → Nat → Prop) (Hs : Nat → Prop) (np tot : Nat) (s : St) : Prop where
  old : ∀ q, q < s.cur → s.m q = none
  none_ : ∀ q, s.cur ≤ q → s.m q = none → ¬ Hs q ∧ ∀ k, ¬ C q k
  some_ : ∀ q x, s.cur ≤ q → s.m q = some x → Hs q ∧ MInv (Bs q) 11 ep q (C q) x ∧ x.rs ≠ []
  far : ∀ q, N ≤ q → s.m q = none
  cnt : s.cnt = totN (fun q => lenOf (s.m q)) N
  sz : s.sz = totN (fun q => szOf (s.m q)) N
  cb : s.cnt ≤ np
  sb : s.sz ≤ tot
  npb : s.np ≤ np
  cur : s.cur ≤ N

theorem BInv.new (Bs : Nat → List Nat) (N ep : Nat) : BInv Bs N ep (fun _ _ => False) (fun _ => False) 0 0 St.new :=
  ⟨fun _ _ => rfl, fun _ _ _ => ⟨id, fun _ => id⟩, fun _ _ _ h => (by cases h), fun _ _ => rfl, (by rw [totN_zero _ N (fun q _ => (rfl : lenOf (St.new.m q) = 0))]; rfl), (by rw [totN_zero _ N (fun q _ => (rfl : szOf (St.new.m q) = 0))]; rfl), Int.le_refl _, Int.le_refl _, Nat.le_refl _, Nat.zero_le _⟩

theorem BInv.ok {Bs : Nat → List Nat} {N ep : Nat} {C : Nat → Nat → Prop} {Hs : Nat → Prop} {np tot : Nat} {s : St} (h : BInv Bs N ep C Hs np tot s) (hN : N ≤ 60000) (hnp : np ≤ 900) (ht : tot < 2000000) : s.ok := by
  have h1 := h.cnt
  have h2 := h.sz
  have h3 := h.cb
  have h4 := h.sb
  have h5 := h.npb
  have h6 := h.cur
  unfold St.ok
  omega

theorem frags_one (k ep : Nat) (s s' : St) (fb : List Nat) (n : Nat) (hl : fb.length = 12 + n) (hn : (hdOf fb).2.2.2.2 = n) (hf : s.frag ep fb = some s') : St.frags (k + 2) s ep fb false = some (s', againOf s fb) := by
  rw [St.frags, if_neg (by omega), if_pos ⟨by omega, by omega⟩, hf]
  simp only [Option.bind_some]
  rw [hn, List.drop_of_length_le (by omega), St.frags]
  rfl

theorem BInv.push {Bs : Nat → List Nat} {N ep : Nat} {C : Nat → Nat → Prop} {Hs : Nat → Prop} {np tot : Nat} {s : St} (h : BInv Bs N ep C Hs np tot s) (hN : N ≤ 60000) (hnp : np < 900) (bs : List Nat) (q o n : Nat) (data : List Nat) (hR : IsRec bs 11 (Bs q).length q o n ep data)
    (ht : tot + bs.length < 2000000) (hq : q < N) (hs : (Bs q).length < 16777216) (hn : o + n ≤ (Bs q).length) (hpos : 0 < n ∨ (Bs q).length = 0) (hd : data = ((Bs q).drop o).take n) :
    ∃ ag s', s.push bs = some (true, ag, s') ∧ s'.cur = s.cur ∧ BInv Bs N ep (fun q' k => C q' k ∨ (q' = q ∧ o ≤ k ∧ k < o + n)) (fun q' => Hs q' ∨ q' = q) (np + 1) (tot + n) s' := by
  have hok := h.ok hN (by omega) (by have := hR.len; omega)
  have hlen := hR.len
  have h1 := h.cnt
  have h2 := h.sz
  have h3 := h.cb
  have h4 := h.sb
  have h5 := h.npb
  have hpush : ∀ s', s.frag ep (bs.drop 13) = some s' → s.push bs = some (true, againOf s (bs.drop 13), s') := fun s' hf => by
    unfold St.push
    rw [if_pos ⟨by omega, hR.b1, hR.b2, by rw [hR.b0]; decide, by omega, by omega⟩, if_pos hR.b0, hR.ep]
    obtain ⟨k, hk⟩ : ∃ k, bs.length = k + 2 := ⟨bs.length - 2, by omega⟩
    rw [hk, frags_one k ep s s' (bs.drop 13) n (by rw [List.length_drop]; omega) (by rw [hR.hd]) hf]
    rfl
  by_cases hold : q < s.cur
  · refine ⟨_, s, hpush s (by unfold St.frag; rw [hR.hd, if_pos hold]), rfl, ?_⟩
    refine ⟨h.old, fun q' hq' hm => ?_, fun q' x hq' hm => ?_, h.far, h1, h2, by omega, by omega, by omega, h.cur⟩
    · obtain ⟨a, b⟩ := h.none_ q' hq' hm
      exact ⟨fun g => g.elim a (fun g => by omega), fun k g => g.elim (b k) (fun g => by omega)⟩
    · obtain ⟨a, b, c⟩ := h.some_ q' x hq' hm
      refine ⟨.inl a, ?_, c⟩
      have : (fun k => C q' k ∨ (q' = q ∧ o ≤ k ∧ k < o + n)) = C q' := funext fun k => propext ⟨fun g => g.elim id (fun g => by omega), .inl⟩
      rw [this]
      exact b
  · have hfr : s.frag ep (bs.drop 13) = match s.m q with
      | none => some (s.put q (((Msg.fresh 11 (Bs q).length).add ⟨o, n, data⟩).start (11, (Bs q).length, q, o, n) ep) 1 n 1)
      | some x => if x.t = 11 ∧ x.l = (Bs q).length ∧ okR x.l x.rs then some (s.put q ((x.add ⟨o, n, data⟩).start (11, (Bs q).length, q, o, n) ep) (dCnt x.rs ⟨o, n, data⟩) (dSz x.rs ⟨o, n, data⟩) 0) else none := by
      unfold St.frag
      rw [hR.hd]
      simp only
      rw [if_neg hold, if_pos ⟨hn, hok⟩, hR.data]
      cases s.m q <;> rfl
    have hother : ∀ q', q' ≠ q → (fun k => C q' k ∨ (q' = q ∧ o ≤ k ∧ k < o + n)) = C q' := fun q' hq' => funext fun k => propext ⟨fun g => g.elim id (fun g => absurd g.1 hq'), .inl⟩
    have hself : (fun k => C q k ∨ (q = q ∧ o ≤ k ∧ k < o + n)) = fun k => C q k ∨ (o ≤ k ∧ k < o + n) := funext fun k => by simp
    have fin : ∀ (y : Msg) (d1 d2 : Int) (m : Nat), MInv (Bs q) 11 ep q (fun k => C q k ∨ (o ≤ k ∧ k < o + n)) y → y.rs ≠ [] → (y.rs.length : Int) = lenOf (s.m q) + d1 → (sumL y.rs : Int) = szOf (s.m q) + d2 → d1 ≤ 1 → d2 ≤ n → m ≤ 1 →
        BInv Bs N ep (fun q' k => C q' k ∨ (q' = q ∧ o ≤ k ∧ k < o + n)) (fun q' => Hs q' ∨ q' = q) (np + 1) (tot + n) (s.put q y d1 d2 m) := by
      intro y d1 d2 m hy hne hl hz hd1 hd2 hm
      have u1 := totN_upd (fun q' => lenOf (s.m q')) q y.rs.length N hq
      have u2 := totN_upd (fun q' => szOf (s.m q')) q (sumL y.rs) N hq
      have e1 : totN (fun q' => lenOf ((s.put q y d1 d2 m).m q')) N = totN (fun k => if k = q then y.rs.length else lenOf (s.m k)) N := totN_eq _ _ N fun k _ => by
        show lenOf (if k = q then some y else s.m k) = _
        split <;> rfl
      have e2 : totN (fun q' => szOf ((s.put q y d1 d2 m).m q')) N = totN (fun k => if k = q then sumL y.rs else szOf (s.m k)) N := totN_eq _ _ N fun k _ => by
        show szOf (if k = q then some y else s.m k) = _
        split <;> rfl
      refine ⟨fun q' hq' => ?_, fun q' hq' hm' => ?_, fun q' x hq' hm' => ?_, fun q' hq' => ?_, ?_, ?_, ?_, ?_, ?_, h.cur⟩
      · show (if q' = q then some y else s.m q') = none
        have hq'' : q' < s.cur := hq'
        rw [if_neg (by omega)]
        exact h.old q' hq'
      · change (if q' = q then some y else s.m q') = none at hm'
        split at hm'
        · cases hm'
        · rename_i hne'
          obtain ⟨a, b⟩ := h.none_ q' hq' hm'
          exact ⟨fun g => g.elim a hne', fun k g => g.elim (b k) (fun g => hne' g.1)⟩
      · change (if q' = q then some y else s.m q') = some x at hm'
        split at hm'
        · rename_i he
          injection hm' with hm'
          subst hm'
          subst he
          exact ⟨.inr rfl, by rw [hself]; exact hy, hne⟩
        · rename_i hne'
          obtain ⟨a, b, c⟩ := h.some_ q' x hq' hm'
          exact ⟨.inl a, by rw [hother q' hne']; exact b, c⟩
      · show (if q' = q then some y else s.m q') = none
        rw [if_neg (by omega)]
        exact h.far q' hq'
      · show s.cnt + d1 = _
        rw [e1]
        omega
      · show s.sz + d2 = _
        rw [e2]
        omega
      · show s.cnt + d1 ≤ _
        omega
      · show s.sz + d2 ≤ _
        omega
      · show s.np + m ≤ _
        omega
    cases hm : s.m q with
    | none =>
      rw [hm] at hfr
      simp only at hfr
      obtain ⟨hC1, hC2⟩ := h.none_ q (by omega) hm
      obtain ⟨f1, f2, f3, f4, f5, f6⟩ := (MInv.fresh (Bs q) 11 ep q hs).frag o n n hn hpos data hd
      have hC : (fun k => False ∨ (o ≤ k ∧ k < o + n)) = fun k => C q k ∨ (o ≤ k ∧ k < o + n) := funext fun k => propext ⟨fun g => g.elim False.elim .inr, fun g => g.elim (fun g => absurd g (hC2 k)) .inr⟩
      rw [hC] at f1
      refine ⟨_, _, hpush _ hfr, rfl, ?_⟩
      have hdc : dCnt (Msg.fresh 11 (Bs q).length).rs (⟨o, n, data⟩ : Rg (List Nat)) = 1 := by simp [Msg.fresh, dCnt, hasR, coversAt, idxOf, tillOf]
      have hds : dSz (Msg.fresh 11 (Bs q).length).rs (⟨o, n, data⟩ : Rg (List Nat)) = n := by simp [Msg.fresh, dSz, hasR, coversAt, idxOf, tillOf, sumL]
      rw [hdc] at f2
      rw [hds] at f3
      refine fin _ 1 n 1 f1 f6 ?_ ?_ (Int.le_refl _) (Int.le_refl _) (Nat.le_refl _)
      · rw [hm, f2]; simp [lenOf, Msg.fresh]
      · rw [hm, f3]; simp [szOf, Msg.fresh, sumL]
    | some x =>
      rw [hm] at hfr
      simp only at hfr
      obtain ⟨a, b, c⟩ := h.some_ q x (by omega) hm
      have hl9 : x.rs.length ≤ 900 := by
        have := totN_le (fun q' => lenOf (s.m q')) N q hq
        simp only [hm, lenOf] at this
        have hc : (x.rs.length : Int) ≤ s.cnt := by rw [h1]; exact Int.ofNat_le.2 this
        omega
      rw [if_pos ⟨b.t, b.l, b.ok hl9⟩] at hfr
      obtain ⟨f1, f2, f3, f4, f5, f6⟩ := b.frag o n n hn hpos data hd
      refine ⟨_, _, hpush _ hfr, rfl, ?_⟩
      exact fin _ _ _ 0 f1 f6 (by rw [hm]; exact f2) (by rw [hm]; exact f3) f4 f5 (Nat.zero_le _)

theorem BInv.pop_no {Bs : Nat → List Nat} {N ep : Nat} {C : Nat → Nat → Prop} {Hs : Nat → Prop} {np tot : Nat} {s : St} (h : BInv Bs N ep C Hs np tot s) (hC : ¬ (Hs s.cur ∧ ∀ k, k < (Bs s.cur).length → C s.cur k)) : s.pop = some (none, s) := by
  unfold St.pop
  cases hm : s.m s.cur with
  | none => rfl
  | some x =>
    obtain ⟨a, b, c⟩ := h.some_ _ x (Nat.le_refl _) hm
    simp only
    obtain ⟨k, hk⟩ : ∃ k, ¬ (k < (Bs s.cur).length → C s.cur k) := Classical.not_forall.1 (fun g => hC ⟨a, g⟩)
    have hk1 : k < (Bs s.cur).length := by
      by_cases g : k < (Bs s.cur).length
      · exact g
      · exact absurd (fun g' => absurd g' g) hk
    rw [if_pos (b.lacks hk1 (fun g => hk fun _ => g))]

theorem BInv.pop_yes {Bs : Nat → List Nat} {N ep : Nat} {C : Nat → Nat → Prop} {Hs : Nat → Prop} {np tot : Nat} {s : St} (h : BInv Bs N ep C Hs np tot s) (hN : N ≤ 60000) (hnp : np ≤ 900) (ht : tot < 2000000) (hH : Hs s.cur) (hC : ∀ k, k < (Bs s.cur).length → C s.cur k) :
    s.cur < N ∧ ∃ s', s.pop = some (some (hdr12 11 (Bs s.cur).length s.cur 0 (Bs s.cur).length ++ Bs s.cur, ep), s') ∧ s'.cur = s.cur + 1 ∧ BInv Bs N ep C Hs np tot s' := by
  have hok := h.ok hN hnp ht
  have h1 := h.cnt
  have h2 := h.sz
  have h3 := h.cb
  have h4 := h.sb
  cases hm : s.m s.cur with
  | none => exact absurd hH (h.none_ _ (Nat.le_refl _) hm).1
  | some x =>
    obtain ⟨a, b, c⟩ := h.some_ _ x (Nat.le_refl _) hm
    have hcN : s.cur < N := by
      by_cases g : s.cur < N
      · exact g
      · rw [h.far _ (by omega)] at hm; cases hm
    have hl9 : x.rs.length ≤ 900 := by
      have := totN_le (fun q' => lenOf (s.m q')) N s.cur hcN
      simp only [hm, lenOf] at this
      have hc : (x.rs.length : Int) ≤ s.cnt := by rw [h1]; exact Int.ofNat_le.2 this
      omega
    obtain ⟨w1, w2, w3, w4, w5, w6⟩ := b.whole hC c
    refine ⟨hcN, { s with cur := s.cur + 1, sz := s.sz - sumL x.rs, cnt := s.cnt - x.rs.length, m := fun k => if k = s.cur then none else s.m k }, ?_, rfl, ?_⟩
    · unfold St.pop
      rw [hm]
      simp only
      rw [if_neg w1, if_pos ⟨b.ok hl9, hok, ⟨by rw [w3]; decide, by rw [w4]; exact b.small, by rw [w5]; omega⟩, by omega⟩, w2, w3, w4, w5, w6]
      rfl
    · have u1 := totN_upd (fun q' => lenOf (s.m q')) s.cur 0 N hcN
      have u2 := totN_upd (fun q' => szOf (s.m q')) s.cur 0 N hcN
      simp only [hm] at u1 u2
      have e1 : totN (fun q' => lenOf (if q' = s.cur then none else s.m q')) N = totN (fun k => if k = s.cur then 0 else lenOf (s.m k)) N := totN_eq _ _ N fun k _ => by
        split <;> rfl
      have e2 : totN (fun q' => szOf (if q' = s.cur then none else s.m q')) N = totN (fun k => if k = s.cur then 0 else szOf (s.m k)) N := totN_eq _ _ N fun k _ => by
        split <;> rfl
      simp only [lenOf] at u1
      simp only [szOf] at u2
      refine ⟨fun q' hq' => ?_, fun q' hq' hm' => ?_, fun q' y hq' hm' => ?_, fun q' hq' => ?_, ?_, ?_, ?_, ?_, h.npb, hcN⟩
      · show (if q' = s.cur then none else s.m q') = none
        split
        · rfl
        · have hq'' : q' < s.cur + 1 := hq'
          exact h.old q' (by omega)
      · have hq'' : s.cur + 1 ≤ q' := hq'
        change (if q' = s.cur then none else s.m q') = none at hm'
        rw [if_neg (by omega)] at hm'
        exact h.none_ q' (by omega) hm'
      · have hq'' : s.cur + 1 ≤ q' := hq'
        change (if q' = s.cur then none else s.m q') = some y at hm'
        rw [if_neg (by omega)] at hm'
        exact h.some_ q' y (by omega) hm'
      · show (if q' = s.cur then none else s.m q') = none
        split
        · rfl
        · exact h.far q' hq'
      · show s.cnt - x.rs.length = ((totN (fun q' => lenOf (if q' = s.cur then none else s.m q')) N : Nat) : Int)
        rw [e1]
        simp only [lenOf] at h1 ⊢
        omega
      · show s.sz - sumL x.rs = ((totN (fun q' => szOf (if q' = s.cur then none else s.m q')) N : Nat) : Int)
        rw [e2]
        simp only [szOf] at h2 ⊢
        omega
      · show s.cnt - x.rs.length ≤ _
        omega
      · show s.sz - sumL x.rs ≤ _
        omega
end Go.Proofs.YtjflijebcpcbmaaDoor.G

/- What is proved: what scripts of records of one fragment each, and of pops, tell, by the plain model. Conditions: fragments that agree with the messages' bytes, at most 900 of them. -/
namespace Go.Proofs.YtjflijebcpcbmaaDoor.G
set_option linter.unusedVariables false
set_option linter.unusedSimpArgs false

structure Pc where
  q : Nat
  o : Nat
  n : Nat
/-- A record that holds this piece of these messages. -/
structure GoodRec (Bs : Nat → List Nat) (N ep : Nat) (R : ByteArray) (p : Pc) : Prop where
  q : p.q < N
  rec_ : IsRec (baNat R) 11 (Bs p.q).length p.q p.o p.n ep (((Bs p.q).drop p.o).take p.n)
  small : (Bs p.q).length < 16777216
  le : p.o + p.n ≤ (Bs p.q).length
  pos : 0 < p.n ∨ (Bs p.q).length = 0
  size : R.size ≤ 1000
inductive GoodRecs (Bs : Nat → List Nat) (N ep : Nat) : List ByteArray → List Pc → Prop
  | nil : GoodRecs Bs N ep [] []
  | cons {R : ByteArray} {p : Pc} {rs : List ByteArray} {ps : List Pc} : GoodRec Bs N ep R p → GoodRecs Bs N ep rs ps → GoodRecs Bs N ep (R :: rs) (p :: ps)
def pushS (R : ByteArray) : S45 := ⟨true, R⟩
def popS : S45 := ⟨false, (⟨#[]⟩ : ByteArray)⟩
def CovP (C : Nat → Nat → Prop) (ps : List Pc) (q k : Nat) : Prop := C q k ∨ ∃ p ∈ ps, p.q = q ∧ p.o ≤ k ∧ k < p.o + p.n
def HasP (Hs : Nat → Prop) (ps : List Pc) (q : Nat) : Prop := Hs q ∨ ∃ p ∈ ps, p.q = q
def wholeOf (Bs : Nat → List Nat) (q : Nat) : ByteArray := natBa (hdr12 11 (Bs q).length q 0 (Bs q).length ++ Bs q)

theorem BInv.one {Bs : Nat → List Nat} {N ep : Nat} {C : Nat → Nat → Prop} {Hs : Nat → Prop} {np tot : Nat} {s : St} (h : BInv Bs N ep C Hs np tot s) (hN : N ≤ 60000) (hnp : np < 900) (ht : tot + 1000 < 2000000) {R : ByteArray} {p : Pc} (g : GoodRec Bs N ep R p) :
    ∃ t s', s.step (pushS R) = some (t, s') ∧ t.f0 = true ∧ t.f2 = false ∧ s'.cur = s.cur ∧ BInv Bs N ep (CovP C [p]) (HasP Hs [p]) (np + 1) (tot + 1000) s' := by
  have hl := baNat_length R
  have hs := g.size
  obtain ⟨ag, s', h1, h2, h3⟩ := h.push hN hnp (baNat R) p.q p.o p.n _ g.rec_ (by omega) g.q g.small g.le g.pos rfl
  refine ⟨⟨true, ag, false, false, (⟨#[]⟩ : ByteArray), 0, s'.sz⟩, s', ?_, rfl, rfl, h2, ?_⟩
  · unfold St.step pushS
    simp only
    rw [if_pos trivial, h1]
    rfl
  · have e1 : CovP C [p] = fun q' k => C q' k ∨ (q' = p.q ∧ p.o ≤ k ∧ k < p.o + p.n) := by
      funext q k
      refine propext ⟨fun g => g.elim .inl fun ⟨y, hy, e, a⟩ => ?_, fun g => g.elim .inl fun ⟨e, a⟩ => .inr ⟨p, by simp, e.symm, a⟩⟩
      simp at hy
      subst hy
      exact .inr ⟨e.symm, a⟩
    have e2 : HasP Hs [p] = fun q' => Hs q' ∨ q' = p.q := by
      funext q
      refine propext ⟨fun g => g.elim .inl fun ⟨y, hy, e⟩ => ?_, fun g => g.elim .inl fun e => .inr ⟨p, by simp, e.symm⟩⟩
      simp at hy
      subst hy
      exact .inr e.symm
    rw [e1, e2]
    have hn : p.n ≤ 1000 := by have := g.rec_.len; omega
    exact ⟨h3.old, h3.none_, h3.some_, h3.far, h3.cnt, h3.sz, h3.cb, by have := h3.sb; omega, h3.npb, h3.cur⟩

theorem cov_cons (C : Nat → Nat → Prop) (p : Pc) (ps : List Pc) : CovP (CovP C [p]) ps = CovP C (p :: ps) := by
  funext q k
  refine propext ⟨?_, ?_⟩
  · rintro ((g | ⟨y, hy, g⟩) | ⟨y, hy, g⟩)
    · exact .inl g
    · simp at hy; subst hy; exact .inr ⟨y, by simp, g⟩
    · exact .inr ⟨y, by simp [hy], g⟩
  · rintro (g | ⟨y, hy, g⟩)
    · exact .inl (.inl g)
    · rcases List.mem_cons.1 hy with rfl | hy
      · exact .inl (.inr ⟨y, by simp, g⟩)
      · exact .inr ⟨y, hy, g⟩
theorem has_cons (Hs : Nat → Prop) (p : Pc) (ps : List Pc) : HasP (HasP Hs [p]) ps = HasP Hs (p :: ps) := by
  funext q
  refine propext ⟨?_, ?_⟩
  · rintro ((g | ⟨y, hy, g⟩) | ⟨y, hy, g⟩)
    · exact .inl g
    · simp at hy; subst hy; exact .inr ⟨y, by simp, g⟩
    · exact .inr ⟨y, by simp [hy], g⟩
  · rintro (g | ⟨y, hy, g⟩)
    · exact .inl (.inl g)
    · rcases List.mem_cons.1 hy with rfl | hy
      · exact .inl (.inr ⟨y, by simp, g⟩)
      · exact .inr ⟨y, hy, g⟩

/-- Records, one behind the other. -/
theorem pushes_run {Bs : Nat → List Nat} {N ep : Nat} (hN : N ≤ 60000) : ∀ (rs : List ByteArray) (ps : List Pc) (C : Nat → Nat → Prop) (Hs : Nat → Prop) (np tot : Nat) (s : St), BInv Bs N ep C Hs np tot s → GoodRecs Bs N ep rs ps → np + rs.length ≤ 900 → tot + 1000 * rs.length ≤ 1900000 →
    ∃ ts s', (∀ tail rest, St.run s' tail = some rest → St.run s (rs.map pushS ++ tail) = some (ts ++ rest)) ∧ ts.length = rs.length ∧ (∀ tail rest acc, comeGo (rs.map pushS ++ tail) (ts ++ rest) acc = comeGo tail rest acc) ∧ s'.cur = s.cur ∧
      BInv Bs N ep (CovP C ps) (HasP Hs ps) (np + rs.length) (tot + 1000 * rs.length) s'
  | [], ps, C, Hs, np, tot, s, h, g, _, _ => by
    cases g
    have e1 : CovP C [] = C := by funext q k; exact propext ⟨fun g => g.elim id (fun ⟨y, hy, _⟩ => by simp at hy), .inl⟩
    have e2 : HasP Hs [] = Hs := by funext q; exact propext ⟨fun g => g.elim id (fun ⟨y, hy, _⟩ => by simp at hy), .inl⟩
    exact ⟨[], s, fun tail rest hr => hr, rfl, fun _ _ _ => rfl, rfl, by rw [e1, e2]; exact h⟩
  | R :: rs, ps, C, Hs, np, tot, s, h, g, hnp, ht => by
    cases g with
    | @cons _ p _ ps g gs =>
      simp only [List.length_cons] at hnp ht
      obtain ⟨t, s1, h1, h2, h3, h4, h5⟩ := h.one hN (by omega) (by omega) g
      obtain ⟨ts, s', r1, r2, r3, r4, r5⟩ := pushes_run hN rs ps _ _ _ _ s1 h5 gs (by omega) (by omega)
      refine ⟨t :: ts, s', fun tail rest hr => ?_, by simp [r2], fun tail rest acc => ?_, r4.trans h4, ?_⟩
      · rw [List.map_cons, List.cons_append, St.run, h1]
        simp only [Option.bind_some]
        rw [r1 tail rest hr]
        rfl
      · rw [List.map_cons, List.cons_append, List.cons_append, comeGo, h2, h3]
        simp only [pushS, Bool.not_true, Bool.or_self, Bool.and_false, Bool.false_and, Bool.false_eq_true, if_false]
        exact r3 tail rest acc
      · rw [cov_cons, has_cons] at r5
        rw [List.length_cons, show np + (rs.length + 1) = np + 1 + rs.length by omega, show tot + 1000 * (rs.length + 1) = tot + 1000 + 1000 * rs.length by omega]
        exact r5

/-- One pop. -/
theorem BInv.popOne {Bs : Nat → List Nat} {N ep : Nat} {C : Nat → Nat → Prop} {Hs : Nat → Prop} {np tot : Nat} {s : St} (h : BInv Bs N ep C Hs np tot s) (hN : N ≤ 60000) (hnp : np ≤ 900) (ht : tot < 2000000) :
    ∃ t s', s.step popS = some (t, s') ∧ t.f6 = s'.sz ∧ BInv Bs N ep C Hs np tot s' ∧
      ((Hs s.cur ∧ (∀ k, k < (Bs s.cur).length → C s.cur k) ∧ s.cur < N ∧ s'.cur = s.cur + 1 ∧ t.f3 = true ∧ t.f4 = wholeOf Bs s.cur ∧ t.f5 = (ep : Int)) ∨ (¬ (Hs s.cur ∧ ∀ k, k < (Bs s.cur).length → C s.cur k) ∧ s' = s ∧ t.f3 = false)) := by
  have hc : s.cur < 65536 := by have := h.cur; omega
  by_cases hC : Hs s.cur ∧ ∀ k, k < (Bs s.cur).length → C s.cur k
  · obtain ⟨h1, s', h2, h3, h4⟩ := h.pop_yes hN hnp ht hC.1 hC.2
    refine ⟨⟨false, false, false, true, wholeOf Bs s.cur, (ep : Int), s'.sz⟩, s', ?_, rfl, h4, .inl ⟨hC.1, hC.2, h1, h3, rfl, rfl, rfl⟩⟩
    unfold St.step popS
    simp only
    rw [if_neg (fun e => by cases e), if_pos hc, h2]
    rfl
  · have h2 := h.pop_no hC
    refine ⟨⟨false, false, false, false, (⟨#[]⟩ : ByteArray), 0, s.sz⟩, s, ?_, rfl, h, .inr ⟨hC, rfl, rfl⟩⟩
    unfold St.step popS
    simp only
    rw [if_neg (fun e => by cases e), if_pos hc, h2]
    rfl

/-- Pops, when all the messages are there. -/
theorem pops_run {Bs : Nat → List Nat} {N ep : Nat} (hN : N ≤ 60000) {C : Nat → Nat → Prop} {Hs : Nat → Prop} {np tot : Nat} (hnp : np ≤ 900) (ht : tot < 2000000) (hall : ∀ q, q < N → Hs q ∧ ∀ k, k < (Bs q).length → C q k) : ∀ (m : Nat) (s : St), BInv Bs N ep C Hs np tot s →
    ∃ ts s', St.run s (List.replicate m popS) = some ts ∧ ts.length = m ∧ BInv Bs N ep C Hs np tot s' ∧ s'.cur = min N (s.cur + m) ∧ (∀ acc, comeGo (List.replicate m popS) ts acc = (acc ++ (List.range' s.cur (min m (N - s.cur))).map (wholeOf Bs), true)) ∧
      (m ≤ N - s.cur → ∀ t ∈ ts, t.f5 = (ep : Int)) ∧ (∀ t, ts.getLast? = some t → t.f6 = s'.sz) ∧ (m = 0 → s' = s)
  | 0, s, h => ⟨[], s, rfl, rfl, h, by have := h.cur; omega, fun acc => by simp [comeGo], fun _ t ht => by simp at ht, fun t ht => by simp at ht, fun _ => rfl⟩
  | m + 1, s, h => by
    obtain ⟨t, s1, h1, h6, h2, h3⟩ := h.popOne hN hnp ht
    obtain ⟨ts, s', r1, r2, r3, r4, r5, r6, r7, r8⟩ := pops_run hN hnp ht hall m s1 h2
    have hcur := h.cur
    refine ⟨t :: ts, s', ?_, by simp [r2], r3, ?_, fun acc => ?_, ?_, ?_, fun h => by omega⟩
    · rw [List.replicate_succ, St.run, h1]
      simp only [Option.bind_some]
      rw [r1]
      rfl
    · rcases h3 with ⟨a1, a2, a3, a4, a5, a6, a7⟩ | ⟨a1, a2, a3⟩
      · rw [r4, a4]; omega
      · have : ¬ s.cur < N := fun g => a1 (hall _ g)
        rw [r4, a2]; omega
    · rw [List.replicate_succ, comeGo]
      rcases h3 with ⟨a1, a2, a3, a4, a5, a6, a7⟩ | ⟨a1, a2, a3⟩
      · rw [a5, a6]
        simp only [popS, Bool.false_and, Bool.false_eq_true, if_false, Bool.not_false, Bool.and_self, if_true]
        have r5' := r5 (acc ++ [wholeOf Bs s.cur])
        rw [a4] at r5'
        refine r5'.trans ?_
        rw [show min (m + 1) (N - s.cur) = min m (N - (s.cur + 1)) + 1 by omega, List.range'_succ]
        simp
      · have hge : ¬ s.cur < N := fun g => a1 (hall _ g)
        rw [a3]
        simp only [popS, Bool.false_and, Bool.false_eq_true, if_false, Bool.not_false, Bool.and_false]
        refine (r5 acc).trans ?_
        rw [a2, show min m (N - s.cur) = 0 by omega, show min (m + 1) (N - s.cur) = 0 by omega]
    · intro hm x hx
      rcases h3 with ⟨a1, a2, a3, a4, a5, a6, a7⟩ | ⟨a1, a2, a3⟩
      · rcases List.mem_cons.1 hx with rfl | hx
        · exact a7
        · exact r6 (by omega) x hx
      · exact absurd (hall _ (by omega)) a1
    · intro x hx
      cases hts : ts with
      | nil =>
        have hm0 : m = 0 := by rw [← r2, hts]; rfl
        subst hm0
        rw [hts] at hx
        simp at hx
        rw [← hx, h6, r8 rfl]
      | cons y l =>
        refine r7 x ?_
        rw [hts] at hx ⊢
        simpa [List.getLast?_cons_cons] using hx
end Go.Proofs.YtjflijebcpcbmaaDoor.G

/- What is proved: what the laws' own small functions answer: numbers as bytes, pieces, records, cuts, orders. Conditions: texts of few bytes. -/
namespace Go.Proofs.YtjflijebcpcbmaaDoor.G
open Go.RowKit Go.Proofs.YtjflijebcpcbmaaDoorW.PrintWords Go.Proofs.YtjflijebcpcbmaaDoorW.PrintLast Go.Proofs.YtjflijebcpcbmaaDoorW.PrintMore
set_option linter.unusedVariables false
set_option linter.unusedSimpArgs false

/-- With rounds enough the answer is r. -/
def Evt {α : Type} (f : Nat → Option α) (r : α) : Prop := ∃ K, ∀ k, K ≤ k → f k = some r
theorem Evt.bind {α β : Type} {f : Nat → Option α} {g : Nat → α → Option β} {a : α} {r : β} (h : Evt f a) (h' : Evt (fun k => g k a) r) : Evt (fun k => (f k).bind (g k)) r := by
  obtain ⟨K, hK⟩ := h
  obtain ⟨L, hL⟩ := h'
  exact ⟨max K L, fun k hk => by show (f k).bind (g k) = some r; rw [hK k (by omega)]; exact hL k (by omega)⟩
theorem Evt.const {α : Type} (r : α) : Evt (fun _ => some r) r := ⟨0, fun _ _ => rfl⟩
theorem Evt.of {α : Type} {f : Nat → Option α} {r : α} (h : ∀ k, f k = some r) : Evt f r := ⟨0, fun k _ => h k⟩
theorem Evt.step {α : Type} {F f : Nat → Option α} {r : α} (h : Evt f r) (hs : ∀ k, F (k + 1) = f k) : Evt F r := by
  obtain ⟨K, hK⟩ := h
  exact ⟨K + 1, fun k hk => by
    obtain ⟨j, rfl⟩ : ∃ j, k = j + 1 := ⟨k - 1, by omega⟩
    rw [hs]
    exact hK j (by omega)⟩
theorem Evt.congr {α : Type} {F f : Nat → Option α} {r : α} (h : Evt f r) (hs : ∀ k, F k = f k) : Evt F r := by
  obtain ⟨K, hK⟩ := h
  exact ⟨K, fun k hk => by rw [hs]; exact hK k hk⟩

theorem nums_eq (l : List Nat) : strOfNums (l.map fun x : Nat => (x : Int)) = natBa l := by
  unfold strOfNums natBa
  rw [List.map_map]
  congr 2
theorem baNat_append (a b : ByteArray) : baNat (a ++ b) = baNat a ++ baNat b := by
  unfold baNat
  rw [ByteArray.data_append]
  simp
theorem baNat_natBa (l : List Nat) (h : ∀ x ∈ l, x < 256) : baNat (natBa l) = l := by
  unfold baNat natBa
  simp only [List.map_map]
  rw [List.map_congr_left (g := id)]
  · simp
  · intro x hx
    have := h x hx
    simp [UInt8.toNat_ofNat', Nat.mod_eq_of_lt this]
theorem natBa_size (l : List Nat) : (natBa l).size = l.length := by unfold natBa; show (l.map UInt8.ofNat).toArray.size = _; simp
theorem baNat_extract (s : ByteArray) (a b : Nat) (hb : b ≤ s.size) : baNat (s.extract a b) = ((baNat s).drop a).take (b - a) := by
  unfold baNat
  rw [ByteArray.data_extract]
  simp [List.map_drop, List.map_take, List.take_drop]
theorem ba_ext {a b : ByteArray} (h : baNat a = baNat b) : a = b := by
  unfold baNat at h
  have : a.data.toList = b.data.toList := by
    have hi : Function.Injective UInt8.toNat := fun x y hxy => UInt8.toNat_inj.1 hxy
    exact List.map_inj_right (fun x y => hi (a₁ := x) (a₂ := y)) |>.1 h
  cases a; cases b
  simp at this
  rw [this]

def be2 (x : Nat) : List Nat := [x / 256 % 256, x % 256]
def be3 (x : Nat) : List Nat := [x / 65536 % 256, x / 256 % 256, x % 256]
def be6 (x : Nat) : List Nat := [x / 1099511627776 % 256, x / 4294967296 % 256, x / 16777216 % 256, x / 65536 % 256, x / 256 % 256, x % 256]
theorem big2 (x : Nat) : Evt (fun k => laws_big.f k (x : Int) 2) (natBa (be2 x)) := by
  refine ⟨4, fun k hk => ?_⟩
  obtain ⟨j, rfl⟩ : ∃ j, k = j + 4 := ⟨k - 4, by omega⟩
  have : laws_big.f (j + 4) (x : Int) 2 = some (strOfNums [(shr .u64 (x : Int) 8) % 256, (shr .u64 (x : Int) 0) % 256]) := by
    simp [laws_big.f, laws_big.l0, wrap64, List.replicate]
  show laws_big.f (j + 4) (x : Int) 2 = _
  rw [this, ← nums_eq]
  have e : [(shr .u64 (x : Int) 8) % 256, (shr .u64 (x : Int) 0) % 256] = (be2 x).map fun x : Nat => (x : Int) := by
    simp only [be2, List.map_cons, List.map_nil, shr, IntKind.bits, List.cons.injEq, and_true]
    refine ⟨?_, ?_⟩ <;> (simp only [Int.toNat, Nat.min_def]; simp) <;> omega
  rw [e]
theorem big3 (x : Nat) : Evt (fun k => laws_big.f k (x : Int) 3) (natBa (be3 x)) := by
  refine ⟨5, fun k hk => ?_⟩
  obtain ⟨j, rfl⟩ : ∃ j, k = j + 5 := ⟨k - 5, by omega⟩
  have : laws_big.f (j + 5) (x : Int) 3 = some (strOfNums [(shr .u64 (x : Int) 16) % 256, (shr .u64 (x : Int) 8) % 256, (shr .u64 (x : Int) 0) % 256]) := by
    simp [laws_big.f, laws_big.l0, wrap64, List.replicate]
  show laws_big.f (j + 5) (x : Int) 3 = _
  rw [this, ← nums_eq]
  have e : [(shr .u64 (x : Int) 16) % 256, (shr .u64 (x : Int) 8) % 256, (shr .u64 (x : Int) 0) % 256] = (be3 x).map fun x : Nat => (x : Int) := by
    simp only [be3, List.map_cons, List.map_nil, shr, IntKind.bits, List.cons.injEq, and_true]
    refine ⟨?_, ?_, ?_⟩ <;> (simp only [Int.toNat, Nat.min_def]; simp) <;> omega
  rw [e]
theorem big6 (x : Nat) : Evt (fun k => laws_big.f k (x : Int) 6) (natBa (be6 x)) := by
  refine ⟨8, fun k hk => ?_⟩
  obtain ⟨j, rfl⟩ : ∃ j, k = j + 8 := ⟨k - 8, by omega⟩
  have : laws_big.f (j + 8) (x : Int) 6 = some (strOfNums [(shr .u64 (x : Int) 40) % 256, (shr .u64 (x : Int) 32) % 256, (shr .u64 (x : Int) 24) % 256, (shr .u64 (x : Int) 16) % 256, (shr .u64 (x : Int) 8) % 256, (shr .u64 (x : Int) 0) % 256]) := by
    simp [laws_big.f, laws_big.l0, wrap64, List.replicate]
  show laws_big.f (j + 8) (x : Int) 6 = _
  rw [this, ← nums_eq]
  have e : [(shr .u64 (x : Int) 40) % 256, (shr .u64 (x : Int) 32) % 256, (shr .u64 (x : Int) 24) % 256, (shr .u64 (x : Int) 16) % 256, (shr .u64 (x : Int) 8) % 256, (shr .u64 (x : Int) 0) % 256] = (be6 x).map fun x : Nat => (x : Int) := by
    simp only [be6, List.map_cons, List.map_nil, shr, IntKind.bits, List.cons.injEq, and_true]
    refine ⟨?_, ?_, ?_, ?_, ?_, ?_⟩ <;> (simp only [Int.toNat, Nat.min_def]; simp) <;> omega
  rw [e]

theorem wrapu (x : Nat) (h : x < 18446744073709551616) : IntKind.u64.wrap (x : Int) = (x : Int) := by rw [IntKind.wrap_u64]; omega
theorem wrapi (x : Int) (h : -9223372036854775808 ≤ x) (h' : x < 9223372036854775808) : wrap64 x = x := by unfold wrap64; omega
/-- A piece of a body: its header, its bytes. -/
def pieceBa (b : ByteArray) (q o m : Nat) : ByteArray := (((((natBa [11]) ++ natBa (be3 b.size)) ++ natBa (be2 q)) ++ natBa (be3 o)) ++ natBa (be3 m)) ++ b.extract o (o + m)
theorem pieceBa_size (b : ByteArray) (q o m : Nat) (h : o + m ≤ b.size) : (pieceBa b q o m).size = 12 + m := by
  unfold pieceBa
  simp only [ByteArray.size_append, natBa_size, be3, be2, ByteArray.size_extract, List.length_cons, List.length_nil]
  omega
theorem piece_nums (s o n : Nat) (hb : s < 16777216) (ho : o ≤ s) (hn : n < 1000000) : wrap64 ((s : Int) - (o : Int)) = (s : Int) - (o : Int) ∧ mn (n : Int) ((s : Int) - (o : Int)) = ((min n (s - o) : Nat) : Int) ∧ wrap64 ((o : Int) + ((min n (s - o) : Nat) : Int)) = ((o + min n (s - o) : Nat) : Int) := by
  refine ⟨wrapi _ (by omega) (by omega), ?_, ?_⟩
  · unfold mn; split <;> omega
  · rw [wrapi _ (by omega) (by omega)]; omega
theorem piece_evt (b : ByteArray) (q o n : Nat) (hb : b.size < 16777216) (hq : q < 65536) (ho : o ≤ b.size) (hn : n < 1000000) :
    Evt (fun k => laws_piece.f k 11 (q : Int) b (o : Int) (n : Int)) (pieceBa b q o (min n (b.size - o))) := by
  obtain ⟨m, hm⟩ : ∃ m, m = min n (b.size - o) := ⟨_, rfl⟩
  have hmb : o + m ≤ b.size := by omega
  obtain ⟨K1, h1⟩ := big3 b.size
  obtain ⟨K2, h2⟩ := big2 q
  obtain ⟨K3, h3⟩ := big3 o
  obtain ⟨K4, h4⟩ := big3 m
  have u1 := wrapu b.size (by omega)
  have u2 := wrapu q (by omega)
  have u3 := wrapu o (by omega)
  have u4 := wrapu m (by omega)
  have L1 : (natBa [11]).size = 1 := natBa_size _
  have L2 : ∀ x, (natBa (be3 x)).size = 3 := fun x => natBa_size _
  have L3 : ∀ x, (natBa (be2 x)).size = 2 := fun x => natBa_size _
  have L4 : (b.extract o (o + m)).size = m := by rw [ByteArray.size_extract]; omega
  have g1 : 1 + 3 ≤ 9223372036854775807 := by decide
  have g2 : 1 + 3 + 2 ≤ 9223372036854775807 := by decide
  have g3 : 1 + 3 + 2 + 3 ≤ 9223372036854775807 := by decide
  have g4 : 1 + 3 + 2 + 3 + 3 ≤ 9223372036854775807 := by decide
  have g5 : (0 : Int) ≤ (o : Int) := by omega
  have g6 : (o : Int) ≤ ((o + m : Nat) : Int) := by omega
  have g7 : ((o + m : Nat) : Int) ≤ (b.size : Int) := by omega
  have g8 : 1 + 3 + 2 + 3 + 3 + m ≤ 9223372036854775807 := by omega
  rw [← hm]
  refine ⟨K1 + K2 + K3 + K4, fun k hk => ?_⟩
  have h1 := h1 k (by omega)
  have h2 := h2 k (by omega)
  have h3 := h3 k (by omega)
  have h4 := h4 k (by omega)
  simp only at h1 h2 h3 h4
  obtain ⟨e1, e2, e3⟩ := piece_nums b.size o n hb ho hn
  rw [← hm] at e2 e3
  show laws_piece.f k 11 (q : Int) b (o : Int) (n : Int) = _
  unfold laws_piece.f
  generalize laws_big.f k = F at h1 h2 h3 h4 ⊢
  rw [e1, e2, e3, u1, u2, u3, u4, h1, h2, h3, h4]
  clear e1 e2 e3 u1 u2 u3 u4 h1 h2 h3 h4
  simp only [Option.bind_some, Int.toNat_natCast]
  have s1 : (strOfNums [11]) = natBa [11] := rfl
  rw [s1]
  simp only [ByteArray.size_append, L1, L2, L3, L4]
  rw [if_pos g1, if_pos g2, if_pos g3, if_pos g4, if_pos g5, if_pos g6, if_pos g7, if_pos g8]
  rfl

/-- A record that holds one text. -/
def recBa (i : Nat) (x : ByteArray) : ByteArray := (((⟨#[22, 254, 253, 0, 0]⟩ : ByteArray) ++ natBa (be6 i)) ++ natBa (be2 x.size)) ++ x
theorem record_evt (i : Nat) (x : ByteArray) (hi : i < 1000000) (hx : x.size < 1000000) : Evt (fun k => laws_record.f k (i : Int) x) (recBa i x) := by
  obtain ⟨K1, h1⟩ := big6 i
  obtain ⟨K2, h2⟩ := big2 x.size
  refine ⟨K1 + K2, fun k hk => ?_⟩
  have h1 := h1 k (by omega)
  have h2 := h2 k (by omega)
  simp only at h1 h2
  show laws_record.f k (i : Int) x = _
  unfold laws_record.f
  rw [wrapu i (by omega), wrapu x.size (by omega), h1, h2]
  simp only [Option.bind_some]
  have L2 : ∀ x, (natBa (be6 x)).size = 6 := fun x => natBa_size _
  have L3 : ∀ x, (natBa (be2 x)).size = 2 := fun x => natBa_size _
  have L5 : (⟨#[22, 254, 253, 0, 0]⟩ : ByteArray).size = 5 := rfl
  rw [if_pos (by rw [L2]; decide), if_pos (by simp only [ByteArray.size_append, L2, L3, L5]; decide), if_pos (by simp only [ByteArray.size_append, L2, L3, L5]; omega)]
  rfl
def laterBa (ep i : Nat) (x : ByteArray) : ByteArray := ((((⟨#[22, 254, 253]⟩ : ByteArray) ++ natBa (be2 ep)) ++ natBa (be6 i)) ++ natBa (be2 x.size)) ++ x
theorem later_evt (ep i : Nat) (x : ByteArray) (he : ep < 65536) (hi : i < 1000000) (hx : x.size < 1000000) : Evt (fun k => laws_later.f k (ep : Int) (i : Int) x) (laterBa ep i x) := by
  obtain ⟨K0, h0⟩ := big2 ep
  obtain ⟨K1, h1⟩ := big6 i
  obtain ⟨K2, h2⟩ := big2 x.size
  refine ⟨K0 + K1 + K2, fun k hk => ?_⟩
  have h0 := h0 k (by omega)
  have h1 := h1 k (by omega)
  have h2 := h2 k (by omega)
  simp only at h0 h1 h2
  show laws_later.f k (ep : Int) (i : Int) x = _
  unfold laws_later.f
  rw [wrapu ep (by omega), wrapu i (by omega), wrapu x.size (by omega), h0, h1, h2]
  simp only [Option.bind_some]
  have L2 : ∀ x, (natBa (be6 x)).size = 6 := fun x => natBa_size _
  have L3 : ∀ x, (natBa (be2 x)).size = 2 := fun x => natBa_size _
  have L5 : (⟨#[22, 254, 253]⟩ : ByteArray).size = 3 := rfl
  rw [if_pos (by rw [L3]; decide), if_pos (by simp only [ByteArray.size_append, L2, L3, L5]; decide), if_pos (by simp only [ByteArray.size_append, L2, L3, L5]; decide), if_pos (by simp only [ByteArray.size_append, L2, L3, L5]; omega)]
  rfl

theorem be_lt2 (x : Nat) : ∀ y ∈ be2 x, y < 256 := fun y hy => by simp [be2] at hy; omega
theorem be_lt3 (x : Nat) : ∀ y ∈ be3 x, y < 256 := fun y hy => by simp [be3] at hy; omega
theorem be_lt6 (x : Nat) : ∀ y ∈ be6 x, y < 256 := fun y hy => by simp [be6] at hy; omega
theorem later_nat (ep i : Nat) (x : ByteArray) : baNat (laterBa ep i x) = [22, 254, 253] ++ be2 ep ++ be6 i ++ be2 x.size ++ baNat x := by
  unfold laterBa
  rw [baNat_append, baNat_append, baNat_append, baNat_append, baNat_natBa _ (be_lt2 _), baNat_natBa _ (be_lt6 _), baNat_natBa _ (be_lt2 _)]
  rfl
theorem rec_later (i : Nat) (x : ByteArray) : recBa i x = laterBa 0 i x := by
  apply ba_ext
  rw [later_nat]
  unfold recBa
  rw [baNat_append, baNat_append, baNat_append, baNat_natBa _ (be_lt6 _), baNat_natBa _ (be_lt2 _)]
  rfl
theorem piece_nat (b : ByteArray) (q o m : Nat) (h : o + m ≤ b.size) : baNat (pieceBa b q o m) = [11] ++ be3 b.size ++ be2 q ++ be3 o ++ be3 m ++ ((baNat b).drop o).take m := by
  unfold pieceBa
  rw [baNat_append, baNat_append, baNat_append, baNat_append, baNat_append, baNat_natBa _ (be_lt3 _), baNat_natBa _ (be_lt2 _), baNat_natBa _ (be_lt3 _), baNat_natBa _ (be_lt3 _), baNat_natBa _ (by decide), baNat_extract _ _ _ h, show o + m - o = m by omega]

/-- A record of a piece is one of the records of which the plain law speaks. -/
theorem good_later (Bs : Nat → List Nat) (N ep i q o m : Nat) (b : ByteArray) (hB : Bs q = baNat b) (hb : b.size < 16777216) (hq : q < N) (hN : N ≤ 60000) (he : ep < 65536) (hm : o + m ≤ b.size) (hpos : 0 < m ∨ b.size = 0) (hs : b.size ≤ 900) :
    GoodRec Bs N ep (laterBa ep i (pieceBa b q o m)) ⟨q, o, m⟩ := by
  have hlB : (Bs q).length = b.size := by rw [hB]; simp [baNat]
  have hp := piece_nat b q o m hm
  have hl := later_nat ep i (pieceBa b q o m)
  have hz := pieceBa_size b q o m hm
  rw [hz, hp] at hl
  have hlen : (((baNat b).drop o).take m).length = m := by rw [List.length_take, List.length_drop, show (baNat b).length = b.size by simp [baNat]]; omega
  refine ⟨hq, ?_, by simp only; omega, by simp only; omega, by simp only; omega, ?_⟩
  · simp only
    rw [hlB, hB]
    refine ⟨?_, ?_, ?_, ?_, ?_, ?_, ?_⟩
    · rw [hl]
      simp only [be2, be3, be6, List.length_append, List.length_cons, List.length_nil, hlen]
      omega
    · rw [hl]; rfl
    · rw [hl]; rfl
    · rw [hl]; rfl
    · rw [hl]
      show ep / 256 % 256 * 256 + ep % 256 = ep
      omega
    · rw [hl]
      show (11, b.size / 65536 % 256 * 65536 + b.size / 256 % 256 * 256 + b.size % 256, q / 256 % 256 * 256 + q % 256, o / 65536 % 256 * 65536 + o / 256 % 256 * 256 + o % 256, m / 65536 % 256 * 65536 + m / 256 % 256 * 256 + m % 256) = (11, b.size, q, o, m)
      rw [show b.size / 65536 % 256 * 65536 + b.size / 256 % 256 * 256 + b.size % 256 = b.size by omega, show q / 256 % 256 * 256 + q % 256 = q by omega, show o / 65536 % 256 * 65536 + o / 256 % 256 * 256 + o % 256 = o by omega, show m / 65536 % 256 * 65536 + m / 256 % 256 * 256 + m % 256 = m by omega]
    · rw [hl]
      show (((baNat b).drop o).take m).take m = _
      rw [List.take_take, Nat.min_self]
  · unfold laterBa
    simp only [ByteArray.size_append, natBa_size, be2, be6, hz, List.length_cons, List.length_nil]
    have : (⟨#[22, 254, 253]⟩ : ByteArray).size = 3 := rfl
    omega
theorem whole_eq (Bs : Nat → List Nat) (q : Nat) (b : ByteArray) (hB : Bs q = baNat b) (hb : b.size < 16777216) (hq : q < 65536) : pieceBa b q 0 b.size = wholeOf Bs q := by
  apply ba_ext
  have hlB : (Bs q).length = b.size := by rw [hB]; simp [baNat]
  rw [piece_nat b q 0 b.size (by omega)]
  unfold wholeOf
  rw [hlB, hB, baNat_natBa]
  · rw [List.drop_zero, List.take_of_length_le (by simp [baNat])]
    have : hdr12 11 b.size q 0 b.size = [11] ++ be3 b.size ++ be2 q ++ be3 0 ++ be3 b.size := by
      show [11, b.size / 65536, b.size / 256 % 256, b.size % 256, q / 256, q % 256, 0 / 65536, 0 / 256 % 256, 0 % 256, b.size / 65536, b.size / 256 % 256, b.size % 256] = _
      simp only [be3, be2, List.cons_append, List.nil_append]
      rw [show b.size / 65536 % 256 = b.size / 65536 by omega, show q / 256 % 256 = q / 256 by omega]
    rw [this]
  · intro x hx
    rcases List.mem_append.1 hx with hx | hx
    · have : hdr12 11 b.size q 0 b.size = [11, b.size / 65536, b.size / 256 % 256, b.size % 256, q / 256, q % 256, 0 / 65536, 0 / 256 % 256, 0 % 256, b.size / 65536, b.size / 256 % 256, b.size % 256] := rfl
      rw [this] at hx
      simp at hx
      omega
    · exact baNat_lt b x hx
theorem whole_evt (b : ByteArray) (q : Nat) (hb : b.size < 1000000) (hq : q < 65536) : Evt (fun k => laws_whole.f k 11 (q : Int) b) (pieceBa b q 0 b.size) := by
  obtain ⟨K, h⟩ := piece_evt b q 0 b.size (by omega) hq (Nat.zero_le _) hb
  rw [Nat.sub_zero, Nat.min_self] at h
  refine ⟨K, fun k hk => ?_⟩
  have h := h k hk
  simp only at h
  show laws_whole.f k 11 (q : Int) b = _
  unfold laws_whole.f
  rw [show (0 : Int) = ((0 : Nat) : Int) from rfl, h]
  rfl
end Go.Proofs.YtjflijebcpcbmaaDoor.G

/- What is proved: cuts of bodies, and orders of lists, as the laws make them. Conditions: bodies of few bytes. -/
namespace Go.Proofs.YtjflijebcpcbmaaDoor.G
open Go.RowKit Go.Proofs.YtjflijebcpcbmaaDoorW.PrintWords Go.Proofs.YtjflijebcpcbmaaDoorW.PrintLast Go.Proofs.YtjflijebcpcbmaaDoorW.PrintMore
set_option linter.unusedVariables false
set_option linter.unusedSimpArgs false

/-- A list of texts that are pieces of bodies: each text is its piece. -/
def IsPiece (b : ByteArray) (q : Nat) (x : ByteArray) (p : Pc) : Prop := p.q = q ∧ p.o + p.n ≤ b.size ∧ (0 < p.n ∨ b.size = 0) ∧ x = pieceBa b q p.o p.n
inductive Pieces (P : ByteArray → Pc → Prop) : List ByteArray → List Pc → Prop
  | nil : Pieces P [] []
  | cons {x : ByteArray} {p : Pc} {xs : List ByteArray} {ps : List Pc} : P x p → Pieces P xs ps → Pieces P (x :: xs) (p :: ps)
theorem Pieces.append {P : ByteArray → Pc → Prop} {a b : List ByteArray} {c d : List Pc} (h : Pieces P a c) (h' : Pieces P b d) : Pieces P (a ++ b) (c ++ d) := by
  induction h with
  | nil => exact h'
  | cons h1 _ ih => exact .cons h1 ih
theorem Pieces.imp {P Q : ByteArray → Pc → Prop} {a : List ByteArray} {c : List Pc} (h : Pieces P a c) (hi : ∀ x p, P x p → Q x p) : Pieces Q a c := by
  induction h with
  | nil => exact .nil
  | cons h1 _ ih => exact .cons (hi _ _ h1) ih
theorem Pieces.length {P : ByteArray → Pc → Prop} {a : List ByteArray} {c : List Pc} (h : Pieces P a c) : a.length = c.length := by
  induction h with
  | nil => rfl
  | cons _ _ ih => simp [ih]
/-- Another order of the texts is another order of their pieces. -/
theorem Pieces.perm {P : ByteArray → Pc → Prop} {a a' : List ByteArray} (hp : a.Perm a') : ∀ {c : List Pc}, Pieces P a c → ∃ c', c.Perm c' ∧ Pieces P a' c' := by
  induction hp with
  | nil => intro c h; exact ⟨c, List.Perm.refl _, h⟩
  | cons x _ ih =>
    intro c h
    cases h with
    | cons h1 h2 =>
      obtain ⟨c', e, h3⟩ := ih h2
      exact ⟨_ :: c', e.cons _, .cons h1 h3⟩
  | swap x y l =>
    intro c h
    cases h with
    | cons h1 h2 =>
      cases h2 with
      | cons h3 h4 => exact ⟨_, List.Perm.swap _ _ _, .cons h3 (.cons h1 h4)⟩
  | trans _ _ ih1 ih2 =>
    intro c h
    obtain ⟨c1, e1, h1⟩ := ih1 h
    obtain ⟨c2, e2, h2⟩ := ih2 h1
    exact ⟨c2, e1.trans e2, h2⟩

/-- The pieces of a cut from o on. -/
theorem cut_go (b : ByteArray) (q n : Nat) (hb : b.size < 1000000) (hq : q < 65536) (hn : 0 < n) (hn' : n < 1000000) : ∀ (d o : Nat) (acc : List ByteArray), o + d * n ≥ b.size → (0 < b.size → o ≤ b.size + n) → (o = 0 → 0 < d) → acc.length + d < 8000000 → (b.size = 0 → o ≤ n) →
    ∃ (xs : List ByteArray) (ps : List Pc), Evt (fun k => laws_cutting.l0 k 11 (q : Int) b (n : Int) acc (o : Int)) (acc ++ xs) ∧ Pieces (IsPiece b q) xs ps ∧ xs.length ≤ d ∧ (∀ k, o ≤ k → k < b.size → ∃ p ∈ ps, p.o ≤ k ∧ k < p.o + p.n) ∧ (o = 0 → ps ≠ [])
  | 0, o, acc, h1, h2, h3, h4, h5 => by
    refine ⟨[], [], ?_, .nil, Nat.le_refl _, fun k k1 k2 => by omega, fun h => by omega⟩
    have ho : o ≠ 0 := fun h => by have := h3 h; omega
    refine ⟨1, fun k hk => ?_⟩
    obtain ⟨j, rfl⟩ : ∃ j, k = j + 1 := ⟨k - 1, by omega⟩
    show laws_cutting.l0 (j + 1) 11 (q : Int) b (n : Int) acc (o : Int) = _
    rw [laws_cutting.l0, if_neg (by omega), if_neg (by omega), List.append_nil]
  | d + 1, o, acc, h1, h2, h3, h4, h5 => by
    by_cases hlt : o < b.size
    · have hp := piece_evt b q o n (by omega) hq (by omega) hn'
      obtain ⟨xs, ps, e1, e2, e3, e4, e5⟩ := cut_go b q n hb hq hn hn' d (o + n) (acc ++ [pieceBa b q o (min n (b.size - o))]) (by rw [Nat.add_mul, Nat.one_mul] at h1; omega) (by omega) (by omega) (by rw [List.length_append]; simp; omega) (by omega)
      refine ⟨pieceBa b q o (min n (b.size - o)) :: xs, ⟨q, o, min n (b.size - o)⟩ :: ps, ?_, .cons ⟨rfl, by simp only; omega, by simp only; omega, rfl⟩ e2, by simp; omega, fun k k1 k2 => ?_, fun _ => by simp⟩
      · obtain ⟨K1, f1⟩ := hp
        obtain ⟨K2, f2⟩ := e1
        refine ⟨K1 + K2 + 1, fun k hk => ?_⟩
        obtain ⟨j, rfl⟩ : ∃ j, k = j + 1 := ⟨k - 1, by omega⟩
        have f1 := f1 j (by omega)
        have f2 := f2 j (by omega)
        simp only at f1 f2
        have hw : wrap64 ((o : Int) + (n : Int)) = ((o + n : Nat) : Int) := by rw [wrapi _ (by omega) (by omega)]; omega
        show laws_cutting.l0 (j + 1) 11 (q : Int) b (n : Int) acc (o : Int) = _
        rw [laws_cutting.l0, if_pos (by omega), f1]
        simp only [Option.bind_some]
        rw [if_pos (by omega), hw, f2]
        simp
      · by_cases hk : k < o + n
        · exact ⟨⟨q, o, min n (b.size - o)⟩, by simp, by simp only; omega, by simp only; omega⟩
        · obtain ⟨p, p1, p2⟩ := e4 k (by omega) k2
          exact ⟨p, by simp [p1], p2⟩
    · by_cases h0 : o = 0
      · have hb0 : b.size = 0 := by omega
        have hp := piece_evt b q o n (by omega) hq (by omega) hn'
        refine ⟨[pieceBa b q o (min n (b.size - o))], [⟨q, o, min n (b.size - o)⟩], ?_, .cons ⟨rfl, by simp only; omega, by simp only; omega, rfl⟩ .nil, by simp, fun k k1 k2 => by omega, fun _ => by simp⟩
        obtain ⟨K1, f1⟩ := hp
        refine ⟨K1 + 2, fun k hk => ?_⟩
        obtain ⟨j, rfl⟩ : ∃ j, k = j + 2 := ⟨k - 2, by omega⟩
        have f1 := f1 (j + 1) (by omega)
        simp only at f1
        have hw : wrap64 ((o : Int) + (n : Int)) = ((o + n : Nat) : Int) := by rw [wrapi _ (by omega) (by omega)]; omega
        show laws_cutting.l0 (j + 1 + 1) 11 (q : Int) b (n : Int) acc (o : Int) = _
        rw [laws_cutting.l0, if_neg (by omega), if_pos (by omega), f1]
        simp only [Option.bind_some]
        rw [if_pos (by omega), hw, laws_cutting.l0, if_neg (by omega), if_neg (by omega)]
      · refine ⟨[], [], ?_, .nil, Nat.zero_le _, fun k k1 k2 => by omega, fun h => absurd h h0⟩
        refine ⟨1, fun k hk => ?_⟩
        obtain ⟨j, rfl⟩ : ∃ j, k = j + 1 := ⟨k - 1, by omega⟩
        show laws_cutting.l0 (j + 1) 11 (q : Int) b (n : Int) acc (o : Int) = _
        rw [laws_cutting.l0, if_neg (by omega), if_neg (by omega), List.append_nil]

/-- A cut of a body: at most 100 pieces where the bodies are light. -/
theorem cut_evt (b : ByteArray) (q n d : Nat) (hb : b.size < 1000000) (hq : q < 65536) (hn : 0 < n) (hn' : n < 1000000) (hd : b.size ≤ d * n) (hd0 : 0 < d) (hd1 : d < 1000000) :
    ∃ (xs : List ByteArray) (ps : List Pc), Evt (fun k => laws_cutting.f k 11 (q : Int) b (n : Int)) xs ∧ Pieces (IsPiece b q) xs ps ∧ xs.length ≤ d ∧ (∀ k, k < b.size → ∃ p ∈ ps, p.o ≤ k ∧ k < p.o + p.n) ∧ ps ≠ [] := by
  obtain ⟨xs, ps, e1, e2, e3, e4, e5⟩ := cut_go b q n hb hq hn hn' d 0 [] (by omega) (by omega) (fun _ => hd0) (by simp; omega) (by omega)
  exact ⟨xs, ps, e1, e2, e3, fun k hk => e4 k (Nat.zero_le _) hk, e5 rfl⟩
end Go.Proofs.YtjflijebcpcbmaaDoor.G

/- What is proved: orders of lists, scripts, comparisons of lists, as the laws make them; the law of a message cut anew. Conditions: none beyond the law's own. -/
namespace Go.Proofs.YtjflijebcpcbmaaDoor.G
open Go.RowKit Go.Proofs.YtjflijebcpcbmaaDoorW.PrintWords Go.Proofs.YtjflijebcpcbmaaDoorW.PrintLast Go.Proofs.YtjflijebcpcbmaaDoorW.PrintMore
set_option linter.unusedVariables false
set_option linter.unusedSimpArgs false

theorem rdOf_at (l : List ByteArray) (i : Nat) (h : i < l.length) : rdOf ByteArray.empty l (i : Int) = l[i] := by
  simp [rdOf, List.getD_eq_getElem?_getD, List.getElem?_eq_getElem h]
theorem within_ok (x : Int) (n : Nat) (hn : 0 < n) (hn' : n < 1000000) : ∃ t : Nat, laws_within.f x (n : Int) = some (t : Int) ∧ t < n := by
  unfold laws_within.f
  rw [if_neg (by omega)]
  have h1 : Int.tmod x (n : Int) < n := Int.tmod_lt_of_pos x (by omega)
  have h2 : -(n : Int) < Int.tmod x (n : Int) := Int.lt_tmod_of_pos x (by omega)
  split
  · rename_i h
    rw [wrapi _ (by omega) (by omega)]
    exact ⟨(Int.tmod x (n : Int) + n).toNat, by congr 1; omega, by omega⟩
  · exact ⟨(Int.tmod x (n : Int)).toNat, by congr 1; omega, by omega⟩
theorem shuffle_go (by_ : List Int) : ∀ (i : Nat) (l : List ByteArray), i < l.length → l.length < 900000 → ∃ l', Evt (fun k => laws_shuffle.l0 k by_ l (i : Int)) l' ∧ l.Perm l'
  | 0, l, h, hl => ⟨l, Evt.step (f := fun _ => some l) (Evt.const l) (fun k => by rw [laws_shuffle.l0, if_neg (by omega)]), List.Perm.refl _⟩
  | i + 1, l, h, hl => by
    have hw : wrap64 (((i + 1 : Nat) : Int) - 1) = (i : Int) := by rw [wrapi _ (by omega) (by omega)]; omega
    by_cases hb : i + 1 < by_.length
    · obtain ⟨t, h1, h2⟩ := within_ok (rd by_ ((i + 1 : Nat) : Int)) (i + 2) (by omega) (by omega)
      have hw2 : wrap64 (((i + 1 : Nat) : Int) + 1) = ((i + 2 : Nat) : Int) := by rw [wrapi _ (by omega) (by omega)]; omega
      obtain ⟨l', e1, e2⟩ := shuffle_go by_ i ((l.set (i + 1) l[t]).set t l[i + 1]) (by simp; omega) (by simp; omega)
      refine ⟨l', Evt.step e1 (fun k => ?_), ((List.set_set_perm h (by omega)).symm).trans e2⟩
      rw [laws_shuffle.l0, if_pos (by omega), if_pos (by omega), if_pos (by omega), hw2, h1]
      simp only [Option.bind_some]
      rw [if_pos (by omega), if_pos (by omega), if_pos (by omega), hw, rdOf_at l t (by omega), rdOf_at l (i + 1) h, Int.toNat_natCast, Int.toNat_natCast]
    · obtain ⟨l', e1, e2⟩ := shuffle_go by_ i ((l.set (i + 1) l[i + 1]).set (i + 1) l[i + 1]) (by simp; omega) (by simp; omega)
      refine ⟨l', Evt.step e1 (fun k => ?_), ((List.set_set_perm h h).symm).trans e2⟩
      rw [laws_shuffle.l0, if_pos (by omega), if_neg (by omega), if_pos (by omega), if_pos (by omega), hw, rdOf_at l (i + 1) h, Int.toNat_natCast]
theorem shuffle_evt (l : List ByteArray) (by_ : List Int) (hl : l.length < 900000) : ∃ l', Evt (fun k => laws_shuffle.f k l by_) l' ∧ l.Perm l' := by
  cases hn : l.length with
  | zero =>
    have : l = [] := List.eq_nil_of_length_eq_zero hn
    subst this
    refine ⟨[], Evt.step (f := fun _ => some []) (Evt.const []) (fun k => ?_), List.Perm.refl _⟩
    have hw : wrap64 (((0 : Nat) : Int) - 1) = -1 := by rw [wrapi _ (by omega) (by omega)]; rfl
    simp only [laws_shuffle.f, Option.bind_some, List.nil_append, List.length_nil]
    rw [if_pos (by omega), hw, laws_shuffle.l0, if_neg (by omega)]
  | succ i =>
    obtain ⟨l', e1, e2⟩ := shuffle_go by_ i l (by omega) hl
    refine ⟨l', e1.congr (fun k => ?_), e2⟩
    have hw : wrap64 ((l.length : Int) - 1) = (i : Int) := by rw [wrapi _ (by omega) (by omega)]; omega
    simp only [laws_shuffle.f, Option.bind_some, List.nil_append, List.length_nil]
    rw [if_pos (by omega), hw]

theorem pops1_go (m : Nat) (hm : m < 900000) : ∀ (d j : Nat) (acc : List S45), j + d = m → acc.length + d < 900000 → Evt (fun k => laws_pops.l1 k acc (m : Int) (j : Int)) (acc ++ List.replicate d popS)
  | 0, j, acc, h, ha => by
    refine Evt.step (f := fun _ => some (acc ++ List.replicate 0 popS)) (Evt.const _) (fun k => ?_)
    rw [laws_pops.l1, if_neg (by omega)]
    simp
  | d + 1, j, acc, h, ha => by
    have e := pops1_go m hm d (j + 1) (acc ++ [popS]) (by omega) (by rw [List.length_append]; simp; omega)
    have e2 : (acc ++ [popS]) ++ List.replicate d popS = acc ++ List.replicate (d + 1) popS := by rw [List.replicate_succ, List.append_assoc]; rfl
    rw [e2] at e
    refine e.step (fun k => ?_)
    have hw : wrap64 ((j : Int) + 1) = ((j + 1 : Nat) : Int) := by rw [wrapi _ (by omega) (by omega)]; omega
    rw [laws_pops.l1, if_pos (by omega), if_pos (by omega), hw]
    rfl
theorem pops0_go (rs : List ByteArray) (m : Nat) (hm : m < 400000) (hr : rs.length < 400000) : ∀ (d j : Nat), j + d = rs.length → Evt (fun k => laws_pops.l0 k (m : Int) ((rs.take j).map pushS) rs (rs.length : Int) (j : Int)) (rs.map pushS ++ List.replicate m popS)
  | 0, j, h => by
    have hj : j = rs.length := by omega
    subst hj
    rw [List.take_length]
    refine (pops1_go m (by omega) m 0 (rs.map pushS) (by omega) (by rw [List.length_map]; omega)).step (fun k => ?_)
    rw [laws_pops.l0, if_neg (by omega)]
    rfl
  | d + 1, j, h => by
    have e := pops0_go rs m hm hr d (j + 1) (by omega)
    have hj : j < rs.length := by omega
    have e2 : (rs.take (j + 1)).map pushS = (rs.take j).map pushS ++ [(⟨true, rs[j]⟩ : S45)] := by
      rw [List.take_succ_eq_append_getElem hj, List.map_append]
      rfl
    rw [e2] at e
    refine e.step (fun k => ?_)
    have hw : wrap64 ((j : Int) + 1) = ((j + 1 : Nat) : Int) := by rw [wrapi _ (by omega) (by omega)]; omega
    have hl : ((rs.take j).map pushS).length = j := by rw [List.length_map, List.length_take]; omega
    rw [laws_pops.l0, if_pos (by omega), if_pos (by omega), if_pos (by omega), if_pos (by rw [hl]; omega), hw, rdOf_at rs j hj]
theorem pops_evt (rs : List ByteArray) (m : Nat) (hm : m < 400000) (hr : rs.length < 400000) : Evt (fun k => laws_pops.f k rs (m : Int)) (rs.map pushS ++ List.replicate m popS) :=
  (pops0_go rs m hm hr rs.length 0 (by omega)).congr (fun k => rfl)

theorem texts_go (a : List ByteArray) (ha : a.length < 900000) : ∀ (d j : Nat), j + d = a.length → Evt (fun k => laws_texts.l0 k a a (a.length : Int) (j : Int)) true
  | 0, j, h => Evt.step (f := fun _ => some true) (Evt.const _) (fun k => by rw [laws_texts.l0, if_neg (by omega)])
  | d + 1, j, h => by
    refine (texts_go a ha d (j + 1) (by omega)).step (fun k => ?_)
    have hw : wrap64 ((j : Int) + 1) = ((j + 1 : Nat) : Int) := by rw [wrapi _ (by omega) (by omega)]; omega
    rw [laws_texts.l0, if_pos (by omega), if_pos (by omega), if_pos (by omega), if_pos (by omega), if_pos rfl, hw]
theorem texts_evt (a : List ByteArray) (ha : a.length < 900000) : Evt (fun k => laws_texts.f k a a) true :=
  (texts_go a ha a.length 0 (by omega)).congr (fun k => by rw [laws_texts.f, if_pos rfl]; rfl)

/-- The sum of the bodies' lengths, and whether they are light. -/
def sumB (l : List ByteArray) : Nat := (l.map ByteArray.size).sum
def isLight (l : List ByteArray) (n : Int) : Bool := decide (0 < l.length) && decide (l.length < 8) && decide (sumB l < 600) && decide (1 ≤ n) && decide (n ≤ 1000) && (decide (8 ≤ n) || decide (sumB l < 100))
theorem light_go (l : List ByteArray) (n : Int) (hb : ∀ b ∈ l, b.size ≤ 2147483647) (hl : l.length ≤ 2147483647) : ∀ (d j : Nat), j + d = l.length → Evt (fun k => laws_light.l0 k l n ((sumB (l.take j) : Nat) : Int) l (l.length : Int) (j : Int)) (isLight l n)
  | 0, j, h => by
    have hj : j = l.length := by omega
    subst hj
    rw [List.take_length]
    refine Evt.step (f := fun _ => some (isLight l n)) (Evt.const _) (fun k => ?_)
    rw [laws_light.l0, if_neg (by omega)]
    unfold isLight
    by_cases h1 : (l.length : Int) > 0
    · rw [if_pos h1, decide_eq_true (show 0 < l.length by omega)]
      by_cases h2 : (l.length : Int) < 8
      · rw [if_pos h2, decide_eq_true (show l.length < 8 by omega)]
        by_cases h3 : ((sumB l : Nat) : Int) < 600
        · rw [if_pos h3, decide_eq_true (show sumB l < 600 by omega)]
          by_cases h4 : n ≥ 1
          · rw [if_pos h4, decide_eq_true (show (1 : Int) ≤ n from h4)]
            by_cases h5 : n ≤ 1000
            · rw [if_pos h5, decide_eq_true h5]
              by_cases h6 : n ≥ 8
              · rw [if_pos h6, decide_eq_true (show (8 : Int) ≤ n from h6)]; rfl
              · rw [if_neg h6, decide_eq_false (show ¬ (8 : Int) ≤ n from h6)]
                simp
                omega
            · rw [if_neg h5, decide_eq_false h5]; rfl
          · rw [if_neg h4, decide_eq_false (show ¬ (1 : Int) ≤ n from h4)]; rfl
        · rw [if_neg h3, decide_eq_false (show ¬ sumB l < 600 by omega)]; rfl
      · rw [if_neg h2, decide_eq_false (show ¬ l.length < 8 by omega)]; simp
    · rw [if_neg h1, decide_eq_false (show ¬ 0 < l.length by omega)]; simp
  | d + 1, j, h => by
    have hj : j < l.length := by omega
    have e := light_go l n hb hl d (j + 1) (by omega)
    refine e.step (fun k => ?_)
    have hs : sumB (l.take (j + 1)) = sumB (l.take j) + l[j].size := by
      unfold sumB
      rw [List.take_succ_eq_append_getElem hj, List.map_append, List.sum_append]
      rfl
    have hs2 : sumB (l.take j) ≤ j * 2147483647 := by
      have : ∀ (m : List ByteArray), (∀ b ∈ m, b.size ≤ 2147483647) → sumB m ≤ m.length * 2147483647 := by
        intro m hm
        induction m with
        | nil => simp [sumB]
        | cons x m ih =>
          have h1 := hm x (by simp)
          have h2 := ih (fun y hy => hm y (by simp [hy]))
          unfold sumB at h2 ⊢
          rw [List.map_cons, List.sum_cons, List.length_cons, Nat.add_mul]
          omega
      have h3 := this (l.take j) (fun b hb' => hb b (List.mem_of_mem_take hb'))
      rw [List.length_take, Nat.min_eq_left (by omega)] at h3
      exact h3
    have hs3 : j * 2147483647 ≤ 2147483647 * 2147483647 := Nat.mul_le_mul (by omega) (Nat.le_refl _)
    have hbj := hb l[j] (List.getElem_mem _)
    have hw : wrap64 ((j : Int) + 1) = ((j + 1 : Nat) : Int) := by rw [wrapi _ (by omega) (by omega)]; omega
    have hw2 : wrap64 (((sumB (l.take j) : Nat) : Int) + (l[j].size : Int)) = ((sumB (l.take (j + 1)) : Nat) : Int) := by rw [wrapi _ (by omega) (by omega), hs]; omega
    rw [laws_light.l0, if_pos (by omega), if_pos (by omega), if_pos (by omega), rdOf_at l j hj, hw, hw2]
theorem light_evt (l : List ByteArray) (n : Int) (hb : ∀ b ∈ l, b.size ≤ 2147483647) (hl : l.length ≤ 2147483647) : Evt (fun k => laws_light.f k l n) (isLight l n) :=
  (light_go l n hb hl l.length 0 (by omega)).congr (fun k => rfl)

theorem pieces_good {b : ByteArray} {q N : Nat} (hb : b.size ≤ 900) (hq : q < N) (hN : N ≤ 60000) (Bs : Nat → List Nat) (hB : Bs q = baNat b) (ep : Nat) (he : ep < 65536) {x : ByteArray} {p : Pc} (h : IsPiece b q x p) : ∀ i, i < 1000000 → GoodRec Bs N ep (laterBa ep i x) p := fun i hi => by
  obtain ⟨h1, h2, h3, h4⟩ := h
  have := good_later Bs N ep i q p.o p.n b hB (by omega) hq hN he h2 h3 hb
  obtain ⟨pq, po, pn⟩ := p
  simp only at h1 h4 this
  subst h1
  rw [h4]
  exact this
/-- The records of a list of texts. -/
def recsFrom (ep : Nat) : Nat → List ByteArray → List ByteArray
  | _, [] => []
  | i, x :: xs => laterBa ep i x :: recsFrom ep (i + 1) xs
theorem recsFrom_length (ep : Nat) : ∀ (i : Nat) (xs : List ByteArray), (recsFrom ep i xs).length = xs.length
  | _, [] => rfl
  | i, x :: xs => by simp [recsFrom, recsFrom_length ep (i + 1) xs]
theorem goods_of {Bs : Nat → List Nat} {N ep : Nat} {P : ByteArray → Pc → Prop} (hP : ∀ x p, P x p → ∀ i, i < 1000000 → GoodRec Bs N ep (laterBa ep i x) p) : ∀ (xs : List ByteArray) (ps : List Pc) (i : Nat), Pieces P xs ps → i + xs.length < 1000000 → GoodRecs Bs N ep (recsFrom ep i xs) ps
  | [], ps, i, h, _ => by cases h; exact .nil
  | x :: xs, ps, i, h, hi => by
    cases h with
    | cons h1 h2 =>
      simp only [List.length_cons] at hi
      exact .cons (hP _ _ h1 i (by omega)) (goods_of hP xs _ (i + 1) h2 (by omega))

/-- What the laws need of a list of records and pops behind them. -/
theorem script_told {Bs : Nat → List Nat} {N ep : Nat} (hN : N ≤ 60000) (rs : List ByteArray) (ps : List Pc) (hg : GoodRecs Bs N ep rs ps) (hr : rs.length ≤ 900) (hall : ∀ q, q < N → (∃ p ∈ ps, p.q = q) ∧ ∀ k, k < (Bs q).length → ∃ p ∈ ps, p.q = q ∧ p.o ≤ k ∧ k < p.o + p.n) (m : Nat) (hm : m < 400000) :
    ∃ ts us, impl_Fragments.f (rs.map pushS ++ List.replicate m popS) = some (ts ++ us) ∧ ts.length = rs.length ∧ us.length = m ∧ comeGo (rs.map pushS ++ List.replicate m popS) (ts ++ us) [] = ((List.range' 0 (min m N)).map (wholeOf Bs), true) ∧ (m ≤ N → ∀ t ∈ us, t.f5 = (ep : Int)) := by
  obtain ⟨ts, s1, r1, r2, r3, r4, r5⟩ := pushes_run hN rs ps _ _ 0 0 St.new (BInv.new Bs N ep) hg (by omega) (by omega)
  obtain ⟨us, s2, u1, u2, u3, u4, u5, u6, u7, u8⟩ := pops_run hN (by omega) (by omega) (fun q hq => ⟨.inr (hall q hq).1, fun k hk => .inr ((hall q hq).2 k hk)⟩) m s1 r5
  have hc : s1.cur = 0 := r4
  refine ⟨ts, us, ?_, r2, u2, ?_, fun h => u6 (by omega)⟩
  · unfold impl_Fragments.f
    rw [if_pos (by rw [List.length_append, List.length_map, List.length_replicate]; omega)]
    exact r1 _ _ u1
  · rw [r3, u5, hc, Nat.sub_zero]
    rfl

end Go.Proofs.YtjflijebcpcbmaaDoor.G
