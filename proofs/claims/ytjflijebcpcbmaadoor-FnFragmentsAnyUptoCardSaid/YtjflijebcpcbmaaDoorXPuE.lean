/-
 What is proved: pieces that are alike, two by two, are pieces of some messages. Conditions: pieces within their messages.
-/
import Derived.Test.YtjflijebcpcbmaaDoorXPuD
namespace Go.Proofs.YtjflijebcpcbmaaDoor.G
open Go.RowKit Go.Proofs.YtjflijebcpcbmaaDoorW.PrintWords Go.Proofs.YtjflijebcpcbmaaDoorW.PrintLast Go.Proofs.YtjflijebcpcbmaaDoorW.PrintMore
set_option linter.unusedVariables false
set_option linter.unusedSimpArgs false

/-- Two pieces may be of one message. -/
def AL (a b : S69) : Prop := a.f0 = b.f0 ∧ a.f1 = b.f1 ∧ a.f5 = b.f5 ∧ ∀ i j : Nat, i < a.f4.size → j < b.f4.size → a.f3 + (i : Int) = b.f3 + (j : Int) → (baNat a.f4).getD i 0 = (baNat b.f4).getD j 0
def Alikes (L : List S69) : Prop := L.Pairwise (fun a b => a.f2 = b.f2 → AL a b)
def isSeq (q : Nat) (p : S69) : Bool := decide (p.f2 = (q : Int))
def isCov (q k : Nat) (p : S69) : Bool := decide (p.f2 = (q : Int)) && (decide (p.f3 ≤ (k : Int)) && decide ((k : Int) < p.f3 + p.f4.size))
def tyOf (L : List S69) (q : Nat) : Nat := ((L.find? (isSeq q)).map (fun p => p.f0.toNat)).getD 0
def lnOf (L : List S69) (q : Nat) : Nat := ((L.find? (isSeq q)).map (fun p => p.f1.toNat)).getD 0
def epOf (L : List S69) (q : Nat) : Nat := ((L.find? (isSeq q)).map (fun p => p.f5.toNat)).getD 0
def byOf (L : List S69) (q k : Nat) : Nat := ((L.find? (isCov q k)).map (fun p => (baNat p.f4).getD (k - p.f3.toNat) 0)).getD 0
def msOf (L : List S69) (q : Nat) : List Nat := (List.range (lnOf L q)).map (byOf L q)
theorem find_first {L : List S69} (hA : Alikes L) (P : S69 → Bool) {p : S69} (hp : p ∈ L) (hP : P p = true) (hs : ∀ a b, P a = true → P b = true → a.f2 = b.f2) : ∃ p0, L.find? P = some p0 ∧ P p0 = true ∧ p0 ∈ L ∧ (p0 = p ∨ AL p0 p) := by
 have hsome : (L.find? P).isSome := by rw [List.find?_isSome]; exact ⟨p, hp, hP⟩
 obtain ⟨p0, h0⟩ := Option.isSome_iff_exists.1 hsome
 have hP0 := List.find?_some h0
 obtain ⟨_, u1, u2, e, hno⟩ := List.find?_eq_some_iff_append.1 h0
 refine ⟨p0, h0, hP0, List.mem_of_find?_eq_some h0, ?_⟩
 rw [e] at hp
 rcases List.mem_append.1 hp with hp | hp
 ·have := hno p hp
  rw [hP] at this
  cases this
 ·rcases List.mem_cons.1 hp with rfl | hp
  ·exact .inl rfl
  ·right
   unfold Alikes at hA
   rw [e, List.pairwise_append] at hA
   exact (List.pairwise_cons.1 hA.2.1).1 p hp (hs _ _ hP0 hP)
theorem byOf_lt (L : List S69) (q k : Nat) : byOf L q k < 256 := by
 unfold byOf
 cases h : L.find? (isCov q k) with
 | none => exact (show 0 < 256 by decide)
 | some p =>
   show (baNat p.f4).getD (k - p.f3.toNat) 0 < 256
   rw [List.getD_eq_getElem?_getD]
   by_cases hk : k - p.f3.toNat < (baNat p.f4).length
   ·rw [List.getElem?_eq_getElem hk]
    exact baNat_lt _ _ (List.getElem_mem _)
   ·rw [List.getElem?_eq_none (by omega)]
    decide
theorem msOf_lt (L : List S69) (q : Nat) : ∀ y ∈ msOf L q, y < 256 := fun y hy => by
 unfold msOf at hy
 obtain ⟨k, _, rfl⟩ := List.mem_map.1 hy
 exact byOf_lt L q k
theorem fits_of {L : List S69} (hA : Alikes L) (hO : ∀ p ∈ L, Okp p) (hE : ∀ p ∈ L, p.f3 + p.f4.size ≤ p.f1 ∧ (p.f4.size = 0 → p.f1 ≤ 0)) : Fits (msOf L) (tyOf L) (epOf L) L := by
 intro p hp
 obtain ⟨o1, o2, o3, o4, o5, o6, o7, o8, o9, o10, o11⟩ := hO p hp
 obtain ⟨e1, e2⟩ := hE p hp
 obtain ⟨q, hq⟩ : ∃ q : Nat, p.f2 = (q : Int) := ⟨p.f2.toNat, by omega⟩
 obtain ⟨o, ho⟩ : ∃ o : Nat, p.f3 = (o : Int) := ⟨p.f3.toNat, by omega⟩
 obtain ⟨p0, h0, hP0, hm0, hor⟩ := find_first hA (isSeq q) hp (by unfold isSeq; exact decide_eq_true hq) (fun a b ha hb => by unfold isSeq at ha hb; rw [of_decide_eq_true ha, of_decide_eq_true hb])
 have hsame : p0.f0 = p.f0 ∧ p0.f1 = p.f1 ∧ p0.f5 = p.f5 := by
  rcases hor with rfl | h
  ·exact ⟨rfl, rfl, rfl⟩
  ·exact ⟨h.1, h.2.1, h.2.2.1⟩
 have ht : tyOf L q = p.f0.toNat := by unfold tyOf; rw [h0, ← hsame.1]; rfl
 have hl : lnOf L q = p.f1.toNat := by unfold lnOf; rw [h0, ← hsame.2.1]; rfl
 have he : epOf L q = p.f5.toNat := by unfold epOf; rw [h0, ← hsame.2.2]; rfl
 have hml : (msOf L q).length = lnOf L q := by unfold msOf; rw [List.length_map, List.length_range]
 refine ⟨q, o, p.f4.size, ⟨hq, by omega, ho, rfl, by omega, by omega, by omega, by omega, by omega, ?_, ?_, by omega, by omega⟩⟩
 ·by_cases h : 0 < p.f4.size
  ·exact .inl h
  ·right
   have := e2 (by omega)
   omega
 ·apply List.ext_getElem?
  intro j
  rw [List.getElem?_take]
  by_cases hj : j < p.f4.size
  ·rw [if_pos hj, List.getElem?_drop]
   unfold msOf
   rw [List.getElem?_map, List.getElem?_range (by omega)]
   simp only [Option.map_some]
   have hcov : isCov q (o + j) p = true := by
    unfold isCov
    rw [decide_eq_true hq, decide_eq_true (by omega), decide_eq_true (by omega)]
    rfl
   obtain ⟨p1, g0, g1, g2, g3⟩ := find_first hA (isCov q (o + j)) hp hcov (fun a b ha hb => by
    unfold isCov at ha hb
    simp only [Bool.and_eq_true, decide_eq_true_eq] at ha hb
    rw [ha.1, hb.1])
   have hby : byOf L q (o + j) = (baNat p.f4).getD j 0 := by
    unfold byOf
    rw [g0]
    show (baNat p1.f4).getD (o + j - p1.f3.toNat) 0 = _
    rcases g3 with rfl | g3
    ·rw [ho, Int.toNat_natCast, Nat.add_sub_cancel_left]
    ·have hO1 := hO p1 g2
     obtain ⟨_, _, _, _, _, _, u1, u2, _, _, _⟩ := hO1
     unfold isCov at g1
     simp only [Bool.and_eq_true, decide_eq_true_eq] at g1
     exact g3.2.2.2 _ _ (by omega) hj (by omega)
   rw [hby, List.getD_eq_getElem?_getD, List.getElem?_eq_getElem (by rw [baNat_length]; exact hj)]
   rfl
  ·rw [if_neg hj, List.getElem?_eq_none (by rw [baNat_length]; omega)]
end Go.Proofs.YtjflijebcpcbmaaDoor.G
