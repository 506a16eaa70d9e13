/-
 What is proved: a script is told to be known, or not; and what is so if it is known. Conditions: few bytes in all.
-/
import Derived.Test.YtjflijebcpcbmaaDoorXPuK
namespace Go.Proofs.YtjflijebcpcbmaaDoor.G
open Go.RowKit Go.Proofs.YtjflijebcpcbmaaDoorW.PrintWords Go.Proofs.YtjflijebcpcbmaaDoorW.PrintLast Go.Proofs.YtjflijebcpcbmaaDoorW.PrintMore
set_option linter.unusedVariables false
set_option linter.unusedSimpArgs false

structure KX (x : S45) (ps : List S69) : Prop where
 big : 13 < x.f1.size
 b1 : bt x.f1 1 = 254
 b2 : bt x.f1 2 = 253
 kind : (bt x.f1 0 = 22 ∧ spec_pieces.f x.f1 = some (ps, true) ∧ ∀ p ∈ ps, p.f4.size = 0 → p.f1 ≤ 0) ∨ (bt x.f1 0 ≠ 22 ∧ 20 ≤ bt x.f1 0 ∧ bt x.f1 0 ≤ 23 ∧ ps = [])
inductive KXs : List S45 → List (List S69) → Prop
 | nil : KXs [] []
 | push {x : S45} {ps : List S69} {xs : List S45} {pss : List (List S69)} : x.f0 = true → KX x ps → KXs xs pss → KXs (x :: xs) (ps :: pss)
 | pop {x : S45} {xs : List S45} {pss : List (List S69)} : x.f0 = false → KXs xs pss → KXs (x :: xs) ([] :: pss)

theorem known_l2 (l : List S45) (i : Int) (ps : List S69) (j : Nat) (hj : j < ps.length) (hps : ps.length < 2147483648) (x4 : Int) (x3 : List S69) (h3 : x3.length < 2200000000000) (hO : ∀ p ∈ x3, Okp p) (hp : Okp ps[j]) (rc : Bool) (HC : Evt (fun k => spec_FragmentsKnown.l1 k l (x3 ++ [ps[j]]) x4 i ps ((j + 1 : Nat) : Int)) rc) :
 ∀ (d m : Nat), m + d = x3.length → ∃ r, Evt (fun k => spec_FragmentsKnown.l2 k l x3 x4 i ps (j : Int) (m : Int)) r ∧ (r = true → rc = true ∧ ∀ a ∈ x3.drop m, a.f2 = ps[j].f2 → AL a ps[j])
 | 0, m, h => by
   have hw : wrap64 ((j : Int) + 1) = ((j + 1 : Nat) : Int) := by rw [wrapi _ (by omega) (by omega)]; omega
   refine ⟨rc, HC.step (fun k => ?_), fun hr => ⟨hr, fun a ha => ?_⟩⟩
   ·rw [spec_FragmentsKnown.l2, if_neg (by omega), if_pos (by omega), if_pos (by omega), if_pos (by omega), rd69_at ps j hj, hw]
   ·rw [List.drop_of_length_le (by omega)] at ha
    simp at ha
 | d + 1, m, h => by
   have hm : m < x3.length := by omega
   obtain ⟨r, e, hr⟩ := known_l2 l i ps j hj hps x4 x3 h3 hO hp rc HC d (m + 1) (by omega)
   have hw : wrap64 ((m : Int) + 1) = ((m + 1 : Nat) : Int) := by rw [wrapi _ (by omega) (by omega)]; omega
   by_cases hq : x3[m].f2 = ps[j].f2
   ·obtain ⟨ra, ea, hra⟩ := al_evt x3[m] ps[j] (hO _ (List.getElem_mem _)) hp
    cases ra
    ·refine ⟨false, Evt.step (ea.bind (g := fun k t129 => (if t129 = true then (spec_FragmentsKnown.l2 k l x3 x4 i ps (j : Int) (wrap64 ((m : Int) + 1))) else (some false))) ((Evt.const false).congr (fun k => by rw [if_neg (by decide)]))) (fun k => ?_), fun hf => by cases hf⟩
     rw [spec_FragmentsKnown.l2, if_pos (by omega), if_pos (by omega), if_pos (by omega), if_pos (by omega), rd69_at x3 m hm, rd69_at ps j hj, if_pos hq]
    ·refine ⟨r, Evt.step (ea.bind (g := fun k t129 => (if t129 = true then (spec_FragmentsKnown.l2 k l x3 x4 i ps (j : Int) (wrap64 ((m : Int) + 1))) else (some false))) (e.congr (fun k => by rw [if_pos rfl, hw]))) (fun k => ?_), fun hf => ?_⟩
     ·rw [spec_FragmentsKnown.l2, if_pos (by omega), if_pos (by omega), if_pos (by omega), if_pos (by omega), rd69_at x3 m hm, rd69_at ps j hj, if_pos hq]
     ·obtain ⟨g1, g2⟩ := hr hf
      refine ⟨g1, fun a ha ha2 => ?_⟩
      rw [List.drop_eq_getElem_cons hm] at ha
      rcases List.mem_cons.1 ha with rfl | ha
      ·exact hra rfl
      ·exact g2 a ha ha2
   ·refine ⟨r, e.step (fun k => ?_), fun hf => ?_⟩
    ·rw [spec_FragmentsKnown.l2, if_pos (by omega), if_pos (by omega), if_pos (by omega), if_pos (by omega), rd69_at x3 m hm, rd69_at ps j hj, if_neg hq, hw]
    ·obtain ⟨g1, g2⟩ := hr hf
     refine ⟨g1, fun a ha ha2 => ?_⟩
     rw [List.drop_eq_getElem_cons hm] at ha
     rcases List.mem_cons.1 ha with rfl | ha
     ·exact absurd ha2 hq
     ·exact g2 a ha ha2

theorem known_l1 (l : List S45) (i : Nat) (hi : i < 2147483648) (ps : List S69) (hps : ps.length < 2147483648) (hpo : ∀ p ∈ ps, Okp p) (x4 : Int) : ∀ (d j : Nat) (x3 : List S69), j + d = ps.length → x3.length + d < 2200000000000 → (∀ p ∈ x3, Okp p) → ∀ (rc : Bool), Evt (fun k => spec_FragmentsKnown.l0 k l (x3 ++ ps.drop j) x4 ((i + 1 : Nat) : Int)) rc →
 ∃ r, Evt (fun k => spec_FragmentsKnown.l1 k l x3 x4 (i : Int) ps (j : Int)) r ∧ (r = true → rc = true ∧ (∀ p ∈ ps.drop j, p.f4.size = 0 → p.f1 ≤ 0) ∧ (Alikes x3 → Alikes (x3 ++ ps.drop j)))
 | 0, j, x3, h, h3, hO, rc, HC => by
   have hw : wrap64 ((i : Int) + 1) = ((i + 1 : Nat) : Int) := by rw [wrapi _ (by omega) (by omega)]; omega
   have hd : ps.drop j = [] := List.drop_of_length_le (by omega)
   rw [hd, List.append_nil] at HC
   refine ⟨rc, HC.step (fun k => by rw [spec_FragmentsKnown.l1, if_neg (by omega), hw]), fun hr => ⟨hr, fun p hp => ?_, fun hA => ?_⟩⟩
   ·rw [hd] at hp; simp at hp
   ·rw [hd, List.append_nil]; exact hA
 | d + 1, j, x3, h, h3, hO, rc, HC => by
   have hj : j < ps.length := by omega
   have hpj := hpo ps[j] (List.getElem_mem _)
   have hdr : ps.drop j = ps[j] :: ps.drop (j + 1) := List.drop_eq_getElem_cons hj
   have happ : (x3 ++ [ps[j]]) ++ ps.drop (j + 1) = x3 ++ ps.drop j := by rw [hdr, List.append_assoc]; rfl
   obtain ⟨r1, e1, hr1⟩ := known_l1 l i hi ps hps hpo x4 d (j + 1) (x3 ++ [ps[j]]) (by omega) (by rw [List.length_append]; simp only [List.length_cons, List.length_nil]; omega) (fun p hp => by
    rcases List.mem_append.1 hp with hp | hp
    ·exact hO p hp
    ·simp at hp
     subst hp
     exact hpj) rc (by rw [happ]; exact HC)
   obtain ⟨r2, e2, hr2⟩ := known_l2 l (i : Int) ps j hj hps x4 x3 (by omega) hO hpj r1 e1 x3.length 0 (by omega)
   have e2' : Evt (fun k => spec_FragmentsKnown.j4 k l x3 x4 (i : Int) ps (j : Int) false) r2 := e2.step (fun k => by rw [spec_FragmentsKnown.j4, if_neg (by decide)]; rfl)
   have jt : Evt (fun k => spec_FragmentsKnown.j4 k l x3 x4 (i : Int) ps (j : Int) true) false := Evt.step (f := fun _ => some false) (Evt.const _) (fun k => by rw [spec_FragmentsKnown.j4, if_pos rfl])
   have fin : (ps[j].f4.size = 0 → ps[j].f1 ≤ 0) → r2 = true → rc = true ∧ (∀ p ∈ ps.drop j, p.f4.size = 0 → p.f1 ≤ 0) ∧ (Alikes x3 → Alikes (x3 ++ ps.drop j)) := fun hz hr => by
    obtain ⟨g1, g2⟩ := hr2 hr
    obtain ⟨g3, g4, g5⟩ := hr1 g1
    refine ⟨g3, fun p hp => ?_, fun hA => ?_⟩
    ·rw [hdr] at hp
     rcases List.mem_cons.1 hp with rfl | hp
     ·exact hz
     ·exact g4 p hp
    ·rw [← happ]
     apply g5
     unfold Alikes at hA ⊢
     rw [List.pairwise_append]
     refine ⟨hA, List.pairwise_singleton _ _, fun a ha b hb => ?_⟩
     simp at hb
     subst hb
     exact g2 a (by rw [List.drop_zero]; exact ha)
   by_cases hz : ps[j].f4.size = 0
   ·have hz2 : ps[j].f4.toList = [] := toList_nil.2 hz
    by_cases h1 : ps[j].f1 > 0
    ·exact ⟨false, jt.step (fun k => by rw [spec_FragmentsKnown.l1, if_pos (by omega), if_pos (by omega), rd69_at ps j hj, if_pos hz2, decide_eq_true h1]), fun hf => by cases hf⟩
    ·exact ⟨r2, e2'.step (fun k => by rw [spec_FragmentsKnown.l1, if_pos (by omega), if_pos (by omega), rd69_at ps j hj, if_pos hz2, decide_eq_false h1]), fin (fun _ => by omega)⟩
   ·have hz2 : ¬ ps[j].f4.toList = [] := fun e => hz (toList_nil.1 e)
    exact ⟨r2, e2'.step (fun k => by rw [spec_FragmentsKnown.l1, if_pos (by omega), if_pos (by omega), rd69_at ps j hj, if_neg hz2]), fin (fun e => absurd e hz)⟩

/-- What the outer loop tells from step i on. -/
def KGoal (l : List S45) (i : Nat) : Prop := ∀ (x3 : List S69) (x4 : Nat), (∀ p ∈ x3, Okp p) → x3.length ≤ x4 → x4 + bytesIn (l.drop i) ≤ 2000000000000 →
 ∃ r, Evt (fun k => spec_FragmentsKnown.l0 k l x3 (x4 : Int) (i : Int)) r ∧ (r = true → l.length ≤ 100 ∧ ∃ pss, KXs (l.drop i) pss ∧ (Alikes x3 → Alikes (x3 ++ pss.flatten)) ∧ x4 + bytesIn (l.drop i) ≤ 20000 ∧ (x3 ++ pss.flatten).length ≤ 500)
theorem bytes_cons (x : S45) (xs : List S45) : bytesIn (x :: xs) = (if x.f0 = true then x.f1.size else 0) + bytesIn xs := by unfold bytesIn; rw [List.map_cons, List.sum_cons]

/-- A record of handshake messages whose pieces were read. -/
theorem known_hs (l : List S45) (i : Nat) (hi : i < l.length) (hil : i < 2147483647) (x : S45) (hrd : rd_T45 l (i : Int) = x) (hbig : 13 < x.f1.size) (hsx : x.f1.size ≤ 2147483647) (hk : bt x.f1 0 = 22) (x3 : List S69) (x4 : Nat) (hws : wrap64 ((x4 : Int) + (x.f1.size : Int)) = ((x4 + x.f1.size : Nat) : Int)) (ps : List S69) (ok r : Bool) (hps : spec_pieces.f x.f1 = some (ps, ok))
 (e : ok = true → ∀ b : Bool, Evt (fun k => spec_FragmentsKnown.j2 k l x3 ((x4 + x.f1.size : Nat) : Int) (i : Int) ps b) (if b = true then false else r)) :
 ∃ r', Evt (fun k => spec_FragmentsKnown.j1 k l x3 (x4 : Int) (i : Int) false) r' ∧ (r' = true → ok = true ∧ r = true) := by
 have hi0 : 0 ≤ (i : Int) := by omega
 have hi1 : (i : Int) < (l.length : Int) := by omega
 have hz0 : 0 < (x.f1.size : Int) := by omega
 have hz11 : 11 < (x.f1.size : Int) := by omega
 have hz12 : 12 < (x.f1.size : Int) := by omega
 have step1 : ∀ k, spec_FragmentsKnown.j1 (k + 1) l x3 (x4 : Int) (i : Int) false = (if ok = true then (spec_FragmentsKnown.j2 k l x3 ((x4 + x.f1.size : Nat) : Int) (i : Int) ps ((Go.bits .or .i64 (wrap64 ((wrap64 (bt x.f1 11)) * 256)) (wrap64 (bt x.f1 12))) != (wrap64 ((x.f1.size : Int) - 13)))) else (spec_FragmentsKnown.j2 k l x3 ((x4 + x.f1.size : Nat) : Int) (i : Int) ps true)) := fun k => by
  rw [spec_FragmentsKnown.j1, if_neg (by decide), if_pos hi0, if_pos hi1, hrd, if_pos hz0, if_pos hk, hps]
  simp only [Option.bind_some]
  rw [if_pos hz11, if_pos hz12, hws]
 cases ok
 ·refine ⟨false, Evt.step (f := fun k => spec_FragmentsKnown.j2 k l x3 ((x4 + x.f1.size : Nat) : Int) (i : Int) ps true) (Evt.step (f := fun _ => some false) (Evt.const _) (fun k => by rw [spec_FragmentsKnown.j2, if_pos rfl])) (fun k => ?_), fun hf => by cases hf⟩
  rw [step1 k, if_neg (by decide)]
 ·obtain ⟨b, hb⟩ : ∃ b, b = ((Go.bits .or .i64 (wrap64 ((wrap64 (bt x.f1 11)) * 256)) (wrap64 (bt x.f1 12))) != (wrap64 ((x.f1.size : Int) - 13))) := ⟨_, rfl⟩
  rw [← hb] at step1
  refine ⟨(if b = true then false else r), (e rfl b).step (fun k => ?_), fun hf => ?_⟩
  ·rw [step1 k, if_pos rfl]
  ·split at hf
   ·cases hf
   ·exact ⟨rfl, hf⟩

theorem known_take (l : List S45) (i : Nat) (hi : i < l.length) (hil : l.length ≤ 2147483647) (x : S45) (hrd : rd_T45 l (i : Int) = x) (hdr : l.drop i = x :: l.drop (i + 1)) (hf0 : x.f0 = true) (hbig : 13 < x.f1.size) (hsx : x.f1.size ≤ 2147483647) (hb1 : bt x.f1 1 = 254) (hb2 : bt x.f1 2 = 253) (hk : bt x.f1 0 = 22) (IH : KGoal l (i + 1)) (x3 : List S69) (x4 : Nat) (hO : ∀ p ∈ x3, Okp p) (h3 : x3.length ≤ x4) (hb : x4 + (x.f1.size + bytesIn (l.drop (i + 1))) ≤ 2000000000000) :
 ∃ r, Evt (fun k => spec_FragmentsKnown.j1 k l x3 (x4 : Int) (i : Int) false) r ∧ (r = true → l.length ≤ 100 ∧ ∃ pss, KXs (l.drop i) pss ∧ (Alikes x3 → Alikes (x3 ++ pss.flatten)) ∧ x4 + bytesIn (l.drop i) ≤ 20000 ∧ (x3 ++ pss.flatten).length ≤ 500) := by
 obtain ⟨ps, ok, hps⟩ := pieces_some x.f1 hbig hsx
 have hws : wrap64 ((x4 : Int) + (x.f1.size : Int)) = ((x4 + x.f1.size : Nat) : Int) := by rw [wrapi _ (by omega) (by omega)]; omega
 cases ok
 ·obtain ⟨r', e', hr'⟩ := known_hs l i hi (by omega) x hrd hbig hsx hk x3 x4 hws ps false false hps (fun h => by cases h)
  exact ⟨r', e', fun hf => by have := (hr' hf).1; cases this⟩
 ·obtain ⟨p1, p2⟩ := pieces_ok x.f1 ps hbig hsx hps
  obtain ⟨r0, e0, hr0⟩ := IH (x3 ++ ps) (x4 + x.f1.size) (fun p hp => by
   rcases List.mem_append.1 hp with hp | hp
   ·exact hO p hp
   ·exact (p1 p hp).1) (by rw [List.length_append]; omega) (by omega)
  obtain ⟨r1, e1, hr1⟩ := known_l1 l i (by omega) ps (by omega) (fun p hp => (p1 p hp).1) ((x4 + x.f1.size : Nat) : Int) ps.length 0 x3 (by omega) (by omega) hO r0 (by rw [List.drop_zero]; exact e0)
  obtain ⟨r', e', hr'⟩ := known_hs l i hi (by omega) x hrd hbig hsx hk x3 x4 hws ps true r1 hps (fun _ b => by
   cases b
   ·exact e1.step (fun k => by rw [spec_FragmentsKnown.j2, if_neg (by decide)]; rfl)
   ·exact Evt.step (f := fun _ => some false) (Evt.const _) (fun k => by rw [spec_FragmentsKnown.j2, if_pos rfl]))
  refine ⟨r', e', fun hf => ?_⟩
  obtain ⟨q1, q2, q3⟩ := hr1 (hr' hf).2
  obtain ⟨g1, pss, g2, g3, g4, g5⟩ := hr0 q1
  rw [List.drop_zero] at q2 q3
  rw [hdr, bytes_cons, if_pos hf0]
  refine ⟨g1, ps :: pss, .push hf0 ⟨hbig, hb1, hb2, .inl ⟨hk, hps, q2⟩⟩ g2, fun hA => ?_, by omega, ?_⟩
  ·rw [List.flatten_cons, ← List.append_assoc]
   exact g3 (q3 hA)
  ·rw [List.flatten_cons, ← List.append_assoc]
   exact g5
theorem known_step (l : List S45) (hl : l.length ≤ 2147483647) (hs : ∀ x ∈ l, x.f1.size ≤ 2147483647) (i : Nat) (hi : i < l.length) (IH : KGoal l (i + 1)) : KGoal l i := by
 intro x3 x4 hO h3 hb
 have hsx := hs l[i] (List.getElem_mem _)
 have hdr : l.drop i = l[i] :: l.drop (i + 1) := List.drop_eq_getElem_cons hi
 have hw : wrap64 ((i : Int) + 1) = ((i + 1 : Nat) : Int) := by rw [wrapi _ (by omega) (by omega)]; omega
 have hrd := rdS45_at l i hi
 obtain ⟨x, hx⟩ : ∃ x, x = l[i] := ⟨_, rfl⟩
 rw [← hx] at hdr hsx hrd
 rw [hdr, bytes_cons] at hb
 have hi0 : 0 ≤ (i : Int) := by omega
 have hi1 : (i : Int) < (l.length : Int) := by omega
 clear hx
 cases hf0 : x.f0
 ·have hne : ¬ x.f0 = true := by rw [hf0]; decide
  rw [if_neg hne] at hb
  obtain ⟨r, e, hr⟩ := IH x3 x4 hO h3 (by omega)
  refine ⟨r, e.step (fun k => by rw [spec_FragmentsKnown.l0, if_pos hi1, if_pos hi0, hrd, if_neg hne, hw]), fun hf => ?_⟩
  obtain ⟨g1, pss, g2, g3, g4, g5⟩ := hr hf
  rw [hdr, bytes_cons, if_neg hne]
  refine ⟨g1, [] :: pss, .pop hf0 g2, ?_, by omega, ?_⟩
  ·rw [List.flatten_cons, List.nil_append]; exact g3
  ·rw [List.flatten_cons, List.nil_append]; exact g5
 ·rw [if_pos hf0] at hb
  have jt : Evt (fun k => spec_FragmentsKnown.j1 k l x3 (x4 : Int) (i : Int) true) false := Evt.step (f := fun _ => some false) (Evt.const _) (fun k => by rw [spec_FragmentsKnown.j1, if_pos rfl])
  by_cases hbig : (x.f1.size : Int) ≤ 13
  ·exact ⟨false, jt.step (fun k => by rw [spec_FragmentsKnown.l0, if_pos hi1, if_pos hi0, hrd, if_pos hf0, if_pos hbig]), fun hf => by cases hf⟩
  ·have hz1 : 1 < (x.f1.size : Int) := by omega
   have hz2 : 2 < (x.f1.size : Int) := by omega
   have hz0 : 0 < (x.f1.size : Int) := by omega
   have hbg : 13 < x.f1.size := by omega
   have hws : wrap64 ((x4 : Int) + (x.f1.size : Int)) = ((x4 + x.f1.size : Nat) : Int) := by rw [wrapi _ (by omega) (by omega)]; omega
   by_cases hb1 : bt x.f1 1 = 254
   ·by_cases hb2 : bt x.f1 2 = 253
    ·have hb2' : (bt x.f1 2 != 253) = false := by rw [hb2]; rfl
     have stp : ∀ {r : Bool}, Evt (fun k => spec_FragmentsKnown.j1 k l x3 (x4 : Int) (i : Int) false) r → Evt (fun k => spec_FragmentsKnown.l0 k l x3 (x4 : Int) (i : Int)) r := fun e => e.step (fun k => by rw [spec_FragmentsKnown.l0, if_pos hi1, if_pos hi0, hrd, if_pos hf0, if_neg hbig, if_pos hz1, if_pos hb1, if_pos hz2, hb2'])
     by_cases hk : bt x.f1 0 = 22
     ·obtain ⟨r, e, hr⟩ := known_take l i hi hl x hrd hdr hf0 hbg hsx hb1 hb2 hk IH x3 x4 hO h3 hb
      exact ⟨r, stp e, hr⟩
     ·by_cases h20 : bt x.f1 0 < 20
      ·exact ⟨false, stp (Evt.step (f := fun _ => some false) (Evt.const _) (fun k => by rw [spec_FragmentsKnown.j1, if_neg (by decide), if_pos hi0, if_pos hi1, hrd, if_pos hz0, if_neg hk, if_pos h20])), fun hf => by cases hf⟩
      ·by_cases h23 : bt x.f1 0 > 23
       ·exact ⟨false, stp (Evt.step (f := fun _ => some false) (Evt.const _) (fun k => by rw [spec_FragmentsKnown.j1, if_neg (by decide), if_pos hi0, if_pos hi1, hrd, if_pos hz0, if_neg hk, if_neg h20, if_pos h23])), fun hf => by cases hf⟩
       ·have hb5 : x4 + x.f1.size + bytesIn (l.drop (i + 1)) ≤ 2000000000000 := by rw [Nat.add_assoc]; exact hb
        obtain ⟨r, e, hr⟩ := IH x3 (x4 + x.f1.size) hO (Nat.le_trans h3 (Nat.le_add_right _ _)) hb5
        refine ⟨r, stp (e.step (fun k => by rw [spec_FragmentsKnown.j1, if_neg (by decide), if_pos hi0, if_pos hi1, hrd, if_pos hz0, if_neg hk, if_neg h20, if_neg h23, hws, hw])), fun hf => ?_⟩
        obtain ⟨g1, pss, g2, g3, g4, g5⟩ := hr hf
        rw [hdr, bytes_cons, if_pos hf0]
        refine ⟨g1, [] :: pss, .push hf0 ⟨hbg, hb1, hb2, .inr ⟨hk, Int.not_lt.1 h20, Int.not_lt.1 h23, rfl⟩⟩ g2, ?_, by rw [← Nat.add_assoc]; exact g4, ?_⟩
        ·rw [List.flatten_cons, List.nil_append]; exact g3
        ·rw [List.flatten_cons, List.nil_append]; exact g5
    ·have hb2' : (bt x.f1 2 != 253) = true := bne_iff_ne.mpr hb2
     exact ⟨false, jt.step (fun k => by rw [spec_FragmentsKnown.l0, if_pos hi1, if_pos hi0, hrd, if_pos hf0, if_neg hbig, if_pos hz1, if_pos hb1, if_pos hz2, hb2']), fun hf => by cases hf⟩
   ·exact ⟨false, jt.step (fun k => by rw [spec_FragmentsKnown.l0, if_pos hi1, if_pos hi0, hrd, if_pos hf0, if_neg hbig, if_pos hz1, if_neg hb1]), fun hf => by cases hf⟩
theorem known_all (l : List S45) (hl : l.length ≤ 2147483647) (hs : ∀ x ∈ l, x.f1.size ≤ 2147483647) : ∀ (d i : Nat), i + d = l.length → KGoal l i
 | 0, i, h => by
   intro x3 x4 hO h3 hb
   have hd : l.drop i = [] := List.drop_of_length_le (by omega)
   by_cases h1 : (l.length : Int) ≤ 100
   ·by_cases h2 : (x4 : Int) ≤ 20000
    ·refine ⟨decide ((x3.length : Int) ≤ 500), Evt.step (f := fun _ => some (decide ((x3.length : Int) ≤ 500))) (Evt.const _) (fun k => by rw [spec_FragmentsKnown.l0, if_neg (by omega), if_pos h1, if_pos h2]), fun hr => ?_⟩
     have := of_decide_eq_true hr
     rw [hd]
     exact ⟨by omega, [], .nil, fun hA => by simpa using hA, by simp [bytesIn]; omega, by simp; omega⟩
    ·exact ⟨false, Evt.step (f := fun _ => some false) (Evt.const _) (fun k => by rw [spec_FragmentsKnown.l0, if_neg (by omega), if_pos h1, if_neg h2]), fun hf => by cases hf⟩
   ·exact ⟨false, Evt.step (f := fun _ => some false) (Evt.const _) (fun k => by rw [spec_FragmentsKnown.l0, if_neg (by omega), if_neg h1]), fun hf => by cases hf⟩
 | d + 1, i, h => known_step l hl hs i (by omega) (known_all l hl hs d (i + 1) (by omega))
end Go.Proofs.YtjflijebcpcbmaaDoor.G
