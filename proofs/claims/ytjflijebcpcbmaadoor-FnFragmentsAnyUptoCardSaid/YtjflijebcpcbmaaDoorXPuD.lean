/-
 What is proved: both buffers tell the same of a script whose records agree with some messages. Conditions: at most 800 pieces, few bytes, at most 900 steps.
-/
import Derived.Test.YtjflijebcpcbmaaDoorXPuC
namespace Go.Proofs.YtjflijebcpcbmaaDoor.G
open Go.RowKit Go.Proofs.YtjflijebcpcbmaaDoorW.PrintWords Go.Proofs.YtjflijebcpcbmaaDoorW.PrintLast Go.Proofs.YtjflijebcpcbmaaDoorW.PrintMore
set_option linter.unusedVariables false
set_option linter.unusedSimpArgs false

theorem bt_nat (s : ByteArray) (k : Nat) : bt s (k : Int) = ((baNat s).getD k 0 : Nat) := by
 unfold bt
 by_cases h : k < s.size
 ·rw [dif_pos (by rw [Int.toNat_natCast]; exact h)]
  have hl : k < (baN s).length := by rw [show (baN s).length = s.size from baNat_length s]; exact h
  rw [List.getD_eq_getElem?_getD, show baNat s = baN s from rfl, List.getElem?_eq_getElem hl, baN_at s k h hl]
  rfl
 ·rw [dif_neg (by rw [Int.toNat_natCast]; exact h), List.getD_eq_getElem?_getD, List.getElem?_eq_none (by rw [baNat_length]; omega)]
  rfl
/-- What both buffers hold. -/
structure Both (Bs : Nat → List Nat) (ty ep : Nat → Nat) (L l : List S69) (nx np tot pc : Nat) (s : St) : Prop where
 a : AInv Bs ty ep 65536 pc (CovS L) (HasS L) np tot s
 c : s.cur = nx
 l : l = L.filter (fresh_ nx)
 f : Fits Bs ty ep L
 n : L.length ≤ np
def Ag (t u : S40) : Prop := t.f0 = u.f0 ∧ t.f1 = u.f1 ∧ t.f2 = u.f2 ∧ t.f3 = u.f3 ∧ t.f4 = u.f4 ∧ t.f5 = u.f5
structure GoodX (Bs : Nat → List Nat) (ty ep : Nat → Nat) (x : S45) (ps : List S69) : Prop where
 big : 13 < x.f1.size
 small : x.f1.size ≤ 20000
 b1 : bt x.f1 1 = 254
 b2 : bt x.f1 2 = 253
 kind : (bt x.f1 0 = 22 ∧ spec_pieces.f x.f1 = some (ps, true) ∧ Fits Bs ty ep ps) ∨ (bt x.f1 0 ≠ 22 ∧ 20 ≤ bt x.f1 0 ∧ bt x.f1 0 ≤ 23 ∧ ps = [])
theorem fits_ok {Bs : Nat → List Nat} {ty ep : Nat → Nat} {ps : List S69} (h : Fits Bs ty ep ps) : ∀ p ∈ ps, Okp p := fun p hp => by
 obtain ⟨q, o, n, F⟩ := h p hp
 have h1 := F.fq
 have h2 := F.ql
 have h3 := F.fo
 have h4 := F.fn
 have h5 := F.ft
 have h6 := F.fl
 have h7 := F.fe
 have h8 := F.small
 have h9 := F.le
 have h10 := F.tl
 have h11 := F.el
 unfold Okp
 omega
theorem cov_fresh (L : List S69) (q k : Nat) : CovS (L.filter (fresh_ q)) q k ↔ CovS L q k := by
 unfold CovS
 constructor
 ·rintro ⟨p, hp, g⟩
  exact ⟨p, (List.mem_filter.1 hp).1, g⟩
 ·rintro ⟨p, hp, g1, g2⟩
  refine ⟨p, List.mem_filter.2 ⟨hp, ?_⟩, g1, g2⟩
  unfold fresh_
  rw [g1, decide_eq_false (by omega)]
  rfl
theorem has_fresh (L : List S69) (q : Nat) : HasS (L.filter (fresh_ q)) q ↔ HasS L q := by
 unfold HasS
 constructor
 ·rintro ⟨p, hp, g⟩
  exact ⟨p, (List.mem_filter.1 hp).1, g⟩
 ·rintro ⟨p, hp, g1⟩
  refine ⟨p, List.mem_filter.2 ⟨hp, ?_⟩, g1⟩
  unfold fresh_
  rw [g1, decide_eq_false (by omega)]
  rfl

/-- A push. -/
theorem both_push {Bs : Nat → List Nat} {ty ep : Nat → Nat} {L l : List S69} {nx np tot pc : Nat} {s : St} (h : Both Bs ty ep L l nx np tot pc s) (x : S45) (ps : List S69) (hx : x.f0 = true) (g : GoodX Bs ty ep x ps) (hpc : pc ≤ 1000) (hnp : np + ps.length ≤ 800) (ht : tot + x.f1.size < 1900000) :
 ∃ t s' u, s.step x = some (t, s') ∧ sbStep l nx x = some (u, (L ++ ps).filter (fresh_ nx), nx) ∧ Ag t u ∧ Both Bs ty ep (L ++ ps) ((L ++ ps).filter (fresh_ nx)) nx (np + ps.length) (tot + x.f1.size) pc s' := by
 have hl := baNat_length x.f1
 have hA := h.a
 have hbig := g.big
 have hsm := g.small
 have c1 : (baNat x.f1).getD 1 0 = 254 := by have h0 : bt x.f1 1 = ((baNat x.f1).getD 1 0 : Nat) := bt_nat x.f1 1; have := g.b1; omega
 have c2 : (baNat x.f1).getD 2 0 = 253 := by have h0 : bt x.f1 2 = ((baNat x.f1).getD 2 0 : Nat) := bt_nat x.f1 2; have := g.b2; omega
 have c0 : bt x.f1 0 = ((baNat x.f1).getD 0 0 : Nat) := bt_nat x.f1 0
 have hsz1 := hA.sz
 have hsz2 := hA.sb
 unfold St.step sbStep
 rw [if_pos hx, if_pos hx]
 rcases g.kind with ⟨k1, k2, k3⟩ | ⟨k1, k2, k3, k4⟩
 ·have d0 : (baNat x.f1).getD 0 0 = 22 := by omega
  have hp2 := k2
  unfold spec_pieces.f at hp2
  rw [if_pos ⟨by omega, by omega⟩] at hp2
  obtain ⟨ps', e1, e2⟩ := spGo_parsed _ _ _ _ _ hp2
  rw [List.nil_append] at e1
  subst e1
  have hep : nm (tk (dr x.f1 3) 2) = u16of ((baNat x.f1).drop 3) := by rw [nm2 _ (by rw [dr_len]; omega), dr_nat]
  have hbody : baNat (dr (dr (dr (dr x.f1 3) 2) 6) 2) = (baNat x.f1).drop 13 := by rw [dr_nat, dr_nat, dr_nat, dr_nat, List.drop_drop, List.drop_drop, List.drop_drop]
  rw [hep, hbody] at e2
  obtain ⟨s', ag', f1, f2, f3, f4⟩ := frags_pieces hpc ((baNat x.f1).drop 13) ps e2 k3 (fun y hy => baNat_lt x.f1 y (List.mem_of_mem_drop hy)) (baNat x.f1).length L l np tot s false (by rw [List.length_drop]; omega) hA hnp (by rw [List.length_drop]; omega)
  have hll : l.length ≤ 100000 - 800 := by
   rw [h.l]
   have := List.length_filter_le (fresh_ nx) L
   have := h.n
   omega
  have hpush : s.push (baNat x.f1) = some (true, ag', s') := by
   unfold St.push
   rw [if_pos ⟨by omega, c1, c2, by rw [d0]; decide, by omega, by omega⟩, if_pos d0, f1]
   rfl
  have hsb : sbPush l nx x.f1 = some (⟨true, ag', false, false, ⟨#[]⟩, 0, 0⟩, l ++ ps.filter (fresh_ nx)) := by
   unfold sbPush
   rw [if_pos (by omega), if_pos k1, k2]
   simp only [Option.bind_some]
   rw [if_pos ⟨fits_ok k3, by omega⟩]
   rw [h.c] at f4
   rw [f4]
  refine ⟨⟨true, ag', false, false, ⟨#[]⟩, 0, s'.sz⟩, s', ⟨true, ag', false, false, ⟨#[]⟩, 0, 0⟩, by rw [hpush]; rfl, by rw [hsb, List.filter_append, ← h.l]; rfl, ⟨rfl, rfl, rfl, rfl, rfl, rfl⟩, ⟨?_, by rw [f2]; exact h.c, rfl, fun p hp => ?_, by rw [List.length_append]; have := h.n; omega⟩⟩
  ·exact ⟨f3.old, f3.none_, f3.some_, f3.far, f3.cnt, f3.sz, f3.cb, by have := f3.sb; rw [List.length_drop] at this; omega, f3.npb, f3.cur⟩
  ·rcases List.mem_append.1 hp with hp | hp
   ·exact h.f p hp
   ·exact k3 p hp
 ·subst k4
  have d0 : (baNat x.f1).getD 0 0 ≠ 22 := by omega
  have hpush : s.push (baNat x.f1) = some (false, false, s) := by
   unfold St.push
   rw [if_pos ⟨by omega, c1, c2, by omega, by omega, by omega⟩, if_neg d0]
  have hsb : sbPush l nx x.f1 = some (z40, l) := by
   unfold sbPush
   rw [if_pos (by omega), if_neg k1]
  rw [List.append_nil]
  refine ⟨⟨false, false, false, false, ⟨#[]⟩, 0, s.sz⟩, s, z40, by rw [hpush]; rfl, by rw [hsb, ← h.l]; rfl, ⟨rfl, rfl, rfl, rfl, rfl, rfl⟩, ⟨⟨hA.old, hA.none_, hA.some_, hA.far, hA.cnt, hA.sz, by have := hA.cb; simp; omega, by have := hA.sb; omega, by have := hA.npb; simp; omega, hA.cur⟩, h.c, rfl, h.f, by have := h.n; simp; omega⟩⟩

/-- A pop. -/
theorem both_pop {Bs : Nat → List Nat} {ty ep : Nat → Nat} {L l : List S69} {nx np tot pc : Nat} {s : St} (h : Both Bs ty ep L l nx np tot pc s) (x : S45) (hx : x.f0 = false) (hpc : pc < 1000) (hnp : np ≤ 900) (ht : tot < 2000000) (hB : ∀ q, ∀ y ∈ Bs q, y < 256) :
 ∃ t s' u nx', s.step x = some (t, s') ∧ sbStep l nx x = some (u, L.filter (fresh_ nx'), nx') ∧ Ag t u ∧ Both Bs ty ep L (L.filter (fresh_ nx')) nx' np tot (pc + 1) s' := by
 have hA := h.a
 have hcur := hA.cur
 have hc := h.c
 have hFl : Fits Bs ty ep l := fun p hp => h.f p (by rw [h.l] at hp; exact (List.mem_filter.1 hp).1)
 have hne : ¬ x.f0 = true := by rw [hx]; decide
 unfold St.step sbStep
 rw [if_neg hne, if_neg hne, if_pos (by omega), if_pos (by omega)]
 by_cases hC : HasS L nx ∧ ∀ k, k < (Bs nx).length → CovS L nx k
 ·have hty : ty s.cur < 256 := by
   obtain ⟨p, hp, g1⟩ := hC.1
   obtain ⟨q, o, n, F⟩ := h.f p hp
   have e : q = s.cur := by have := F.fq; omega
   rw [← e]
   exact F.tl
  obtain ⟨h1, s', h2, h3, h4⟩ := hA.pop_yes hpc (by omega) hty hnp ht (by rw [hc]; exact hC.1) (by rw [hc]; exact hC.2)
  have hsb := sbPop_yes hFl nx (by rw [h.l]; exact (has_fresh L nx).2 hC.1) (fun k hk => by rw [h.l]; exact (cov_fresh L nx k).2 (hC.2 k hk)) (hB nx)
  have hrest : restOf (nx : Int) l = L.filter (fresh_ (nx + 1)) := by
   unfold restOf
   rw [h.l, List.filter_filter]
   apply List.filter_congr
   intro p hp
   unfold fresh_
   by_cases h1 : p.f2 = (nx : Int)
   ·simp [h1]
    omega
   ·by_cases h2 : p.f2 < (nx : Int)
    ·simp [h1]
     omega
    ·simp [h1]
     omega
  rw [hc] at h2
  refine ⟨⟨false, false, false, true, natBa (hdr12 (ty nx) (Bs nx).length nx 0 (Bs nx).length ++ Bs nx), (ep nx : Int), s'.sz⟩, s', ⟨false, false, false, true, natBa (hdr12 (ty nx) (Bs nx).length nx 0 (Bs nx).length ++ Bs nx), (ep nx : Int), 0⟩, nx + 1, by rw [h2]; rfl, by rw [hsb, hrest], ⟨rfl, rfl, rfl, rfl, rfl, rfl⟩, ⟨h4, by rw [h3, hc], rfl, h.f, h.n⟩⟩
 ·have h2 := hA.pop_no (by rw [hc]; exact hC)
  have hsb := sbPop_no hFl nx (by rw [h.l]; exact fun ⟨g1, g2⟩ => hC ⟨(has_fresh L nx).1 g1, fun k hk => (cov_fresh L nx k).1 (g2 k hk)⟩)
  refine ⟨⟨false, false, false, false, ⟨#[]⟩, 0, s.sz⟩, s, z40, nx, by rw [h2]; rfl, by rw [hsb, ← h.l], ⟨rfl, rfl, rfl, rfl, rfl, rfl⟩, ⟨⟨hA.old, hA.none_, hA.some_, hA.far, hA.cnt, hA.sz, hA.cb, hA.sb, hA.npb, by omega⟩, hc, rfl, h.f, h.n⟩⟩

inductive Ags : List S40 → List S40 → Prop
 | nil : Ags [] []
 | cons {t u : S40} {ts us : List S40} : Ag t u → Ags ts us → Ags (t :: ts) (u :: us)
/-- A script of such records. -/
inductive GoodXs (Bs : Nat → List Nat) (ty ep : Nat → Nat) : List S45 → List (List S69) → Prop
 | nil : GoodXs Bs ty ep [] []
 | push {x : S45} {ps : List S69} {xs : List S45} {pss : List (List S69)} : x.f0 = true → GoodX Bs ty ep x ps → GoodXs Bs ty ep xs pss → GoodXs Bs ty ep (x :: xs) (ps :: pss)
 | pop {x : S45} {xs : List S45} {pss : List (List S69)} : x.f0 = false → GoodXs Bs ty ep xs pss → GoodXs Bs ty ep (x :: xs) ([] :: pss)
def bytesIn (xs : List S45) : Nat := (xs.map (fun x => if x.f0 = true then x.f1.size else 0)).sum
theorem both_run {Bs : Nat → List Nat} {ty ep : Nat → Nat} (hB : ∀ q, ∀ y ∈ Bs q, y < 256) {xs : List S45} {pss : List (List S69)} (hX : GoodXs Bs ty ep xs pss) : ∀ (L l : List S69) (nx np tot pc : Nat) (s : St), Both Bs ty ep L l nx np tot pc s → np + pss.flatten.length ≤ 800 → tot + bytesIn xs < 1900000 → pc + xs.length ≤ 900 →
 ∃ ts us, St.run s xs = some ts ∧ sbRun l nx xs = some us ∧ Ags ts us := by
 induction hX with
 | nil => intro L l nx np tot pc s h h1 h2 h3; exact ⟨[], [], rfl, rfl, .nil⟩
 | @push x ps xs pss hx hg hX ih =>
   intro L l nx np tot pc s h h1 h2 h3
   rw [List.flatten_cons, List.length_append] at h1
   simp only [bytesIn, List.map_cons, List.sum_cons, if_pos hx, List.length_cons] at h2 h3
   have h2' : tot + x.f1.size + bytesIn xs < 1900000 := by unfold bytesIn; omega
   obtain ⟨t, s', u, e1, e2, e3, e4⟩ := both_push h x ps hx hg (by omega) (by omega) (by omega)
   obtain ⟨ts, us, r1, r2, r3⟩ := ih _ _ _ _ _ _ _ e4 (by omega) h2' (by omega)
   refine ⟨t :: ts, u :: us, ?_, ?_, .cons e3 r3⟩
   ·rw [St.run, e1]
    simp only [Option.bind_some]
    rw [r1]
    rfl
   ·rw [sbRun, e2]
    simp only [Option.bind_some]
    rw [r2]
    rfl
 | @pop x xs pss hx hX ih =>
   intro L l nx np tot pc s h h1 h2 h3
   rw [List.flatten_cons, List.nil_append] at h1
   have hne : ¬ x.f0 = true := by rw [hx]; decide
   simp only [bytesIn, List.map_cons, List.sum_cons, if_neg hne, List.length_cons] at h2 h3
   have h2' : tot + bytesIn xs < 1900000 := by unfold bytesIn; omega
   obtain ⟨t, s', u, nx', e1, e2, e3, e4⟩ := both_pop h x hx (by omega) (by omega) (by omega) hB
   obtain ⟨ts, us, r1, r2, r3⟩ := ih _ _ _ _ _ _ _ e4 h1 h2' (by omega)
   refine ⟨t :: ts, u :: us, ?_, ?_, .cons e3 r3⟩
   ·rw [St.run, e1]
    simp only [Option.bind_some]
    rw [r1]
    rfl
   ·rw [sbRun, e2]
    simp only [Option.bind_some]
    rw [r2]
    rfl
theorem both_new (Bs : Nat → List Nat) (ty ep : Nat → Nat) : Both Bs ty ep [] [] 0 0 0 0 St.new := by
 have h := AInv.new Bs ty ep 65536
 have e1 : CovS [] = (fun _ _ => False) := by funext q k; exact propext ⟨fun ⟨p, hp, _⟩ => by simp at hp, False.elim⟩
 have e2 : HasS [] = (fun _ => False) := by funext q; exact propext ⟨fun ⟨p, hp, _⟩ => by simp at hp, False.elim⟩
 exact ⟨by rw [e1, e2]; exact h, rfl, rfl, fun p hp => by simp at hp, Nat.le_refl _⟩
end Go.Proofs.YtjflijebcpcbmaaDoor.G
