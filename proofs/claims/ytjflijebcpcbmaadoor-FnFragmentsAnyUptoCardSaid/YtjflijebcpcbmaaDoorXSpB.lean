/-
 What is proved: the reference's buffer tells how much of a message is covered, and its first fragment, as the Lean functions say. Conditions: pieces of few bytes.
-/
import Derived.Test.YtjflijebcpcbmaaDoorXS0
import Derived.Test.YtjflijebcpcbmaaDoorXHead
namespace Go.Proofs.YtjflijebcpcbmaaDoor.G
open Go.RowKit Go.Proofs.YtjflijebcpcbmaaDoorW.PrintWords Go.Proofs.YtjflijebcpcbmaaDoorW.PrintLast Go.Proofs.YtjflijebcpcbmaaDoorW.PrintMore
attribute [local go_sem] max2_int min2_int max_two min_two max_three min_three max_four min_four   -- for this text's walks alone
set_option linter.unusedVariables false
set_option linter.unusedSimpArgs false

/-- A piece of a record. -/
def Okp (p : S69) : Prop := 0 ≤ p.f0 ∧ p.f0 < 256 ∧ 0 ≤ p.f1 ∧ p.f1 < 16777216 ∧ 0 ≤ p.f2 ∧ p.f2 < 65536 ∧ 0 ≤ p.f3 ∧ p.f3 < 16777216 ∧ p.f4.size ≤ 2147483647 ∧ 0 ≤ p.f5 ∧ p.f5 < 65536
def covStep (q n : Int) (p : S69) : Int := if p.f2 = q ∧ p.f3 ≤ n then (if n < p.f3 + p.f4.size then p.f3 + p.f4.size else n) else n
def covIn (q : Int) (l : List S69) (n : Int) : Int := l.foldl (covStep q) n
def covIt (q : Int) (l : List S69) : Nat → Int → Int
 | 0, n => n
 | k + 1, n => covIt q l k (covIn q l n)
theorem covIt_out (q : Int) (l : List S69) : ∀ (k : Nat) (n : Int), covIt q l (k + 1) n = covIn q l (covIt q l k n)
 | 0, n => rfl
 | k + 1, n => covIt_out q l k (covIn q l n)
theorem covStep_range {q n : Int} {p : S69} (hp : Okp p) (h0 : 0 ≤ n) (h1 : n ≤ 4294967296) : 0 ≤ covStep q n p ∧ covStep q n p ≤ 4294967296 := by
 obtain ⟨_, _, _, _, _, _, a, b, c, _, _⟩ := hp
 unfold covStep
 split
 ·split
  ·omega
  ·omega
 ·omega
theorem covFold_range {q : Int} : ∀ (l : List S69) (n : Int), (∀ p ∈ l, Okp p) → 0 ≤ n → n ≤ 4294967296 → 0 ≤ l.foldl (covStep q) n ∧ l.foldl (covStep q) n ≤ 4294967296
 | [], n, _, h0, h1 => ⟨h0, h1⟩
 | p :: l, n, hp, h0, h1 => by
   have := covStep_range (q := q) (hp p (by simp)) h0 h1
   exact covFold_range l _ (fun x hx => hp x (by simp [hx])) this.1 this.2
theorem covIt_range {q : Int} {l : List S69} (hp : ∀ p ∈ l, Okp p) : ∀ (k : Nat) (n : Int), 0 ≤ n → n ≤ 4294967296 → 0 ≤ covIt q l k n ∧ covIt q l k n ≤ 4294967296
 | 0, n, h0, h1 => ⟨h0, h1⟩
 | k + 1, n, h0, h1 => by
   have := covFold_range (q := q) l n hp h0 h1
   exact covIt_range hp k _ this.1 this.2
theorem take_fold (q : Int) (l : List S69) (i : Nat) (h : i < l.length) (n : Int) : (l.take (i + 1)).foldl (covStep q) n = covStep q ((l.take i).foldl (covStep q) n) l[i] := by
 rw [List.take_succ_eq_append_getElem h, List.foldl_append]
 rfl
theorem rd69_at (l : List S69) (i : Nat) (h : i < l.length) : rd_T69 l (i : Int) = l[i] := by
 simp [rd_T69, List.getD_eq_getElem?_getD, List.getElem?_eq_getElem h]

/-- The cells of element i. -/
def At69 (w : World) (ad : Addr) (i : Nat) (x : S69) : Prop := w.cell? (ad.add (i * 6)) = some (.int .u8 x.f0) ∧ w.cell? ⟨(ad.add (i * 6)).block, (ad.add (i * 6)).off + 1, none⟩ = some (.int .i64 x.f1) ∧ w.cell? ⟨(ad.add (i * 6)).block, (ad.add (i * 6)).off + 2, none⟩ = some (.int .i64 x.f2) ∧ w.cell? ⟨(ad.add (i * 6)).block, (ad.add (i * 6)).off + 3, none⟩ = some (.int .i64 x.f3) ∧ w.cell? ⟨(ad.add (i * 6)).block, (ad.add (i * 6)).off + 4, none⟩ = some (.string x.f4) ∧ w.cell? ⟨(ad.add (i * 6)).block, (ad.add (i * 6)).off + 5, none⟩ = some (.int .u16 x.f5)
theorem at69 {w : World} {A : Option Addr} {l : List S69} (hC : Kd.C k69 w A l.length l) (i : Nat) (hi : i < l.length) : ∃ ad, A = some ad ∧ At69 w ad i l[i] := by
 obtain ⟨ad, e, h0, h1, h2, h3, h4, h5⟩ := at_T69 hC (i : Int) (by omega) (by omega)
 rw [rd69_at l i hi, Int.toNat_natCast] at h0 h1 h2 h3 h4 h5
 exact ⟨ad, e, h0, h1, h2, h3, h4, h5⟩
theorem At69.below {w w' : World} {ad : Addr} {i : Nat} {x : S69} (h : At69 w ad i x) (hb : Below w.heap.size w w') : At69 w' ad i x := by
 obtain ⟨h0, h1, h2, h3, h4, h5⟩ := h
 exact ⟨(hb.cell (World.block_lt_of_cell? w _ h0)).trans h0, (hb.cell (World.block_lt_of_cell? w _ h1)).trans h1, (hb.cell (World.block_lt_of_cell? w _ h2)).trans h2, (hb.cell (World.block_lt_of_cell? w _ h3)).trans h3, (hb.cell (World.block_lt_of_cell? w _ h4)).trans h4, (hb.cell (World.block_lt_of_cell? w _ h5)).trans h5⟩

set_option maxHeartbeats 8000000 in
set_option maxRecDepth 100000 in
theorem covered_calls (g c : Nat) (A : Option Addr) (l : List S69) (nx q : Int) (w : World) (hg : w.heap[g]? = some (.cells #[.slice A l.length c, .int .i64 nx] 73 (0, 0))) (hC : Kd.C k69 w A l.length l) (hp : ∀ p ∈ l, Okp p) (hl : l.length < 1000000) :
 Calls Tryd.prog 41 #[.pointer (some ⟨g, 0, none⟩), .int .i64 q] w fun e w' => e = .returned (.int .i64 (covIt q l l.length 0)) ∧ Below w.heap.size w w' := by
 have HG := Aside0.mk hg
 have HC := Aside0.mk hC
 have HP := Aside0.mk hp
 have HL := Aside0.mk hl
 obtain ⟨m, hm⟩ : ∃ m, m = l.length := ⟨_, rfl⟩
 have HG0 : Aside0 (∀ W, Below w.heap.size w W → W.cell? ⟨g, 0, none⟩ = some (.slice A m c)) := ⟨fun W hb => by rw [blk_cell ((hb.block g (blk_lt hg)).trans hg), hm]; rfl⟩
 have HA0 : Aside0 (∀ W, Below w.heap.size w W → ∀ (i : Nat) (hi : i < l.length), ∃ ad, A = some ad ∧ At69 W ad i l[i]) := ⟨fun W hb i hi => by
  obtain ⟨ad, e, h⟩ := at69 hC i hi
  exact ⟨ad, e, h.below hb⟩⟩
 have HM := Aside0.mk hm
 clear hg hC hp hl hm
 go_enter Tryd.func41, Tryd.ntmps41
 go_wp2_with (fail)
 go_loopg [5, 6] m (fun kq v5 v6 wr => ∃ k : Nat, v5 = .int .i64 (covIt q l k 0) ∧ v6 = .int .i64 (k : Int) ∧ Aside0 (kq = m - k) ∧ Aside0 (k ≤ m) ∧ Aside0 (Below w.heap.size w wr))
 case atStart => exact ⟨0, rfl, rfl, ⟨rfl⟩, ⟨Nat.zero_le _⟩, ⟨Below.refl _ _⟩⟩
 case round =>
  obtain ⟨k, rfl, rfl, HK, HKM, HB⟩ := hrel
  have c0 := HG0.out _ HB.out
  obtain ⟨n0, hn0⟩ : ∃ n, n = covIt q l k 0 := ⟨_, rfl⟩
  rw [← hn0]
  have HN0 := Aside0.mk hn0
  clear hn0
  by_cases hk : k < m
  ·have hk1 : (k : Int) < (m : Int) := by omega
   go_wp2_with (fail)
   go_loopg [5, 7] m (fun kq v5 v7 w2 => ∃ i : Nat, v5 = .int .i64 ((l.take i).foldl (covStep q) n0) ∧ v7 = .int .i64 (i : Int) ∧ Aside0 (kq = m - i) ∧ Aside0 (i ≤ m) ∧ Aside0 (Below w.heap.size w w2))
   case atStart => exact ⟨0, rfl, rfl, ⟨rfl⟩, ⟨Nat.zero_le _⟩, HB⟩
   case round =>
    obtain ⟨i, rfl, rfl, HI, HIM, HB2⟩ := hrel
    clear c0
    have c0 := HG0.out _ HB2.out
    obtain ⟨n1, hn1⟩ : ∃ n, n = (l.take i).foldl (covStep q) n0 := ⟨_, rfl⟩
    rw [← hn1]
    by_cases hi : i < m
    ·have hi1 : (i : Int) < (m : Int) := by omega
     have hil : i < l.length := by rw [← HM.out]; exact hi
     obtain ⟨ad, rfl, a0, a1, a2, a3, a4, a5⟩ := HA0.out _ HB2.out i hil
     have hok := HP.out l[i] (List.getElem_mem _)
     have hfold := take_fold q l i hil n0
     rw [← hn1] at hfold
     obtain ⟨x, hx⟩ : ∃ x, x = l[i] := ⟨_, rfl⟩
     rw [← hx] at a0 a1 a2 a3 a4 a5 hok hfold
     have HF := Aside0.mk hfold
     have HOK := Aside0.mk hok
     have HN1 : Aside0 (0 ≤ n1 ∧ n1 ≤ 4294967296) := ⟨by
      rw [hn1]
      have h1 := covIt_range (q := q) HP.out k 0 (by omega) (by omega)
      rw [← HN0.out] at h1
      exact covFold_range _ _ (fun p hp => HP.out p (List.mem_of_mem_take hp)) h1.1 h1.2⟩
     clear hfold hok hx hn1
     go_upto_region 9 with (fail)
     obtain ⟨W1, hW1⟩ : ∃ W, W = wr.alloc (.cells #[.int .u8 x.f0, .int .i64 x.f1, .int .i64 x.f2, .int .i64 x.f3, .string x.f4, .int .u16 x.f5] 69) := ⟨_, rfl⟩
     rw [← hW1]
     have p1 : W1.heap[wr.heap.size]? = some (.cells #[.int .u8 x.f0, .int .i64 x.f1, .int .i64 x.f2, .int .i64 x.f3, .string x.f4, .int .u16 x.f5] 69 (0, 0)) := by rw [hW1]; exact heap_alloc_new _ _
     have b2 : W1.cell? ⟨wr.heap.size, 2, none⟩ = some (.int .i64 x.f2) := by rw [blk_cell p1]; rfl
     have b3 : W1.cell? ⟨wr.heap.size, 3, none⟩ = some (.int .i64 x.f3) := by rw [blk_cell p1]; rfl
     have b4 : W1.cell? ⟨wr.heap.size, 4, none⟩ = some (.string x.f4) := by rw [blk_cell p1]; rfl
     have HB3 : Aside0 (Below w.heap.size w W1) := ⟨below_then HB2.out HB2.out.size (by rw [hW1]; exact (Below.refl _ _).alloc (Nat.le_refl _) _)⟩
     have hwi : wrap64 ((i : Int) + 1) = ((i + 1 : Nat) : Int) := by unfold wrap64; have := HIM.out; have := HM.out; have := HL.out; omega
     clear a0 a1 a2 a3 a4 a5 p1 hW1 c0
     by_cases e1 : x.f2 = q
     ·have e1b : (x.f2 == q) = true := beq_iff_eq.mpr e1
      by_cases e2 : x.f3 ≤ n1
      ·have hws : wrap64 (x.f3 + (x.f4.size : Int)) = x.f3 + (x.f4.size : Int) := by
        obtain ⟨_, _, _, _, _, _, z1, z2, z3, _, _⟩ := HOK.out
        unfold wrap64
        omega
       by_cases e3 : n1 < x.f3 + (x.f4.size : Int)
       ·go_wp2
        go_roundg (m - (i + 1))
        case measure => have := HI.out; omega
        case rel =>
         refine ⟨i + 1, ?_, ?_, ⟨rfl⟩, ⟨hi⟩, HB3⟩
         ·rw [HF.out]
          unfold covStep
          rw [if_pos ⟨e1, e2⟩, if_pos e3]
         ·exact congrArg (Value.int .i64) (by first | exact hwi | omega)
       ·go_wp2
        go_roundg (m - (i + 1))
        case measure => have := HI.out; omega
        case rel =>
         refine ⟨i + 1, ?_, ?_, ⟨rfl⟩, ⟨hi⟩, HB3⟩
         ·rw [HF.out]
          unfold covStep
          rw [if_pos ⟨e1, e2⟩, if_neg (by omega)]
         ·exact congrArg (Value.int .i64) (by first | exact hwi | omega)
      ·go_wp2
       go_roundg (m - (i + 1))
       case measure => have := HI.out; omega
       case rel =>
        refine ⟨i + 1, ?_, ?_, ⟨rfl⟩, ⟨hi⟩, HB3⟩
        ·rw [HF.out]
         unfold covStep
         rw [if_neg (fun h => by have := h.2; omega)]
        ·exact congrArg (Value.int .i64) (by first | exact hwi | omega)
     ·have e1b : (x.f2 == q) = false := beq_eq_false_iff_ne.mpr e1
      go_wp2
      go_roundg (m - (i + 1))
      case measure => have := HI.out; omega
      case rel =>
       refine ⟨i + 1, ?_, ?_, ⟨rfl⟩, ⟨hi⟩, HB3⟩
       ·rw [HF.out]
        unfold covStep
        rw [if_neg (fun h => e1 h.1)]
       ·exact congrArg (Value.int .i64) (by first | exact hwi | omega)
    ·have hi1 : ¬ (i : Int) < (m : Int) := by omega
     have hik : i = m := by have := HIM.out; omega
     have hwk : wrap64 ((k : Int) + 1) = ((k + 1 : Nat) : Int) := by unfold wrap64; have := HKM.out; have := HM.out; have := HL.out; omega
     have hfin : n1 = covIt q l (k + 1) 0 := by
      rw [covIt_out, ← HN0.out, hn1, hik, HM.out, List.take_length]
      rfl
     clear hn1
     go_wp2_with (fail)
     go_roundg (m - (k + 1))
     case measure => have := HK.out; omega
     case rel => exact ⟨k + 1, congrArg (Value.int .i64) (by first | exact hfin | rfl), congrArg (Value.int .i64) (by first | exact hwk | omega), ⟨rfl⟩, ⟨hk⟩, HB2⟩
  ·have hk1 : ¬ (k : Int) < (m : Int) := by omega
   have hkm : k = l.length := by have := HKM.out; have := HM.out; omega
   go_wp2
   go_ret
   exact ⟨by rw [← hkm, ← HN0.out]; rfl, HB.out⟩

theorem bset {B : Nat} {w W : World} (h : Below B w W) {P : Nat} (hP : B ≤ P) (j : Nat) (v : Value) : Below B w (W.setCell ⟨P, j, none⟩ v) :=
 ⟨h.os, h.tape, h.output, by have := h.size; simpa [World.setCell] using this, fun k hk => (Below.heap_setCell W ⟨P, j, none⟩ v k (by simp only; omega)).trans (h.block k hk)⟩
def agg69 (x : S69) : Value := .agg #[.int .u8 x.f0, .int .i64 x.f1, .int .i64 x.f2, .int .i64 x.f3, .string x.f4, .int .u16 x.f5]
def isStart (q : Int) (p : S69) : Bool := decide (p.f2 = q) && decide (p.f3 = 0)
def startOf (q : Int) (l : List S69) : Option S69 := l.find? (isStart q)
theorem start_here (q : Int) (l : List S69) (i : Nat) (h : i < l.length) (hn : (l.take i).find? (isStart q) = none) (h1 : l[i].f2 = q) (h2 : l[i].f3 = 0) : startOf q l = some l[i] := by
 have e : startOf q l = (l.take i ++ l[i] :: l.drop (i + 1)).find? (isStart q) := by
  rw [← List.drop_eq_getElem_cons h, List.take_append_drop]
  rfl
 have hs : isStart q l[i] = true := by simp [isStart, h1, h2]
 rw [e, List.find?_append, hn, List.find?_cons, hs]
 rfl
theorem start_next (q : Int) (l : List S69) (i : Nat) (h : i < l.length) (hn : (l.take i).find? (isStart q) = none) (h1 : ¬ (l[i].f2 = q ∧ l[i].f3 = 0)) : (l.take (i + 1)).find? (isStart q) = none := by
 have hs : isStart q l[i] = false := by
  cases hh : isStart q l[i]
  ·rfl
  ·exact absurd (by simpa [isStart] using hh) h1
 rw [List.take_succ_eq_append_getElem h, List.find?_append, hn, List.find?_cons, hs]
 rfl
def c69 (x : S69) : Array Value := #[.int .u8 x.f0, .int .i64 x.f1, .int .i64 x.f2, .int .i64 x.f3, .string x.f4, .int .u16 x.f5]

set_option maxHeartbeats 8000000 in
set_option maxRecDepth 100000 in
theorem start_calls (g c : Nat) (A : Option Addr) (l : List S69) (nx q : Int) (w : World) (hg : w.heap[g]? = some (.cells #[.slice A l.length c, .int .i64 nx] 73 (0, 0))) (hC : Kd.C k69 w A l.length l) (hl : l.length < 1000000) :
 Calls Tryd.prog 40 #[.pointer (some ⟨g, 0, none⟩), .int .i64 q] w fun e w' => e = .returned (.tuple #[agg69 ((startOf q l).getD z69), .bool (startOf q l).isSome]) ∧ Below w.heap.size w w' := by
 have HL := Aside0.mk hl
 obtain ⟨m, hm⟩ : ∃ m, m = l.length := ⟨_, rfl⟩
 have HG0 : Aside0 (∀ W, Below w.heap.size w W → W.cell? ⟨g, 0, none⟩ = some (.slice A m c)) := ⟨fun W hb => by rw [blk_cell ((hb.block g (blk_lt hg)).trans hg), hm]; rfl⟩
 have HA0 : Aside0 (∀ W, Below w.heap.size w W → ∀ (i : Nat) (hi : i < l.length), ∃ ad, A = some ad ∧ At69 W ad i l[i]) := ⟨fun W hb i hi => by
  obtain ⟨ad, e, h⟩ := at69 hC i hi
  exact ⟨ad, e, h.below hb⟩⟩
 have HM := Aside0.mk hm
 clear hg hC hl hm
 go_enter Tryd.func40, Tryd.ntmps40
 go_wp2_with (fail)
 go_loopg [6] m (fun kq v6 wr => ∃ i : Nat, v6 = .int .i64 (i : Int) ∧ Aside0 (kq = m - i) ∧ Aside0 (i ≤ m) ∧ Aside0 (Below w.heap.size w wr) ∧ Aside0 ((l.take i).find? (isStart q) = none) ∧ Aside0 (wr.heap[w.heap.size]? = some (.cells (c69 z69) 69 (0, 0))))
 case atStart => exact ⟨0, rfl, ⟨rfl⟩, ⟨Nat.zero_le _⟩, ⟨(Below.refl _ _).alloc (Nat.le_refl _) _⟩, ⟨rfl⟩, ⟨heap_alloc_new _ _⟩⟩
 case round =>
  obtain ⟨i, rfl, HI, HIM, HB, HNO, HZ⟩ := hrel
  have c0 := HG0.out _ HB.out
  by_cases hi : i < m
  ·have hi1 : (i : Int) < (m : Int) := by omega
   have hil : i < l.length := by rw [← HM.out]; exact hi
   obtain ⟨ad, rfl, a0, a1, a2, a3, a4, a5⟩ := HA0.out _ HB.out i hil
   have HH : Aside0 (l[i].f2 = q → l[i].f3 = 0 → startOf q l = some l[i]) := ⟨start_here q l i hil HNO.out⟩
   have HX : Aside0 (¬ (l[i].f2 = q ∧ l[i].f3 = 0) → (l.take (i + 1)).find? (isStart q) = none) := ⟨start_next q l i hil HNO.out⟩
   obtain ⟨x, hx⟩ : ∃ x, x = l[i] := ⟨_, rfl⟩
   rw [← hx] at a0 a1 a2 a3 a4 a5 HH HX
   have hwi : wrap64 ((i : Int) + 1) = ((i + 1 : Nat) : Int) := by unfold wrap64; have := HIM.out; have := HM.out; have := HL.out; omega
   clear hx
   by_cases e1 : x.f2 = q
   ·have e1b : (x.f2 == q) = true := beq_iff_eq.mpr e1
    by_cases e2 : x.f3 = 0
    ·have e2b : (x.f3 == 0) = true := beq_iff_eq.mpr e2
     have zc0 : wr.cell? ⟨w.heap.size, 0, none⟩ = some (.int .u8 0) := by rw [blk_cell HZ.out]; rfl
     have zf0 := blk_frozen HZ.out 0
     have zc1 : wr.cell? ⟨w.heap.size, 1, none⟩ = some (.int .i64 0) := by rw [blk_cell HZ.out]; rfl
     have zf1 := blk_frozen HZ.out 1
     have zc2 : wr.cell? ⟨w.heap.size, 2, none⟩ = some (.int .i64 0) := by rw [blk_cell HZ.out]; rfl
     have zf2 := blk_frozen HZ.out 2
     have zc3 : wr.cell? ⟨w.heap.size, 3, none⟩ = some (.int .i64 0) := by rw [blk_cell HZ.out]; rfl
     have zf3 := blk_frozen HZ.out 3
     have zc4 : wr.cell? ⟨w.heap.size, 4, none⟩ = some (.string ⟨#[]⟩) := by rw [blk_cell HZ.out]; rfl
     have zf4 := blk_frozen HZ.out 4
     have zc5 : wr.cell? ⟨w.heap.size, 5, none⟩ = some (.int .u16 0) := by rw [blk_cell HZ.out]; rfl
     have zf5 := blk_frozen HZ.out 5
     go_wp2
     obtain ⟨W2, hW2⟩ : ∃ W, W = ((((((wr.setCell ⟨w.heap.size, 0, none⟩ (.int .u8 x.f0)).setCell ⟨w.heap.size, 1, none⟩ (.int .i64 x.f1)).setCell ⟨w.heap.size, 2, none⟩ (.int .i64 q)).setCell ⟨w.heap.size, 3, none⟩ (.int .i64 0)).setCell ⟨w.heap.size, 4, none⟩ (.string x.f4)).setCell ⟨w.heap.size, 5, none⟩ (.int .u16 x.f5)) := ⟨_, rfl⟩
     rw [← hW2]
     have p2 : W2.heap[w.heap.size]? = some (.cells #[.int .u8 x.f0, .int .i64 x.f1, .int .i64 x.f2, .int .i64 x.f3, .string x.f4, .int .u16 x.f5] 69 (0, 0)) := by
      rw [hW2, blk_set (blk_set (blk_set (blk_set (blk_set (blk_set HZ.out 0 _) 1 _) 2 _) 3 _) 4 _) 5 _]
      simp [c69, z69, e1, e2]
     have hb2 : Below w.heap.size w W2 := by
      rw [hW2]
      exact bset (bset (bset (bset (bset (bset HB.out (Nat.le_refl _) 0 _) (Nat.le_refl _) 1 _) (Nat.le_refl _) 2 _) (Nat.le_refl _) 3 _) (Nat.le_refl _) 4 _) (Nat.le_refl _) 5 _
     have y0 : W2.cell? ⟨w.heap.size, 0, none⟩ = some (.int .u8 x.f0) := by rw [blk_cell p2]; rfl
     have y1 : W2.cell? ⟨w.heap.size, 1, none⟩ = some (.int .i64 x.f1) := by rw [blk_cell p2]; rfl
     have y2 : W2.cell? ⟨w.heap.size, 2, none⟩ = some (.int .i64 x.f2) := by rw [blk_cell p2]; rfl
     have y3 : W2.cell? ⟨w.heap.size, 3, none⟩ = some (.int .i64 x.f3) := by rw [blk_cell p2]; rfl
     have y4 : W2.cell? ⟨w.heap.size, 4, none⟩ = some (.string x.f4) := by rw [blk_cell p2]; rfl
     have y5 : W2.cell? ⟨w.heap.size, 5, none⟩ = some (.int .u16 x.f5) := by rw [blk_cell p2]; rfl
     have hh := HH.out e1 e2
     exact bodyPost_ret (v := .tuple #[agg69 x, .bool true]) (by simp [results, Tryd.results40, go_sem, y0, y1, y2, y3, y4, y5, agg69]) rfl ⟨by rw [hh]; rfl, hb2⟩
    ·have e2b : (x.f3 == 0) = false := beq_eq_false_iff_ne.mpr e2
     go_wp2
     go_roundg (m - (i + 1))
     case measure => have := HI.out; omega
     case rel => exact ⟨i + 1, congrArg (Value.int .i64) (by first | exact hwi | omega), ⟨rfl⟩, ⟨hi⟩, HB, ⟨HX.out (fun h => e2 h.2)⟩, HZ⟩
   ·have e1b : (x.f2 == q) = false := beq_eq_false_iff_ne.mpr e1
    go_wp2
    go_roundg (m - (i + 1))
    case measure => have := HI.out; omega
    case rel => exact ⟨i + 1, congrArg (Value.int .i64) (by first | exact hwi | omega), ⟨rfl⟩, ⟨hi⟩, HB, ⟨HX.out (fun h => e1 h.1)⟩, HZ⟩
  ·have hi1 : ¬ (i : Int) < (m : Int) := by omega
   have zc0 : wr.cell? ⟨w.heap.size, 0, none⟩ = some (.int .u8 0) := by rw [blk_cell HZ.out]; rfl
   have zf0 := blk_frozen HZ.out 0
   have zc1 : wr.cell? ⟨w.heap.size, 1, none⟩ = some (.int .i64 0) := by rw [blk_cell HZ.out]; rfl
   have zf1 := blk_frozen HZ.out 1
   have zc2 : wr.cell? ⟨w.heap.size, 2, none⟩ = some (.int .i64 0) := by rw [blk_cell HZ.out]; rfl
   have zf2 := blk_frozen HZ.out 2
   have zc3 : wr.cell? ⟨w.heap.size, 3, none⟩ = some (.int .i64 0) := by rw [blk_cell HZ.out]; rfl
   have zf3 := blk_frozen HZ.out 3
   have zc4 : wr.cell? ⟨w.heap.size, 4, none⟩ = some (.string ⟨#[]⟩) := by rw [blk_cell HZ.out]; rfl
   have zf4 := blk_frozen HZ.out 4
   have zc5 : wr.cell? ⟨w.heap.size, 5, none⟩ = some (.int .u16 0) := by rw [blk_cell HZ.out]; rfl
   have zf5 := blk_frozen HZ.out 5
   go_wp2
   obtain ⟨W2, hW2⟩ : ∃ W, W = ((((((wr.setCell ⟨w.heap.size, 0, none⟩ (.int .u8 0)).setCell ⟨w.heap.size, 1, none⟩ (.int .i64 0)).setCell ⟨w.heap.size, 2, none⟩ (.int .i64 0)).setCell ⟨w.heap.size, 3, none⟩ (.int .i64 0)).setCell ⟨w.heap.size, 4, none⟩ (.string ⟨#[]⟩)).setCell ⟨w.heap.size, 5, none⟩ (.int .u16 0)) := ⟨_, rfl⟩
   rw [← hW2]
   have p2 : W2.heap[w.heap.size]? = some (.cells #[.int .u8 0, .int .i64 0, .int .i64 0, .int .i64 0, .string ⟨#[]⟩, .int .u16 0] 69 (0, 0)) := by
    rw [hW2, blk_set (blk_set (blk_set (blk_set (blk_set (blk_set HZ.out 0 _) 1 _) 2 _) 3 _) 4 _) 5 _]
    rfl
   have hb2 : Below w.heap.size w W2 := by
    rw [hW2]
    exact bset (bset (bset (bset (bset (bset HB.out (Nat.le_refl _) 0 _) (Nat.le_refl _) 1 _) (Nat.le_refl _) 2 _) (Nat.le_refl _) 3 _) (Nat.le_refl _) 4 _) (Nat.le_refl _) 5 _
   have y0 : W2.cell? ⟨w.heap.size, 0, none⟩ = some (.int .u8 0) := by rw [blk_cell p2]; rfl
   have y1 : W2.cell? ⟨w.heap.size, 1, none⟩ = some (.int .i64 0) := by rw [blk_cell p2]; rfl
   have y2 : W2.cell? ⟨w.heap.size, 2, none⟩ = some (.int .i64 0) := by rw [blk_cell p2]; rfl
   have y3 : W2.cell? ⟨w.heap.size, 3, none⟩ = some (.int .i64 0) := by rw [blk_cell p2]; rfl
   have y4 : W2.cell? ⟨w.heap.size, 4, none⟩ = some (.string ⟨#[]⟩) := by rw [blk_cell p2]; rfl
   have y5 : W2.cell? ⟨w.heap.size, 5, none⟩ = some (.int .u16 0) := by rw [blk_cell p2]; rfl
   have hh : startOf q l = none := by
    have := HNO.out
    rw [List.take_of_length_le (by have := HIM.out; have := HM.out; omega)] at this
    exact this
   exact bodyPost_ret (v := .tuple #[agg69 z69, .bool false]) (by simp [results, Tryd.results40, go_sem, y0, y1, y2, y3, y4, y5, agg69, z69]) rfl ⟨by rw [hh]; rfl, hb2⟩
end Go.Proofs.YtjflijebcpcbmaaDoor.G
