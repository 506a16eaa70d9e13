/-
 What is proved: the reference's pieces of a record are read as the Lean function spec_pieces.f says. Conditions: records of at most 2147483647 bytes.
-/
import Derived.Test.YtjflijebcpcbmaaDoorXS0
import Derived.Test.YtjflijebcpcbmaaDoorXHead
namespace Go.Proofs.YtjflijebcpcbmaaDoor.G
open Go.RowKit Go.Proofs.YtjflijebcpcbmaaDoorW.PrintWords Go.Proofs.YtjflijebcpcbmaaDoorW.PrintLast Go.Proofs.YtjflijebcpcbmaaDoorW.PrintMore
set_option linter.unusedVariables false
set_option linter.unusedSimpArgs false

/-- The reader in block b: what is left, and whether bytes lacked. -/
def Rd (w : World) (b : Nat) (x : ByteArray) (bad : Bool) : Prop := w.heap[b]? = some (.cells #[.string x, .bool bad] 79 (0, 0))

set_option maxHeartbeats 4000000 in
set_option maxRecDepth 100000 in
theorem take_calls (b : Nat) (x : ByteArray) (bad : Bool) (n : Nat) (w : World) (h : Rd w b x bad) (hx : x.size ≤ 2147483647) (hn : n ≤ 16777216) :
 Calls Tryd.prog 38 #[.pointer (some ⟨b, 0, none⟩), .int .i64 (n : Int)] w fun e w' => e = .returned (.string (x.extract 0 (min n x.size))) ∧ Rd w' b (x.extract (min n x.size) x.size) (bad || decide (x.size < n)) ∧ w.grownBy w' (some b) := by
 have c0 : w.cell? ⟨b, 0, none⟩ = some (.string x) := by rw [blk_cell h]; rfl
 have c1 : w.cell? ⟨b, 1, none⟩ = some (.bool bad) := by rw [blk_cell h]; rfl
 have f0 := blk_frozen h 0
 have f1 := blk_frozen h 1
 have H := Aside0.mk h
 clear h
 by_cases hc : x.size < n
 ·have hc1 : (n : Int) > (x.size : Int) := by omega
  have hm : min n x.size = x.size := by omega
  go_enter Tryd.func38, Tryd.ntmps38
  go_wp2
  go_ret
  refine ⟨?_, ?_, gset (gset (World.grownBy.refl w (some b)) 1 (.bool true)) 0 _⟩
  ·rw [hm, ByteArray.extract_zero_size]
   rfl
  ·unfold Rd
   rw [blk_set (blk_set H.out 1 _) 0 _, hm, decide_eq_true hc, Bool.or_true]
   rw [show x.extract x.size x.size = ByteArray.empty by simp]
   rfl
 ·have hc1 : ¬ ((n : Int) > (x.size : Int)) := by omega
  go_enter Tryd.func38, Tryd.ntmps38
  go_wp2
  go_ret
  rw [show min n x.size = n by omega]
  refine ⟨rfl, ?_, gset (World.grownBy.refl w (some b)) 0 _⟩
  unfold Rd
  rw [blk_set H.out 0 _]
  simp [hc]

def baN (s : ByteArray) : List Nat := s.data.toList.map UInt8.toNat
/-- The number that these bytes write. -/
def numBa (x : ByteArray) (k : Nat) : Nat := ((baN x).take k).foldl (fun v y => v * 256 + y) 0
theorem i64_or_nat (a b : Nat) (ha : a < 9223372036854775808) (hb : b < 9223372036854775808) : bits .or .i64 (a : Int) (b : Int) = ((a ||| b : Nat) : Int) := by
 have hx : a ||| b < 2 ^ 63 := Nat.or_lt_two_pow (by omega) (by omega)
 show IntKind.i64.wrap ((BitVec.ofInt 64 (a : Int) ||| BitVec.ofInt 64 (b : Int)).toNat : Int) = _
 rw [BitVec.toNat_or, ofInt_u64 a (by omega), ofInt_u64 b (by omega), IntKind.wrap_i64]
 omega
theorem or_shl (v y : Nat) (hv : v < 65536) (hy : y < 256) : bits .or .i64 ((v : Int) * 256) (y : Int) = ((v * 256 + y : Nat) : Int) := by
 rw [show (v : Int) * 256 = ((v * 256 : Nat) : Int) by omega, i64_or_nat (v * 256) y (by omega) (by omega), Nat.or_comm, show v * 256 = v * 2 ^ 8 by omega, or_add 8 v y (by omega)]
theorem baN_at (x : ByteArray) (k : Nat) (h : k < x.size) (hl : k < (baN x).length) : (baN x)[k] = (x[k]'h).toNat := by
 have hl2 : k < x.data.toList.length := by rw [Array.length_toList]; exact h
 have e : (baN x)[k] = (x.data.toList[k]'hl2).toNat := List.getElem_map _
 rw [e, Array.getElem_toList]
 rfl
theorem numBa_zero (x : ByteArray) : numBa x 0 = 0 := rfl
theorem numBa_succ (x : ByteArray) (k : Nat) (h : k < x.size) : numBa x (k + 1) = numBa x k * 256 + (x[k]'h).toNat := by
 unfold numBa
 have hl : k < (baN x).length := by unfold baN; rw [List.length_map, Array.length_toList]; exact h
 rw [List.take_succ_eq_append_getElem hl, List.foldl_append]
 simp only [List.foldl_cons, List.foldl_nil]
 rw [baN_at x k h hl]
theorem numBa_lt (x : ByteArray) : ∀ k, numBa x k < 256 ^ k
 | 0 => by rw [numBa_zero]; decide
 | k + 1 => by
   have ih := numBa_lt x k
   by_cases h : k < x.size
   ·rw [numBa_succ x k h, Nat.pow_succ]
    have := (x[k]'h).toNat_lt
    omega
   ·have : numBa x (k + 1) = numBa x k := by
     unfold numBa
     rw [List.take_of_length_le (by unfold baN; rw [List.length_map, Array.length_toList]; exact Nat.le_succ_of_le (Nat.le_of_not_lt h)), List.take_of_length_le (by unfold baN; rw [List.length_map, Array.length_toList]; exact Nat.le_of_not_lt h)]
    rw [this, Nat.pow_succ]
    omega
theorem numBa_all (x : ByteArray) (k : Nat) (h : x.size ≤ k) : numBa x x.size = numBa x k := by
 have hl : (baN x).length = x.size := by unfold baN; rw [List.length_map, Array.length_toList]; rfl
 unfold numBa
 rw [List.take_of_length_le (by omega), List.take_of_length_le (by omega)]
set_option maxHeartbeats 4000000 in
set_option maxRecDepth 100000 in
theorem number_calls (b : Nat) (x : ByteArray) (bad : Bool) (n : Nat) (w : World) (h : Rd w b x bad) (hx : x.size ≤ 2147483647) (hn : n ≤ 3) :
 Calls Tryd.prog 39 #[.pointer (some ⟨b, 0, none⟩), .int .i64 (n : Int)] w fun e w' => e = .returned (.int .i64 (numBa (x.extract 0 (min n x.size)) 3 : Nat)) ∧ Rd w' b (x.extract (min n x.size) x.size) (bad || decide (x.size < n)) ∧ w.grownBy w' (some b) := by
 have HT := Aside0.mk (take_calls b x bad n w h hx (by omega))
 go_enter Tryd.func39, Tryd.ntmps39
 go_wp2_with (fail)
 refine (HT.out).mono ?_
 rintro e w1 ⟨rfl, h1, h2⟩
 have H1 := Aside0.mk h1
 have H2 := Aside0.mk h2
 obtain ⟨s, hs⟩ : ∃ s, s = x.extract 0 (min n x.size) := ⟨_, rfl⟩
 have hsz : s.size ≤ 3 := by rw [hs, ByteArray.size_extract]; omega
 have HSZ := Aside0.mk hsz
 rw [← hs]
 have HS := Aside0.mk hs
 clear h1 h2 hs HT hsz
 go_wp2_with (fail)
 go_loopg [6, 7] s.size (fun kq v6 v7 wr => ∃ i : Nat, v6 = .int .i64 ((numBa s i : Nat) : Int) ∧ v7 = .int .i64 (i : Int) ∧ Aside0 (kq = s.size - i) ∧ Aside0 (i ≤ s.size) ∧ Aside0 (Below w1.heap.size w1 wr))
 case atStart => exact ⟨0, rfl, rfl, ⟨rfl⟩, ⟨Nat.zero_le _⟩, ⟨Below.refl _ _⟩⟩
 case round =>
  obtain ⟨i, rfl, rfl, HK, HI, HB⟩ := hrel
  by_cases hi : i < s.size
  ·have hi1 : (i : Int) < (s.size : Int) := by omega
   have hlt := numBa_lt s i
   have hlt2 : numBa s i < 65536 := Nat.lt_of_lt_of_le hlt (by have := HSZ.out; have : 256 ^ i ≤ 256 ^ 2 := Nat.pow_le_pow_right (by decide) (by omega); omega)
   have hor := or_shl (numBa s i) (s[i]'hi).toNat hlt2 ((s[i]'hi).toNat_lt)
   have hsucc := numBa_succ s i hi
   have hwr : wrap64 ((numBa s i : Int) * 256) = (numBa s i : Int) * 256 := by unfold wrap64; omega
   have hwi : wrap64 ((i : Int) + 1) = ((i + 1 : Nat) : Int) := by unfold wrap64; have := HSZ.out; omega
   have hwb : wrap64 ((s[i]'hi).toNat : Int) = ((s[i]'hi).toNat : Int) := by unfold wrap64; have := (s[i]'hi).toNat_lt; omega
   clear hlt
   go_wp2
   go_roundg (s.size - (i + 1))
   case measure => have := HK.out; omega
   case rel =>
    refine ⟨i + 1, ?_, ?_, ⟨rfl⟩, ⟨hi⟩, ⟨HB.out⟩⟩
    ·rw [hsucc]
     exact congrArg (Value.int .i64) (by omega)
    ·rw [hwi]
  ·have hi1 : ¬ ((i : Int) < (s.size : Int)) := by omega
   go_wp2
   go_ret
   have hi2 : i = s.size := by have := HI.out; omega
   subst hi2
   refine ⟨?_, ?_, gstep H2.out HB.out⟩
   ·rw [← HS.out, ← numBa_all s 3 HSZ.out]
    rfl
   ·exact (HB.out.block b (blk_lt H1.out)).trans H1.out

/-- The first n bytes, and what is behind them. -/
def tk (x : ByteArray) (n : Nat) : ByteArray := x.extract 0 (min n x.size)
def dr (x : ByteArray) (n : Nat) : ByteArray := x.extract (min n x.size) x.size
def nm (x : ByteArray) : Nat := numBa x 3
/-- One piece is read: what it is, what is left, whether bytes lack. -/
def spRound (ep : Nat) (x : ByteArray) : S69 × ByteArray × Bool :=
 let x1 := dr x 1
 let x2 := dr x1 3
 let x3 := dr x2 2
 let x4 := dr x3 3
 let x5 := dr x4 3
 let n := nm (tk x4 3)
 let d := tk x5 n
 (⟨nm (tk x 1), nm (tk x1 3), nm (tk x2 2), nm (tk x3 3), d, ep⟩, dr x5 n, decide (x.size < 1) || decide (x1.size < 3) || decide (x2.size < 2) || decide (x3.size < 3) || decide (x4.size < 3) || decide (x5.size < n) || decide (nm (tk x1 3) < nm (tk x3 3) + d.size))
def spGo (ep : Nat) : Nat → ByteArray → Bool → List S69 → Option (List S69 × Bool)
 | 0, _, _, _ => none
 | k + 1, x, bad, acc => if x.size = 0 then some (acc, !bad) else if bad = true then some (acc, false) else spGo ep k (spRound ep x).2.1 (spRound ep x).2.2 (acc ++ [(spRound ep x).1])
def spec_pieces.f (a0 : ByteArray) : Option (List S69 × Bool) := if 13 ≤ a0.size ∧ a0.size ≤ 2147483647 then spGo (nm (tk (dr a0 3) 2)) (a0.size + 1) (dr (dr (dr (dr a0 3) 2) 6) 2) false [] else none

theorem R69_keep {w w' : World} {base : Nat} {ok : Nat → Prop} {v : Value} {xs : List S69} (h : Kd.R k69 69 w base ok v xs) (hk : ∀ (k : Nat) (cs : Array Value), w.heap[k]? = some (.cells cs 69 (0, 0)) → w'.heap[k]? = w.heap[k]?) : Kd.R k69 69 w' base ok v xs := by
 refine Kd.R_mono (Kd.R_move (Kd.R_bound h) (fun k hq => ?_)) (fun k hq => hq.1)
 obtain ⟨_, _, _, q, hq, cells, hc⟩ := hq
 have : q = 69 := by
  have hE : k69.E = [] := rfl
  rw [hE] at hq
  simpa using hq
 subst this
 exact hk k cells hc
theorem toList_nil {x : ByteArray} : x.toList = [] ↔ x.size = 0 := by
 rw [Go.ByteArray.toList_eq, ← List.length_eq_zero_iff, Array.length_toList]
 rfl
/-- The world between the steps of a round: only the reader and what is new differ. -/
structure Step_ (w wr W : World) (b : Nat) : Prop where
 os : W.os = wr.os
 tape : W.tape = wr.tape
 output : W.output = wr.output
 size : wr.heap.size ≤ W.heap.size
 old : ∀ k, k < wr.heap.size → k ≠ b → W.heap[k]? = wr.heap[k]?
theorem Step_.refl (w wr : World) (b : Nat) : Step_ w wr wr b := ⟨rfl, rfl, rfl, Nat.le_refl _, fun _ _ _ => rfl⟩
theorem Step_.grown {w wr W W' : World} {b : Nat} (h : Step_ w wr W b) (g : W.grownBy W' (some b)) : Step_ w wr W' b :=
 ⟨g.os.trans h.os, g.tape.trans h.tape, g.output.trans h.output, Nat.le_trans h.size g.size, fun k hk hb => (g.block k (by have := h.size; omega) (fun e => by injection e with e; exact hb e)).trans (h.old k hk hb)⟩
theorem Step_.set {w wr W : World} {b P : Nat} (h : Step_ w wr W b) (hP : wr.heap.size ≤ P ∨ P = b) (j : Nat) (v : Value) : Step_ w wr (W.setCell ⟨P, j, none⟩ v) b :=
 ⟨h.os, h.tape, h.output, by have := h.size; simpa [World.setCell] using this, fun k hk hb => (Below.heap_setCell W ⟨P, j, none⟩ v k (by simp only; omega)).trans (h.old k hk hb)⟩
theorem Step_.alloc {w wr W : World} {b : Nat} (h : Step_ w wr W b) (o : Obj) : Step_ w wr (W.alloc o) b :=
 ⟨h.os, h.tape, h.output, Nat.le_trans h.size ((Below.refl W.heap.size W).alloc (Nat.le_refl _) o).size, fun k hk hb => (((Below.refl W.heap.size W).alloc (Nat.le_refl _) o).block k (by have := h.size; omega)).trans (h.old k hk hb)⟩
theorem Step_.drew {w wr W : World} {b : Nat} (h : Step_ w wr W b) : Step_ w wr W.drew b := ⟨h.os, h.tape, h.output, h.size, h.old⟩
theorem Step_.below {w wr W : World} {b : Nat} (h : Step_ w wr W b) (hb : Below w.heap.size w wr) (hbb : w.heap.size ≤ b) : Below w.heap.size w W :=
 ⟨h.os.trans hb.os, h.tape.trans hb.tape, h.output.trans hb.output, Nat.le_trans hb.size h.size, fun k hk => (h.old k (Nat.lt_of_lt_of_le hk hb.size) (by omega)).trans (hb.block k hk)⟩
theorem R69_ne {w : World} {base k : Nat} {ok : Nat → Prop} {v : Value} {xs : List S69} {o : Obj} (h : Kd.R k69 69 w base ok v xs) (hk : w.heap[k]? = some o) (ho : ∀ cs, o ≠ .cells cs 69 (0, 0)) : some k ≠ v.ownBlock := fun e => by
 obtain ⟨inner, hown⟩ := Kd.R_own h
 obtain ⟨cells, hc⟩ := own_typed hown k e.symm
 rw [hk] at hc
 injection hc with hc
 exact ho cells hc
theorem dr_size (x : ByteArray) (n : Nat) : (dr x n).size ≤ x.size := by unfold dr; rw [ByteArray.size_extract]; omega
theorem nm_tk (x : ByteArray) (n : Nat) (h : n ≤ 3) : nm (tk x n) < 256 ^ n := by
 have hs : (tk x n).size ≤ n := by unfold tk; rw [ByteArray.size_extract]; omega
 have := numBa_lt (tk x n) n
 unfold nm
 rwa [← numBa_all _ 3 (by omega), numBa_all _ n hs]
theorem num_at (b : Nat) (x : ByteArray) (bad : Bool) (n : Nat) (hx : x.size ≤ 2147483647) (hn : n ≤ 3) : ∀ w, Rd w b x bad →
 Calls Tryd.prog 39 #[.pointer (some ⟨b, 0, none⟩), .int .i64 (n : Int)] w fun e w' => e = .returned (.int .i64 (nm (tk x n) : Nat)) ∧ Rd w' b (dr x n) (bad || decide (x.size < n)) ∧ w.grownBy w' (some b) := fun w h => number_calls b x bad n w h hx hn
theorem take_at (b : Nat) (x : ByteArray) (bad : Bool) (n : Nat) (hx : x.size ≤ 2147483647) (hn : n ≤ 16777216) : ∀ w, Rd w b x bad →
 Calls Tryd.prog 38 #[.pointer (some ⟨b, 0, none⟩), .int .i64 (n : Int)] w fun e w' => e = .returned (.string (tk x n)) ∧ Rd w' b (dr x n) (bad || decide (x.size < n)) ∧ w.grownBy w' (some b) := fun w h => take_calls b x bad n w h hx hn

set_option maxHeartbeats 8000000 in
set_option maxRecDepth 100000 in
theorem spec_pieces.calls (a0 : ByteArray) (r1 : List S69) (r2 : Bool) (w : World) (h : spec_pieces.f a0 = some (r1, r2)) :
 Calls Tryd.prog 30 #[.string a0] w fun e w' => ∃ v0_ : Value, e = .returned (.tuple #[v0_, .bool r2]) ∧ Kd.R k69 69 w' w.heap.size (fun _ => True) v0_ r1 ∧ Below w.heap.size w w' := by
 unfold spec_pieces.f at h
 split at h
 case isFalse => cases h
 rename_i hc
 obtain ⟨hc1, hc2⟩ := hc
 obtain ⟨W0, hW0⟩ : ∃ W, W = w.alloc (.cells #[.string a0, .bool false] 79) := ⟨_, rfl⟩
 obtain ⟨b, hb⟩ : ∃ b, b = w.heap.size := ⟨_, rfl⟩
 have r0 : Rd W0 b a0 false := by rw [hW0, hb]; exact heap_alloc_new _ _
 have hB0 : Below w.heap.size w W0 := by rw [hW0]; exact (Below.refl _ _).alloc (Nat.le_refl _) _
 have hs1 : (dr a0 3).size = a0.size - 3 := by unfold dr; rw [ByteArray.size_extract]; omega
 have T1 : Calls Tryd.prog 38 #[.pointer (some ⟨b, 0, none⟩), .int .i64 3] W0 fun e w' => e = .returned (.string (tk a0 3)) ∧ Rd w' b (dr a0 3) false ∧ W0.grownBy w' (some b) := by
  have := take_calls b a0 false 3 W0 r0 hc2 (by omega)
  rwa [show (false || decide (a0.size < 3)) = false by simp; omega] at this
 obtain ⟨x1, hx1⟩ : ∃ x, x = dr a0 3 := ⟨_, rfl⟩
 rw [← hx1] at hs1 T1 h
 have hs2 : (dr x1 2).size = a0.size - 5 := by unfold dr; rw [ByteArray.size_extract]; omega
 obtain ⟨ep, hep⟩ : ∃ y, y = nm (tk x1 2) := ⟨_, rfl⟩
 have hepl : ep < 65536 := by
  rw [hep]
  unfold nm tk
  rw [← numBa_all _ 3 (by rw [ByteArray.size_extract]; omega), show (x1.extract 0 (min 2 x1.size)).size = 2 by rw [ByteArray.size_extract]; omega]
  exact numBa_lt _ 2
 have T2 : ∀ W, Rd W b x1 false → Calls Tryd.prog 39 #[.pointer (some ⟨b, 0, none⟩), .int .i64 2] W fun e w' => e = .returned (.int .i64 (ep : Int)) ∧ Rd w' b (dr x1 2) false ∧ W.grownBy w' (some b) := fun W r => by
  have := number_calls b x1 false 2 W r (by omega) (by omega)
  rw [show (false || decide (x1.size < 2)) = false by simp; omega] at this
  rw [hep]
  exact this
 obtain ⟨x2, hx2⟩ : ∃ x, x = dr x1 2 := ⟨_, rfl⟩
 rw [← hx2] at hs2 T2 h
 rw [← hep] at h
 have hs3 : (dr x2 6).size = a0.size - 11 := by unfold dr; rw [ByteArray.size_extract]; omega
 have T3 : ∀ W, Rd W b x2 false → Calls Tryd.prog 38 #[.pointer (some ⟨b, 0, none⟩), .int .i64 6] W fun e w' => e = .returned (.string (tk x2 6)) ∧ Rd w' b (dr x2 6) false ∧ W.grownBy w' (some b) := fun W r => by
  have := take_calls b x2 false 6 W r (by omega) (by omega)
  rwa [show (false || decide (x2.size < 6)) = false by simp; omega] at this
 obtain ⟨x3, hx3⟩ : ∃ x, x = dr x2 6 := ⟨_, rfl⟩
 rw [← hx3] at hs3 T3 h
 have hs4 : (dr x3 2).size = a0.size - 13 := by unfold dr; rw [ByteArray.size_extract]; omega
 have T4 : ∀ W, Rd W b x3 false → Calls Tryd.prog 38 #[.pointer (some ⟨b, 0, none⟩), .int .i64 2] W fun e w' => e = .returned (.string (tk x3 2)) ∧ Rd w' b (dr x3 2) false ∧ W.grownBy w' (some b) := fun W r => by
  have := take_calls b x3 false 2 W r (by omega) (by omega)
  rwa [show (false || decide (x3.size < 2)) = false by simp; omega] at this
 obtain ⟨x4, hx4⟩ : ∃ x, x = dr x3 2 := ⟨_, rfl⟩
 rw [← hx4] at hs4 T4 h
 obtain ⟨fuel, hf⟩ : ∃ k, k = a0.size + 1 := ⟨_, rfl⟩
 rw [← hf] at h
 have hew : IntKind.u16.wrap (ep : Int) = (ep : Int) := by rw [IntKind.wrap_u16]; omega
 have hsz : x4.size + 1 ≤ fuel ∧ x4.size ≤ 2147483647 := by omega
 have HSZ := Aside0.mk hsz
 have HB0 := Aside0.mk hB0
 have HH := Aside0.mk h
 have K1 := Aside0.mk T1
 have K2 := Aside0.mk T2
 have K3 := Aside0.mk T3
 have K4 := Aside0.mk T4
 have HEP := Aside0.mk hepl
 clear r0 hB0 h hx1 hx2 hx3 hx4 hep hepl hs1 hs2 hs3 hs4 T1 T2 T3 T4 hc1 hc2 hf hsz
 subst hb
 go_enter Tryd.func30, Tryd.ntmps30
 go_wp2_with (fail)
 rw [← hW0]
 refine (K1.out).mono ?_
 rintro e w1 ⟨rfl, r1, g1⟩
 have R1 := Aside0.mk r1
 have G1 := Aside0.mk g1
 clear r1 g1 K1
 go_wp2_with (fail)
 refine (K2.out _ R1.out).mono ?_
 rintro e w2 ⟨rfl, r2, g2⟩
 have R2 := Aside0.mk r2
 have G2 := Aside0.mk g2
 clear r2 g2 K2 R1
 go_wp2_with (fail)
 refine (K3.out _ R2.out).mono ?_
 rintro e w3 ⟨rfl, r3, g3⟩
 have R3 := Aside0.mk r3
 have G3 := Aside0.mk g3
 clear r3 g3 K3 R2
 go_wp2_with (fail)
 refine (K4.out _ R3.out).mono ?_
 rintro e w4 ⟨rfl, r4, g4⟩
 have R4 := Aside0.mk r4
 have G4 := Aside0.mk g4
 clear r4 g4 K4 R3
 go_wp2_with (fail)
 have hB4 : Below w.heap.size w w4 := by
  have a1 := G1.out
  have a2 := G2.out
  have a3 := G3.out
  have a4 := G4.out
  have e0 := HB0.out
  exact ⟨(a4.os.trans (a3.os.trans (a2.os.trans a1.os))).trans e0.os, (a4.tape.trans (a3.tape.trans (a2.tape.trans a1.tape))).trans e0.tape, (a4.output.trans (a3.output.trans (a2.output.trans a1.output))).trans e0.output,
   by have := a1.size; have := a2.size; have := a3.size; have := a4.size; have := e0.size; omega,
   fun k hk => by
    have hne : some k ≠ some w.heap.size := fun e => by injection e with e; omega
    have s0 := e0.size; have s1 := a1.size; have s2 := a2.size; have s3 := a3.size
    rw [a4.block k (by omega) hne, a3.block k (by omega) hne, a2.block k (by omega) hne, a1.block k (by omega) hne, e0.block k hk]⟩
 have HB4 := Aside0.mk hB4
 clear hB4 G1 G2 G3 G4 HB0 hW0
 go_loopg [2] fuel (fun kq v2 wr => ∃ (x : ByteArray) (bad : Bool) (acc : List S69), Aside0 (spGo ep kq x bad acc = some (r1, r2)) ∧ Aside0 (Rd wr w.heap.size x bad) ∧ Aside0 (Kd.R k69 69 wr w.heap.size (fun _ => True) v2 acc) ∧ Aside0 (Below w.heap.size w wr) ∧ Aside0 (x.size ≤ 2147483647 ∧ acc.length + x.size ≤ 2147483647))
 case atStart => exact ⟨x4, false, [], ⟨HH.out⟩, ⟨R4.out⟩, ⟨Kd.R_nil _ _ _ _ _⟩, ⟨HB4.out⟩, ⟨by have := HSZ.out; simp; omega⟩⟩
 case round =>
  obtain ⟨x, bad, acc, HF, HR, HO, HB, HS⟩ := hrel
  clear HH R4 HB4 HSZ
  have h0 : wr.cell? ⟨w.heap.size, 0, none⟩ = some (.string x) := by rw [blk_cell HR.out]; rfl
  have h1 : wr.cell? ⟨w.heap.size, 1, none⟩ = some (.bool bad) := by rw [blk_cell HR.out]; rfl
  by_cases hx : x.size = 0
  ·have hx2 : x.toList = [] := toList_nil.2 hx
   have HX := Aside0.mk hx
   clear hx
   go_wp2_with (fail)
   go_region
   go_wp2_with (fail)
   go_ret2
   have hf := HF.out
   unfold spGo at hf
   cases gk with
   | zero => cases hf
   | succ k =>
     simp only at hf
     rw [if_pos HX.out] at hf
     injection hf with hf
     injection hf with e1 e2
     subst e1
     subst e2
     exact ⟨_, rfl, R69_keep HO.out (fun _ _ _ => rfl), Below.drew HB.out⟩
  ·have hx2 : ¬ x.toList = [] := fun e => hx (toList_nil.1 e)
   have hx3 : (x.toList == ([] : List UInt8)) = false := beq_eq_false_iff_ne.mpr hx2
   have hx4 : (x.toList != ([] : List UInt8)) = true := bne_iff_ne.mpr hx2
   have HX := Aside0.mk hx
   clear hx
   cases bad
   ·have hs := HS.out.1
    have N1 := num_at w.heap.size x false 1 hs (by omega)
    have z1 := dr_size x 1
    have t1 := nm_tk x 1 (by omega)
    have R1 : spRound ep x = spRound ep x := rfl
    obtain ⟨t, ht⟩ : ∃ t, t = nm (tk x 1) := ⟨_, rfl⟩
    obtain ⟨x1, h1⟩ : ∃ y, y = dr x 1 := ⟨_, rfl⟩
    obtain ⟨b1, g1⟩ : ∃ y, y = (false || decide (x.size < 1)) := ⟨_, rfl⟩
    rw [← ht, ← h1, ← g1] at N1
    rw [← ht] at t1
    rw [← h1] at z1
    have N2 := num_at w.heap.size x1 b1 3 (by omega) (by omega)
    have z2 := dr_size x1 3
    have t2 := nm_tk x1 3 (by omega)
    obtain ⟨l, hl⟩ : ∃ t, t = nm (tk x1 3) := ⟨_, rfl⟩
    obtain ⟨x2, h2⟩ : ∃ y, y = dr x1 3 := ⟨_, rfl⟩
    obtain ⟨b2, g2⟩ : ∃ y, y = (b1 || decide (x1.size < 3)) := ⟨_, rfl⟩
    rw [← hl, ← h2, ← g2] at N2
    rw [← hl] at t2
    rw [← h2] at z2
    have N3 := num_at w.heap.size x2 b2 2 (by omega) (by omega)
    have z3 := dr_size x2 2
    have t3 := nm_tk x2 2 (by omega)
    obtain ⟨q, hq⟩ : ∃ t, t = nm (tk x2 2) := ⟨_, rfl⟩
    obtain ⟨x3, h3⟩ : ∃ y, y = dr x2 2 := ⟨_, rfl⟩
    obtain ⟨b3, g3⟩ : ∃ y, y = (b2 || decide (x2.size < 2)) := ⟨_, rfl⟩
    rw [← hq, ← h3, ← g3] at N3
    rw [← hq] at t3
    rw [← h3] at z3
    have N4 := num_at w.heap.size x3 b3 3 (by omega) (by omega)
    have z4 := dr_size x3 3
    have t4 := nm_tk x3 3 (by omega)
    obtain ⟨o, ho⟩ : ∃ t, t = nm (tk x3 3) := ⟨_, rfl⟩
    obtain ⟨x4, h4⟩ : ∃ y, y = dr x3 3 := ⟨_, rfl⟩
    obtain ⟨b4, g4⟩ : ∃ y, y = (b3 || decide (x3.size < 3)) := ⟨_, rfl⟩
    rw [← ho, ← h4, ← g4] at N4
    rw [← ho] at t4
    rw [← h4] at z4
    have N5 := num_at w.heap.size x4 b4 3 (by omega) (by omega)
    have z5 := dr_size x4 3
    have t5 := nm_tk x4 3 (by omega)
    obtain ⟨n, hn⟩ : ∃ t, t = nm (tk x4 3) := ⟨_, rfl⟩
    obtain ⟨x5, h5⟩ : ∃ y, y = dr x4 3 := ⟨_, rfl⟩
    obtain ⟨b5, g5⟩ : ∃ y, y = (b4 || decide (x4.size < 3)) := ⟨_, rfl⟩
    rw [← hn, ← h5, ← g5] at N5
    rw [← hn] at t5
    rw [← h5] at z5
    have N6 := take_at w.heap.size x5 b5 n (by omega) (by omega)
    have z6 := dr_size x5 n
    have t6 : (tk x5 n).size ≤ x5.size := by unfold tk; rw [ByteArray.size_extract]; omega
    obtain ⟨d, hd⟩ : ∃ t, t = tk x5 n := ⟨_, rfl⟩
    obtain ⟨x6, h6⟩ : ∃ y, y = dr x5 n := ⟨_, rfl⟩
    obtain ⟨b6, g6⟩ : ∃ y, y = (b5 || decide (x5.size < n)) := ⟨_, rfl⟩
    rw [← hd, ← h6, ← g6] at N6
    rw [← hd] at t6
    rw [← h6] at z6
    have hround : spRound ep x = (⟨(t : Int), (l : Int), (q : Int), (o : Int), d, (ep : Int)⟩, x6, b6 || decide (l < o + d.size)) := by
     unfold spRound
     simp only
     rw [← ht, ← h1, ← hl, ← h2, ← hq, ← h3, ← ho, ← h4, ← hn, ← h5, ← hd, ← h6, g6, g5, g4, g3, g2, g1, Bool.false_or]
    have hless : x1.size < x.size := by rw [h1]; unfold dr; rw [ByteArray.size_extract]; have := HX.out; omega
    have HROUND := Aside0.mk hround
    have HTT := Aside0.mk (show t < 256 ∧ l < 16777216 ∧ q < 65536 ∧ o < 16777216 ∧ x6.size < x.size ∧ d.size ≤ 2147483647 by omega)
    have K1 := Aside0.mk N1
    have K2 := Aside0.mk N2
    have K3 := Aside0.mk N3
    have K4 := Aside0.mk N4
    have K5 := Aside0.mk N5
    have K6 := Aside0.mk N6
    have hwt : IntKind.u8.wrap (t : Int) = (t : Int) := by rw [IntKind.wrap_u8]; omega
    have hwo : wrap64 ((o : Int) + (d.size : Int)) = (o : Int) + (d.size : Int) := by unfold wrap64; omega
    clear N1 N2 N3 N4 N5 N6 z1 z2 z3 z4 z5 z6 t1 t2 t3 t4 t5 t6 ht h1 g1 hl h2 g2 hq h3 g3 ho h4 g4 hn h5 g5 hd h6 g6 hround hs hless R1
    go_wp2_with (fail)
    refine (K1.out _ HR.out).mono ?_
    rintro e w5 ⟨rfl, r1, g1⟩
    have hst : Step_ w wr w5 w.heap.size := (Step_.refl w wr _).grown g1
    have HST := Aside0.mk hst
    have RR1 := Aside0.mk r1
    clear r1 g1 hst
    go_upto_region 8 with (fail)
    obtain ⟨W6, hW6⟩ : ∃ W, W = w5.alloc (.cells #[.int .u8 (t : Int), .int .i64 0, .int .i64 0, .int .i64 0, .string ⟨#[]⟩, .int .u16 (ep : Int)] 69) := ⟨_, rfl⟩
    rw [← hW6]
    have p6 : W6.heap[w5.heap.size]? = some (.cells #[.int .u8 (t : Int), .int .i64 0, .int .i64 0, .int .i64 0, .string ⟨#[]⟩, .int .u16 (ep : Int)] 69 (0, 0)) := by rw [hW6]; exact heap_alloc_new _ _
    have hlb : w.heap.size < wr.heap.size := blk_lt HR.out
    have hlw : wr.heap.size ≤ w5.heap.size := HST.out.size
    have r6 : Rd W6 w.heap.size x1 b1 := by
     unfold Rd
     rw [hW6, ((Below.refl w5.heap.size w5).alloc (Nat.le_refl _) _).block _ (by omega)]
     exact RR1.out
    have HST6 : Aside0 (Step_ w wr W6 w.heap.size) := ⟨by rw [hW6]; exact HST.out.alloc _⟩
    have hne : some w5.heap.size ≠ some w.heap.size := fun e => by injection e with e; omega
    have HNE := Aside0.mk hne
    have HLW := Aside0.mk (And.intro hlb hlw)
    have P6 := Aside0.mk p6
    have R6 := Aside0.mk r6
    clear hW6 p6 r6 hlb hlw hne RR1 HST
    go_wp2_with (fail)
    refine (K2.out _ R6.out).mono ?_
    rintro e w7 ⟨rfl, r7, g7⟩
    have P7 : Aside0 (w7.heap[w5.heap.size]? = _) := ⟨(g7.block _ (blk_lt P6.out) HNE.out).trans P6.out⟩
    have R7 := Aside0.mk r7
    have HST7 := Aside0.mk (HST6.out.grown g7)
    clear r7 g7 P6 R6 HST6 K2
    go_wp2_with (fail)
    refine (K3.out _ R7.out).mono ?_
    rintro e w8 ⟨rfl, r8, g8⟩
    have P8 : Aside0 (w8.heap[w5.heap.size]? = _) := ⟨(g8.block _ (blk_lt P7.out) HNE.out).trans P7.out⟩
    have R8 := Aside0.mk r8
    have HST8 := Aside0.mk (HST7.out.grown g8)
    clear r8 g8 P7 R7 HST7 K3
    go_wp2_with (fail)
    refine (K4.out _ R8.out).mono ?_
    rintro e w9 ⟨rfl, r9, g9⟩
    have p9 := (g9.block _ (blk_lt P8.out) HNE.out).trans P8.out
    have s1 : w9.cell? ⟨w5.heap.size, 1, none⟩ = some (.int .i64 0) := by rw [blk_cell p9]; rfl
    have s2 : w9.cell? ⟨w5.heap.size, 2, none⟩ = some (.int .i64 0) := by rw [blk_cell p9]; rfl
    have s3 : w9.cell? ⟨w5.heap.size, 3, none⟩ = some (.int .i64 0) := by rw [blk_cell p9]; rfl
    have f1 := blk_frozen p9 1
    have f2 := blk_frozen p9 2
    have f3 := blk_frozen p9 3
    have P9 := Aside0.mk p9
    have R9 := Aside0.mk r9
    have HST9 := Aside0.mk (HST8.out.grown g9)
    clear r9 g9 P8 R8 HST8 K4 p9
    go_upto_region 9 with (fail)
    obtain ⟨W10, hW10⟩ : ∃ W, W = ((w9.setCell ⟨w5.heap.size, 1, none⟩ (.int .i64 (l : Int))).setCell ⟨w5.heap.size, 2, none⟩ (.int .i64 (q : Int))).setCell ⟨w5.heap.size, 3, none⟩ (.int .i64 (o : Int)) := ⟨_, rfl⟩
    rw [← hW10]
    have hnb : w.heap.size ≠ w5.heap.size := by have := HLW.out; omega
    have P10 : Aside0 (W10.heap[w5.heap.size]? = some (.cells #[.int .u8 (t : Int), .int .i64 (l : Int), .int .i64 (q : Int), .int .i64 (o : Int), .string ⟨#[]⟩, .int .u16 (ep : Int)] 69 (0, 0))) := ⟨by
     rw [hW10, blk_set (blk_set (blk_set P9.out 1 _) 2 _) 3 _]
     rfl⟩
    have R10 : Aside0 (Rd W10 w.heap.size x4 b4) := ⟨by
     unfold Rd
     rw [hW10, Below.heap_setCell _ _ _ _ hnb, Below.heap_setCell _ _ _ _ hnb, Below.heap_setCell _ _ _ _ hnb]
     exact R9.out⟩
    have HST10 : Aside0 (Step_ w wr W10 w.heap.size) := ⟨by
     rw [hW10]
     exact ((HST9.out.set (.inl HLW.out.2) 1 _).set (.inl HLW.out.2) 2 _).set (.inl HLW.out.2) 3 _⟩
    clear hW10 s1 s2 s3 f1 f2 f3 P9 R9 HST9
    go_wp2_with (fail)
    refine (K5.out _ R10.out).mono ?_
    rintro e w11 ⟨rfl, r11, g11⟩
    have P11 : Aside0 (w11.heap[w5.heap.size]? = _) := ⟨(g11.block _ (blk_lt P10.out) HNE.out).trans P10.out⟩
    have R11 := Aside0.mk r11
    have HST11 := Aside0.mk (HST10.out.grown g11)
    clear r11 g11 P10 R10 HST10 K5
    go_wp2_with (fail)
    refine (K6.out _ R11.out).mono ?_
    rintro e w12 ⟨rfl, r12, g12⟩
    have p12 := (g12.block _ (blk_lt P11.out) HNE.out).trans P11.out
    have s4 : w12.cell? ⟨w5.heap.size, 4, none⟩ = some (.string ⟨#[]⟩) := by rw [blk_cell p12]; rfl
    have f4 := blk_frozen p12 4
    have P12 := Aside0.mk p12
    have R12 := Aside0.mk r12
    have HST12 := Aside0.mk (HST11.out.grown g12)
    clear r12 g12 P11 R11 HST11 K6 p12
    go_upto_region 10 with (fail)
    obtain ⟨W13, hW13⟩ : ∃ W, W = w12.setCell ⟨w5.heap.size, 4, none⟩ (.string d) := ⟨_, rfl⟩
    rw [← hW13]
    have p13 : W13.heap[w5.heap.size]? = some (.cells #[.int .u8 (t : Int), .int .i64 (l : Int), .int .i64 (q : Int), .int .i64 (o : Int), .string d, .int .u16 (ep : Int)] 69 (0, 0)) := by
     rw [hW13, blk_set P12.out 4 _]
     rfl
    have r13 : Rd W13 w.heap.size x6 b6 := by
     unfold Rd
     rw [hW13, Below.heap_setCell _ _ _ _ hnb]
     exact R12.out
    have HST13 : Aside0 (Step_ w wr W13 w.heap.size) := ⟨by rw [hW13]; exact HST12.out.set (.inl HLW.out.2) 4 _⟩
    have s1 : W13.cell? ⟨w5.heap.size, 1, none⟩ = some (.int .i64 (l : Int)) := by rw [blk_cell p13]; rfl
    have s3 : W13.cell? ⟨w5.heap.size, 3, none⟩ = some (.int .i64 (o : Int)) := by rw [blk_cell p13]; rfl
    have s5 : W13.cell? ⟨w5.heap.size, 4, none⟩ = some (.string d) := by rw [blk_cell p13]; rfl
    have sb : W13.cell? ⟨w.heap.size, 1, none⟩ = some (.bool b6) := by rw [blk_cell r13]; rfl
    have fb := blk_frozen r13 1
    have P13 := Aside0.mk p13
    have R13 := Aside0.mk r13
    clear hW13 p13 r13 P12 R12 HST12 s4 f4
    obtain ⟨k, hk⟩ : ∃ k, gk = k + 1 := by
     cases gk with
     | zero => have := HF.out; unfold spGo at this; cases this
     | succ k => exact ⟨k, rfl⟩
    have HFK : Aside0 (spGo ep k x6 (b6 || decide (l < o + d.size)) (acc ++ [(⟨(t : Int), (l : Int), (q : Int), (o : Int), d, (ep : Int)⟩ : S69)]) = some (r1, r2)) := ⟨by
     have hf := HF.out
     rw [hk, spGo, if_neg HX.out, if_neg (by decide), HROUND.out] at hf
     exact hf⟩
    have HGK := Aside0.mk hk
    have hpb : w5.heap.size ≠ w.heap.size := fun e => hnb e.symm
    have fin_ : ∀ (W14 : World) (vb : Bool), W14 = W13.setCell ⟨w.heap.size, 1, none⟩ (.bool vb) → vb = (b6 || decide (l < o + d.size)) → Aside0 (Rd W14 w.heap.size x6 (b6 || decide (l < o + d.size)) ∧ W14.heap[w5.heap.size]? = some (.cells #[.int .u8 (t : Int), .int .i64 (l : Int), .int .i64 (q : Int), .int .i64 (o : Int), .string d, .int .u16 (ep : Int)] 69 (0, 0)) ∧ Step_ w wr W14 w.heap.size) := fun W14 vb e1 e2 => ⟨by
     refine ⟨?_, ?_, ?_⟩
     ·unfold Rd
      rw [e1, blk_set R13.out 1 _, e2]
      rfl
     ·rw [e1, Below.heap_setCell _ _ _ _ hpb]
      exact P13.out
     ·rw [e1]
      exact HST13.out.set (.inr rfl) 1 _⟩
    have FIN := Aside0.mk fin_
    have HAL : Aside0 (acc.length < 4294967296) := ⟨by have := HS.out; omega⟩
    clear fin_ hk HF hpb
    have hbc : b6 = true ∨ (b6 = false ∧ l < o + d.size) ∨ (b6 = false ∧ ¬ l < o + d.size) := by
     cases b6
     ·by_cases h : l < o + d.size
      ·exact .inr (.inl ⟨rfl, h⟩)
      ·exact .inr (.inr ⟨rfl, h⟩)
     ·exact .inl rfl
    have TAIL : ∀ (W14 : World) (vb : Bool), W14 = W13.setCell ⟨w.heap.size, 1, none⟩ (.bool vb) → vb = (b6 || decide (l < o + d.size)) → Aside0 (Rd W14 w.heap.size x6 (b6 || decide (l < o + d.size)) ∧ W14.heap[w5.heap.size]? = some (.cells #[.int .u8 (t : Int), .int .i64 (l : Int), .int .i64 (q : Int), .int .i64 (o : Int), .string d, .int .u16 (ep : Int)] 69 (0, 0)) ∧ Step_ w wr W14 w.heap.size) := FIN.out
    rcases hbc with hb | ⟨hb, hlt⟩ | ⟨hb, hlt⟩
    ·have HBV : Aside0 ((b6 || decide (l < o + d.size)) = true) := ⟨by rw [hb]; rfl⟩
     have sb2 : W13.cell? ⟨w.heap.size, 1, none⟩ = some (.bool true) := by rw [sb, hb]
     clear hb sb TAIL
     go_upto_region 11 with (fail)
     obtain ⟨W14, hW14⟩ : ∃ W, W = W13.setCell ⟨w.heap.size, 1, none⟩ (.bool true) := ⟨_, rfl⟩
     rw [← hW14]
     obtain ⟨r14, p14, h14⟩ := (FIN.out W14 true hW14 HBV.out.symm).out
     have HW14 : Aside0 (Below w.heap.size w W14) := ⟨h14.below HB.out (Nat.le_refl _)⟩
     have HR14 : Aside0 (Kd.R k69 69 W14 w.heap.size (fun _ => True) u2 acc) := ⟨R69_keep HO.out (fun q cs hq => h14.old q (blk_lt hq) (blk_ne' hq HR.out (by decide)))⟩
     have c0 : W14.cell? ⟨w5.heap.size, 0, none⟩ = some (.int .u8 (t : Int)) := by rw [blk_cell p14]; rfl
     have c1 : W14.cell? ⟨w5.heap.size, 1, none⟩ = some (.int .i64 (l : Int)) := by rw [blk_cell p14]; rfl
     have c2 : W14.cell? ⟨w5.heap.size, 2, none⟩ = some (.int .i64 (q : Int)) := by rw [blk_cell p14]; rfl
     have c3 : W14.cell? ⟨w5.heap.size, 3, none⟩ = some (.int .i64 (o : Int)) := by rw [blk_cell p14]; rfl
     have c4 : W14.cell? ⟨w5.heap.size, 4, none⟩ = some (.string d) := by rw [blk_cell p14]; rfl
     have c5 : W14.cell? ⟨w5.heap.size, 5, none⟩ = some (.int .u16 (ep : Int)) := by rw [blk_cell p14]; rfl
     have R14 := Aside0.mk r14
     clear hW14 r14 p14 h14 fb s1 s3 s5 sb2
     go_wp2_with (first | ((with_reducible refine gate_builtin (b := .append) (xs := #[.tmp 68, .tmp 70]) rfl ?_); at_builtin; go_loud (refine Kd.R_append k69 (w0 := w) w.heap.size rfl (.tmp 68) (.tmp 70) 64 69 (.agg #[(.int .u8 0), (.int .i64 0), (.int .i64 0), (.int .i64 0), (.string ⟨#[]⟩), (.int .u16 0)]) 56 rfl Tryd.underlying64 info69 rfl (by decide) (by omega) u2 acc (⟨(t : Int), (l : Int), (q : Int), (o : Int), d, (ep : Int)⟩ : S69) [.int .u8 (t : Int), .int .i64 (l : Int), .int .i64 (q : Int), .int .i64 (o : Int), .string d, .int .u16 (ep : Int)] (fun _ => True) (fun _ => False) rfl rfl (k69_mkM _ _ _ (⟨(t : Int), (l : Int), (q : Int), (o : Int), d, (ep : Int)⟩ : S69)) (fun _ hk => hk.elim) (fun _ _ => trivial) HR14.out HW14.out HW14.out.size (by have := HAL.out; omega) ?_; intro v8 w8 ho hb hg hat; have RO := Aside0.mk ho; have RB := Aside0.mk hb; have RG := Aside0.mk hg; clear ho hb hg hat)))
     go_roundg k
     case measure => have := HGK.out; omega
     case rel =>
      refine ⟨x6, _, _, HFK, ⟨(RG.out.block _ (blk_lt R14.out) (R69_ne HR14.out R14.out (fun cs e => by injection e with _ e2 _; exact absurd e2 (by decide)))).trans R14.out⟩, RO, RB, ⟨?_⟩⟩
      have h1 := HS.out
      have h2 := HTT.out
      rw [List.length_append]
      simp only [List.length_cons, List.length_nil]
      omega
    ·have HBV : Aside0 ((b6 || decide (l < o + d.size)) = true) := ⟨by rw [hb, decide_eq_true hlt]; rfl⟩
     have sb2 : W13.cell? ⟨w.heap.size, 1, none⟩ = some (.bool false) := by rw [sb, hb]
     have hgt : (o : Int) + (d.size : Int) > (l : Int) := by omega
     clear hb sb TAIL hlt
     go_upto_region 11 with (fail)
     obtain ⟨W14, hW14⟩ : ∃ W, W = W13.setCell ⟨w.heap.size, 1, none⟩ (.bool true) := ⟨_, rfl⟩
     rw [← hW14]
     obtain ⟨r14, p14, h14⟩ := (FIN.out W14 true hW14 HBV.out.symm).out
     have HW14 : Aside0 (Below w.heap.size w W14) := ⟨h14.below HB.out (Nat.le_refl _)⟩
     have HR14 : Aside0 (Kd.R k69 69 W14 w.heap.size (fun _ => True) u2 acc) := ⟨R69_keep HO.out (fun q cs hq => h14.old q (blk_lt hq) (blk_ne' hq HR.out (by decide)))⟩
     have c0 : W14.cell? ⟨w5.heap.size, 0, none⟩ = some (.int .u8 (t : Int)) := by rw [blk_cell p14]; rfl
     have c1 : W14.cell? ⟨w5.heap.size, 1, none⟩ = some (.int .i64 (l : Int)) := by rw [blk_cell p14]; rfl
     have c2 : W14.cell? ⟨w5.heap.size, 2, none⟩ = some (.int .i64 (q : Int)) := by rw [blk_cell p14]; rfl
     have c3 : W14.cell? ⟨w5.heap.size, 3, none⟩ = some (.int .i64 (o : Int)) := by rw [blk_cell p14]; rfl
     have c4 : W14.cell? ⟨w5.heap.size, 4, none⟩ = some (.string d) := by rw [blk_cell p14]; rfl
     have c5 : W14.cell? ⟨w5.heap.size, 5, none⟩ = some (.int .u16 (ep : Int)) := by rw [blk_cell p14]; rfl
     have R14 := Aside0.mk r14
     clear hW14 r14 p14 h14 fb s1 s3 s5 sb2
     go_wp2_with (first | ((with_reducible refine gate_builtin (b := .append) (xs := #[.tmp 68, .tmp 70]) rfl ?_); at_builtin; go_loud (refine Kd.R_append k69 (w0 := w) w.heap.size rfl (.tmp 68) (.tmp 70) 64 69 (.agg #[(.int .u8 0), (.int .i64 0), (.int .i64 0), (.int .i64 0), (.string ⟨#[]⟩), (.int .u16 0)]) 56 rfl Tryd.underlying64 info69 rfl (by decide) (by omega) u2 acc (⟨(t : Int), (l : Int), (q : Int), (o : Int), d, (ep : Int)⟩ : S69) [.int .u8 (t : Int), .int .i64 (l : Int), .int .i64 (q : Int), .int .i64 (o : Int), .string d, .int .u16 (ep : Int)] (fun _ => True) (fun _ => False) rfl rfl (k69_mkM _ _ _ (⟨(t : Int), (l : Int), (q : Int), (o : Int), d, (ep : Int)⟩ : S69)) (fun _ hk => hk.elim) (fun _ _ => trivial) HR14.out HW14.out HW14.out.size (by have := HAL.out; omega) ?_; intro v8 w8 ho hb hg hat; have RO := Aside0.mk ho; have RB := Aside0.mk hb; have RG := Aside0.mk hg; clear ho hb hg hat)))
     go_roundg k
     case measure => have := HGK.out; omega
     case rel =>
      refine ⟨x6, _, _, HFK, ⟨(RG.out.block _ (blk_lt R14.out) (R69_ne HR14.out R14.out (fun cs e => by injection e with _ e2 _; exact absurd e2 (by decide)))).trans R14.out⟩, RO, RB, ⟨?_⟩⟩
      have h1 := HS.out
      have h2 := HTT.out
      rw [List.length_append]
      simp only [List.length_cons, List.length_nil]
      omega
    ·have HBV : Aside0 ((b6 || decide (l < o + d.size)) = false) := ⟨by rw [hb, decide_eq_false hlt]; rfl⟩
     have sb2 : W13.cell? ⟨w.heap.size, 1, none⟩ = some (.bool false) := by rw [sb, hb]
     have hgt : ¬ (o : Int) + (d.size : Int) > (l : Int) := by omega
     clear hb sb TAIL hlt
     go_upto_region 11 with (fail)
     obtain ⟨W14, hW14⟩ : ∃ W, W = W13.setCell ⟨w.heap.size, 1, none⟩ (.bool false) := ⟨_, rfl⟩
     rw [← hW14]
     obtain ⟨r14, p14, h14⟩ := (FIN.out W14 false hW14 HBV.out.symm).out
     have HW14 : Aside0 (Below w.heap.size w W14) := ⟨h14.below HB.out (Nat.le_refl _)⟩
     have HR14 : Aside0 (Kd.R k69 69 W14 w.heap.size (fun _ => True) u2 acc) := ⟨R69_keep HO.out (fun q cs hq => h14.old q (blk_lt hq) (blk_ne' hq HR.out (by decide)))⟩
     have c0 : W14.cell? ⟨w5.heap.size, 0, none⟩ = some (.int .u8 (t : Int)) := by rw [blk_cell p14]; rfl
     have c1 : W14.cell? ⟨w5.heap.size, 1, none⟩ = some (.int .i64 (l : Int)) := by rw [blk_cell p14]; rfl
     have c2 : W14.cell? ⟨w5.heap.size, 2, none⟩ = some (.int .i64 (q : Int)) := by rw [blk_cell p14]; rfl
     have c3 : W14.cell? ⟨w5.heap.size, 3, none⟩ = some (.int .i64 (o : Int)) := by rw [blk_cell p14]; rfl
     have c4 : W14.cell? ⟨w5.heap.size, 4, none⟩ = some (.string d) := by rw [blk_cell p14]; rfl
     have c5 : W14.cell? ⟨w5.heap.size, 5, none⟩ = some (.int .u16 (ep : Int)) := by rw [blk_cell p14]; rfl
     have R14 := Aside0.mk r14
     clear hW14 r14 p14 h14 fb s1 s3 s5 sb2
     go_wp2_with (first | ((with_reducible refine gate_builtin (b := .append) (xs := #[.tmp 68, .tmp 70]) rfl ?_); at_builtin; go_loud (refine Kd.R_append k69 (w0 := w) w.heap.size rfl (.tmp 68) (.tmp 70) 64 69 (.agg #[(.int .u8 0), (.int .i64 0), (.int .i64 0), (.int .i64 0), (.string ⟨#[]⟩), (.int .u16 0)]) 56 rfl Tryd.underlying64 info69 rfl (by decide) (by omega) u2 acc (⟨(t : Int), (l : Int), (q : Int), (o : Int), d, (ep : Int)⟩ : S69) [.int .u8 (t : Int), .int .i64 (l : Int), .int .i64 (q : Int), .int .i64 (o : Int), .string d, .int .u16 (ep : Int)] (fun _ => True) (fun _ => False) rfl rfl (k69_mkM _ _ _ (⟨(t : Int), (l : Int), (q : Int), (o : Int), d, (ep : Int)⟩ : S69)) (fun _ hk => hk.elim) (fun _ _ => trivial) HR14.out HW14.out HW14.out.size (by have := HAL.out; omega) ?_; intro v8 w8 ho hb hg hat; have RO := Aside0.mk ho; have RB := Aside0.mk hb; have RG := Aside0.mk hg; clear ho hb hg hat)))
     go_roundg k
     case measure => have := HGK.out; omega
     case rel =>
      refine ⟨x6, _, _, HFK, ⟨(RG.out.block _ (blk_lt R14.out) (R69_ne HR14.out R14.out (fun cs e => by injection e with _ e2 _; exact absurd e2 (by decide)))).trans R14.out⟩, RO, RB, ⟨?_⟩⟩
      have h1 := HS.out
      have h2 := HTT.out
      rw [List.length_append]
      simp only [List.length_cons, List.length_nil]
      omega
   ·go_wp2_with (fail)
    go_region
    go_wp2_with (fail)
    go_ret2
    have hf := HF.out
    unfold spGo at hf
    cases gk with
    | zero => cases hf
    | succ k =>
      simp only at hf
      rw [if_neg HX.out, if_pos trivial] at hf
      injection hf with hf
      injection hf with e1 e2
      subst e1
      subst e2
      exact ⟨_, rfl, R69_keep HO.out (fun _ _ _ => rfl), Below.drew HB.out⟩
end Go.Proofs.YtjflijebcpcbmaaDoor.G
