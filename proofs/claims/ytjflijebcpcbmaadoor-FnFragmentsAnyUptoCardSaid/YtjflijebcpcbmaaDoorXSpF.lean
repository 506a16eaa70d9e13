/-
 What is proved: the reference's buffer pops as the Lean function says. Conditions: pieces of few bytes.
-/
import Derived.Test.YtjflijebcpcbmaaDoorXSpB
import Derived.Test.YtjflijebcpcbmaaDoorXSpH
import Derived.Test.YtjflijebcpcbmaaDoorXSpP
import Derived.Lib.BufferWrite
import Derived.Shelf.Spec.SlicesInsert
namespace Go.Proofs.YtjflijebcpcbmaaDoor.G
open Go.RowKit Go.Proofs.YtjflijebcpcbmaaDoorW.PrintWords Go.Proofs.YtjflijebcpcbmaaDoorW.PrintLast Go.Proofs.YtjflijebcpcbmaaDoorW.PrintMore
set_option linter.unusedVariables false
set_option linter.unusedSimpArgs false

/-- The bytes of message q, as the pieces write them. -/
def bodyGo (q : Int) : List S69 → List Nat → Option (List Nat)
 | [], bd => some bd
 | p :: l, bd => if p.f2 = q then (if p.f3.toNat + p.f4.size ≤ bd.length then bodyGo q l (bd.take p.f3.toNat ++ baN p.f4 ++ bd.drop (p.f3.toNat + p.f4.size)) else none) else bodyGo q l bd
def restOf (q : Int) (l : List S69) : List S69 := l.filter (fun p => decide (p.f2 ≠ q))
def baOf (l : List Nat) : ByteArray := ⟨(l.map UInt8.ofNat).toArray⟩
def sbPop (l : List S69) (nx : Nat) : Option (S40 × List S69 × Nat) :=
 match startOf nx l with
 | none => some (z40, l, nx)
 | some p => if covIt nx l l.length 0 < p.f1 then some (z40, l, nx) else (spec_Head.f p.f0 p.f1 p.f2 0 p.f1).bind fun hd => (bodyGo nx l (List.replicate p.f1.toNat 0)).map fun bd => (⟨false, false, false, true, hd ++ baOf bd, p.f5, 0⟩, restOf nx l, nx + 1)
def agg40 (x : S40) : Value := .agg #[.bool x.f0, .bool x.f1, .bool x.f2, .bool x.f3, .string x.f4, .int .u16 x.f5, .int .i64 x.f6]
/-- The buffer in block g. -/
structure SB (w : World) (B g : Nat) (v : Value) (l : List S69) (nx : Nat) : Prop where
 hg : w.heap[g]? = some (.cells #[v, .int .i64 (nx : Int)] 73 (0, 0))
 hr : Kd.R k69 69 w B (fun _ => True) v l
 ok : ∀ p ∈ l, Okp p
 len : l.length ≤ 100000
/-- What a step of the buffer may change. -/
structure FrS (B g : Nat) (v : Value) (w w' : World) : Prop where
 os : w'.os = w.os
 tape : w'.tape = w.tape
 output : w'.output = w.output
 size : w.heap.size ≤ w'.heap.size
 keep : ∀ k, k < w.heap.size → k ≠ g → some k ≠ v.ownBlock → w'.heap[k]? = w.heap[k]?

theorem SB.keep {w w' : World} {B g : Nat} {v : Value} {l : List S69} {nx : Nat} (h : SB w B g v l nx) (hb : Below w.heap.size w w') : SB w' B g v l nx :=
 ⟨(hb.block g (blk_lt h.hg)).trans h.hg, R69_keep h.hr (fun k cs hk => hb.block k (blk_lt hk)), h.ok, h.len⟩
theorem FrS.of_below {w w' : World} {B g : Nat} {v : Value} (hb : Below w.heap.size w w') : FrS B g v w w' := ⟨hb.os, hb.tape, hb.output, hb.size, fun k hk _ _ => hb.block k hk⟩
theorem startOf_mem {q : Int} {l : List S69} {p : S69} (h : startOf q l = some p) : p ∈ l := List.mem_of_find?_eq_some h
/-- Numbers as cells. -/
def nrow (bd : List Nat) : Array Value := (bd.map (fun x : Nat => Value.int .u8 (x : Int))).toArray
theorem made_nrow (n : Nat) : madeCells #[Value.int .u8 0] n = nrow (List.replicate n 0) := by
 unfold nrow
 apply Array.ext
 ·rw [size_madeCells]; simp
 ·intro i h1 h2
  simp [madeCells]
  rw [Nat.mod_one]
  rfl
theorem brow {B : Nat} {w W : World} (h : Below B w W) {Z : Nat} (hZ : B ≤ Z) (cs : Array Value) : Below B w (W.setRow Z cs) :=
 ⟨h.os, h.tape, h.output, by rw [setRow_size]; exact h.size, fun k hk => (setRow_other W Z k cs (by omega)).trans (h.block k hk)⟩
def putB (cur : List Nat) (o : Nat) (x : ByteArray) : List Nat := cur.take o ++ baN x ++ cur.drop (o + x.size)
theorem nrow_put (cur : List Nat) (o : Nat) (x : ByteArray) : ((nrow cur).toList.take o ++ Lib.byteCells x.data.toList ++ (nrow cur).toList.drop (o + x.size)).toArray = nrow (putB cur o x) := by
 unfold nrow Lib.byteCells putB baN
 rw [List.map_append, List.map_append, List.map_take, List.map_drop, List.map_map]
 rfl
theorem make_n (n : Nat) (hn : n ≤ 16777216) (w : World) : (Instr.makeSlice 59 (.int .i64 (n : Int)) (.int .i64 (n : Int))).run Tryd.prog w = .ok (.slice (some ⟨w.heap.size, 0, none⟩) n n) (w.alloc (.cells (nrow (List.replicate n 0)) 5)) := by
 rw [← made_nrow]
 exact run_make_row' 59 5 (.int .u8 0) 1 Tryd.underlying59 info5 rfl .i64 .i64 n (by omega) (by omega) w
theorem z40_set {w : World} {R : Nat} (h : w.heap[R]? = some (.cells #[.bool false, .bool false, .bool false, .bool false, .string ⟨#[]⟩, .int .u16 0, .int .i64 0] 40 (0, 0))) :
 (((((((w.setCell ⟨R, 0, none⟩ (.bool false)).setCell ⟨R, 1, none⟩ (.bool false)).setCell ⟨R, 2, none⟩ (.bool false)).setCell ⟨R, 3, none⟩ (.bool false)).setCell ⟨R, 4, none⟩ (.string ⟨#[]⟩)).setCell ⟨R, 5, none⟩ (.int .u16 0)).setCell ⟨R, 6, none⟩ (.int .i64 0)).heap[R]? = some (.cells #[.bool false, .bool false, .bool false, .bool false, .string ⟨#[]⟩, .int .u16 0, .int .i64 0] 40 (0, 0)) := by
 rw [blk_set (blk_set (blk_set (blk_set (blk_set (blk_set (blk_set h 0 _) 1 _) 2 _) 3 _) 4 _) 5 _) 6 _]
 rfl
def headBa (a b c d e : Int) : ByteArray := ((((strOfNums [a] ++ strOfNums [(b / 65536) % 256, (b / 256) % 256, b % 256]) ++ strOfNums [(c / 256) % 256, c % 256]) ++ strOfNums [(d / 65536) % 256, (d / 256) % 256, d % 256]) ++ strOfNums [(e / 65536) % 256, (e / 256) % 256, e % 256])
theorem head_eq (a b c d e : Int) : spec_Head.f a b c d e = some (headBa a b c d e) := by
 unfold spec_Head.f spec_three.f spec_two.f
 simp only [Option.bind_some, ByteArray.size_append, strOfNums_size, List.length_cons, List.length_nil]
 rw [if_pos (by decide), if_pos (by decide), if_pos (by decide), if_pos (by decide)]
 rfl
theorem headBa_size (a b c d e : Int) : (headBa a b c d e).size = 12 := by
 unfold headBa
 simp only [ByteArray.size_append, strOfNums_size, List.length_cons, List.length_nil]
theorem conv_nrow {w : World} {Z n : Nat} {bd : List Nat} (h : w.heap[Z]? = some (.cells (nrow bd) 5 (0, 0))) (hl : bd.length = n) : (convert 59 9 (.slice (some ⟨Z, 0, none⟩) n n)).run Tryd.prog w = .ok (.string (baOf bd)) w := by
 have e : strOfNums (bd.map fun x : Nat => (x : Int)) = baOf bd := by
  unfold strOfNums baOf
  rw [List.map_map]
  congr 2
 rw [← e]
 refine run_convert_bytes_arg w 59 5 Tryd.underlying59 Tryd.underlying5 Z 0 n n _ (by simp [hl]) (fun i hi => ?_) 9 Tryd.underlying9
 rw [blk_cell' h]
 unfold nrow
 have hi2 : i < bd.length := by omega
 simp [List.getD_eq_getElem?_getD, List.getElem?_map, List.getElem?_eq_getElem hi2]
theorem baOf_size (bd : List Nat) : (baOf bd).size = bd.length := by unfold baOf; show (bd.map UInt8.ofNat).toArray.size = _; simp
/-- What a cell holds now. -/
def curOf (w : World) (a : Addr) : Value := (w.cell? a).getD undef
structure KP (P Z R : Nat) (a z : Array Value) (w : World) : Prop where
 p : w.heap[P]? = some (.cells a 69 (0, 0))
 z : w.heap[Z]? = some (.cells z 5 (0, 0))
 r : ∃ c : Array Value, c.size = 7 ∧ w.heap[R]? = some (.cells c 40 (0, 0))
theorem KP.drew {P Z R : Nat} {a z : Array Value} {w : World} (h : KP P Z R a z w) : KP P Z R a z w.drew := ⟨h.p, h.z, h.r⟩
theorem KP.set {P Z R : Nat} {a z : Array Value} {w : World} (h : KP P Z R a z w) (j : Nat) (v : Value) : KP P Z R a z (w.setCell ⟨R, j, none⟩ v) := by
 obtain ⟨c, hc, hr⟩ := h.r
 exact ⟨(Below.heap_setCell _ _ _ _ (blk_ne' h.p hr (by decide))).trans h.p, (Below.heap_setCell _ _ _ _ (blk_ne' h.z hr (by decide))).trans h.z, ⟨_, by rw [Array.size_setIfInBounds]; exact hc, blk_set hr j v⟩⟩
theorem KP.below {P Z R : Nat} {a z : Array Value} {w w' : World} (h : KP P Z R a z w) (hb : Below w.heap.size w w') : KP P Z R a z w' := by
 obtain ⟨c, hc, hr⟩ := h.r
 exact ⟨(hb.block _ (blk_lt h.p)).trans h.p, (hb.block _ (blk_lt h.z)).trans h.z, ⟨c, hc, (hb.block _ (blk_lt hr)).trans hr⟩⟩
theorem KP.cur {P Z R : Nat} {a z : Array Value} {w : World} (h : KP P Z R a z w) (j : Nat) (hj : j < 7) : w.cell? ⟨R, j, none⟩ = some (curOf w ⟨R, j, none⟩) ∧ w.frozen? ⟨R, j, none⟩ = false := by
 obtain ⟨c, hc, hr⟩ := h.r
 refine ⟨?_, blk_frozen hr j⟩
 unfold curOf
 rw [blk_cell' hr, Array.getElem?_eq_getElem (by omega)]
 rfl
set_option maxHeartbeats 16000000 in
set_option maxRecDepth 100000 in
theorem sbpop_calls (B g : Nat) (v : Value) (l l' : List S69) (nx nx' : Nat) (t : S40) (w : World) (hS : SB w B g v l nx) (hB : B ≤ g) (hBw : B ≤ w.heap.size) (hnx : nx < 1000000) (hp : sbPop l nx = some (t, l', nx')) :
 Calls Tryd.prog 33 #[.pointer (some ⟨g, 0, none⟩)] w fun e w' => e = .returned (agg40 t) ∧ (∃ v', SB w' B g v' l' nx' ∧ (v' = v ∨ ∀ k, v'.ownBlock = some k → w.heap.size ≤ k)) ∧ FrS B g v w w' := by
 obtain ⟨A, c, hv⟩ := Kd.R_slice hS.hr
 subst hv
 obtain ⟨_, hlc, hC⟩ := Kd.R_reads' hS.hr
 have hlen : l.length < 1000000 := by have := hS.len; omega
 have HS := Aside0.mk hS
 have HST := Aside0.mk (fun W (h : Below w.heap.size w W) => start_calls g c A l (nx : Int) (nx : Int) W ((h.block g (blk_lt hS.hg)).trans hS.hg) (Kd.C_below hC h) hlen)
 have HCV := Aside0.mk (fun W (h : Below w.heap.size w W) => covered_calls g c A l (nx : Int) (nx : Int) W ((h.block g (blk_lt hS.hg)).trans hS.hg) (Kd.C_below hC h) hS.ok hlen)
 have HC := Aside0.mk hC
 have HP := Aside0.mk hp
 have HB := Aside0.mk hB
 have HBW := Aside0.mk hBw
 obtain ⟨W0, hW0⟩ : ∃ W, W = w.alloc (.cells #[.bool false, .bool false, .bool false, .bool false, .string ⟨#[]⟩, .int .u16 0, .int .i64 0] 40) := ⟨_, rfl⟩
 have hb0 : Below w.heap.size w W0 := by rw [hW0]; exact (Below.refl _ _).alloc (Nat.le_refl _) _
 have g1 : W0.cell? ⟨g, 1, none⟩ = some (.int .i64 (nx : Int)) := by rw [blk_cell ((hb0.block g (blk_lt hS.hg)).trans hS.hg)]; rfl
 have rt : W0.heap[w.heap.size]? = some (.cells #[.bool false, .bool false, .bool false, .bool false, .string ⟨#[]⟩, .int .u16 0, .int .i64 0] 40 (0, 0)) := by rw [hW0]; exact heap_alloc_new _ _
 have HB0 := Aside0.mk hb0
 have RT0 := Aside0.mk rt
 rw [hW0] at g1
 clear hS hC hp hB hBw hlc hb0 rt
 go_enter Tryd.func33, Tryd.ntmps33
 go_wp2_with (fail)
 rw [← hW0]
 refine (HST.out _ HB0.out).mono ?_
 rintro e w1 ⟨rfl, hb1⟩
 have HB1 : Aside0 (Below w.heap.size w w1) := ⟨below_then HB0.out HB0.out.size hb1⟩
 have RT1 : Aside0 (w1.heap[w.heap.size]? = _) := ⟨(hb1.block _ (blk_lt RT0.out)).trans RT0.out⟩
 clear hb1 HB0 RT0 hW0 g1
 cases hst : startOf (nx : Int) l with
 | none =>
   simp only [Option.getD_none, Option.isSome_none, agg69, z69]
   go_upto_region 2 with (fail)
   obtain ⟨W2, hW2⟩ : ∃ W, W = w1.alloc (.cells #[.int .u8 0, .int .i64 0, .int .i64 0, .int .i64 0, .string ⟨#[]⟩, .int .u16 0] 69) := ⟨_, rfl⟩
   rw [← hW2]
   have hb2 : Below w1.heap.size w1 W2 := by rw [hW2]; exact (Below.refl _ _).alloc (Nat.le_refl _) _
   have HB2 : Aside0 (Below w.heap.size w W2) := ⟨below_then HB1.out HB1.out.size hb2⟩
   have rt2 := (hb2.block _ (blk_lt RT1.out)).trans RT1.out
   have RT2 := Aside0.mk rt2
   have zc0 : W2.cell? ⟨w.heap.size, 0, none⟩ = some (.bool false) := by rw [blk_cell rt2]; rfl
   have zf0 := blk_frozen rt2 0
   have zc1 : W2.cell? ⟨w.heap.size, 1, none⟩ = some (.bool false) := by rw [blk_cell rt2]; rfl
   have zf1 := blk_frozen rt2 1
   have zc2 : W2.cell? ⟨w.heap.size, 2, none⟩ = some (.bool false) := by rw [blk_cell rt2]; rfl
   have zf2 := blk_frozen rt2 2
   have zc3 : W2.cell? ⟨w.heap.size, 3, none⟩ = some (.bool false) := by rw [blk_cell rt2]; rfl
   have zf3 := blk_frozen rt2 3
   have zc4 : W2.cell? ⟨w.heap.size, 4, none⟩ = some (.string ⟨#[]⟩) := by rw [blk_cell rt2]; rfl
   have zf4 := blk_frozen rt2 4
   have zc5 : W2.cell? ⟨w.heap.size, 5, none⟩ = some (.int .u16 0) := by rw [blk_cell rt2]; rfl
   have zf5 := blk_frozen rt2 5
   have zc6 : W2.cell? ⟨w.heap.size, 6, none⟩ = some (.int .i64 0) := by rw [blk_cell rt2]; rfl
   have zf6 := blk_frozen rt2 6
   clear hW2 hb2 rt2
   go_region
   go_wp2_with (fail)
   have hp := HP.out
   unfold sbPop at hp
   rw [hst] at hp
   simp only at hp
   injection hp with hp
   injection hp with e1 hp
   injection hp with e2 e3
   subst e1
   subst e2
   subst e3
   obtain ⟨W9, hW9⟩ : ∃ W, W = (((((((W2.setCell ⟨w.heap.size, 0, none⟩ (.bool false)).setCell ⟨w.heap.size, 1, none⟩ (.bool false)).setCell ⟨w.heap.size, 2, none⟩ (.bool false)).setCell ⟨w.heap.size, 3, none⟩ (.bool false)).setCell ⟨w.heap.size, 4, none⟩ (.string ⟨#[]⟩)).setCell ⟨w.heap.size, 5, none⟩ (.int .u16 0)).setCell ⟨w.heap.size, 6, none⟩ (.int .i64 0)).drew := ⟨_, rfl⟩
   rw [← hW9]
   have p9 : W9.heap[w.heap.size]? = some (.cells #[.bool false, .bool false, .bool false, .bool false, .string ⟨#[]⟩, .int .u16 0, .int .i64 0] 40 (0, 0)) := by
    rw [hW9, show ∀ W : World, W.drew.heap = W.heap from fun _ => rfl]
    exact z40_set RT2.out
   have hb9 : Below w.heap.size w W9 := by
    rw [hW9]
    exact Below.drew (bset (bset (bset (bset (bset (bset (bset HB2.out (Nat.le_refl _) 0 _) (Nat.le_refl _) 1 _) (Nat.le_refl _) 2 _) (Nat.le_refl _) 3 _) (Nat.le_refl _) 4 _) (Nat.le_refl _) 5 _) (Nat.le_refl _) 6 _)
   have y0 : W9.cell? ⟨w.heap.size, 0, none⟩ = some (.bool false) := by rw [blk_cell p9]; rfl
   have y1 : W9.cell? ⟨w.heap.size, 1, none⟩ = some (.bool false) := by rw [blk_cell p9]; rfl
   have y2 : W9.cell? ⟨w.heap.size, 2, none⟩ = some (.bool false) := by rw [blk_cell p9]; rfl
   have y3 : W9.cell? ⟨w.heap.size, 3, none⟩ = some (.bool false) := by rw [blk_cell p9]; rfl
   have y4 : W9.cell? ⟨w.heap.size, 4, none⟩ = some (.string ⟨#[]⟩) := by rw [blk_cell p9]; rfl
   have y5 : W9.cell? ⟨w.heap.size, 5, none⟩ = some (.int .u16 0) := by rw [blk_cell p9]; rfl
   have y6 : W9.cell? ⟨w.heap.size, 6, none⟩ = some (.int .i64 0) := by rw [blk_cell p9]; rfl
   exact bodyPost_ret (v := agg40 z40) (by simp [results, Tryd.results33, go_sem, y0, y1, y2, y3, y4, y5, y6, agg40, z40]) rfl ⟨rfl, ⟨_, HS.out.keep hb9, .inl rfl⟩, FrS.of_below hb9⟩
 | some p =>
   simp only [Option.getD_some, Option.isSome_some, agg69]
   go_upto_region 2 with (fail)
   obtain ⟨W2, hW2⟩ : ∃ W, W = w1.alloc (.cells #[.int .u8 p.f0, .int .i64 p.f1, .int .i64 p.f2, .int .i64 p.f3, .string p.f4, .int .u16 p.f5] 69) := ⟨_, rfl⟩
   rw [← hW2]
   have hb2 : Below w1.heap.size w1 W2 := by rw [hW2]; exact (Below.refl _ _).alloc (Nat.le_refl _) _
   have HB2 : Aside0 (Below w.heap.size w W2) := ⟨below_then HB1.out HB1.out.size hb2⟩
   have RT2 : Aside0 (W2.heap[w.heap.size]? = _) := ⟨(hb2.block _ (blk_lt RT1.out)).trans RT1.out⟩
   have RP2 : Aside0 (W2.heap[w1.heap.size]? = some (.cells (c69 p) 69 (0, 0))) := ⟨by rw [hW2]; exact heap_alloc_new _ _⟩
   have HSX : Aside0 (∀ W, Below W2.heap.size W2 W → W.cell? ⟨g, 1, none⟩ = some (.int .i64 (nx : Int)) ∧ W.cell? ⟨w1.heap.size, 1, none⟩ = some (.int .i64 p.f1)) := ⟨fun W h =>
    ⟨by rw [blk_cell ((below_then HB2.out HB2.out.size h).block g (blk_lt HS.out.hg) |>.trans HS.out.hg)]; rfl, by rw [blk_cell ((h.block _ (blk_lt RP2.out)).trans RP2.out)]; rfl⟩⟩
   have HCX : Aside0 (∀ W, Below W2.heap.size W2 W → Calls Tryd.prog 41 #[.pointer (some ⟨g, 0, none⟩), .int .i64 (nx : Int)] W fun e w' => e = .returned (.int .i64 (covIt (nx : Int) l l.length 0)) ∧ Below W.heap.size W w') := ⟨fun W h => HCV.out W (below_then HB2.out HB2.out.size h)⟩
   have HBR := Aside0.mk (Below.refl W2.heap.size W2)
   obtain ⟨cv, hcv⟩ : ∃ x, x = covIt (nx : Int) l l.length 0 := ⟨_, rfl⟩
   rw [← hcv] at HCX
   clear hW2 hb2 HB1 RT1
   go_region_held3 (fun w' => w'.cell? ⟨g, 1, none⟩ = some (.int .i64 (nx : Int)) ∧ w'.cell? ⟨w1.heap.size, 1, none⟩ = some (.int .i64 p.f1)) (first | exact HSX.out _ HBR.out | exact HSX.out _ HBR.out.drew) (first | (go_at_call 41; go_loud ((with_reducible refine (HCX.out _ (by first | exact HBR.out | exact HBR.out.drew | exact HBR.out.drew.drew)).mono ?_); rintro e w3 ⟨rfl, h3⟩; have HBRa := Aside0.mk (show Below W2.heap.size W2 w3 from by first | exact below_then HBR.out HBR.out.size h3 | exact below_then HBR.out.drew HBR.out.drew.size h3 | exact below_then HBR.out.drew.drew HBR.out.drew.drew.size h3); clear HBR; have HBR := HBRa; clear HBRa h3)))
   have HB3 : Aside0 (Below w.heap.size w w3) := ⟨below_then HB2.out HB2.out.size HBR.out⟩
   have rt3 := (HBR.out.block _ (blk_lt RT2.out)).trans RT2.out
   have RP3 : Aside0 (w3.heap[w1.heap.size]? = some (.cells (c69 p) 69 (0, 0))) := ⟨(HBR.out.block _ (blk_lt RP2.out)).trans RP2.out⟩
   by_cases hcp : cv < p.f1
   ·have zc0 : w3.cell? ⟨w.heap.size, 0, none⟩ = some (.bool false) := by rw [blk_cell rt3]; rfl
    have zf0 := blk_frozen rt3 0
    have zc1 : w3.cell? ⟨w.heap.size, 1, none⟩ = some (.bool false) := by rw [blk_cell rt3]; rfl
    have zf1 := blk_frozen rt3 1
    have zc2 : w3.cell? ⟨w.heap.size, 2, none⟩ = some (.bool false) := by rw [blk_cell rt3]; rfl
    have zf2 := blk_frozen rt3 2
    have zc3 : w3.cell? ⟨w.heap.size, 3, none⟩ = some (.bool false) := by rw [blk_cell rt3]; rfl
    have zf3 := blk_frozen rt3 3
    have zc4 : w3.cell? ⟨w.heap.size, 4, none⟩ = some (.string ⟨#[]⟩) := by rw [blk_cell rt3]; rfl
    have zf4 := blk_frozen rt3 4
    have zc5 : w3.cell? ⟨w.heap.size, 5, none⟩ = some (.int .u16 0) := by rw [blk_cell rt3]; rfl
    have zf5 := blk_frozen rt3 5
    have zc6 : w3.cell? ⟨w.heap.size, 6, none⟩ = some (.int .i64 0) := by rw [blk_cell rt3]; rfl
    have zf6 := blk_frozen rt3 6
    have hp := HP.out
    unfold sbPop at hp
    rw [hst] at hp
    simp only at hp
    rw [if_pos (by rw [← hcv]; exact hcp)] at hp
    injection hp with hp
    injection hp with e1 hp
    injection hp with e2 e3
    subst e1
    subst e2
    subst e3
    have RT3 := Aside0.mk rt3
    clear rt3
    go_wp2_with (fail)
    obtain ⟨W9, hW9⟩ : ∃ W, W = (((((((w3.setCell ⟨w.heap.size, 0, none⟩ (.bool false)).setCell ⟨w.heap.size, 1, none⟩ (.bool false)).setCell ⟨w.heap.size, 2, none⟩ (.bool false)).setCell ⟨w.heap.size, 3, none⟩ (.bool false)).setCell ⟨w.heap.size, 4, none⟩ (.string ⟨#[]⟩)).setCell ⟨w.heap.size, 5, none⟩ (.int .u16 0)).setCell ⟨w.heap.size, 6, none⟩ (.int .i64 0)) := ⟨_, rfl⟩
    rw [← hW9]
    have p9 : W9.heap[w.heap.size]? = some (.cells #[.bool false, .bool false, .bool false, .bool false, .string ⟨#[]⟩, .int .u16 0, .int .i64 0] 40 (0, 0)) := by
     rw [hW9]
     exact z40_set RT3.out
    have hb9 : Below w.heap.size w W9 := by
     rw [hW9]
     exact bset (bset (bset (bset (bset (bset (bset HB3.out (Nat.le_refl _) 0 _) (Nat.le_refl _) 1 _) (Nat.le_refl _) 2 _) (Nat.le_refl _) 3 _) (Nat.le_refl _) 4 _) (Nat.le_refl _) 5 _) (Nat.le_refl _) 6 _
    have y0 : W9.cell? ⟨w.heap.size, 0, none⟩ = some (.bool false) := by rw [blk_cell p9]; rfl
    have y1 : W9.cell? ⟨w.heap.size, 1, none⟩ = some (.bool false) := by rw [blk_cell p9]; rfl
    have y2 : W9.cell? ⟨w.heap.size, 2, none⟩ = some (.bool false) := by rw [blk_cell p9]; rfl
    have y3 : W9.cell? ⟨w.heap.size, 3, none⟩ = some (.bool false) := by rw [blk_cell p9]; rfl
    have y4 : W9.cell? ⟨w.heap.size, 4, none⟩ = some (.string ⟨#[]⟩) := by rw [blk_cell p9]; rfl
    have y5 : W9.cell? ⟨w.heap.size, 5, none⟩ = some (.int .u16 0) := by rw [blk_cell p9]; rfl
    have y6 : W9.cell? ⟨w.heap.size, 6, none⟩ = some (.int .i64 0) := by rw [blk_cell p9]; rfl
    exact bodyPost_ret (v := agg40 z40) (by simp [results, Tryd.results33, go_sem, y0, y1, y2, y3, y4, y5, y6, agg40, z40]) rfl ⟨rfl, ⟨_, HS.out.keep hb9, .inl rfl⟩, FrS.of_below hb9⟩
   ·have RT3 := Aside0.mk rt3
    clear rt3
    have hok := HS.out.ok p (startOf_mem hst)
    obtain ⟨n, hn, hnl⟩ : ∃ n : Nat, p.f1 = (n : Int) ∧ n ≤ 16777216 := ⟨p.f1.toNat, by obtain ⟨_, _, h1, h2, _⟩ := hok; omega, by obtain ⟨_, _, h1, h2, _⟩ := hok; omega⟩
    obtain ⟨hd, bd, hhd, hbd, ht, hl', hnx'⟩ : ∃ hd bd, spec_Head.f p.f0 p.f1 p.f2 0 p.f1 = some hd ∧ bodyGo (nx : Int) l (List.replicate n 0) = some bd ∧ t = ⟨false, false, false, true, hd ++ baOf bd, p.f5, 0⟩ ∧ l' = restOf (nx : Int) l ∧ nx' = nx + 1 := by
     have hp := HP.out
     unfold sbPop at hp
     rw [hst] at hp
     simp only at hp
     rw [if_neg (by rw [← hcv]; exact hcp), show p.f1.toNat = n by omega] at hp
     cases h1 : spec_Head.f p.f0 p.f1 p.f2 0 p.f1 with
     | none => rw [h1] at hp; cases hp
     | some hd =>
       cases h2 : bodyGo (nx : Int) l (List.replicate n 0) with
       | none => rw [h1, h2] at hp; cases hp
       | some bd =>
         rw [h1, h2] at hp
         simp only [Option.bind_some, Option.map_some] at hp
         injection hp with hp
         injection hp with e1 hp
         injection hp with e2 e3
         exact ⟨hd, bd, rfl, rfl, e1.symm, e2.symm, e3.symm⟩
    have c1 : w3.cell? ⟨w1.heap.size, 1, none⟩ = some (.int .i64 p.f1) := by rw [blk_cell RP3.out]; rfl
    have hmk := make_n n hnl w3
    rw [← hn] at hmk
    have HHD := Aside0.mk hhd
    have HBD := Aside0.mk hbd
    have HT := Aside0.mk (And.intro ht (And.intro hl' hnx'))
    have HOK := Aside0.mk hok
    have HN := Aside0.mk (And.intro hn hnl)
    clear hok hn hnl hhd hbd ht hl' hnx' HBR RT2 RP2 HB2 HSX HCX HCV HST
    go_wp2_with (fail)
    obtain ⟨W4, hW4⟩ : ∃ W, W = w3.alloc (.cells (nrow (List.replicate n 0)) 5) := ⟨_, rfl⟩
    rw [← hW4]
    obtain ⟨Z, hZ⟩ : ∃ Z, Z = w3.heap.size := ⟨_, rfl⟩
    have hzw : w.heap.size ≤ Z := by rw [hZ]; exact HB3.out.size
    have hb4 : Below w3.heap.size w3 W4 := by rw [hW4]; exact (Below.refl _ _).alloc (Nat.le_refl _) _
    have z4 : W4.heap[Z]? = some (.cells (nrow (List.replicate n 0)) 5 (0, 0)) := by rw [hW4, hZ]; exact heap_alloc_new _ _
    have HB4 : Aside0 (Below w.heap.size w W4) := ⟨below_then HB3.out HB3.out.size hb4⟩
    have RT4 : Aside0 (W4.heap[w.heap.size]? = _) := ⟨(hb4.block _ (blk_lt RT3.out)).trans RT3.out⟩
    have RP4 : Aside0 (W4.heap[w1.heap.size]? = some (.cells (c69 p) 69 (0, 0))) := ⟨(hb4.block _ (blk_lt RP3.out)).trans RP3.out⟩
    have HZZ := Aside0.mk hZ
    have HZW := Aside0.mk hzw
    have Z4 := Aside0.mk z4
    rw [← hZ]
    clear hW4 hZ hzw hb4 z4 c1 hmk hcp
    obtain ⟨m, hm⟩ : ∃ m, m = l.length := ⟨_, rfl⟩
    have HM := Aside0.mk hm
    have HGX : Aside0 (∀ W, Below w.heap.size w W → W.cell? ⟨g, 0, none⟩ = some (.slice A m c) ∧ W.cell? ⟨g, 1, none⟩ = some (.int .i64 (nx : Int))) := ⟨fun W h =>
     ⟨by rw [blk_cell ((h.block g (blk_lt HS.out.hg)).trans HS.out.hg), hm]; rfl, by rw [blk_cell ((h.block g (blk_lt HS.out.hg)).trans HS.out.hg)]; rfl⟩⟩
    have HAX : Aside0 (∀ W, Below w.heap.size w W → ∀ (i : Nat) (hi : i < l.length), ∃ ad, A = some ad ∧ At69 W ad i l[i]) := ⟨fun W hb i hi => by
     obtain ⟨ad, e, h⟩ := at69 HC.out i hi
     exact ⟨ad, e, h.below hb⟩⟩
    clear hm
    go_loopg [6, 7] m (fun kq v6 v7 wr => ∃ (i : Nat) (cur : List Nat), v7 = .int .i64 (i : Int) ∧ Aside0 (kq = m - i) ∧ Aside0 (i ≤ m) ∧ Aside0 (Below w.heap.size w wr) ∧ Aside0 (Kd.R k69 69 wr w.heap.size (fun k => k ≠ w1.heap.size) v6 (restOf (nx : Int) (l.take i))) ∧ Aside0 (wr.heap[Z]? = some (.cells (nrow cur) 5 (0, 0))) ∧ Aside0 (cur.length = n) ∧ Aside0 (bodyGo (nx : Int) (l.drop i) cur = some bd) ∧ Aside0 (wr.heap[w.heap.size]? = some (.cells #[.bool false, .bool false, .bool false, .bool false, .string ⟨#[]⟩, .int .u16 0, .int .i64 0] 40 (0, 0))) ∧ Aside0 (wr.heap[w1.heap.size]? = some (.cells (c69 p) 69 (0, 0))))
    case atStart => exact ⟨0, List.replicate n 0, rfl, ⟨rfl⟩, ⟨Nat.zero_le _⟩, HB4, ⟨Kd.R_nil _ _ _ _ _⟩, Z4, ⟨List.length_replicate⟩, ⟨HBD.out⟩, RT4, RP4⟩
    case round =>
     obtain ⟨i, cur, rfl, HI, HIM, HBI, HO, HZ, HCL, HBG, HRT, HRP⟩ := hrel
     clear HB4 Z4 RT4 RP4
     obtain ⟨x0, x1⟩ := HGX.out _ HBI.out
     by_cases hi : i < m
     ·have hi1 : (i : Int) < (m : Int) := by omega
      have hil : i < l.length := by rw [← HM.out]; exact hi
      obtain ⟨ad, hAe, a0, a1, a2, a3, a4, a5⟩ := HAX.out _ HBI.out i hil
      rw [hAe] at x0
      have hok := HS.out.ok l[i] (List.getElem_mem _)
      have hrest : restOf (nx : Int) (l.take (i + 1)) = restOf (nx : Int) (l.take i) ++ (if l[i].f2 = (nx : Int) then [] else [l[i]]) := by
       unfold restOf
       rw [List.take_succ_eq_append_getElem hil, List.filter_append]
       congr 1
       by_cases h : l[i].f2 = (nx : Int)
       ·simp [h]
       ·simp [h]
      have hbg := HBG.out
      rw [List.drop_eq_getElem_cons hil, bodyGo] at hbg
      obtain ⟨x, hx⟩ : ∃ x, x = l[i] := ⟨_, rfl⟩
      rw [← hx] at a0 a1 a2 a3 a4 a5 hok hrest hbg
      have HOKX := Aside0.mk hok
      have HRS := Aside0.mk hrest
      have HBGX := Aside0.mk hbg
      clear hok hrest hbg hx
      go_upto_region 10 with (fail)
      obtain ⟨W5, hW5⟩ : ∃ W, W = wr.alloc (.cells #[.int .u8 x.f0, .int .i64 x.f1, .int .i64 x.f2, .int .i64 x.f3, .string x.f4, .int .u16 x.f5] 69) := ⟨_, rfl⟩
      rw [← hW5]
      obtain ⟨X, hX⟩ : ∃ X, X = wr.heap.size := ⟨_, rfl⟩
      have hb5 : Below wr.heap.size wr W5 := by rw [hW5]; exact (Below.refl _ _).alloc (Nat.le_refl _) _
      have q5 : W5.heap[X]? = some (.cells (c69 x) 69 (0, 0)) := by rw [hW5, hX]; exact heap_alloc_new _ _
      have HB5 : Aside0 (Below w.heap.size w W5) := ⟨below_then HBI.out HBI.out.size hb5⟩
      have HO5 : Aside0 (Kd.R k69 69 W5 w.heap.size (fun k => k ≠ w1.heap.size) u6 (restOf (nx : Int) (l.take i))) := ⟨R69_keep HO.out (fun k cs hk => hb5.block k (blk_lt hk))⟩
      have Z5 : Aside0 (W5.heap[Z]? = some (.cells (nrow cur) 5 (0, 0))) := ⟨(hb5.block _ (blk_lt HZ.out)).trans HZ.out⟩
      have RT5 : Aside0 (W5.heap[w.heap.size]? = _) := ⟨(hb5.block _ (blk_lt HRT.out)).trans HRT.out⟩
      have RP5 : Aside0 (W5.heap[w1.heap.size]? = _) := ⟨(hb5.block _ (blk_lt HRP.out)).trans HRP.out⟩
      rw [← hX]
      have Q5 := Aside0.mk q5
      have HXX : Aside0 (w.heap.size ≤ X ∧ Z < X) := ⟨by rw [hX]; exact ⟨HBI.out.size, blk_lt HZ.out⟩⟩
      obtain ⟨x0', x1'⟩ := HGX.out _ HB5.out
      have b2 : W5.cell? ⟨X, 2, none⟩ = some (.int .i64 x.f2) := by rw [blk_cell q5]; rfl
      have hwi : wrap64 ((i : Int) + 1) = ((i + 1 : Nat) : Int) := by unfold wrap64; have := HIM.out; have := HM.out; have := hlen; omega
      clear hW5 hX hb5 q5 a0 a1 a2 a3 a4 a5 x0 x1 HBI HO HZ HRT HRP HBG
      by_cases e1 : x.f2 = (nx : Int)
      ·have e1b : (x.f2 == (nx : Int)) = true := beq_iff_eq.mpr e1
       have e1c : (x.f2 != (nx : Int)) = false := bne_eq_false_iff_eq.mpr e1
       obtain ⟨o, ho⟩ : ∃ o : Nat, x.f3 = (o : Int) := ⟨x.f3.toNat, by obtain ⟨_, _, _, _, _, _, h1, _, _, _, _⟩ := HOKX.out; omega⟩
       have hbx := HBGX.out
       rw [if_pos e1, ho, Int.toNat_natCast] at hbx
       have hfit : o + x.f4.size ≤ n ∧ bodyGo (nx : Int) (l.drop (i + 1)) (cur.take o ++ baN x.f4 ++ cur.drop (o + x.f4.size)) = some bd := by
        by_cases h : o + x.f4.size ≤ cur.length
        ·rw [if_pos h] at hbx
         exact ⟨by rw [← HCL.out]; exact h, hbx⟩
        ·rw [if_neg h] at hbx
         cases hbx
       obtain ⟨hfit, hbx⟩ := hfit
       have HBX := Aside0.mk hbx
       have HFT := Aside0.mk hfit
       have b3 : W5.cell? ⟨X, 3, none⟩ = some (.int .i64 (o : Int)) := by rw [blk_cell Q5.out, ← ho]; rfl
       have b4 : W5.cell? ⟨X, 4, none⟩ = some (.string x.f4) := by rw [blk_cell Q5.out]; rfl
       have mixed : Tryd.prog.follows Departure.mixedOrders = true := by kernel_rfl
       have hon : (o : Int) ≤ (n : Int) := by omega
       have hon2 : o ≤ n := by omega
       clear hbx hfit ho
       go_region
       go_upto_region 12 with (fail)
       by_cases hno : n = o
       ·have hs0 : x.f4.size = 0 := by have := HFT.out; omega
        have hcp : ∀ d l c, (Builtin.copy_ #[59, 9] 3 #[.slice d l c, .string x.f4]).run Tryd.prog W5.drew.drew = .ok (goInt 0) W5.drew.drew := fun d l c => Lib.run_copy_empty_string W5.drew.drew 59 9 3 5 d l c x.f4 Tryd.underlying59 (by rw [Option.isSome_map]; have := info5; cases h : Tryd.prog.info? 5 with | none => rw [h] at this; cases this | some i => rfl) hs0
        have hcur : putB cur o x.f4 = cur := by
         unfold putB
         have hb0 : baN x.f4 = [] := by
          apply List.eq_nil_of_length_eq_zero
          unfold baN
          rw [List.length_map, Array.length_toList]
          exact hs0
         rw [hb0, hs0, List.append_nil, Nat.add_zero, List.take_append_drop]
        have HCUR := Aside0.mk hcur
        clear hcur
        go_region
        obtain ⟨W6, hW6⟩ : ∃ W, W = W5.drew.drew := ⟨_, rfl⟩
        rw [← hW6]
        have hh6 : W6.heap = W5.heap := by rw [hW6]; rfl
        have WB : Aside0 (Below w.heap.size w W6) := ⟨by rw [hW6]; exact Below.drew (Below.drew HB5.out)⟩
        have WO : Aside0 (Kd.R k69 69 W6 w.heap.size (fun k => k ≠ w1.heap.size) u6 (restOf (nx : Int) (l.take (i + 1)))) := ⟨by rw [HRS.out, if_pos e1, List.append_nil]; exact R69_keep HO5.out (fun k cs hk => by rw [hh6])⟩
        have WZ : Aside0 (W6.heap[Z]? = some (.cells (nrow (putB cur o x.f4)) 5 (0, 0))) := ⟨by rw [hh6, HCUR.out]; exact Z5.out⟩
        have WT : Aside0 (W6.heap[w.heap.size]? = _) := ⟨(by rw [hh6] : W6.heap[w.heap.size]? = W5.heap[w.heap.size]?).trans RT5.out⟩
        have WP : Aside0 (W6.heap[w1.heap.size]? = _) := ⟨(by rw [hh6] : W6.heap[w1.heap.size]? = W5.heap[w1.heap.size]?).trans RP5.out⟩
        clear hW6 hh6 hcp
        go_wp2_with (fail)
        go_roundg (m - (i + 1))
        case measure => have := HI.out; omega
        case rel =>
         refine ⟨i + 1, putB cur o x.f4, congrArg (Value.int .i64) (by first | exact hwi | omega), ⟨rfl⟩, ⟨hi⟩, WB, WO, WZ, ⟨?_⟩, HBX, WT, WP⟩
         have := HFT.out
         have hbl : (baN x.f4).length = x.f4.size := by unfold baN; rw [List.length_map, Array.length_toList]; rfl
         unfold putB
         rw [List.length_append, List.length_append, List.length_take, List.length_drop, hbl, HCL.out]
         omega
       ·have hcp : (Builtin.copy_ #[59, 9] 3 #[.slice (some ⟨Z, o, none⟩) (n - o) (n - o), .string x.f4]).run Tryd.prog W5.drew.drew = .ok (goInt x.f4.size) (W5.drew.drew.setRow Z ((nrow cur).toList.take o ++ Lib.byteCells x.f4.data.toList ++ (nrow cur).toList.drop (o + x.f4.size)).toArray) :=
         Lib.run_copy_row_string W5.drew.drew 59 9 3 5 Z o (n - o) (n - o) x.f4 (nrow cur) 5 Tryd.underlying59 size5 Z5.out (by have := HFT.out; omega) (by unfold nrow; simp; rw [HCL.out]; exact HFT.out)
        rw [nrow_put] at hcp
        go_region
        obtain ⟨W6, hW6⟩ : ∃ W, W = W5.drew.drew.setRow Z (nrow (putB cur o x.f4)) := ⟨_, rfl⟩
        rw [← hW6]
        have ho6 : ∀ k, k ≠ Z → W6.heap[k]? = W5.heap[k]? := fun k hk => by rw [hW6, setRow_other _ _ _ _ hk]; rfl
        have WB : Aside0 (Below w.heap.size w W6) := ⟨by rw [hW6]; exact brow (Below.drew (Below.drew HB5.out)) HZW.out _⟩
        have WO : Aside0 (Kd.R k69 69 W6 w.heap.size (fun k => k ≠ w1.heap.size) u6 (restOf (nx : Int) (l.take (i + 1)))) := ⟨by rw [HRS.out, if_pos e1, List.append_nil]; exact R69_keep HO5.out (fun k cs hk => ho6 k (blk_ne' hk Z5.out (by decide)))⟩
        have WZ : Aside0 (W6.heap[Z]? = some (.cells (nrow (putB cur o x.f4)) 5 (0, 0))) := ⟨by rw [hW6]; exact setRow_heap _ _ _ _ _ _ Z5.out⟩
        have WT : Aside0 (W6.heap[w.heap.size]? = _) := ⟨(ho6 _ (blk_ne' RT5.out Z5.out (by decide))).trans RT5.out⟩
        have WP : Aside0 (W6.heap[w1.heap.size]? = _) := ⟨(ho6 _ (blk_ne' RP5.out Z5.out (by decide))).trans RP5.out⟩
        clear hW6 ho6 hcp
        go_wp2_with (fail)
        go_roundg (m - (i + 1))
        case measure => have := HI.out; omega
        case rel =>
         refine ⟨i + 1, putB cur o x.f4, congrArg (Value.int .i64) (by first | exact hwi | omega), ⟨rfl⟩, ⟨hi⟩, WB, WO, WZ, ⟨?_⟩, HBX, WT, WP⟩
         have := HFT.out
         have hbl : (baN x.f4).length = x.f4.size := by unfold baN; rw [List.length_map, Array.length_toList]; rfl
         unfold putB
         rw [List.length_append, List.length_append, List.length_take, List.length_drop, hbl, HCL.out]
         omega
      ·have e1b : (x.f2 == (nx : Int)) = false := beq_eq_false_iff_ne.mpr e1
       have e1c : (x.f2 != (nx : Int)) = true := bne_iff_ne.mpr e1
       go_region
       go_upto_region 11 with (fail)
       obtain ⟨W6, hW6⟩ : ∃ W, W = W5.drew := ⟨_, rfl⟩
       rw [← hW6]
       have hh6 : W6.heap = W5.heap := by rw [hW6]; rfl
       have HB6 : Aside0 (Below w.heap.size w W6) := ⟨by rw [hW6]; exact Below.drew HB5.out⟩
       have HO6 : Aside0 (Kd.R k69 69 W6 w.heap.size (fun k => k ≠ w1.heap.size) u6 (restOf (nx : Int) (l.take i))) := ⟨R69_keep HO5.out (fun k cs hk => by rw [hh6])⟩
       have Z6 : Aside0 (W6.heap[Z]? = some (.cells (nrow cur) 5 (0, 0))) := ⟨by rw [hh6]; exact Z5.out⟩
       have RT6 : Aside0 (W6.heap[w.heap.size]? = _) := ⟨(by rw [hh6] : W6.heap[w.heap.size]? = W5.heap[w.heap.size]?).trans RT5.out⟩
       have RP6 : Aside0 (W6.heap[w1.heap.size]? = _) := ⟨(by rw [hh6] : W6.heap[w1.heap.size]? = W5.heap[w1.heap.size]?).trans RP5.out⟩
       have q6 : W6.heap[X]? = some (.cells (c69 x) 69 (0, 0)) := by rw [hh6]; exact Q5.out
       have d0 : W6.cell? ⟨X, 0, none⟩ = some (.int .u8 x.f0) := by rw [blk_cell q6]; rfl
       have d1 : W6.cell? ⟨X, 1, none⟩ = some (.int .i64 x.f1) := by rw [blk_cell q6]; rfl
       have d2 : W6.cell? ⟨X, 2, none⟩ = some (.int .i64 x.f2) := by rw [blk_cell q6]; rfl
       have d3 : W6.cell? ⟨X, 3, none⟩ = some (.int .i64 x.f3) := by rw [blk_cell q6]; rfl
       have d4 : W6.cell? ⟨X, 4, none⟩ = some (.string x.f4) := by rw [blk_cell q6]; rfl
       have d5 : W6.cell? ⟨X, 5, none⟩ = some (.int .u16 x.f5) := by rw [blk_cell q6]; rfl
       have HRL : Aside0 ((restOf (nx : Int) (l.take i)).length < 1000000) := ⟨by
        have h1 : (restOf (nx : Int) (l.take i)).length ≤ (l.take i).length := List.length_filter_le _ _
        have h2 : (l.take i).length ≤ l.length := by rw [List.length_take]; omega
        omega⟩
       clear hW6 hh6 b2 x0' x1' q6 HB5 HO5 Z5 RT5 RP5 Q5
       go_wp2_with (first | ((with_reducible refine gate_builtin (b := .append) (xs := #[.tmp 58, .tmp 60]) rfl ?_); at_builtin; go_loud (refine Kd.R_append k69 (w0 := w) w.heap.size rfl (.tmp 58) (.tmp 60) 64 69 (.agg #[(.int .u8 0), (.int .i64 0), (.int .i64 0), (.int .i64 0), (.string ⟨#[]⟩), (.int .u16 0)]) 56 rfl Tryd.underlying64 info69 rfl (by decide) (by omega) u6 (restOf (nx : Int) (l.take i)) x [.int .u8 x.f0, .int .i64 x.f1, .int .i64 x.f2, .int .i64 x.f3, .string x.f4, .int .u16 x.f5] (fun k => k ≠ w1.heap.size) (fun _ => False) rfl rfl (k69_mkM _ _ _ x) (fun _ hk => hk.elim) (fun k hk => by have := blk_lt RP6.out; omega) HO6.out HB6.out HB6.out.size (by have := HRL.out; omega) ?_; intro v8 w8 ho hb hg hat; have RO := Aside0.mk ho; have RB := Aside0.mk hb; have RG := Aside0.mk hg; clear ho hb hg hat)))
       go_roundg (m - (i + 1))
       case measure => have := HI.out; omega
       case rel =>
        have hne : ∀ (k : Nat) (o : Obj), W6.heap[k]? = some o → (∀ cs, o ≠ .cells cs 69 (0, 0)) → w8.heap[k]? = W6.heap[k]? := fun k o hk ho => RG.out.block k (blk_lt hk) (R69_ne HO6.out hk ho)
        refine ⟨i + 1, cur, congrArg (Value.int .i64) (by first | exact hwi | omega), ⟨rfl⟩, ⟨hi⟩, RB, ⟨?_⟩, ⟨(hne Z _ Z6.out (fun cs e => by injection e with _ e2 _; exact absurd e2 (by decide))).trans Z6.out⟩, HCL, ⟨?_⟩, ⟨(hne _ _ RT6.out (fun cs e => by injection e with _ e2 _; exact absurd e2 (by decide))).trans RT6.out⟩, ⟨?_⟩⟩
        ·rw [HRS.out, if_neg e1]
         exact RO.out
        ·have := HBGX.out
         rwa [if_neg e1] at this
        ·refine (RG.out.block _ (blk_lt RP6.out) ?_).trans RP6.out
         exact fun e => HO6.out.1 _ e.symm rfl
     ·have hi1 : ¬ (i : Int) < (m : Int) := by omega
      obtain ⟨A6, c6, e6⟩ := Kd.R_slice HO.out
      subst e6
      have hgh := (HBI.out.block g (blk_lt HS.out.hg)).trans HS.out.hg
      have f0 := blk_frozen hgh 0
      have f1 := blk_frozen hgh 1
      have hwn : wrap64 ((nx : Int) + 1) = ((nx + 1 : Nat) : Int) := by unfold wrap64; omega
      go_upto_region 15 with (fail)
      have him : i = m := by have := HIM.out; omega
      have hfin : cur = bd := by
       have := HBG.out
       rw [List.drop_of_length_le (by have := HM.out; omega), bodyGo] at this
       injection this
      have htk : l.take i = l := List.take_of_length_le (by have := HM.out; omega)
      rw [htk] at HO ⊢
      subst hfin
      have hnn : (nx : Int) + 1 = ((nx + 1 : Nat) : Int) := by omega
      rw [hnn]
      obtain ⟨W7, hW7⟩ : ∃ W, W = (wr.setCell ⟨g, 0, none⟩ (.slice A6 (restOf (nx : Int) l).length c6)).setCell ⟨g, 1, none⟩ (.int .i64 ((nx + 1 : Nat) : Int)) := ⟨_, rfl⟩
      rw [← hW7]
      have hg7 : W7.heap[g]? = some (.cells #[.slice A6 (restOf (nx : Int) l).length c6, .int .i64 ((nx + 1 : Nat) : Int)] 73 (0, 0)) := by
       rw [hW7, blk_set (blk_set hgh 0 _) 1 _]
       rfl
      have ho7 : ∀ k, k ≠ g → W7.heap[k]? = wr.heap[k]? := fun k hk => by rw [hW7, Below.heap_setCell _ _ _ _ hk, Below.heap_setCell _ _ _ _ hk]
      have hs7 : W7.heap.size = wr.heap.size := by rw [hW7]; simp [World.setCell]
      have HW7 : Aside0 (W7.os = wr.os ∧ W7.tape = wr.tape ∧ W7.output = wr.output) := ⟨by rw [hW7]; exact ⟨rfl, rfl, rfl⟩⟩
      have hgw := blk_lt HS.out.hg
      have Z7 : Aside0 (W7.heap[Z]? = some (.cells (nrow cur) 5 (0, 0))) := ⟨(ho7 Z (by have := HZW.out; omega)).trans HZ.out⟩
      have RT7 : Aside0 (W7.heap[w.heap.size]? = _) := ⟨(ho7 _ (by omega)).trans HRT.out⟩
      have rp7 := (ho7 w1.heap.size (blk_ne' HRP.out hgh (by decide))).trans HRP.out
      have k0 : W7.cell? ⟨w1.heap.size, 0, none⟩ = some (.int .u8 p.f0) := by rw [blk_cell rp7]; rfl
      have k1 : W7.cell? ⟨w1.heap.size, 1, none⟩ = some (.int .i64 p.f1) := by rw [blk_cell rp7]; rfl
      have k2 : W7.cell? ⟨w1.heap.size, 2, none⟩ = some (.int .i64 p.f2) := by rw [blk_cell rp7]; rfl
      have HO7 : Aside0 (Kd.R k69 69 W7 w.heap.size (fun _ => True) (.slice A6 (restOf (nx : Int) l).length c6) (restOf (nx : Int) l)) := ⟨Kd.R_mono (R69_keep HO.out (fun k cs hk => ho7 k (blk_ne' hk hgh (by decide)))) (fun _ _ => trivial)⟩
      have HG7 := Aside0.mk hg7
      have HO77 := Aside0.mk ho7
      have HS7 := Aside0.mk hs7
      have RP7 := Aside0.mk rp7
      have KHD : Aside0 (∀ W, Calls Tryd.prog 42 #[.int .u8 p.f0, .int .i64 p.f1, .int .i64 p.f2, .int .i64 0, .int .i64 p.f1] W fun e w' => e = .returned (.string hd) ∧ Below W.heap.size W w') := ⟨fun W => spec_Head.calls p.f0 p.f1 p.f2 0 p.f1 hd W HHD.out⟩
      have hsum : hd.size + (baOf cur).size ≤ 9223372036854775807 := by
       have h1 := HHD.out
       rw [head_eq] at h1
       injection h1 with h1
       rw [← h1, headBa_size, baOf_size, HCL.out]
       have := HN.out.2
       omega
      have hsum2 : (9223372036854775807 < hd.size + (baOf cur).size) = False := eq_false (Nat.not_lt.2 hsum)
      have HLD : Aside0 (∀ w' : World, KP w1.heap.size Z w.heap.size (c69 p) (nrow cur) w' → w'.cell? ⟨w1.heap.size, 0, none⟩ = some (.int .u8 p.f0) ∧ w'.cell? ⟨w1.heap.size, 1, none⟩ = some (.int .i64 p.f1) ∧ w'.cell? ⟨w1.heap.size, 2, none⟩ = some (.int .i64 p.f2) ∧ w'.cell? ⟨w1.heap.size, 5, none⟩ = some (.int .u16 p.f5) ∧ (convert 59 9 (.slice (some ⟨Z, 0, none⟩) n n)).run Tryd.prog w' = .ok (.string (baOf cur)) w' ∧ (w'.cell? ⟨w.heap.size, 0, none⟩ = some (curOf w' ⟨w.heap.size, 0, none⟩) ∧ w'.frozen? ⟨w.heap.size, 0, none⟩ = false) ∧ (w'.cell? ⟨w.heap.size, 1, none⟩ = some (curOf w' ⟨w.heap.size, 1, none⟩) ∧ w'.frozen? ⟨w.heap.size, 1, none⟩ = false) ∧ (w'.cell? ⟨w.heap.size, 2, none⟩ = some (curOf w' ⟨w.heap.size, 2, none⟩) ∧ w'.frozen? ⟨w.heap.size, 2, none⟩ = false) ∧ (w'.cell? ⟨w.heap.size, 3, none⟩ = some (curOf w' ⟨w.heap.size, 3, none⟩) ∧ w'.frozen? ⟨w.heap.size, 3, none⟩ = false) ∧ (w'.cell? ⟨w.heap.size, 4, none⟩ = some (curOf w' ⟨w.heap.size, 4, none⟩) ∧ w'.frozen? ⟨w.heap.size, 4, none⟩ = false) ∧ (w'.cell? ⟨w.heap.size, 5, none⟩ = some (curOf w' ⟨w.heap.size, 5, none⟩) ∧ w'.frozen? ⟨w.heap.size, 5, none⟩ = false) ∧ (w'.cell? ⟨w.heap.size, 6, none⟩ = some (curOf w' ⟨w.heap.size, 6, none⟩) ∧ w'.frozen? ⟨w.heap.size, 6, none⟩ = false)) := ⟨fun w' h =>
       ⟨by rw [blk_cell h.p]; rfl, by rw [blk_cell h.p]; rfl, by rw [blk_cell h.p]; rfl, by rw [blk_cell h.p]; rfl, conv_nrow h.z HCL.out, h.cur 0 (by omega), h.cur 1 (by omega), h.cur 2 (by omega), h.cur 3 (by omega), h.cur 4 (by omega), h.cur 5 (by omega), h.cur 6 (by omega)⟩⟩
      have HBR : Aside0 (KP w1.heap.size Z w.heap.size (c69 p) (nrow cur) W7) := ⟨⟨rp7, Z7.out, ⟨_, rfl, RT7.out⟩⟩⟩
      clear hW7 hg7 ho7 hs7 rp7 hgh f0 f1 hwn htk him hnn hgw x0 x1 k0 k1 k2 hsum
      go_region_held3 (fun w' : World => w'.cell? ⟨w1.heap.size, 0, none⟩ = some (.int .u8 p.f0) ∧ w'.cell? ⟨w1.heap.size, 1, none⟩ = some (.int .i64 p.f1) ∧ w'.cell? ⟨w1.heap.size, 2, none⟩ = some (.int .i64 p.f2) ∧ w'.cell? ⟨w1.heap.size, 5, none⟩ = some (.int .u16 p.f5) ∧ (convert 59 9 (.slice (some ⟨Z, 0, none⟩) n n)).run Tryd.prog w' = .ok (.string (baOf cur)) w' ∧ (w'.cell? ⟨w.heap.size, 0, none⟩ = some (curOf w' ⟨w.heap.size, 0, none⟩) ∧ w'.frozen? ⟨w.heap.size, 0, none⟩ = false) ∧ (w'.cell? ⟨w.heap.size, 1, none⟩ = some (curOf w' ⟨w.heap.size, 1, none⟩) ∧ w'.frozen? ⟨w.heap.size, 1, none⟩ = false) ∧ (w'.cell? ⟨w.heap.size, 2, none⟩ = some (curOf w' ⟨w.heap.size, 2, none⟩) ∧ w'.frozen? ⟨w.heap.size, 2, none⟩ = false) ∧ (w'.cell? ⟨w.heap.size, 3, none⟩ = some (curOf w' ⟨w.heap.size, 3, none⟩) ∧ w'.frozen? ⟨w.heap.size, 3, none⟩ = false) ∧ (w'.cell? ⟨w.heap.size, 4, none⟩ = some (curOf w' ⟨w.heap.size, 4, none⟩) ∧ w'.frozen? ⟨w.heap.size, 4, none⟩ = false) ∧ (w'.cell? ⟨w.heap.size, 5, none⟩ = some (curOf w' ⟨w.heap.size, 5, none⟩) ∧ w'.frozen? ⟨w.heap.size, 5, none⟩ = false) ∧ (w'.cell? ⟨w.heap.size, 6, none⟩ = some (curOf w' ⟨w.heap.size, 6, none⟩) ∧ w'.frozen? ⟨w.heap.size, 6, none⟩ = false)) (first | (with_reducible exact HLD.out _ HBR.out) | (with_reducible exact HLD.out _ HBR.out.drew) | (exact HLD.out _ (KP.set (KP.set (KP.set (KP.set (KP.set (KP.set (KP.set HBR.out 0 _) 1 _) 2 _) 3 _) 4 _) 5 _) 6 _))) (first | (go_at_call 42; go_loud ((with_reducible refine (KHD.out _).mono ?_); rintro e w8 ⟨rfl, h8⟩; have HB78 := Aside0.mk h8; have HBRa : Aside0 (KP w1.heap.size Z w.heap.size (c69 p) (nrow cur) w8) := ⟨HBR.out.drew.below h8⟩; clear HBR; have HBR := HBRa; clear HBRa h8)))
      obtain ⟨W9, hW9⟩ : ∃ W, W = (((((((w8.setCell ⟨w.heap.size, 0, none⟩ (.bool false)).setCell ⟨w.heap.size, 1, none⟩ (.bool false)).setCell ⟨w.heap.size, 2, none⟩ (.bool false)).setCell ⟨w.heap.size, 3, none⟩ (.bool true)).setCell ⟨w.heap.size, 4, none⟩ (.string (hd ++ baOf cur))).setCell ⟨w.heap.size, 5, none⟩ (.int .u16 p.f5)).setCell ⟨w.heap.size, 6, none⟩ (.int .i64 0)) := ⟨_, rfl⟩
      rw [← hW9]
      have p9 : W9.heap[w.heap.size]? = some (.cells #[.bool false, .bool false, .bool false, .bool true, .string (hd ++ baOf cur), .int .u16 p.f5, .int .i64 0] 40 (0, 0)) := by
       have r8 := (HB78.out.block _ (blk_lt RT7.out)).trans RT7.out
       rw [hW9, blk_set (blk_set (blk_set (blk_set (blk_set (blk_set (blk_set r8 0 _) 1 _) 2 _) 3 _) 4 _) 5 _) 6 _]
       rfl
      have hb9 : Below w.heap.size W7 W9 := by
       have h0 : Below w.heap.size W7 w8 := ⟨HB78.out.os, HB78.out.tape, HB78.out.output, HB78.out.size, fun k hk => HB78.out.block k (by have := HS7.out; have := HBI.out.size; show k < W7.heap.size; omega)⟩
       rw [hW9]
       exact bset (bset (bset (bset (bset (bset (bset h0 (Nat.le_refl _) 0 _) (Nat.le_refl _) 1 _) (Nat.le_refl _) 2 _) (Nat.le_refl _) 3 _) (Nat.le_refl _) 4 _) (Nat.le_refl _) 5 _) (Nat.le_refl _) 6 _
      have ho9 : ∀ k, k < W7.heap.size → k ≠ w.heap.size → W9.heap[k]? = W7.heap[k]? := fun k hk hne => by
       rw [hW9, Below.heap_setCell _ _ _ _ hne, Below.heap_setCell _ _ _ _ hne, Below.heap_setCell _ _ _ _ hne, Below.heap_setCell _ _ _ _ hne, Below.heap_setCell _ _ _ _ hne, Below.heap_setCell _ _ _ _ hne, Below.heap_setCell _ _ _ _ hne]
       exact HB78.out.block k hk
      have y0 : W9.cell? ⟨w.heap.size, 0, none⟩ = some (.bool false) := by rw [blk_cell p9]; rfl
      have y1 : W9.cell? ⟨w.heap.size, 1, none⟩ = some (.bool false) := by rw [blk_cell p9]; rfl
      have y2 : W9.cell? ⟨w.heap.size, 2, none⟩ = some (.bool false) := by rw [blk_cell p9]; rfl
      have y3 : W9.cell? ⟨w.heap.size, 3, none⟩ = some (.bool true) := by rw [blk_cell p9]; rfl
      have y4 : W9.cell? ⟨w.heap.size, 4, none⟩ = some (.string (hd ++ baOf cur)) := by rw [blk_cell p9]; rfl
      have y5 : W9.cell? ⟨w.heap.size, 5, none⟩ = some (.int .u16 p.f5) := by rw [blk_cell p9]; rfl
      have y6 : W9.cell? ⟨w.heap.size, 6, none⟩ = some (.int .i64 0) := by rw [blk_cell p9]; rfl
      clear hW9
      go_wp2_with (fail)
      refine bodyPost_ret (v := agg40 ⟨false, false, false, true, hd ++ baOf cur, p.f5, 0⟩) (by simp [results, Tryd.results33, go_sem, y0, y1, y2, y3, y4, y5, y6, agg40]) rfl ?_
      obtain ⟨ht, hl', hnx'⟩ := HT.out
      subst ht
      subst hl'
      subst hnx'
      have hgw := blk_lt HS.out.hg
      have hs7 := HS7.out
      have hsw := HBI.out.size
      refine ⟨rfl, ⟨_, ⟨(ho9 g (by omega) (by omega)).trans HG7.out, ?_, ?_, ?_⟩, .inr (fun k hk => Kd.R_base HO7.out k hk)⟩, ⟨?_, ?_, ?_, ?_, ?_⟩⟩
      ·exact Kd.R_lower (R69_keep HO7.out (fun k cs hk => ho9 k (blk_lt hk) (blk_ne' hk RT7.out (by decide)))) HBW.out
      ·exact fun x hx => HS.out.ok x (List.mem_filter.1 hx).1
      ·exact Nat.le_trans (List.length_filter_le _ _) HS.out.len
      ·exact hb9.os.trans (HW7.out.1.trans HBI.out.os)
      ·exact hb9.tape.trans (HW7.out.2.1.trans HBI.out.tape)
      ·exact hb9.output.trans (HW7.out.2.2.trans HBI.out.output)
      ·have := hb9.size; omega
      ·intro k hk hkg _
       exact (ho9 k (by omega) (by omega)).trans ((HO77.out k hkg).trans (HBI.out.block k hk))
end Go.Proofs.YtjflijebcpcbmaaDoor.G
