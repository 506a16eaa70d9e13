/-
 What is proved: the record header and the handshake header are read as the bytes say. Conditions: as many bytes as are read; the version 254 253.
-/
import Derived.Test.YtjflijebcpcbmaaDoorXLeaf
import Derived.Deep.RegionHeld3
namespace Go.Proofs.YtjflijebcpcbmaaDoor.G
open Go.RowKit Go.Proofs.YtjflijebcpcbmaaDoorW.PrintWords Go.Proofs.YtjflijebcpcbmaaDoorW.PrintLast Go.Proofs.YtjflijebcpcbmaaDoorW.PrintMore
set_option linter.unusedVariables false
set_option linter.unusedSimpArgs false

set_option maxHeartbeats 4000000 in
set_option maxRecDepth 100000 in
theorem eq_calls (a b c d : Nat) (w : World) :
 Calls Tryd.prog 52 #[.agg #[.int .u8 (a : Int), .int .u8 (b : Int)], .agg #[.int .u8 (c : Int), .int .u8 (d : Int)]] w fun e w' => e = .returned (.bool (decide (a = c) && decide (b = d))) ∧ Below w.heap.size w w' := by
 have HB := Aside0.mk (((Below.refl w.heap.size w).alloc (Nat.le_refl _) (.cells #[.int .u8 (a : Int), .int .u8 (b : Int)] 90)).alloc (by simp) (.cells #[.int .u8 (c : Int), .int .u8 (d : Int)] 90))
 by_cases h1 : a = c
 ·by_cases h2 : b = d
  ·have HU : Aside0 ((decide (a = c) && decide (b = d)) = true) := ⟨by simp [h1, h2]⟩
   have e1 : ((a : Int) == (c : Int)) = true := by simp; omega
   have e2 : ((b : Int) == (d : Int)) = true := by simp; omega
   clear h1 h2
   go_enter Tryd.func52, Tryd.ntmps52
   go_wp2
   go_ret
   exact ⟨by rw [HU.out]; rfl, HB.out⟩
  ·have HU : Aside0 ((decide (a = c) && decide (b = d)) = false) := ⟨by simp [h2]⟩
   have e1 : ((a : Int) == (c : Int)) = true := by simp; omega
   have e2 : ((b : Int) == (d : Int)) = false := by simp; omega
   clear h1 h2
   go_enter Tryd.func52, Tryd.ntmps52
   go_wp2
   go_ret
   exact ⟨by rw [HU.out]; rfl, HB.out⟩
 ·have HU : Aside0 ((decide (a = c) && decide (b = d)) = false) := ⟨by simp [h1]⟩
  have e1 : ((a : Int) == (c : Int)) = false := by simp; omega
  clear h1
  go_enter Tryd.func52, Tryd.ntmps52
  go_wp2
  go_ret
  exact ⟨by rw [HU.out]; rfl, HB.out⟩

set_option maxHeartbeats 8000000 in
set_option maxRecDepth 100000 in
theorem u64_calls (b : Nat) (bs : List Nat) (w : World) (h : Bytes w b 0 bs) (hl : bs.length = 8) :
 Calls Tryd.prog 51 #[.agg #[], .slice (some ⟨b, 0, none⟩) 8 8] w fun e w' => (∃ x, e = .returned (.int .u64 x)) ∧ Below w.heap.size w w' := by
 obtain ⟨W, hW⟩ : ∃ W, W = w.alloc (.cells #[] 112) := ⟨_, rfl⟩
 have h' : Bytes W b 0 bs := by rw [hW]; exact h.alloc _
 have c0 := h'.cell 0 (by omega)
 have c1 := h'.cell 1 (by omega)
 have c2 := h'.cell 2 (by omega)
 have c3 := h'.cell 3 (by omega)
 have c4 := h'.cell 4 (by omega)
 have c5 := h'.cell 5 (by omega)
 have c6 := h'.cell 6 (by omega)
 have c7 := h'.cell 7 (by omega)
 rw [Nat.zero_add, hW] at c0 c1 c2 c3 c4 c5 c6 c7
 have HB := Aside0.mk ((Below.refl w.heap.size w).alloc (Nat.le_refl _) (.cells #[] 112))
 clear h h'
 generalize (bs.getD 0 0 : Nat) = x0 at *
 generalize (bs.getD 1 0 : Nat) = x1 at *
 generalize (bs.getD 2 0 : Nat) = x2 at *
 generalize (bs.getD 3 0 : Nat) = x3 at *
 generalize (bs.getD 4 0 : Nat) = x4 at *
 generalize (bs.getD 5 0 : Nat) = x5 at *
 generalize (bs.getD 6 0 : Nat) = x6 at *
 generalize (bs.getD 7 0 : Nat) = x7 at *
 go_enter Tryd.func51, Tryd.ntmps51
 go_wp2
 go_quiet (fail)
 go_wp2
 go_ret
 exact ⟨⟨_, rfl⟩, Below.drewN HB.out _⟩

/-- The two versions that the package knows, in the program's variables. -/
structure Laid (w : World) : Prop where
 v0 : ∃ T fz, w.heap[4]? = some (.cells #[.int .u8 254, .int .u8 255] T fz)
 v2 : ∃ T fz, w.heap[5]? = some (.cells #[.int .u8 254, .int .u8 253] T fz)
theorem Laid.lt {w : World} (h : Laid w) : 5 < w.heap.size := by
 obtain ⟨T2, fz, h2⟩ := h.v2
 exact (Array.getElem?_eq_some_iff.1 h2).1
theorem Laid.below {w w' : World} (h : Laid w) (hb : Below w.heap.size w w') : Laid w' := by
 have hl := h.lt
 obtain ⟨T0, f0, h0⟩ := h.v0
 obtain ⟨T2, f2, h2⟩ := h.v2
 exact ⟨⟨T0, f0, (hb.block 4 (by omega)).trans h0⟩, ⟨T2, f2, (hb.block 5 (by omega)).trans h2⟩⟩

theorem Below.undrew {B : Nat} {W w : World} (h : Below B W.drew w) : Below B W w := ⟨h.os, h.tape, h.output, h.size, h.block⟩
theorem gstep {w W W' : World} {r : Option Nat} (h : w.grownBy W r) (hb : Below W.heap.size W W') : w.grownBy W' r :=
 ⟨hb.os.trans h.os, hb.tape.trans h.tape, hb.output.trans h.output, Nat.le_trans h.size hb.size, fun k hk hr => (hb.block k (Nat.lt_of_lt_of_le hk h.size)).trans (h.block k hk hr)⟩
theorem gset {w W : World} {g : Nat} (h : w.grownBy W (some g)) (j : Nat) (v : Value) : w.grownBy (W.setCell ⟨g, j, none⟩ v) (some g) :=
 ⟨h.os, h.tape, h.output, by have := h.size; simpa [World.setCell] using this, fun k hk hr => (Below.heap_setCell W ⟨g, j, none⟩ v k (fun e => hr (by rw [e]))).trans (h.block k hk hr)⟩
def z8 : Array Value := #[.int .u8 0, .int .u8 0, .int .u8 0, .int .u8 0, .int .u8 0, .int .u8 0, .int .u8 0, .int .u8 0]
theorem make8 (w : World) : (Instr.makeSlice 59 (.int .i64 8) (.int .i64 8)).run Tryd.prog w = .ok (.slice (some ⟨w.heap.size, 0, none⟩) 8 8) (w.alloc (.cells z8 5)) := by kernel_rfl

/-- A record header in block g. -/
def rhead (ct maj min ep : Nat) (sq : Int) : Array Value := #[.int .u8 (ct : Int), .int .u16 0, .int .u8 (maj : Int), .int .u8 (min : Int), .int .u16 (ep : Int), .int .u64 sq, .slice none 0 0]

set_option maxHeartbeats 8000000 in
set_option maxRecDepth 100000 in
theorem rhead_calls (gh b n c : Nat) (bs : List Nat) (w : World) (HL : Laid w) (hg : w.heap[gh]? = some (.cells (rhead 0 0 0 0 0) 92 (0, 0))) (h : Bytes w b 0 bs) (hl : bs.length = n) (hn : 13 ≤ n) (hnc : n ≤ c) (hb : ∀ x ∈ bs, x < 256)
 (h1 : bs.getD 1 0 = 254) (h2 : bs.getD 2 0 = 253) (h0 : bs.getD 0 0 ≠ 25) :
 Calls Tryd.prog 43 #[.pointer (some ⟨gh, 0, none⟩), .slice (some ⟨b, 0, none⟩) n c] w fun e w' => e = .returned .nilIface ∧ (∃ sq, w'.heap[gh]? = some (.cells (rhead (bs.getD 0 0) 254 253 (u16of (bs.drop 3)) sq) 92 (0, 0))) ∧ w.grownBy w' (some gh) := by
 have hne : gh ≠ b := by
  obtain ⟨arr, fz, h1, _⟩ := h
  exact blk_ne' hg h1 (by decide)
 have c0 := h.cell 0 (by omega)
 have c1 := h.cell 1 (by omega)
 have c2 := h.cell 2 (by omega)
 rw [Nat.zero_add] at c0 c1 c2
 rw [h1] at c1
 rw [h2] at c2
 replace c1 : w.cell? ⟨b, 1, none⟩ = some (.int .u8 254) := c1
 replace c2 : w.cell? ⟨b, 2, none⟩ = some (.int .u8 253) := c2
 obtain ⟨ct, hct⟩ : ∃ x, x = bs.getD 0 0 := ⟨_, rfl⟩
 rw [← hct] at c0 h0 ⊢
 have hn0 : ¬ ((n : Int) < 13) := by omega
 have s3 : ¬ c = 3 := by omega
 have s3' : (3 : Int) ≤ (n : Int) := by omega
 have s5 : ¬ c = 5 := by omega
 have s5' : (11 : Int) ≤ (c : Int) := by omega
 have e25 : ((ct : Int) == 25) = false := by simp; omega
 have g0 : w.cell? ⟨gh, 0, none⟩ = some (.int .u8 0) := by rw [blk_cell hg]; rfl
 have g2 : w.cell? ⟨gh, 2, none⟩ = some (.int .u8 0) := by rw [blk_cell hg]; rfl
 have g3 : w.cell? ⟨gh, 3, none⟩ = some (.int .u8 0) := by rw [blk_cell hg]; rfl
 have f0 := blk_frozen hg 0
 have f2 := blk_frozen hg 2
 have f3 := blk_frozen hg 3
 have hne' : b ≠ gh := fun e => hne e.symm
 have H := Aside0.mk h
 have HG := Aside0.mk hg
 have HLL := Aside0.mk HL
 have HN := Aside0.mk hn
 have HBN := Aside0.mk hb
 have HLEN := Aside0.mk hl
 clear h hg HL h1 h2 hct hb hl
 go_enter Tryd.func43, Tryd.ntmps43
 go_wp2
 obtain ⟨W1, hW1⟩ : ∃ W1, W1 = ((w.setCell ⟨gh, 0, none⟩ (.int .u8 (ct : Int))).setCell ⟨gh, 2, none⟩ (.int .u8 254)).setCell ⟨gh, 3, none⟩ (.int .u8 253) := ⟨_, rfl⟩
 have hg1 : W1.heap[gh]? = some (.cells (rhead ct 254 253 0 0) 92 (0, 0)) := by
  rw [hW1, blk_set (blk_set (blk_set HG.out 0 _) 2 _) 3 _]
  rfl
 have hb1 : Bytes W1 b 0 bs := H.out.kept (by rw [hW1, Below.heap_setCell _ _ _ _ hne', Below.heap_setCell _ _ _ _ hne', Below.heap_setCell _ _ _ _ hne'])
 have hgr1 : w.grownBy W1 (some gh) := by
  rw [hW1]
  refine ⟨rfl, rfl, rfl, by simp [World.setCell], fun k _ hk => ?_⟩
  have hk' : k ≠ gh := fun e => hk (by rw [e])
  rw [Below.heap_setCell _ _ _ _ hk', Below.heap_setCell _ _ _ _ hk', Below.heap_setCell _ _ _ _ hk']
 rw [← hW1]
 have HG1 := Aside0.mk hg1
 have HB1 := Aside0.mk hb1
 have HGR1 := Aside0.mk hgr1
 have HU : Aside0 (∀ W, Bytes W b 0 bs → Calls Tryd.prog 50 #[.agg #[], .slice (some ⟨b, 3, none⟩) (n - 3) (c - 3)] W fun e w' => e = .returned (.int .u16 (u16of (bs.drop 3) : Int)) ∧ Below W.heap.size W w') := ⟨fun W hW => u16_calls (.agg #[]) b 3 (n - 3) (c - 3) (bs.drop 3) W (by have := hW.drop 3; rw [Nat.zero_add] at this; exact this) (by rw [List.length_drop, HLEN.out]; omega) (fun x hx => HBN.out x (List.mem_of_mem_drop hx)) (by omega)⟩
 clear hg1 hb1 hgr1 hW1 c0 c1 c2 g0 g2 g3 f0 f2 f3
 have HUd := Aside0.mk (HU.out W1.drew HB1.out)
 go_region_with (go_at_call 50; go_loud ((with_reducible refine (HUd.out).mono ?_); rintro e w2 ⟨rfl, h2⟩; have hg2 : w2.heap[gh]? = some (.cells (rhead ct 254 253 0 0) 92 (0, 0)) := (h2.block gh (blk_lt HG1.out)).trans HG1.out; have g4 : w2.cell? ⟨gh, 4, none⟩ = some (.int .u16 0) := blk_cell hg2 4; have f4 := blk_frozen hg2 4; have HG2 := Aside0.mk hg2; have H2 := Aside0.mk h2; clear hg2 h2))
 obtain ⟨ep, hep⟩ : ∃ e, e = u16of (bs.drop 3) := ⟨_, rfl⟩
 obtain ⟨W3, hW3⟩ : ∃ W3, W3 = w2.setCell ⟨gh, 4, none⟩ (.int .u16 (u16of (bs.drop 3) : Int)) := ⟨_, rfl⟩
 have hg3 : W3.heap[gh]? = some (.cells (rhead ct 254 253 ep 0) 92 (0, 0)) := by
  rw [hW3, blk_set HG2.out 4 _, hep]
  rfl
 have hb3 : Bytes W3 b 0 bs := by
  refine HB1.out.kept ?_
  rw [hW3, Below.heap_setCell _ _ _ _ hne']
  obtain ⟨arr, fz, h1, _⟩ := HB1.out
  exact H2.out.block b (blk_lt h1)
 have hgr3 : w.grownBy W3 (some gh) := by
  rw [hW3]
  exact gset (gstep HGR1.out (Below.undrew H2.out)) _ _
 have hlt3 : b < W3.heap.size := by obtain ⟨arr, fz, h1, _⟩ := hb3; exact blk_lt h1
 rw [← hW3]
 have HG3 := Aside0.mk hg3
 have HB3 := Aside0.mk hb3
 have HGR3 := Aside0.mk hgr3
 have HEP := Aside0.mk hep
 have hm := make8 W3
 obtain ⟨W4, hW4⟩ : ∃ W4, W4 = W3.alloc (.cells z8 5) := ⟨_, rfl⟩
 rw [← hW4] at hm
 obtain ⟨Hb, hHb⟩ : ∃ x, x = W3.heap.size := ⟨_, rfl⟩
 rw [← hHb] at hm
 have hb34 : Below W3.heap.size W3 W4 := by rw [hW4]; exact (Below.refl _ _).alloc (Nat.le_refl _) _
 have hblk : W4.heap[Hb]? = some (.cells (u8s [0, 0] ++ u8s [0, 0, 0, 0, 0, 0] ++ ([] : List Value)).toArray 5 (0, 0)) := by rw [hW4, hHb]; exact heap_alloc_new W3 _
 have hb4 : Bytes W4 b 0 bs := hb3.kept (hb34.block b hlt3)
 obtain ⟨cs, hcs⟩ : ∃ cs, cs = u8s ((bs.drop 5).take 6) := ⟨_, rfl⟩
 have hcl : cs.length = 6 := by rw [hcs]; simp [u8s, HLEN.out]; omega
 have hcp : ∀ ty dc sc, (Builtin.copy_ #[59, 59] ty #[.slice (some ⟨Hb, 2, none⟩) 6 dc, .slice (some ⟨b, 5, none⟩) 6 sc]).run Tryd.prog W4.drew = .ok (goInt cs.length) (W4.drew.setCells Hb 2 cs) := fun ty dc sc =>
  run_copy_cells W4.drew 59 59 ty 5 Hb 2 6 dc ⟨b, 5, none⟩ 6 sc cs Tryd.underlying59 size5 (by rw [hcl]; rfl)
   (fun j v hj => by
    have hj6 : j < 6 := by have := (List.getElem?_eq_some_iff.1 hj).1; omega
    have hc := hb4.cell (5 + j) (by have := HLEN.out; omega)
    rw [Nat.zero_add] at hc
    rw [Addr.add_lit]
    refine Eq.trans hc ?_
    rw [← hj, hcs]
    have := HLEN.out
    simp [u8s, List.getElem?_take, hj6, List.getD_eq_getElem?_getD]
    rw [List.getElem?_eq_getElem (by omega)]
    rfl)
   (fun j hj => by
    have : W4.drew.cell? ⟨Hb, 2 + j, none⟩ = _ := blk_cell hblk (2 + j)
    rw [this]
    have hj6 : j < 6 := by omega
    have : 2 + j < (u8s [0, 0] ++ u8s [0, 0, 0, 0, 0, 0] ++ ([] : List Value)).toArray.size := by simp [u8s]; omega
    rw [Array.getElem?_eq_getElem this]
    rfl)
   (fun j hj => blk_frozen (w := W4.drew) hblk _) (fun v hv => by rw [hcs] at hv; unfold u8s at hv; obtain ⟨x, _, hx⟩ := List.mem_map.1 hv; rw [← hx]; rfl)
 have hblk2 : (W4.drew.setCells Hb 2 cs).heap[Hb]? = _ := setCells_blk Hb 5 cs 2 W4.drew _ _ _ hblk rfl (by rw [hcl]; rfl)
 have hby : Bytes (W4.drew.setCells Hb 2 cs) Hb 0 ([0, 0] ++ (bs.drop 5).take 6) := Bytes.of_cells (by rw [hblk2, hcs]; simp [u8s])
 have h64 := u64_calls Hb ([0, 0] ++ (bs.drop 5).take 6) (W4.drew.setCells Hb 2 cs) hby (by simp [HLEN.out]; omega)
 obtain ⟨W5, hW5⟩ : ∃ W5, W5 = W4.drew.setCells Hb 2 cs := ⟨_, rfl⟩
 rw [← hW5] at hcp h64
 have hbW5 : Below W3.heap.size W3 W5 := by rw [hW5]; exact below_setCells hb34.drew (by omega) _ _
 have H64 := Aside0.mk h64
 have HCP := Aside0.mk hcp
 have HBW5 := Aside0.mk hbW5
 clear hg3 hb3 hgr3 hep hW3 hblk hb4 hcs hcp hblk2 hby h64 hb34 hlt3 g4 f4 hW4 hHb hW5 hbW5
 go_wp2_with (fail)
 go_still_tail 4, (by kernel_rfl)
 change wpList _ _ _ _ _ W4.drew
 go_wp2_with (first | ((with_reducible refine gate_builtin (b := .copy) (xs := #[.tmp 65, .tmp 67]) rfl ?_); go_loud (refine at_copy _ rfl _ _ 59 59 rfl _ _ rfl rfl (HCP.out _ _ _) ?_)) | (go_at_call 51; go_loud ((with_reducible refine (H64.out).mono ?_); rintro e w6 ⟨⟨sq, rfl⟩, h6⟩; have hb36 := below_then HBW5.out HBW5.out.size h6; have hg6 : w6.heap[gh]? = some (.cells (rhead ct 254 253 ep 0) 92 (0, 0)) := (hb36.block gh (blk_lt HG3.out)).trans HG3.out; have g5 : w6.cell? ⟨gh, 5, none⟩ = some (.int .u64 0) := blk_cell hg6 5; have f5 := blk_frozen hg6 5; have HG6 := Aside0.mk hg6; have HB36 := Aside0.mk hb36; clear hg6 hb36 h6)))
 obtain ⟨W7, hW7⟩ : ∃ W7, W7 = w6.setCell ⟨gh, 5, none⟩ (.int .u64 sq) := ⟨_, rfl⟩
 have hg7 : W7.heap[gh]? = some (.cells (rhead ct 254 253 ep sq) 92 (0, 0)) := by
  rw [hW7, blk_set HG6.out 5 _]
  rfl
 have hgr7 : w.grownBy W7 (some gh) := by
  rw [hW7]
  exact gset (gstep HGR3.out HB36.out) _ _
 rw [← hW7]
 have hS : ∀ w', Below W7.heap.size W7 w' → w'.cell? ⟨gh, 2, none⟩ = some (.int .u8 254) ∧ w'.cell? ⟨gh, 3, none⟩ = some (.int .u8 253) ∧ w'.cell? ⟨4, 0, none⟩ = some (.int .u8 254) ∧ w'.cell? ⟨4, 1, none⟩ = some (.int .u8 255) ∧ w'.cell? ⟨5, 0, none⟩ = some (.int .u8 254) ∧ w'.cell? ⟨5, 1, none⟩ = some (.int .u8 253) := by
  intro w' hb
  have hk : W7.heap[gh]? = w'.heap[gh]? := (hb.block gh (blk_lt hg7)).symm
  have hLW : Laid w' := by
   have hl := HLL.out.lt
   obtain ⟨T0, f0, h0⟩ := HLL.out.v0
   obtain ⟨T2, f2, h2⟩ := HLL.out.v2
   have hn4 : some 4 ≠ some gh := fun e => by
    injection e with e
    rw [← e, h0] at HG
    have := HG.out
    unfold rhead at this
    simp at this
   have hn5 : some 5 ≠ some gh := fun e => by
    injection e with e
    rw [← e, h2] at HG
    have := HG.out
    unfold rhead at this
    simp at this
   have hs := hgr7.size
   exact ⟨⟨T0, f0, ((hb.block 4 (by omega)).trans (hgr7.block 4 (by omega) hn4)).trans h0⟩, ⟨T2, f2, ((hb.block 5 (by omega)).trans (hgr7.block 5 (by omega) hn5)).trans h2⟩⟩
  obtain ⟨T0, f0, h0⟩ := hLW.v0
  obtain ⟨T2, f2, h2⟩ := hLW.v2
  rw [hg7] at hk
  exact ⟨blk_cell hk.symm 2, blk_cell hk.symm 3, cell_of_row _ _ 0 _ _ _ h0, cell_of_row _ _ 1 _ _ _ h0, cell_of_row _ _ 0 _ _ _ h2, cell_of_row _ _ 1 _ _ _ h2⟩
 have HS := Aside0.mk hS
 have HG7 := Aside0.mk hg7
 have HGR7 := Aside0.mk hgr7
 have EQA : Aside0 (∀ W, Calls Tryd.prog 52 #[.agg #[.int .u8 254, .int .u8 253], .agg #[.int .u8 254, .int .u8 255]] W fun e w' => e = .returned (.bool false) ∧ Below W.heap.size W w') := ⟨fun W => eq_calls 254 253 254 255 W⟩
 have EQB : Aside0 (∀ W, Calls Tryd.prog 52 #[.agg #[.int .u8 254, .int .u8 253], .agg #[.int .u8 254, .int .u8 253]] W fun e w' => e = .returned (.bool true) ∧ Below W.heap.size W w') := ⟨fun W => eq_calls 254 253 254 253 W⟩
 have HBR := Aside0.mk (Below.refl W7.heap.size W7)
 clear hS hg7 hgr7 hW7 g5 f5
 go_region_held3 (fun w' => w'.cell? ⟨gh, 2, none⟩ = some (.int .u8 254) ∧ w'.cell? ⟨gh, 3, none⟩ = some (.int .u8 253) ∧ w'.cell? ⟨4, 0, none⟩ = some (.int .u8 254) ∧ w'.cell? ⟨4, 1, none⟩ = some (.int .u8 255) ∧ w'.cell? ⟨5, 0, none⟩ = some (.int .u8 254) ∧ w'.cell? ⟨5, 1, none⟩ = some (.int .u8 253)) (first | exact HS.out _ HBR.out | exact HS.out _ HBR.out.drew) (first | (go_at_call 52; go_loud (first | ((with_reducible refine (EQA.out _).mono ?_); rintro e w8 ⟨rfl, h8⟩; have HBRa := Aside0.mk (below_then HBR.out.drew HBR.out.drew.size h8); clear HBR; have HBR := HBRa; clear HBRa h8) | ((with_reducible refine (EQB.out _).mono ?_); rintro e w8 ⟨rfl, h8⟩; have HBRa := Aside0.mk (below_then HBR.out HBR.out.size h8); clear HBR; have HBR := HBRa; clear HBRa h8))))
 go_wp2
 go_ret
 exact ⟨rfl, ⟨sq, by rw [(HBR.out.block gh (blk_lt HG7.out)).trans HG7.out, HEP.out]⟩, gstep HGR7.out HBR.out⟩

/-- A handshake header in block g. -/
def shead (t l s o f : Nat) : Array Value := #[.int .u8 (t : Int), .int .u32 (l : Int), .int .u16 (s : Int), .int .u32 (o : Int), .int .u32 (f : Int)]

theorem bytes_grown {w w' : World} {b o : Nat} {bs : List Nat} {r : Option Nat} (h : Bytes w b o bs) (hg : w.grownBy w' r) (hr : some b ≠ r) : Bytes w' b o bs := by
 refine h.kept ?_
 obtain ⟨arr, fz, h1, _⟩ := h
 exact hg.block b (blk_lt h1) hr
theorem bytes_below {w w' : World} {b o : Nat} {bs : List Nat} (h : Bytes w b o bs) (hg : Below w.heap.size w w') : Bytes w' b o bs := by
 refine h.kept ?_
 obtain ⟨arr, fz, h1, _⟩ := h
 exact hg.block b (blk_lt h1)
theorem bytes_lt {w : World} {b o : Nat} {bs : List Nat} (h : Bytes w b o bs) : b < w.heap.size := by
 obtain ⟨arr, fz, h1, _⟩ := h
 exact blk_lt h1

set_option maxHeartbeats 8000000 in
set_option maxRecDepth 100000 in
theorem shead_calls (gh b o n c : Nat) (bs : List Nat) (w : World) (hg : w.heap[gh]? = some (.cells (shead 0 0 0 0 0) 97 (0, 0))) (h : Bytes w b o bs) (hl : bs.length = n) (hn : 12 ≤ n) (hnc : n ≤ c) (hb : ∀ x ∈ bs, x < 256) :
 Calls Tryd.prog 44 #[.pointer (some ⟨gh, 0, none⟩), .slice (some ⟨b, o, none⟩) n c] w fun e w' => e = .returned .nilIface ∧ w'.heap[gh]? = some (.cells (shead (bs.getD 0 0) (u24of (bs.drop 1)) (u16of (bs.drop 4)) (u24of (bs.drop 6)) (u24of (bs.drop 9))) 97 (0, 0)) ∧ w.grownBy w' (some gh) := by
 have hne : gh ≠ b := by
  obtain ⟨arr, fz, h1, _⟩ := h
  exact blk_ne' hg h1 (by decide)
 have hne' : b ≠ gh := fun e => hne e.symm
 have HNB : Aside0 (some b ≠ some gh) := ⟨fun e => hne' (by injection e)⟩
 have c0 := h.cell 0 (by omega)
 rw [Nat.add_zero] at c0
 have H24 : Aside0 (∀ W k, k + 3 ≤ n → Bytes W b o bs → Calls Tryd.prog 53 #[.slice (some ⟨b, o + k, none⟩) (n - k) (c - k)] W fun e w' => e = .returned (.int .u32 (u24of (bs.drop k) : Int)) ∧ Below W.heap.size W w') := ⟨fun W k hk hW => u24_calls b (o + k) (n - k) (c - k) (bs.drop k) W (hW.drop k) (by rw [List.length_drop]; omega) (fun x hx => hb x (List.mem_of_mem_drop hx)) (by omega) (bytes_lt hW)⟩
 have H16 : Aside0 (∀ W k, k + 2 ≤ n → Bytes W b o bs → Calls Tryd.prog 50 #[.agg #[], .slice (some ⟨b, o + k, none⟩) (n - k) (c - k)] W fun e w' => e = .returned (.int .u16 (u16of (bs.drop k) : Int)) ∧ Below W.heap.size W w') := ⟨fun W k hk hW => u16_calls (.agg #[]) b (o + k) (n - k) (c - k) (bs.drop k) W (hW.drop k) (by rw [List.length_drop]; omega) (fun x hx => hb x (List.mem_of_mem_drop hx)) (by omega)⟩
 obtain ⟨t, ht⟩ : ∃ x, x = bs.getD 0 0 := ⟨_, rfl⟩
 obtain ⟨l, hll⟩ : ∃ x, x = u24of (bs.drop 1) := ⟨_, rfl⟩
 obtain ⟨s, hs⟩ : ∃ x, x = u16of (bs.drop 4) := ⟨_, rfl⟩
 obtain ⟨f, hf⟩ : ∃ x, x = u24of (bs.drop 6) := ⟨_, rfl⟩
 obtain ⟨r, hr⟩ : ∃ x, x = u24of (bs.drop 9) := ⟨_, rfl⟩
 have H1 : Aside0 (∀ W, Bytes W b o bs → Calls Tryd.prog 53 #[.slice (some ⟨b, o + 1, none⟩) (n - 1) (c - 1)] W fun e w' => e = .returned (.int .u32 (l : Int)) ∧ Below W.heap.size W w') := ⟨fun W hW => by rw [hll]; exact H24.out W 1 (by omega) hW⟩
 have H4 : Aside0 (∀ W, Bytes W b o bs → Calls Tryd.prog 50 #[.agg #[], .slice (some ⟨b, o + 4, none⟩) (n - 4) (c - 4)] W fun e w' => e = .returned (.int .u16 (s : Int)) ∧ Below W.heap.size W w') := ⟨fun W hW => by rw [hs]; exact H16.out W 4 (by omega) hW⟩
 have H6 : Aside0 (∀ W, Bytes W b o bs → Calls Tryd.prog 53 #[.slice (some ⟨b, o + 6, none⟩) (n - 6) (c - 6)] W fun e w' => e = .returned (.int .u32 (f : Int)) ∧ Below W.heap.size W w') := ⟨fun W hW => by rw [hf]; exact H24.out W 6 (by omega) hW⟩
 have H9 : Aside0 (∀ W, Bytes W b o bs → Calls Tryd.prog 53 #[.slice (some ⟨b, o + 9, none⟩) (n - 9) (c - 9)] W fun e w' => e = .returned (.int .u32 (r : Int)) ∧ Below W.heap.size W w') := ⟨fun W hW => by rw [hr]; exact H24.out W 9 (by omega) hW⟩
 rw [← ht, ← hll, ← hs, ← hf, ← hr]
 rw [← ht] at c0
 have hn0 : ¬ ((n : Int) < 12) := by omega
 have s1 : ¬ c = 1 := by omega
 have s1' : (1 : Int) ≤ (n : Int) := by omega
 have s4 : ¬ c = 4 := by omega
 have s4' : (4 : Int) ≤ (n : Int) := by omega
 have s6 : ¬ c = 6 := by omega
 have s6' : (6 : Int) ≤ (n : Int) := by omega
 have s9 : ¬ c = 9 := by omega
 have s9' : (9 : Int) ≤ (n : Int) := by omega
 have g0 : w.cell? ⟨gh, 0, none⟩ = some (.int .u8 0) := by rw [blk_cell hg]; rfl
 have f0 := blk_frozen hg 0
 have W0 : Aside0 (Bytes (w.setCell ⟨gh, 0, none⟩ (.int .u8 (t : Int))) b o bs) := ⟨bytes_grown h (gset (World.grownBy.refl w _) 0 _) HNB.out⟩
 have G0 : Aside0 ((w.setCell ⟨gh, 0, none⟩ (.int .u8 (t : Int))).heap[gh]? = some (.cells (shead t 0 0 0 0) 97 (0, 0))) := ⟨by rw [blk_set hg 0 _]; rfl⟩
 have R0 : Aside0 (w.grownBy (w.setCell ⟨gh, 0, none⟩ (.int .u8 (t : Int))) (some gh)) := ⟨gset (World.grownBy.refl w _) 0 _⟩
 have H := Aside0.mk h
 clear h hg hb hl ht hll hs hf hr H24 H16
 go_enter Tryd.func44, Tryd.ntmps44
 go_wp2_with (go_at_call 53; go_loud ((with_reducible refine (H1.out _ W0.out).mono ?_); rintro e w1 ⟨rfl, h1⟩; have b1 := bytes_below W0.out h1; have r1 := gstep R0.out h1; have hg1 : w1.heap[gh]? = some (.cells (shead t 0 0 0 0) 97 (0, 0)) := (h1.block gh (blk_lt G0.out)).trans G0.out; have g1 : w1.cell? ⟨gh, 1, none⟩ = some (.int .u32 0) := blk_cell hg1 1; have f1 := blk_frozen hg1 1; have B1 := Aside0.mk b1; have R1 := Aside0.mk r1; have G1 := Aside0.mk hg1; clear hg1 h1 b1 r1))
 obtain ⟨w2, hw2⟩ : ∃ w2, w2 = w1.setCell ⟨gh, 1, none⟩ (.int .u32 (l : Int)) := ⟨_, rfl⟩
 rw [← hw2]
 have B2 : Aside0 (Bytes w2 b o bs) := ⟨by rw [hw2]; exact bytes_grown B1.out (gset (World.grownBy.refl _ _) 1 _) HNB.out⟩
 have G2 : Aside0 (w2.heap[gh]? = some (.cells (shead t l 0 0 0) 97 (0, 0))) := ⟨by rw [hw2, blk_set G1.out 1 _]; rfl⟩
 have R2 : Aside0 (w.grownBy w2 (some gh)) := ⟨by rw [hw2]; exact gset R1.out 1 _⟩
 have B2d : Aside0 (Bytes w2.drew b o bs) := ⟨B2.out⟩
 clear hw2 g1 f1 g0 f0
 go_region_with (go_at_call 50; go_loud ((with_reducible refine (H4.out _ B2d.out).mono ?_); rintro e w3 ⟨rfl, h3⟩; have h3' := Below.undrew h3; have b3 := bytes_below B2.out h3'; have r3 := gstep R2.out h3'; have hg3 : w3.heap[gh]? = some (.cells (shead t l 0 0 0) 97 (0, 0)) := (h3'.block gh (blk_lt G2.out)).trans G2.out; have g3 : w3.cell? ⟨gh, 2, none⟩ = some (.int .u16 0) := blk_cell hg3 2; have f3 := blk_frozen hg3 2; have B3 := Aside0.mk b3; have R3 := Aside0.mk r3; have G3 := Aside0.mk hg3; clear hg3 h3 h3' b3 r3))
 obtain ⟨w4, hw4⟩ : ∃ w4, w4 = w3.setCell ⟨gh, 2, none⟩ (.int .u16 (s : Int)) := ⟨_, rfl⟩
 rw [← hw4]
 have B4 : Aside0 (Bytes w4 b o bs) := ⟨by rw [hw4]; exact bytes_grown B3.out (gset (World.grownBy.refl _ _) 2 _) HNB.out⟩
 have G4 : Aside0 (w4.heap[gh]? = some (.cells (shead t l s 0 0) 97 (0, 0))) := ⟨by rw [hw4, blk_set G3.out 2 _]; rfl⟩
 have R4 : Aside0 (w.grownBy w4 (some gh)) := ⟨by rw [hw4]; exact gset R3.out 2 _⟩
 clear hw4 g3 f3
 go_wp2_with (first | (go_at_call 53; go_loud ((with_reducible refine (H6.out _ B4.out).mono ?_); rintro e w5 ⟨rfl, h5⟩; have b5 := bytes_below B4.out h5; have r5 := gstep R4.out h5; have hg5 : w5.heap[gh]? = some (.cells (shead t l s 0 0) 97 (0, 0)) := (h5.block gh (blk_lt G4.out)).trans G4.out; have g5 : w5.cell? ⟨gh, 3, none⟩ = some (.int .u32 0) := blk_cell hg5 3; have f5 := blk_frozen hg5 3; have B6 := Aside0.mk (bytes_grown b5 (gset (World.grownBy.refl w5 (some gh)) 3 (.int .u32 (f : Int))) HNB.out); have R6 := Aside0.mk (gset r5 3 (.int .u32 (f : Int))); have G6 := Aside0.mk (blk_set hg5 3 (.int .u32 (f : Int))); clear hg5 h5 b5 r5 H6)) | (go_at_call 53; go_loud ((with_reducible refine (H9.out _ B6.out).mono ?_); rintro e w7 ⟨rfl, h7⟩; have r7 := gstep R6.out h7; have hg7 : w7.heap[gh]? = some (.cells (shead t l s f 0) 97 (0, 0)) := (h7.block gh (blk_lt G6.out)).trans G6.out; have g7 : w7.cell? ⟨gh, 4, none⟩ = some (.int .u32 0) := blk_cell hg7 4; have f7 := blk_frozen hg7 4; have R8 := Aside0.mk (gset r7 4 (.int .u32 (r : Int))); have G8 := Aside0.mk (blk_set hg7 4 (.int .u32 (r : Int))); clear hg7 h7 r7)))
 go_ret
 exact ⟨rfl, G8.out, R8.out⟩
end Go.Proofs.YtjflijebcpcbmaaDoor.G
