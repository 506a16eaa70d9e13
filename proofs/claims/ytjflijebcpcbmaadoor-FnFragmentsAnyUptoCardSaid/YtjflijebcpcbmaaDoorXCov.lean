/-
 What is proved: whether stored ranges cover a fragment. Conditions: numbers below 2^31.
-/
import Derived.Test.YtjflijebcpcbmaaDoorXRng
namespace Go.Proofs.YtjflijebcpcbmaaDoor.G
open Go.RowKit Go.Proofs.YtjflijebcpcbmaaDoorW.PrintWords Go.Proofs.YtjflijebcpcbmaaDoorW.PrintLast Go.Proofs.YtjflijebcpcbmaaDoorW.PrintMore
set_option linter.unusedVariables false
set_option linter.unusedSimpArgs false
theorem first_below {B : Nat} {a w w1 : World} (h : Below B a w) (hB : B ≤ w.heap.size) (k : Below w.heap.size w w1) : Below B a w1 := below_then h hB k

set_option maxHeartbeats 8000000 in
set_option maxRecDepth 100000 in
theorem cov_t (g b c n i k o len pc xo xl xc yo yl yc : Nat) (A xA yA : Option Addr) (w : World) (hg : w.cell? ⟨g, 0, none⟩ = some (.slice (some ⟨b, 0, none⟩) n c)) (hb1 : o + len < 4294967296) (hn : n ≤ 1000) (hin : i ≤ n) (hi : i = k + 1) (h0 : w.cell? ⟨b, k * 2, none⟩ = some (.int .u32 (xo : Int))) (h1 : w.cell? ⟨b, k * 2 + 1, none⟩ = some (.slice xA xl xc)) (hb2 : xo + xl < 4294967296) (hc : o + len ≤ xo + xl) :
 Calls Tryd.prog 56 #[.pointer (some ⟨g, 0, none⟩), .int .i64 (i : Int), .agg #[.int .u32 (o : Int), .slice A len pc]] w fun e w' => e = .returned (.bool true) ∧ Below w.heap.size w w' := by
 obtain ⟨W1, hW1⟩ : ∃ W, W = w.alloc (.cells #[.int .u32 (o : Int), .slice A len pc] 108) := ⟨_, rfl⟩
 obtain ⟨h, hh⟩ : ∃ h, h = w.heap.size := ⟨_, rfl⟩
 have hb : Below w.heap.size w W1 := by rw [hW1]; exact (Below.refl _ _).alloc (Nat.le_refl _) _
 have hblk : W1.heap[h]? = some (.cells #[.int .u32 (o : Int), .slice A len pc] 108 (0, 0)) := by rw [hW1, hh]; exact heap_alloc_new w _
 have hS : ∀ w', Below W1.heap.size W1 w' → w'.cell? ⟨g, 0, none⟩ = some (.slice (some ⟨b, 0, none⟩) n c) ∧ w'.cell? ⟨b, k * 2, none⟩ = some (.int .u32 (xo : Int)) ∧ w'.cell? ⟨b, k * 2 + 1, none⟩ = some (.slice xA xl xc) ∧ w'.cell? ⟨h, 0, none⟩ = some (.int .u32 (o : Int)) ∧ w'.cell? ⟨h, 1, none⟩ = some (.slice A len pc) := by
  intro w' hk
  have hw : Below w.heap.size w w' := below_then hb hb.size hk
  have hbk := (hk.block h (blk_lt hblk)).trans hblk
  exact ⟨(hw.cell (World.block_lt_of_cell? w _ hg)).trans hg, (hw.cell (World.block_lt_of_cell? w _ h0)).trans h0, (hw.cell (World.block_lt_of_cell? w _ h1)).trans h1, blk_cell hbk 0, blk_cell hbk 1⟩
 have f1 : 0 < i := by omega
 have e1 : IntKind.i64.wrap ((i : Int) - 1) = (k : Int) := by rw [IntWalk.i64_in _ (by omega)]; omega
 have e3 : (k : Int) < (n : Int) := by omega
 have e4 : k < n := by omega
 have c1 : ((o : Int) + (len : Int) ≤ (xo : Int) + (xl : Int)) := by omega
 have EA : Aside0 (∀ W, Calls Tryd.prog 47 #[.agg #[.int .u32 (xo : Int), .slice xA xl xc]] W fun e w' => e = .returned (.int .u32 ((xo + xl : Nat) : Int)) ∧ Below W.heap.size W w') := ⟨fun W => end_calls xo xl xA xc W hb2⟩
 have EB : Aside0 (∀ W, Calls Tryd.prog 47 #[.agg #[.int .u32 (o : Int), .slice A len pc]] W fun e w' => e = .returned (.int .u32 ((o + len : Nat) : Int)) ∧ Below W.heap.size W w') := ⟨fun W => end_calls o len A pc W hb1⟩
 have HS := Aside0.mk hS
 have HB := Aside0.mk hb
 have HBR := Aside0.mk (Below.refl W1.heap.size W1)
 clear hS hb hg hblk hi hin hb1 h0 h1 hc hb2
 go_enter Tryd.func56, Tryd.ntmps56
 go_wp2
 rw [← hW1, ← hh]
 clear hW1 hh
 go_region_held3 (fun w' => w'.cell? ⟨g, 0, none⟩ = some (.slice (some ⟨b, 0, none⟩) n c) ∧ w'.cell? ⟨b, k * 2, none⟩ = some (.int .u32 (xo : Int)) ∧ w'.cell? ⟨b, k * 2 + 1, none⟩ = some (.slice xA xl xc) ∧ w'.cell? ⟨h, 0, none⟩ = some (.int .u32 (o : Int)) ∧ w'.cell? ⟨h, 1, none⟩ = some (.slice A len pc)) (first | exact HS.out _ HBR.out | exact HS.out _ HBR.out.drew | exact HS.out _ HBR.out.drew.drew) (first | (go_at_call 47; go_loud (first | ((with_reducible refine (EA.out _).mono ?_); rintro e w8 ⟨rfl, h8⟩; have HBRa := Aside0.mk (show Below W1.heap.size W1 w8 from by first | exact first_below HBR.out HBR.out.size h8 | exact first_below HBR.out.drew HBR.out.drew.size h8 | exact first_below HBR.out.drew.drew HBR.out.drew.drew.size h8); clear HBR; have HBR := HBRa; clear HBRa h8) | ((with_reducible refine (EB.out _).mono ?_); rintro e w8 ⟨rfl, h8⟩; have HBRa := Aside0.mk (show Below W1.heap.size W1 w8 from by first | exact first_below HBR.out HBR.out.size h8 | exact first_below HBR.out.drew HBR.out.drew.size h8 | exact first_below HBR.out.drew.drew HBR.out.drew.drew.size h8); clear HBR; have HBR := HBRa; clear HBRa h8))))
 go_wp2
 go_ret
 exact ⟨rfl, by first | exact first_below HB.out HB.out.size HBR.out | exact (first_below HB.out HB.out.size HBR.out).drew | exact ((first_below HB.out HB.out.size HBR.out).drew).drew⟩

set_option maxHeartbeats 8000000 in
set_option maxRecDepth 100000 in
theorem cov_ze (g b c n i k o len pc xo xl xc yo yl yc : Nat) (A xA yA : Option Addr) (w : World) (hg : w.cell? ⟨g, 0, none⟩ = some (.slice (some ⟨b, 0, none⟩) n c)) (hb1 : o + len < 4294967296) (hn : n ≤ 1000) (hin : i ≤ n) (hi : i = 0) (hlt : ¬ i < n) :
 Calls Tryd.prog 56 #[.pointer (some ⟨g, 0, none⟩), .int .i64 (i : Int), .agg #[.int .u32 (o : Int), .slice A len pc]] w fun e w' => e = .returned (.bool false) ∧ Below w.heap.size w w' := by
 obtain ⟨W1, hW1⟩ : ∃ W, W = w.alloc (.cells #[.int .u32 (o : Int), .slice A len pc] 108) := ⟨_, rfl⟩
 obtain ⟨h, hh⟩ : ∃ h, h = w.heap.size := ⟨_, rfl⟩
 have hb : Below w.heap.size w W1 := by rw [hW1]; exact (Below.refl _ _).alloc (Nat.le_refl _) _
 have hblk : W1.heap[h]? = some (.cells #[.int .u32 (o : Int), .slice A len pc] 108 (0, 0)) := by rw [hW1, hh]; exact heap_alloc_new w _
 have hS : ∀ w', Below W1.heap.size W1 w' → w'.cell? ⟨g, 0, none⟩ = some (.slice (some ⟨b, 0, none⟩) n c) ∧ w'.cell? ⟨h, 0, none⟩ = some (.int .u32 (o : Int)) ∧ w'.cell? ⟨h, 1, none⟩ = some (.slice A len pc) := by
  intro w' hk
  have hw : Below w.heap.size w w' := below_then hb hb.size hk
  have hbk := (hk.block h (blk_lt hblk)).trans hblk
  exact ⟨(hw.cell (World.block_lt_of_cell? w _ hg)).trans hg, blk_cell hbk 0, blk_cell hbk 1⟩
 have f1 : ¬ 0 < i := by omega
 have f2 : ¬ i < n := hlt
 have f3 : ¬ ((i : Int) < (n : Int)) := by omega
 have EB : Aside0 (∀ W, Calls Tryd.prog 47 #[.agg #[.int .u32 (o : Int), .slice A len pc]] W fun e w' => e = .returned (.int .u32 ((o + len : Nat) : Int)) ∧ Below W.heap.size W w') := ⟨fun W => end_calls o len A pc W hb1⟩
 have HS := Aside0.mk hS
 have HB := Aside0.mk hb
 have HBR := Aside0.mk (Below.refl W1.heap.size W1)
 clear hS hb hg hblk hi hin hb1 hlt
 go_enter Tryd.func56, Tryd.ntmps56
 go_wp2
 rw [← hW1, ← hh]
 clear hW1 hh
 obtain ⟨q0, q1, q2⟩ := HS.out _ HBR.out
 go_region
 clear q0 q1 q2
 go_wp2
 obtain ⟨q0, q1, q2⟩ := HS.out _ HBR.out
 go_region
 clear q0 q1 q2
 go_wp2
 go_ret
 exact ⟨rfl, by first | exact first_below HB.out HB.out.size HBR.out | exact (first_below HB.out HB.out.size HBR.out).drew | exact ((first_below HB.out HB.out.size HBR.out).drew).drew⟩

set_option maxHeartbeats 8000000 in
set_option maxRecDepth 100000 in
theorem cov_zd (g b c n i k o len pc xo xl xc yo yl yc : Nat) (A xA yA : Option Addr) (w : World) (hg : w.cell? ⟨g, 0, none⟩ = some (.slice (some ⟨b, 0, none⟩) n c)) (hb1 : o + len < 4294967296) (hn : n ≤ 1000) (hin : i ≤ n) (hi : i = 0) (hlt : i < n) (h2 : w.cell? ⟨b, i * 2, none⟩ = some (.int .u32 (yo : Int))) (h3 : w.cell? ⟨b, i * 2 + 1, none⟩ = some (.slice yA yl yc)) (hb3 : yo + yl < 4294967296) (hd : yo ≠ o) :
 Calls Tryd.prog 56 #[.pointer (some ⟨g, 0, none⟩), .int .i64 (i : Int), .agg #[.int .u32 (o : Int), .slice A len pc]] w fun e w' => e = .returned (.bool false) ∧ Below w.heap.size w w' := by
 obtain ⟨W1, hW1⟩ : ∃ W, W = w.alloc (.cells #[.int .u32 (o : Int), .slice A len pc] 108) := ⟨_, rfl⟩
 obtain ⟨h, hh⟩ : ∃ h, h = w.heap.size := ⟨_, rfl⟩
 have hb : Below w.heap.size w W1 := by rw [hW1]; exact (Below.refl _ _).alloc (Nat.le_refl _) _
 have hblk : W1.heap[h]? = some (.cells #[.int .u32 (o : Int), .slice A len pc] 108 (0, 0)) := by rw [hW1, hh]; exact heap_alloc_new w _
 have hS : ∀ w', Below W1.heap.size W1 w' → w'.cell? ⟨g, 0, none⟩ = some (.slice (some ⟨b, 0, none⟩) n c) ∧ w'.cell? ⟨b, i * 2, none⟩ = some (.int .u32 (yo : Int)) ∧ w'.cell? ⟨b, i * 2 + 1, none⟩ = some (.slice yA yl yc) ∧ w'.cell? ⟨h, 0, none⟩ = some (.int .u32 (o : Int)) ∧ w'.cell? ⟨h, 1, none⟩ = some (.slice A len pc) := by
  intro w' hk
  have hw : Below w.heap.size w w' := below_then hb hb.size hk
  have hbk := (hk.block h (blk_lt hblk)).trans hblk
  exact ⟨(hw.cell (World.block_lt_of_cell? w _ hg)).trans hg, (hw.cell (World.block_lt_of_cell? w _ h2)).trans h2, (hw.cell (World.block_lt_of_cell? w _ h3)).trans h3, blk_cell hbk 0, blk_cell hbk 1⟩
 have f1 : ¬ 0 < i := by omega
 have f2 : i < n := hlt
 have f3 : (i : Int) < (n : Int) := by omega
 have f4 : ¬ yo = o := hd
 have f5 : ((yo : Int) == (o : Int)) = false := by simp; omega
 have EB : Aside0 (∀ W, Calls Tryd.prog 47 #[.agg #[.int .u32 (o : Int), .slice A len pc]] W fun e w' => e = .returned (.int .u32 ((o + len : Nat) : Int)) ∧ Below W.heap.size W w') := ⟨fun W => end_calls o len A pc W hb1⟩
 have HS := Aside0.mk hS
 have HB := Aside0.mk hb
 have HBR := Aside0.mk (Below.refl W1.heap.size W1)
 clear hS hb hg hblk hi hin hb1 hlt h2 h3 hb3 hd
 go_enter Tryd.func56, Tryd.ntmps56
 go_wp2
 rw [← hW1, ← hh]
 clear hW1 hh
 obtain ⟨q0, q1, q2, q3, q4⟩ := HS.out _ HBR.out
 go_region
 clear q0 q1 q2 q3 q4
 go_wp2
 obtain ⟨q0, q1, q2, q3, q4⟩ := HS.out _ HBR.out
 go_region
 clear q0 q1 q2 q3 q4
 go_wp2
 go_ret
 exact ⟨rfl, by first | exact first_below HB.out HB.out.size HBR.out | exact (first_below HB.out HB.out.size HBR.out).drew | exact ((first_below HB.out HB.out.size HBR.out).drew).drew⟩

set_option maxHeartbeats 8000000 in
set_option maxRecDepth 100000 in
theorem cov_zt (g b c n i k o len pc xo xl xc yo yl yc : Nat) (A xA yA : Option Addr) (w : World) (hg : w.cell? ⟨g, 0, none⟩ = some (.slice (some ⟨b, 0, none⟩) n c)) (hb1 : o + len < 4294967296) (hn : n ≤ 1000) (hin : i ≤ n) (hi : i = 0) (hlt : i < n) (h2 : w.cell? ⟨b, i * 2, none⟩ = some (.int .u32 (o : Int))) (h3 : w.cell? ⟨b, i * 2 + 1, none⟩ = some (.slice yA yl yc)) (hb3 : o + yl < 4294967296) (he : o + len ≤ o + yl) :
 Calls Tryd.prog 56 #[.pointer (some ⟨g, 0, none⟩), .int .i64 (i : Int), .agg #[.int .u32 (o : Int), .slice A len pc]] w fun e w' => e = .returned (.bool true) ∧ Below w.heap.size w w' := by
 obtain ⟨W1, hW1⟩ : ∃ W, W = w.alloc (.cells #[.int .u32 (o : Int), .slice A len pc] 108) := ⟨_, rfl⟩
 obtain ⟨h, hh⟩ : ∃ h, h = w.heap.size := ⟨_, rfl⟩
 have hb : Below w.heap.size w W1 := by rw [hW1]; exact (Below.refl _ _).alloc (Nat.le_refl _) _
 have hblk : W1.heap[h]? = some (.cells #[.int .u32 (o : Int), .slice A len pc] 108 (0, 0)) := by rw [hW1, hh]; exact heap_alloc_new w _
 have hS : ∀ w', Below W1.heap.size W1 w' → w'.cell? ⟨g, 0, none⟩ = some (.slice (some ⟨b, 0, none⟩) n c) ∧ w'.cell? ⟨b, i * 2, none⟩ = some (.int .u32 (o : Int)) ∧ w'.cell? ⟨b, i * 2 + 1, none⟩ = some (.slice yA yl yc) ∧ w'.cell? ⟨h, 0, none⟩ = some (.int .u32 (o : Int)) ∧ w'.cell? ⟨h, 1, none⟩ = some (.slice A len pc) := by
  intro w' hk
  have hw : Below w.heap.size w w' := below_then hb hb.size hk
  have hbk := (hk.block h (blk_lt hblk)).trans hblk
  exact ⟨(hw.cell (World.block_lt_of_cell? w _ hg)).trans hg, (hw.cell (World.block_lt_of_cell? w _ h2)).trans h2, (hw.cell (World.block_lt_of_cell? w _ h3)).trans h3, blk_cell hbk 0, blk_cell hbk 1⟩
 have f1 : ¬ 0 < i := by omega
 have f2 : i < n := hlt
 have f3 : (i : Int) < (n : Int) := by omega
 have c2 : ((o : Int) + (len : Int) ≤ (o : Int) + (yl : Int)) := by omega
 have EC : Aside0 (∀ W, Calls Tryd.prog 47 #[.agg #[.int .u32 (o : Int), .slice yA yl yc]] W fun e w' => e = .returned (.int .u32 ((o + yl : Nat) : Int)) ∧ Below W.heap.size W w') := ⟨fun W => end_calls o yl yA yc W hb3⟩
 have EB : Aside0 (∀ W, Calls Tryd.prog 47 #[.agg #[.int .u32 (o : Int), .slice A len pc]] W fun e w' => e = .returned (.int .u32 ((o + len : Nat) : Int)) ∧ Below W.heap.size W w') := ⟨fun W => end_calls o len A pc W hb1⟩
 have HS := Aside0.mk hS
 have HB := Aside0.mk hb
 have HBR := Aside0.mk (Below.refl W1.heap.size W1)
 clear hS hb hg hblk hi hin hb1 hlt h2 h3 hb3 he
 go_enter Tryd.func56, Tryd.ntmps56
 go_wp2
 rw [← hW1, ← hh]
 clear hW1 hh
 obtain ⟨q0, q1, q2, q3, q4⟩ := HS.out _ HBR.out
 go_region
 clear q0 q1 q2 q3 q4
 go_wp2
 go_region_held3 (fun w' => w'.cell? ⟨g, 0, none⟩ = some (.slice (some ⟨b, 0, none⟩) n c) ∧ w'.cell? ⟨b, i * 2, none⟩ = some (.int .u32 (o : Int)) ∧ w'.cell? ⟨b, i * 2 + 1, none⟩ = some (.slice yA yl yc) ∧ w'.cell? ⟨h, 0, none⟩ = some (.int .u32 (o : Int)) ∧ w'.cell? ⟨h, 1, none⟩ = some (.slice A len pc)) (first | exact HS.out _ HBR.out | exact HS.out _ HBR.out.drew | exact HS.out _ HBR.out.drew.drew) (first | (go_at_call 47; go_loud (first | ((with_reducible refine (EC.out _).mono ?_); rintro e w8 ⟨rfl, h8⟩; have HBRa := Aside0.mk (show Below W1.heap.size W1 w8 from by first | exact first_below HBR.out HBR.out.size h8 | exact first_below HBR.out.drew HBR.out.drew.size h8 | exact first_below HBR.out.drew.drew HBR.out.drew.drew.size h8); clear HBR; have HBR := HBRa; clear HBRa h8) | ((with_reducible refine (EB.out _).mono ?_); rintro e w8 ⟨rfl, h8⟩; have HBRa := Aside0.mk (show Below W1.heap.size W1 w8 from by first | exact first_below HBR.out HBR.out.size h8 | exact first_below HBR.out.drew HBR.out.drew.size h8 | exact first_below HBR.out.drew.drew HBR.out.drew.drew.size h8); clear HBR; have HBR := HBRa; clear HBRa h8))))
 go_wp2
 go_ret
 exact ⟨rfl, by first | exact first_below HB.out HB.out.size HBR.out | exact (first_below HB.out HB.out.size HBR.out).drew | exact ((first_below HB.out HB.out.size HBR.out).drew).drew⟩

set_option maxHeartbeats 8000000 in
set_option maxRecDepth 100000 in
theorem cov_zf (g b c n i k o len pc xo xl xc yo yl yc : Nat) (A xA yA : Option Addr) (w : World) (hg : w.cell? ⟨g, 0, none⟩ = some (.slice (some ⟨b, 0, none⟩) n c)) (hb1 : o + len < 4294967296) (hn : n ≤ 1000) (hin : i ≤ n) (hi : i = 0) (hlt : i < n) (h2 : w.cell? ⟨b, i * 2, none⟩ = some (.int .u32 (o : Int))) (h3 : w.cell? ⟨b, i * 2 + 1, none⟩ = some (.slice yA yl yc)) (hb3 : o + yl < 4294967296) (he : ¬ o + len ≤ o + yl) :
 Calls Tryd.prog 56 #[.pointer (some ⟨g, 0, none⟩), .int .i64 (i : Int), .agg #[.int .u32 (o : Int), .slice A len pc]] w fun e w' => e = .returned (.bool false) ∧ Below w.heap.size w w' := by
 obtain ⟨W1, hW1⟩ : ∃ W, W = w.alloc (.cells #[.int .u32 (o : Int), .slice A len pc] 108) := ⟨_, rfl⟩
 obtain ⟨h, hh⟩ : ∃ h, h = w.heap.size := ⟨_, rfl⟩
 have hb : Below w.heap.size w W1 := by rw [hW1]; exact (Below.refl _ _).alloc (Nat.le_refl _) _
 have hblk : W1.heap[h]? = some (.cells #[.int .u32 (o : Int), .slice A len pc] 108 (0, 0)) := by rw [hW1, hh]; exact heap_alloc_new w _
 have hS : ∀ w', Below W1.heap.size W1 w' → w'.cell? ⟨g, 0, none⟩ = some (.slice (some ⟨b, 0, none⟩) n c) ∧ w'.cell? ⟨b, i * 2, none⟩ = some (.int .u32 (o : Int)) ∧ w'.cell? ⟨b, i * 2 + 1, none⟩ = some (.slice yA yl yc) ∧ w'.cell? ⟨h, 0, none⟩ = some (.int .u32 (o : Int)) ∧ w'.cell? ⟨h, 1, none⟩ = some (.slice A len pc) := by
  intro w' hk
  have hw : Below w.heap.size w w' := below_then hb hb.size hk
  have hbk := (hk.block h (blk_lt hblk)).trans hblk
  exact ⟨(hw.cell (World.block_lt_of_cell? w _ hg)).trans hg, (hw.cell (World.block_lt_of_cell? w _ h2)).trans h2, (hw.cell (World.block_lt_of_cell? w _ h3)).trans h3, blk_cell hbk 0, blk_cell hbk 1⟩
 have f1 : ¬ 0 < i := by omega
 have f2 : i < n := hlt
 have f3 : (i : Int) < (n : Int) := by omega
 have c2 : ¬ ((o : Int) + (len : Int) ≤ (o : Int) + (yl : Int)) := by omega
 have EC : Aside0 (∀ W, Calls Tryd.prog 47 #[.agg #[.int .u32 (o : Int), .slice yA yl yc]] W fun e w' => e = .returned (.int .u32 ((o + yl : Nat) : Int)) ∧ Below W.heap.size W w') := ⟨fun W => end_calls o yl yA yc W hb3⟩
 have EB : Aside0 (∀ W, Calls Tryd.prog 47 #[.agg #[.int .u32 (o : Int), .slice A len pc]] W fun e w' => e = .returned (.int .u32 ((o + len : Nat) : Int)) ∧ Below W.heap.size W w') := ⟨fun W => end_calls o len A pc W hb1⟩
 have HS := Aside0.mk hS
 have HB := Aside0.mk hb
 have HBR := Aside0.mk (Below.refl W1.heap.size W1)
 have HE := Aside0.mk he
 clear hS hb hg hblk hi hin hb1 hlt h2 h3 hb3 he
 go_enter Tryd.func56, Tryd.ntmps56
 go_wp2
 rw [← hW1, ← hh]
 clear hW1 hh
 obtain ⟨q0, q1, q2, q3, q4⟩ := HS.out _ HBR.out
 go_region
 clear q0 q1 q2 q3 q4
 go_wp2
 go_region_held3 (fun w' => w'.cell? ⟨g, 0, none⟩ = some (.slice (some ⟨b, 0, none⟩) n c) ∧ w'.cell? ⟨b, i * 2, none⟩ = some (.int .u32 (o : Int)) ∧ w'.cell? ⟨b, i * 2 + 1, none⟩ = some (.slice yA yl yc) ∧ w'.cell? ⟨h, 0, none⟩ = some (.int .u32 (o : Int)) ∧ w'.cell? ⟨h, 1, none⟩ = some (.slice A len pc)) (first | exact HS.out _ HBR.out | exact HS.out _ HBR.out.drew | exact HS.out _ HBR.out.drew.drew) (first | (go_at_call 47; go_loud (first | ((with_reducible refine (EC.out _).mono ?_); rintro e w8 ⟨rfl, h8⟩; have HBRa := Aside0.mk (show Below W1.heap.size W1 w8 from by first | exact first_below HBR.out HBR.out.size h8 | exact first_below HBR.out.drew HBR.out.drew.size h8 | exact first_below HBR.out.drew.drew HBR.out.drew.drew.size h8); clear HBR; have HBR := HBRa; clear HBRa h8) | ((with_reducible refine (EB.out _).mono ?_); rintro e w8 ⟨rfl, h8⟩; have HBRa := Aside0.mk (show Below W1.heap.size W1 w8 from by first | exact first_below HBR.out HBR.out.size h8 | exact first_below HBR.out.drew HBR.out.drew.size h8 | exact first_below HBR.out.drew.drew HBR.out.drew.drew.size h8); clear HBR; have HBR := HBRa; clear HBRa h8))))
 go_wp2
 go_ret
 exact ⟨congrArg (fun b => Ending.returned (Value.bool b)) (decide_eq_false (show ¬ len ≤ yl by have := HE.out; omega)), by first | exact first_below HB.out HB.out.size HBR.out | exact (first_below HB.out HB.out.size HBR.out).drew | exact ((first_below HB.out HB.out.size HBR.out).drew).drew⟩

set_option maxHeartbeats 8000000 in
set_option maxRecDepth 100000 in
theorem cov_fe (g b c n i k o len pc xo xl xc yo yl yc : Nat) (A xA yA : Option Addr) (w : World) (hg : w.cell? ⟨g, 0, none⟩ = some (.slice (some ⟨b, 0, none⟩) n c)) (hb1 : o + len < 4294967296) (hn : n ≤ 1000) (hin : i ≤ n) (hi : i = k + 1) (h0 : w.cell? ⟨b, k * 2, none⟩ = some (.int .u32 (xo : Int))) (h1 : w.cell? ⟨b, k * 2 + 1, none⟩ = some (.slice xA xl xc)) (hb2 : xo + xl < 4294967296) (hc : ¬ o + len ≤ xo + xl) (hlt : ¬ i < n) :
 Calls Tryd.prog 56 #[.pointer (some ⟨g, 0, none⟩), .int .i64 (i : Int), .agg #[.int .u32 (o : Int), .slice A len pc]] w fun e w' => e = .returned (.bool false) ∧ Below w.heap.size w w' := by
 obtain ⟨W1, hW1⟩ : ∃ W, W = w.alloc (.cells #[.int .u32 (o : Int), .slice A len pc] 108) := ⟨_, rfl⟩
 obtain ⟨h, hh⟩ : ∃ h, h = w.heap.size := ⟨_, rfl⟩
 have hb : Below w.heap.size w W1 := by rw [hW1]; exact (Below.refl _ _).alloc (Nat.le_refl _) _
 have hblk : W1.heap[h]? = some (.cells #[.int .u32 (o : Int), .slice A len pc] 108 (0, 0)) := by rw [hW1, hh]; exact heap_alloc_new w _
 have hS : ∀ w', Below W1.heap.size W1 w' → w'.cell? ⟨g, 0, none⟩ = some (.slice (some ⟨b, 0, none⟩) n c) ∧ w'.cell? ⟨b, k * 2, none⟩ = some (.int .u32 (xo : Int)) ∧ w'.cell? ⟨b, k * 2 + 1, none⟩ = some (.slice xA xl xc) ∧ w'.cell? ⟨h, 0, none⟩ = some (.int .u32 (o : Int)) ∧ w'.cell? ⟨h, 1, none⟩ = some (.slice A len pc) := by
  intro w' hk
  have hw : Below w.heap.size w w' := below_then hb hb.size hk
  have hbk := (hk.block h (blk_lt hblk)).trans hblk
  exact ⟨(hw.cell (World.block_lt_of_cell? w _ hg)).trans hg, (hw.cell (World.block_lt_of_cell? w _ h0)).trans h0, (hw.cell (World.block_lt_of_cell? w _ h1)).trans h1, blk_cell hbk 0, blk_cell hbk 1⟩
 have f1 : 0 < i := by omega
 have e1 : IntKind.i64.wrap ((i : Int) - 1) = (k : Int) := by rw [IntWalk.i64_in _ (by omega)]; omega
 have e3 : (k : Int) < (n : Int) := by omega
 have e4 : k < n := by omega
 have c1 : ¬ ((o : Int) + (len : Int) ≤ (xo : Int) + (xl : Int)) := by omega
 have EA : Aside0 (∀ W, Calls Tryd.prog 47 #[.agg #[.int .u32 (xo : Int), .slice xA xl xc]] W fun e w' => e = .returned (.int .u32 ((xo + xl : Nat) : Int)) ∧ Below W.heap.size W w') := ⟨fun W => end_calls xo xl xA xc W hb2⟩
 have f2 : ¬ i < n := hlt
 have f3 : ¬ ((i : Int) < (n : Int)) := by omega
 have EB : Aside0 (∀ W, Calls Tryd.prog 47 #[.agg #[.int .u32 (o : Int), .slice A len pc]] W fun e w' => e = .returned (.int .u32 ((o + len : Nat) : Int)) ∧ Below W.heap.size W w') := ⟨fun W => end_calls o len A pc W hb1⟩
 have HS := Aside0.mk hS
 have HB := Aside0.mk hb
 have HBR := Aside0.mk (Below.refl W1.heap.size W1)
 clear hS hb hg hblk hi hin hb1 h0 h1 hc hb2 hlt
 go_enter Tryd.func56, Tryd.ntmps56
 go_wp2
 rw [← hW1, ← hh]
 clear hW1 hh
 go_region_held3 (fun w' => w'.cell? ⟨g, 0, none⟩ = some (.slice (some ⟨b, 0, none⟩) n c) ∧ w'.cell? ⟨b, k * 2, none⟩ = some (.int .u32 (xo : Int)) ∧ w'.cell? ⟨b, k * 2 + 1, none⟩ = some (.slice xA xl xc) ∧ w'.cell? ⟨h, 0, none⟩ = some (.int .u32 (o : Int)) ∧ w'.cell? ⟨h, 1, none⟩ = some (.slice A len pc)) (first | exact HS.out _ HBR.out | exact HS.out _ HBR.out.drew | exact HS.out _ HBR.out.drew.drew) (first | (go_at_call 47; go_loud (first | ((with_reducible refine (EA.out _).mono ?_); rintro e w8 ⟨rfl, h8⟩; have HBRa := Aside0.mk (show Below W1.heap.size W1 w8 from by first | exact first_below HBR.out HBR.out.size h8 | exact first_below HBR.out.drew HBR.out.drew.size h8 | exact first_below HBR.out.drew.drew HBR.out.drew.drew.size h8); clear HBR; have HBR := HBRa; clear HBRa h8) | ((with_reducible refine (EB.out _).mono ?_); rintro e w8 ⟨rfl, h8⟩; have HBRa := Aside0.mk (show Below W1.heap.size W1 w8 from by first | exact first_below HBR.out HBR.out.size h8 | exact first_below HBR.out.drew HBR.out.drew.size h8 | exact first_below HBR.out.drew.drew HBR.out.drew.drew.size h8); clear HBR; have HBR := HBRa; clear HBRa h8))))
 go_wp2
 obtain ⟨q0, q1, q2, q3, q4⟩ := HS.out _ HBR.out
 go_region
 clear q0 q1 q2 q3 q4
 go_wp2
 go_ret
 exact ⟨rfl, by first | exact first_below HB.out HB.out.size HBR.out | exact (first_below HB.out HB.out.size HBR.out).drew | exact ((first_below HB.out HB.out.size HBR.out).drew).drew⟩

set_option maxHeartbeats 8000000 in
set_option maxRecDepth 100000 in
theorem cov_fd (g b c n i k o len pc xo xl xc yo yl yc : Nat) (A xA yA : Option Addr) (w : World) (hg : w.cell? ⟨g, 0, none⟩ = some (.slice (some ⟨b, 0, none⟩) n c)) (hb1 : o + len < 4294967296) (hn : n ≤ 1000) (hin : i ≤ n) (hi : i = k + 1) (h0 : w.cell? ⟨b, k * 2, none⟩ = some (.int .u32 (xo : Int))) (h1 : w.cell? ⟨b, k * 2 + 1, none⟩ = some (.slice xA xl xc)) (hb2 : xo + xl < 4294967296) (hc : ¬ o + len ≤ xo + xl) (hlt : i < n) (h2 : w.cell? ⟨b, i * 2, none⟩ = some (.int .u32 (yo : Int))) (h3 : w.cell? ⟨b, i * 2 + 1, none⟩ = some (.slice yA yl yc)) (hb3 : yo + yl < 4294967296) (hd : yo ≠ o) :
 Calls Tryd.prog 56 #[.pointer (some ⟨g, 0, none⟩), .int .i64 (i : Int), .agg #[.int .u32 (o : Int), .slice A len pc]] w fun e w' => e = .returned (.bool false) ∧ Below w.heap.size w w' := by
 obtain ⟨W1, hW1⟩ : ∃ W, W = w.alloc (.cells #[.int .u32 (o : Int), .slice A len pc] 108) := ⟨_, rfl⟩
 obtain ⟨h, hh⟩ : ∃ h, h = w.heap.size := ⟨_, rfl⟩
 have hb : Below w.heap.size w W1 := by rw [hW1]; exact (Below.refl _ _).alloc (Nat.le_refl _) _
 have hblk : W1.heap[h]? = some (.cells #[.int .u32 (o : Int), .slice A len pc] 108 (0, 0)) := by rw [hW1, hh]; exact heap_alloc_new w _
 have hS : ∀ w', Below W1.heap.size W1 w' → w'.cell? ⟨g, 0, none⟩ = some (.slice (some ⟨b, 0, none⟩) n c) ∧ w'.cell? ⟨b, k * 2, none⟩ = some (.int .u32 (xo : Int)) ∧ w'.cell? ⟨b, k * 2 + 1, none⟩ = some (.slice xA xl xc) ∧ w'.cell? ⟨b, i * 2, none⟩ = some (.int .u32 (yo : Int)) ∧ w'.cell? ⟨b, i * 2 + 1, none⟩ = some (.slice yA yl yc) ∧ w'.cell? ⟨h, 0, none⟩ = some (.int .u32 (o : Int)) ∧ w'.cell? ⟨h, 1, none⟩ = some (.slice A len pc) := by
  intro w' hk
  have hw : Below w.heap.size w w' := below_then hb hb.size hk
  have hbk := (hk.block h (blk_lt hblk)).trans hblk
  exact ⟨(hw.cell (World.block_lt_of_cell? w _ hg)).trans hg, (hw.cell (World.block_lt_of_cell? w _ h0)).trans h0, (hw.cell (World.block_lt_of_cell? w _ h1)).trans h1, (hw.cell (World.block_lt_of_cell? w _ h2)).trans h2, (hw.cell (World.block_lt_of_cell? w _ h3)).trans h3, blk_cell hbk 0, blk_cell hbk 1⟩
 have f1 : 0 < i := by omega
 have e1 : IntKind.i64.wrap ((i : Int) - 1) = (k : Int) := by rw [IntWalk.i64_in _ (by omega)]; omega
 have e3 : (k : Int) < (n : Int) := by omega
 have e4 : k < n := by omega
 have c1 : ¬ ((o : Int) + (len : Int) ≤ (xo : Int) + (xl : Int)) := by omega
 have EA : Aside0 (∀ W, Calls Tryd.prog 47 #[.agg #[.int .u32 (xo : Int), .slice xA xl xc]] W fun e w' => e = .returned (.int .u32 ((xo + xl : Nat) : Int)) ∧ Below W.heap.size W w') := ⟨fun W => end_calls xo xl xA xc W hb2⟩
 have f2 : i < n := hlt
 have f3 : (i : Int) < (n : Int) := by omega
 have f4 : ¬ yo = o := hd
 have f5 : ((yo : Int) == (o : Int)) = false := by simp; omega
 have EB : Aside0 (∀ W, Calls Tryd.prog 47 #[.agg #[.int .u32 (o : Int), .slice A len pc]] W fun e w' => e = .returned (.int .u32 ((o + len : Nat) : Int)) ∧ Below W.heap.size W w') := ⟨fun W => end_calls o len A pc W hb1⟩
 have HS := Aside0.mk hS
 have HB := Aside0.mk hb
 have HBR := Aside0.mk (Below.refl W1.heap.size W1)
 clear hS hb hg hblk hi hin hb1 h0 h1 hc hb2 hlt h2 h3 hb3 hd
 go_enter Tryd.func56, Tryd.ntmps56
 go_wp2
 rw [← hW1, ← hh]
 clear hW1 hh
 go_region_held3 (fun w' => w'.cell? ⟨g, 0, none⟩ = some (.slice (some ⟨b, 0, none⟩) n c) ∧ w'.cell? ⟨b, k * 2, none⟩ = some (.int .u32 (xo : Int)) ∧ w'.cell? ⟨b, k * 2 + 1, none⟩ = some (.slice xA xl xc) ∧ w'.cell? ⟨b, i * 2, none⟩ = some (.int .u32 (yo : Int)) ∧ w'.cell? ⟨b, i * 2 + 1, none⟩ = some (.slice yA yl yc) ∧ w'.cell? ⟨h, 0, none⟩ = some (.int .u32 (o : Int)) ∧ w'.cell? ⟨h, 1, none⟩ = some (.slice A len pc)) (first | exact HS.out _ HBR.out | exact HS.out _ HBR.out.drew | exact HS.out _ HBR.out.drew.drew) (first | (go_at_call 47; go_loud (first | ((with_reducible refine (EA.out _).mono ?_); rintro e w8 ⟨rfl, h8⟩; have HBRa := Aside0.mk (show Below W1.heap.size W1 w8 from by first | exact first_below HBR.out HBR.out.size h8 | exact first_below HBR.out.drew HBR.out.drew.size h8 | exact first_below HBR.out.drew.drew HBR.out.drew.drew.size h8); clear HBR; have HBR := HBRa; clear HBRa h8) | ((with_reducible refine (EB.out _).mono ?_); rintro e w8 ⟨rfl, h8⟩; have HBRa := Aside0.mk (show Below W1.heap.size W1 w8 from by first | exact first_below HBR.out HBR.out.size h8 | exact first_below HBR.out.drew HBR.out.drew.size h8 | exact first_below HBR.out.drew.drew HBR.out.drew.drew.size h8); clear HBR; have HBR := HBRa; clear HBRa h8))))
 go_wp2
 obtain ⟨q0, q1, q2, q3, q4, q5, q6⟩ := HS.out _ HBR.out
 go_region
 clear q0 q1 q2 q3 q4 q5 q6
 go_wp2
 go_ret
 exact ⟨rfl, by first | exact first_below HB.out HB.out.size HBR.out | exact (first_below HB.out HB.out.size HBR.out).drew | exact ((first_below HB.out HB.out.size HBR.out).drew).drew⟩

set_option maxHeartbeats 8000000 in
set_option maxRecDepth 100000 in
theorem cov_ft (g b c n i k o len pc xo xl xc yo yl yc : Nat) (A xA yA : Option Addr) (w : World) (hg : w.cell? ⟨g, 0, none⟩ = some (.slice (some ⟨b, 0, none⟩) n c)) (hb1 : o + len < 4294967296) (hn : n ≤ 1000) (hin : i ≤ n) (hi : i = k + 1) (h0 : w.cell? ⟨b, k * 2, none⟩ = some (.int .u32 (xo : Int))) (h1 : w.cell? ⟨b, k * 2 + 1, none⟩ = some (.slice xA xl xc)) (hb2 : xo + xl < 4294967296) (hc : ¬ o + len ≤ xo + xl) (hlt : i < n) (h2 : w.cell? ⟨b, i * 2, none⟩ = some (.int .u32 (o : Int))) (h3 : w.cell? ⟨b, i * 2 + 1, none⟩ = some (.slice yA yl yc)) (hb3 : o + yl < 4294967296) (he : o + len ≤ o + yl) :
 Calls Tryd.prog 56 #[.pointer (some ⟨g, 0, none⟩), .int .i64 (i : Int), .agg #[.int .u32 (o : Int), .slice A len pc]] w fun e w' => e = .returned (.bool true) ∧ Below w.heap.size w w' := by
 obtain ⟨W1, hW1⟩ : ∃ W, W = w.alloc (.cells #[.int .u32 (o : Int), .slice A len pc] 108) := ⟨_, rfl⟩
 obtain ⟨h, hh⟩ : ∃ h, h = w.heap.size := ⟨_, rfl⟩
 have hb : Below w.heap.size w W1 := by rw [hW1]; exact (Below.refl _ _).alloc (Nat.le_refl _) _
 have hblk : W1.heap[h]? = some (.cells #[.int .u32 (o : Int), .slice A len pc] 108 (0, 0)) := by rw [hW1, hh]; exact heap_alloc_new w _
 have hS : ∀ w', Below W1.heap.size W1 w' → w'.cell? ⟨g, 0, none⟩ = some (.slice (some ⟨b, 0, none⟩) n c) ∧ w'.cell? ⟨b, k * 2, none⟩ = some (.int .u32 (xo : Int)) ∧ w'.cell? ⟨b, k * 2 + 1, none⟩ = some (.slice xA xl xc) ∧ w'.cell? ⟨b, i * 2, none⟩ = some (.int .u32 (o : Int)) ∧ w'.cell? ⟨b, i * 2 + 1, none⟩ = some (.slice yA yl yc) ∧ w'.cell? ⟨h, 0, none⟩ = some (.int .u32 (o : Int)) ∧ w'.cell? ⟨h, 1, none⟩ = some (.slice A len pc) := by
  intro w' hk
  have hw : Below w.heap.size w w' := below_then hb hb.size hk
  have hbk := (hk.block h (blk_lt hblk)).trans hblk
  exact ⟨(hw.cell (World.block_lt_of_cell? w _ hg)).trans hg, (hw.cell (World.block_lt_of_cell? w _ h0)).trans h0, (hw.cell (World.block_lt_of_cell? w _ h1)).trans h1, (hw.cell (World.block_lt_of_cell? w _ h2)).trans h2, (hw.cell (World.block_lt_of_cell? w _ h3)).trans h3, blk_cell hbk 0, blk_cell hbk 1⟩
 have f1 : 0 < i := by omega
 have e1 : IntKind.i64.wrap ((i : Int) - 1) = (k : Int) := by rw [IntWalk.i64_in _ (by omega)]; omega
 have e3 : (k : Int) < (n : Int) := by omega
 have e4 : k < n := by omega
 have c1 : ¬ ((o : Int) + (len : Int) ≤ (xo : Int) + (xl : Int)) := by omega
 have EA : Aside0 (∀ W, Calls Tryd.prog 47 #[.agg #[.int .u32 (xo : Int), .slice xA xl xc]] W fun e w' => e = .returned (.int .u32 ((xo + xl : Nat) : Int)) ∧ Below W.heap.size W w') := ⟨fun W => end_calls xo xl xA xc W hb2⟩
 have f2 : i < n := hlt
 have f3 : (i : Int) < (n : Int) := by omega
 have c2 : ((o : Int) + (len : Int) ≤ (o : Int) + (yl : Int)) := by omega
 have EC : Aside0 (∀ W, Calls Tryd.prog 47 #[.agg #[.int .u32 (o : Int), .slice yA yl yc]] W fun e w' => e = .returned (.int .u32 ((o + yl : Nat) : Int)) ∧ Below W.heap.size W w') := ⟨fun W => end_calls o yl yA yc W hb3⟩
 have EB : Aside0 (∀ W, Calls Tryd.prog 47 #[.agg #[.int .u32 (o : Int), .slice A len pc]] W fun e w' => e = .returned (.int .u32 ((o + len : Nat) : Int)) ∧ Below W.heap.size W w') := ⟨fun W => end_calls o len A pc W hb1⟩
 have HS := Aside0.mk hS
 have HB := Aside0.mk hb
 have HBR := Aside0.mk (Below.refl W1.heap.size W1)
 clear hS hb hg hblk hi hin hb1 h0 h1 hc hb2 hlt h2 h3 hb3 he
 go_enter Tryd.func56, Tryd.ntmps56
 go_wp2
 rw [← hW1, ← hh]
 clear hW1 hh
 go_region_held3 (fun w' => w'.cell? ⟨g, 0, none⟩ = some (.slice (some ⟨b, 0, none⟩) n c) ∧ w'.cell? ⟨b, k * 2, none⟩ = some (.int .u32 (xo : Int)) ∧ w'.cell? ⟨b, k * 2 + 1, none⟩ = some (.slice xA xl xc) ∧ w'.cell? ⟨b, i * 2, none⟩ = some (.int .u32 (o : Int)) ∧ w'.cell? ⟨b, i * 2 + 1, none⟩ = some (.slice yA yl yc) ∧ w'.cell? ⟨h, 0, none⟩ = some (.int .u32 (o : Int)) ∧ w'.cell? ⟨h, 1, none⟩ = some (.slice A len pc)) (first | exact HS.out _ HBR.out | exact HS.out _ HBR.out.drew | exact HS.out _ HBR.out.drew.drew) (first | (go_at_call 47; go_loud (first | ((with_reducible refine (EA.out _).mono ?_); rintro e w8 ⟨rfl, h8⟩; have HBRa := Aside0.mk (show Below W1.heap.size W1 w8 from by first | exact first_below HBR.out HBR.out.size h8 | exact first_below HBR.out.drew HBR.out.drew.size h8 | exact first_below HBR.out.drew.drew HBR.out.drew.drew.size h8); clear HBR; have HBR := HBRa; clear HBRa h8) | ((with_reducible refine (EB.out _).mono ?_); rintro e w8 ⟨rfl, h8⟩; have HBRa := Aside0.mk (show Below W1.heap.size W1 w8 from by first | exact first_below HBR.out HBR.out.size h8 | exact first_below HBR.out.drew HBR.out.drew.size h8 | exact first_below HBR.out.drew.drew HBR.out.drew.drew.size h8); clear HBR; have HBR := HBRa; clear HBRa h8))))
 go_wp2
 go_region_held3 (fun w' => w'.cell? ⟨g, 0, none⟩ = some (.slice (some ⟨b, 0, none⟩) n c) ∧ w'.cell? ⟨b, k * 2, none⟩ = some (.int .u32 (xo : Int)) ∧ w'.cell? ⟨b, k * 2 + 1, none⟩ = some (.slice xA xl xc) ∧ w'.cell? ⟨b, i * 2, none⟩ = some (.int .u32 (o : Int)) ∧ w'.cell? ⟨b, i * 2 + 1, none⟩ = some (.slice yA yl yc) ∧ w'.cell? ⟨h, 0, none⟩ = some (.int .u32 (o : Int)) ∧ w'.cell? ⟨h, 1, none⟩ = some (.slice A len pc)) (first | exact HS.out _ HBR.out | exact HS.out _ HBR.out.drew | exact HS.out _ HBR.out.drew.drew) (first | (go_at_call 47; go_loud (first | ((with_reducible refine (EC.out _).mono ?_); rintro e w8 ⟨rfl, h8⟩; have HBRa := Aside0.mk (show Below W1.heap.size W1 w8 from by first | exact first_below HBR.out HBR.out.size h8 | exact first_below HBR.out.drew HBR.out.drew.size h8 | exact first_below HBR.out.drew.drew HBR.out.drew.drew.size h8); clear HBR; have HBR := HBRa; clear HBRa h8) | ((with_reducible refine (EB.out _).mono ?_); rintro e w8 ⟨rfl, h8⟩; have HBRa := Aside0.mk (show Below W1.heap.size W1 w8 from by first | exact first_below HBR.out HBR.out.size h8 | exact first_below HBR.out.drew HBR.out.drew.size h8 | exact first_below HBR.out.drew.drew HBR.out.drew.drew.size h8); clear HBR; have HBR := HBRa; clear HBRa h8))))
 go_wp2
 go_ret
 exact ⟨rfl, by first | exact first_below HB.out HB.out.size HBR.out | exact (first_below HB.out HB.out.size HBR.out).drew | exact ((first_below HB.out HB.out.size HBR.out).drew).drew⟩

set_option maxHeartbeats 8000000 in
set_option maxRecDepth 100000 in
theorem cov_ff (g b c n i k o len pc xo xl xc yo yl yc : Nat) (A xA yA : Option Addr) (w : World) (hg : w.cell? ⟨g, 0, none⟩ = some (.slice (some ⟨b, 0, none⟩) n c)) (hb1 : o + len < 4294967296) (hn : n ≤ 1000) (hin : i ≤ n) (hi : i = k + 1) (h0 : w.cell? ⟨b, k * 2, none⟩ = some (.int .u32 (xo : Int))) (h1 : w.cell? ⟨b, k * 2 + 1, none⟩ = some (.slice xA xl xc)) (hb2 : xo + xl < 4294967296) (hc : ¬ o + len ≤ xo + xl) (hlt : i < n) (h2 : w.cell? ⟨b, i * 2, none⟩ = some (.int .u32 (o : Int))) (h3 : w.cell? ⟨b, i * 2 + 1, none⟩ = some (.slice yA yl yc)) (hb3 : o + yl < 4294967296) (he : ¬ o + len ≤ o + yl) :
 Calls Tryd.prog 56 #[.pointer (some ⟨g, 0, none⟩), .int .i64 (i : Int), .agg #[.int .u32 (o : Int), .slice A len pc]] w fun e w' => e = .returned (.bool false) ∧ Below w.heap.size w w' := by
 obtain ⟨W1, hW1⟩ : ∃ W, W = w.alloc (.cells #[.int .u32 (o : Int), .slice A len pc] 108) := ⟨_, rfl⟩
 obtain ⟨h, hh⟩ : ∃ h, h = w.heap.size := ⟨_, rfl⟩
 have hb : Below w.heap.size w W1 := by rw [hW1]; exact (Below.refl _ _).alloc (Nat.le_refl _) _
 have hblk : W1.heap[h]? = some (.cells #[.int .u32 (o : Int), .slice A len pc] 108 (0, 0)) := by rw [hW1, hh]; exact heap_alloc_new w _
 have hS : ∀ w', Below W1.heap.size W1 w' → w'.cell? ⟨g, 0, none⟩ = some (.slice (some ⟨b, 0, none⟩) n c) ∧ w'.cell? ⟨b, k * 2, none⟩ = some (.int .u32 (xo : Int)) ∧ w'.cell? ⟨b, k * 2 + 1, none⟩ = some (.slice xA xl xc) ∧ w'.cell? ⟨b, i * 2, none⟩ = some (.int .u32 (o : Int)) ∧ w'.cell? ⟨b, i * 2 + 1, none⟩ = some (.slice yA yl yc) ∧ w'.cell? ⟨h, 0, none⟩ = some (.int .u32 (o : Int)) ∧ w'.cell? ⟨h, 1, none⟩ = some (.slice A len pc) := by
  intro w' hk
  have hw : Below w.heap.size w w' := below_then hb hb.size hk
  have hbk := (hk.block h (blk_lt hblk)).trans hblk
  exact ⟨(hw.cell (World.block_lt_of_cell? w _ hg)).trans hg, (hw.cell (World.block_lt_of_cell? w _ h0)).trans h0, (hw.cell (World.block_lt_of_cell? w _ h1)).trans h1, (hw.cell (World.block_lt_of_cell? w _ h2)).trans h2, (hw.cell (World.block_lt_of_cell? w _ h3)).trans h3, blk_cell hbk 0, blk_cell hbk 1⟩
 have f1 : 0 < i := by omega
 have e1 : IntKind.i64.wrap ((i : Int) - 1) = (k : Int) := by rw [IntWalk.i64_in _ (by omega)]; omega
 have e3 : (k : Int) < (n : Int) := by omega
 have e4 : k < n := by omega
 have c1 : ¬ ((o : Int) + (len : Int) ≤ (xo : Int) + (xl : Int)) := by omega
 have EA : Aside0 (∀ W, Calls Tryd.prog 47 #[.agg #[.int .u32 (xo : Int), .slice xA xl xc]] W fun e w' => e = .returned (.int .u32 ((xo + xl : Nat) : Int)) ∧ Below W.heap.size W w') := ⟨fun W => end_calls xo xl xA xc W hb2⟩
 have f2 : i < n := hlt
 have f3 : (i : Int) < (n : Int) := by omega
 have c2 : ¬ ((o : Int) + (len : Int) ≤ (o : Int) + (yl : Int)) := by omega
 have EC : Aside0 (∀ W, Calls Tryd.prog 47 #[.agg #[.int .u32 (o : Int), .slice yA yl yc]] W fun e w' => e = .returned (.int .u32 ((o + yl : Nat) : Int)) ∧ Below W.heap.size W w') := ⟨fun W => end_calls o yl yA yc W hb3⟩
 have EB : Aside0 (∀ W, Calls Tryd.prog 47 #[.agg #[.int .u32 (o : Int), .slice A len pc]] W fun e w' => e = .returned (.int .u32 ((o + len : Nat) : Int)) ∧ Below W.heap.size W w') := ⟨fun W => end_calls o len A pc W hb1⟩
 have HS := Aside0.mk hS
 have HB := Aside0.mk hb
 have HBR := Aside0.mk (Below.refl W1.heap.size W1)
 have HE := Aside0.mk he
 clear hS hb hg hblk hi hin hb1 h0 h1 hc hb2 hlt h2 h3 hb3 he
 go_enter Tryd.func56, Tryd.ntmps56
 go_wp2
 rw [← hW1, ← hh]
 clear hW1 hh
 go_region_held3 (fun w' => w'.cell? ⟨g, 0, none⟩ = some (.slice (some ⟨b, 0, none⟩) n c) ∧ w'.cell? ⟨b, k * 2, none⟩ = some (.int .u32 (xo : Int)) ∧ w'.cell? ⟨b, k * 2 + 1, none⟩ = some (.slice xA xl xc) ∧ w'.cell? ⟨b, i * 2, none⟩ = some (.int .u32 (o : Int)) ∧ w'.cell? ⟨b, i * 2 + 1, none⟩ = some (.slice yA yl yc) ∧ w'.cell? ⟨h, 0, none⟩ = some (.int .u32 (o : Int)) ∧ w'.cell? ⟨h, 1, none⟩ = some (.slice A len pc)) (first | exact HS.out _ HBR.out | exact HS.out _ HBR.out.drew | exact HS.out _ HBR.out.drew.drew) (first | (go_at_call 47; go_loud (first | ((with_reducible refine (EA.out _).mono ?_); rintro e w8 ⟨rfl, h8⟩; have HBRa := Aside0.mk (show Below W1.heap.size W1 w8 from by first | exact first_below HBR.out HBR.out.size h8 | exact first_below HBR.out.drew HBR.out.drew.size h8 | exact first_below HBR.out.drew.drew HBR.out.drew.drew.size h8); clear HBR; have HBR := HBRa; clear HBRa h8) | ((with_reducible refine (EB.out _).mono ?_); rintro e w8 ⟨rfl, h8⟩; have HBRa := Aside0.mk (show Below W1.heap.size W1 w8 from by first | exact first_below HBR.out HBR.out.size h8 | exact first_below HBR.out.drew HBR.out.drew.size h8 | exact first_below HBR.out.drew.drew HBR.out.drew.drew.size h8); clear HBR; have HBR := HBRa; clear HBRa h8))))
 go_wp2
 go_region_held3 (fun w' => w'.cell? ⟨g, 0, none⟩ = some (.slice (some ⟨b, 0, none⟩) n c) ∧ w'.cell? ⟨b, k * 2, none⟩ = some (.int .u32 (xo : Int)) ∧ w'.cell? ⟨b, k * 2 + 1, none⟩ = some (.slice xA xl xc) ∧ w'.cell? ⟨b, i * 2, none⟩ = some (.int .u32 (o : Int)) ∧ w'.cell? ⟨b, i * 2 + 1, none⟩ = some (.slice yA yl yc) ∧ w'.cell? ⟨h, 0, none⟩ = some (.int .u32 (o : Int)) ∧ w'.cell? ⟨h, 1, none⟩ = some (.slice A len pc)) (first | exact HS.out _ HBR.out | exact HS.out _ HBR.out.drew | exact HS.out _ HBR.out.drew.drew) (first | (go_at_call 47; go_loud (first | ((with_reducible refine (EC.out _).mono ?_); rintro e w8 ⟨rfl, h8⟩; have HBRa := Aside0.mk (show Below W1.heap.size W1 w8 from by first | exact first_below HBR.out HBR.out.size h8 | exact first_below HBR.out.drew HBR.out.drew.size h8 | exact first_below HBR.out.drew.drew HBR.out.drew.drew.size h8); clear HBR; have HBR := HBRa; clear HBRa h8) | ((with_reducible refine (EB.out _).mono ?_); rintro e w8 ⟨rfl, h8⟩; have HBRa := Aside0.mk (show Below W1.heap.size W1 w8 from by first | exact first_below HBR.out HBR.out.size h8 | exact first_below HBR.out.drew HBR.out.drew.size h8 | exact first_below HBR.out.drew.drew HBR.out.drew.drew.size h8); clear HBR; have HBR := HBRa; clear HBRa h8))))
 go_wp2
 go_ret
 exact ⟨congrArg (fun b => Ending.returned (Value.bool b)) (decide_eq_false (show ¬ len ≤ yl by have := HE.out; omega)), by first | exact first_below HB.out HB.out.size HBR.out | exact (first_below HB.out HB.out.size HBR.out).drew | exact ((first_below HB.out HB.out.size HBR.out).drew).drew⟩

/-- Does the range before place i, or the one at it, hold all of [o, e)? -/
def coversAt {α : Type} (rs : List (Rg α)) (i o e : Nat) : Bool :=
 (match i with
  | 0 => false
  | k + 1 => match rs[k]? with
    | some x => decide (e ≤ x.off + x.len)
    | none => false) ||
 (match rs[i]? with
  | some y => decide (y.off = o) && decide (e ≤ y.off + y.len)
  | none => false)

theorem covers_calls (g b c i o len pc : Nat) (A : Option Addr) (rs : List Rv) (sp : List Value) (w : World) (hg : w.cell? ⟨g, 0, none⟩ = some (.slice (some ⟨b, 0, none⟩) rs.length c)) (hr : RS w b c rs sp)
 (hbnd : ∀ r ∈ rs, r.off + r.len < 4294967296) (hb1 : o + len < 4294967296) (hn : rs.length ≤ 1000) (hin : i ≤ rs.length) :
 Calls Tryd.prog 56 #[.pointer (some ⟨g, 0, none⟩), .int .i64 (i : Int), .agg #[.int .u32 (o : Int), .slice A len pc]] w fun e w' => e = .returned (.bool (coversAt rs i o (o + len))) ∧ Below w.heap.size w w' := by
 have hat : ∀ j (h : j < rs.length), w.cell? ⟨b, j * 2, none⟩ = some (.int .u32 (rs[j].off : Int)) ∧ w.cell? ⟨b, j * 2 + 1, none⟩ = some (.slice rs[j].p.1 rs[j].len rs[j].p.2) ∧ rs[j].off + rs[j].len < 4294967296 := by
  intro j h
  have := hr.off j rs[j] (List.getElem?_eq_getElem h)
  exact ⟨this.1, this.2, hbnd _ (List.getElem_mem h)⟩
 cases i with
 | zero =>
   by_cases hlt : 0 < rs.length
   ·obtain ⟨h2, h3, h4⟩ := hat 0 hlt
    have hv : coversAt rs 0 o (o + len) = (decide (rs[0].off = o) && decide (o + len ≤ rs[0].off + rs[0].len)) := by
     unfold coversAt
     rw [List.getElem?_eq_getElem hlt]
     simp
    rw [hv]
    by_cases hd : rs[0].off = o
    ·rw [hd] at h2 h4 ⊢
     rw [decide_eq_true rfl, Bool.true_and]
     by_cases he : o + len ≤ o + rs[0].len
     ·rw [decide_eq_true he]
      exact cov_zt g b c rs.length 0 0 o len pc 0 0 0 0 rs[0].len rs[0].p.2 A none rs[0].p.1 w hg hb1 hn hin rfl hlt h2 h3 h4 he
     ·rw [decide_eq_false he]
      exact cov_zf g b c rs.length 0 0 o len pc 0 0 0 0 rs[0].len rs[0].p.2 A none rs[0].p.1 w hg hb1 hn hin rfl hlt h2 h3 h4 he
    ·rw [decide_eq_false hd, Bool.false_and]
     exact cov_zd g b c rs.length 0 0 o len pc 0 0 0 rs[0].off rs[0].len rs[0].p.2 A none rs[0].p.1 w hg hb1 hn hin rfl hlt h2 h3 h4 hd
   ·have hv : coversAt rs 0 o (o + len) = false := by
     unfold coversAt
     rw [List.getElem?_eq_none (by omega)]
     rfl
    rw [hv]
    exact cov_ze g b c rs.length 0 0 o len pc 0 0 0 0 0 0 A none none w hg hb1 hn hin rfl hlt
 | succ k =>
   have hk : k < rs.length := by omega
   obtain ⟨h0, h1, hb2⟩ := hat k hk
   by_cases hc : o + len ≤ rs[k].off + rs[k].len
   ·have hv : coversAt rs (k + 1) o (o + len) = true := by
     unfold coversAt
     simp only [List.getElem?_eq_getElem hk, decide_eq_true hc, Bool.true_or]
    rw [hv]
    exact cov_t g b c rs.length (k + 1) k o len pc rs[k].off rs[k].len rs[k].p.2 0 0 0 A rs[k].p.1 none w hg hb1 hn hin rfl h0 h1 hb2 hc
   ·by_cases hlt : k + 1 < rs.length
    ·obtain ⟨h2, h3, h4⟩ := hat (k + 1) hlt
     have hv : coversAt rs (k + 1) o (o + len) = (decide (rs[k + 1].off = o) && decide (o + len ≤ rs[k + 1].off + rs[k + 1].len)) := by
      unfold coversAt
      simp only [List.getElem?_eq_getElem hk, decide_eq_false hc, List.getElem?_eq_getElem hlt, Bool.false_or]
     rw [hv]
     by_cases hd : rs[k + 1].off = o
     ·rw [hd] at h2 h4 ⊢
      rw [decide_eq_true rfl, Bool.true_and]
      by_cases he : o + len ≤ o + rs[k + 1].len
      ·rw [decide_eq_true he]
       exact cov_ft g b c rs.length (k + 1) k o len pc rs[k].off rs[k].len rs[k].p.2 0 rs[k + 1].len rs[k + 1].p.2 A rs[k].p.1 rs[k + 1].p.1 w hg hb1 hn hin rfl h0 h1 hb2 hc hlt h2 h3 h4 he
      ·rw [decide_eq_false he]
       exact cov_ff g b c rs.length (k + 1) k o len pc rs[k].off rs[k].len rs[k].p.2 0 rs[k + 1].len rs[k + 1].p.2 A rs[k].p.1 rs[k + 1].p.1 w hg hb1 hn hin rfl h0 h1 hb2 hc hlt h2 h3 h4 he
     ·rw [decide_eq_false hd, Bool.false_and]
      exact cov_fd g b c rs.length (k + 1) k o len pc rs[k].off rs[k].len rs[k].p.2 rs[k + 1].off rs[k + 1].len rs[k + 1].p.2 A rs[k].p.1 rs[k + 1].p.1 w hg hb1 hn hin rfl h0 h1 hb2 hc hlt h2 h3 h4 hd
    ·have hv : coversAt rs (k + 1) o (o + len) = false := by
      unfold coversAt
      simp only [List.getElem?_eq_getElem hk, decide_eq_false hc, List.getElem?_eq_none (show rs.length ≤ k + 1 by omega), Bool.false_or]
     rw [hv]
     exact cov_fe g b c rs.length (k + 1) k o len pc rs[k].off rs[k].len rs[k].p.2 0 0 0 A rs[k].p.1 none w hg hb1 hn hin rfl h0 h1 hb2 hc hlt
end Go.Proofs.YtjflijebcpcbmaaDoor.G
