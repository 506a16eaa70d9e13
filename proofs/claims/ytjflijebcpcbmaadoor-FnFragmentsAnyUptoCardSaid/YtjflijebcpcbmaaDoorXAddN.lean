/-
 What is proved: how the first fragment is added to a message. Conditions: numbers below 2^31.
-/
import Derived.Test.YtjflijebcpcbmaaDoorXAdd
namespace Go.Proofs.YtjflijebcpcbmaaDoor.G
open Go.RowKit Go.Proofs.YtjflijebcpcbmaaDoorW.PrintWords Go.Proofs.YtjflijebcpcbmaaDoorW.PrintLast Go.Proofs.YtjflijebcpcbmaaDoorW.PrintMore
set_option linter.unusedVariables false
set_option linter.unusedSimpArgs false

set_option maxHeartbeats 4000000 in
set_option maxRecDepth 100000 in
theorem search_nil (P4 P5 : Nat) (w : World) : Calls Tryd.prog 54 #[.int .i64 0, .func (.func 55) #[] #[.pointer (some ⟨P4, 0, none⟩), .pointer (some ⟨P5, 0, none⟩)]] w fun e w' => e = .returned (.int .i64 0) ∧ Drawn0 w w' := by
 go_enter Tryd.func54, Tryd.ntmps54
 go_wp2
 go_loopg [5, 6] 0 (fun kq v5 v6 wr => v5 = .int .i64 0 ∧ v6 = .int .i64 0 ∧ wr = w)
 case atStart => exact ⟨rfl, rfl, rfl⟩
 case round =>
  obtain ⟨rfl, rfl, rfl⟩ := hrel
  go_wp2
  go_ret
  exact ⟨rfl, Drawn0.refl _⟩

set_option maxHeartbeats 4000000 in
set_option maxRecDepth 100000 in
theorem covers_nil (g o len pc : Nat) (A : Option Addr) (w : World) (hg : w.cell? ⟨g, 0, none⟩ = some (.slice none 0 0)) :
 Calls Tryd.prog 56 #[.pointer (some ⟨g, 0, none⟩), .int .i64 0, .agg #[.int .u32 (o : Int), .slice A len pc]] w fun e w' => e = .returned (.bool false) ∧ Below w.heap.size w w' := by
 obtain ⟨W1, hW1⟩ : ∃ W, W = w.alloc (.cells #[.int .u32 (o : Int), .slice A len pc] 108) := ⟨_, rfl⟩
 obtain ⟨h, hh⟩ : ∃ h, h = w.heap.size := ⟨_, rfl⟩
 have hb : Below w.heap.size w W1 := by rw [hW1]; exact (Below.refl _ _).alloc (Nat.le_refl _) _
 have q0 : W1.cell? ⟨g, 0, none⟩ = some (.slice none 0 0) := (hb.cell (World.block_lt_of_cell? w _ hg)).trans hg
 have HB := Aside0.mk hb
 clear hg hb
 go_enter Tryd.func56, Tryd.ntmps56
 go_wp2
 rw [← hW1, ← hh]
 clear hW1 hh
 go_region
 go_wp2
 go_region
 go_wp2
 go_ret
 exact ⟨rfl, HB.out.drew.drew⟩

def AddedN (w : World) (g cov t l : Nat) (hd : Nat × Nat × Nat × Nat × Nat) (ep : Nat) (st : Bool) (r : Rv) (e : Ending) (w' : World) : Prop :=
 e = .returned (.tuple #[.int .i64 1, .int .i64 (r.len : Int), .nilIface]) ∧ ∃ b' c' sp', FB w' g b' c' [r] sp' (advance [r] cov) t l hd ep st ∧ c' ≤ maxLen ∧ w.heap.size ≤ b' ∧ w.grownBy w' (some g)

set_option maxHeartbeats 8000000 in
set_option maxRecDepth 100000 in
theorem addn0_calls (g cov t l ep av : Nat) (hd : Nat × Nat × Nat × Nat × Nat) (st : Bool) (o : Nat) (A0 : Option Addr) (pc0 : Nat) (w : World) (h : w.heap[g]? = some (.cells (fcells (.slice none 0 0) cov t l hd ep st) 102 (0, 0))) (hb1 : o < 2147483648) (hav : 1 ≤ av) (hav2 : av ≤ 1000) :
 Calls Tryd.prog 45 #[.pointer (some ⟨g, 0, none⟩), .int .u32 (o : Int), .slice A0 0 pc0, .int .i64 (av : Int)] w (AddedN w g cov t l hd ep st ⟨o, 0, (none, 0)⟩) := by
 obtain ⟨P4, hP4⟩ : ∃ x, x = w.heap.size := ⟨_, rfl⟩
 obtain ⟨P5, hP5⟩ : ∃ x, x = w.heap.size + 1 := ⟨_, rfl⟩
 obtain ⟨P6, hP6⟩ : ∃ x, x = w.heap.size + 1 + 1 := ⟨_, rfl⟩
 obtain ⟨W1, hW1⟩ : ∃ W, W = (((w.alloc (.cells #[.pointer (some ⟨g, 0, none⟩)] 98)).alloc (.cells #[.int .u32 (o : Int)] 95)).alloc (.cells #[.int .u32 (o : Int), .slice none 0 0] 108)) := ⟨_, rfl⟩
 have hb : Below w.heap.size w W1 := by rw [hW1]; exact (((Below.refl _ _).alloc (Nat.le_refl _) _).alloc (by simp) _).alloc (by simp; omega) _
 have k4 : W1.heap[P4]? = some (.cells #[.pointer (some ⟨g, 0, none⟩)] 98 (0, 0)) := by rw [hW1, hP4, heap_alloc_old _ _ (by simp; omega), heap_alloc_old _ _ (by simp)]; exact heap_alloc_new _ _
 have k6 : W1.heap[P6]? = some (.cells #[.int .u32 (o : Int), .slice none 0 0] 108 (0, 0)) := by rw [hW1, hP6]; exact heap_alloc_at _ _ _ (by simp)
 have hF : W1.heap[g]? = _ := (hb.block g (blk_lt h)).trans h
 have HSR := Aside0.mk (search_nil P4 P5 W1)
 have q0 : W1.cell? ⟨g, 0, none⟩ = some (.slice none 0 0) := blk_cell hF 0
 have HCV : Aside0 (∀ m, Calls Tryd.prog 56 #[.pointer (some ⟨g, 0, none⟩), .int .i64 0, .agg #[.int .u32 (o : Int), .slice none 0 0]] (W1.drewN m) fun e w' => e = .returned (.bool false) ∧ Below W1.heap.size (W1.drewN m) w') := ⟨fun m => covers_nil g o 0 0 none (W1.drewN m) q0⟩
 have p0 : W1.cell? ⟨P4, 0, none⟩ = some (.pointer (some ⟨g, 0, none⟩)) := blk_cell k4 0
 have p2 : W1.cell? ⟨P6, 0, none⟩ = some (.int .u32 (o : Int)) := blk_cell k6 0
 have p3 : W1.cell? ⟨P6, 1, none⟩ = some (.slice none 0 0) := blk_cell k6 1
 have HW1 := Aside0.mk hW1
 have HP4 := Aside0.mk hP4
 have HP5 := Aside0.mk hP5
 have HP6 := Aside0.mk hP6
 have HF := Aside0.mk hF
 have HB := Aside0.mk hb
 have K4 := Aside0.mk k4
 have K6 := Aside0.mk k6
 have HH := Aside0.mk h
 have HHB := Aside0.mk hb1
 have g0 : w.cell? ⟨g, 0, none⟩ = some (.slice none 0 0) := blk_cell h 0
 have g0' : (((w.alloc (.cells #[.pointer (some ⟨g, 0, none⟩)] 98)).alloc (.cells #[.int .u32 (o : Int)] 95)).alloc (.cells #[.int .u32 (o : Int), .slice none 0 0] 108)).cell? ⟨g, 0, none⟩ = some (.slice none 0 0) := by rw [← hW1]; exact q0
 clear h hb k4 k6 hF hW1 hP4 hP5 hP6 hb1
 have z0 : True := trivial
 go_enter Tryd.func45, Tryd.ntmps45
 go_wp2_with (fail)
 rw [← HW1.out, ← HP6.out, ← HP5.out, ← HP4.out]
 clear g0 g0'
 refine (HSR.out).mono ?_
 rintro e w2 ⟨rfl, m, rfl⟩
 have HCV2 := Aside0.mk (HCV.out m)
 clear HSR HCV
 go_wp2_with (fail)
 refine (HCV2.out).mono ?_
 rintro e w3 ⟨rfl, h3⟩
 have HBR : Aside0 (Below W1.heap.size W1 w3) := ⟨⟨h3.os, h3.tape, h3.output, h3.size, h3.block⟩⟩
 clear h3 q0 p0 p2 p3 z0
 go_wp2_with (fail)
 go_loopg [8, 9, 13] 0 (fun kq v8 v9 v13 wr => v8 = .int .i64 0 ∧ v9 = .int .i64 0 ∧ v13 = .int .i64 0 ∧ Aside0 (Below W1.heap.size W1 wr))
 case atStart => exact ⟨rfl, rfl, rfl, HBR⟩
 case round =>
  obtain ⟨rfl, rfl, rfl, HW⟩ := hrel
  clear HBR
  have hFr : wr.heap[g]? = _ := (HW.out.block g (blk_lt HF.out)).trans HF.out
  have z1 : wr.cell? ⟨P4, 0, none⟩ = some (.pointer (some ⟨g, 0, none⟩)) := blk_cell ((HW.out.block P4 (blk_lt K4.out)).trans K4.out) 0
  have z2 : wr.cell? ⟨g, 0, none⟩ = some (.slice none 0 0) := blk_cell hFr 0
  clear hFr
  go_wp2_with (fail)
  go_region
  obtain ⟨w8, hw8⟩ : ∃ w8, w8 = wr.drew := ⟨_, rfl⟩
  rw [← hw8]
  have HBR : Aside0 (Below W1.heap.size W1 w8) := ⟨by rw [hw8]; exact HW.out.drew⟩
  clear hw8 z1 z2
  have c12 : (1 : Int) ≤ (av : Int) := by omega
  go_wp2_with (fail)
  clear c12
  have hlt4 : P4 < w8.heap.size := Nat.lt_of_lt_of_le (blk_lt K4.out) HBR.out.size
  have hlt6 : P6 < w8.heap.size := Nat.lt_of_lt_of_le (blk_lt K6.out) HBR.out.size
  have hFX : w8.heap[g]? = _ := (HBR.out.block g (blk_lt HF.out)).trans HF.out
  have hltg : g < w8.heap.size := blk_lt hFX
  have k4 : w8.heap[P4]? = _ := (HBR.out.block P4 (blk_lt K4.out)).trans K4.out
  have k6 : w8.heap[P6]? = _ := (HBR.out.block P6 (blk_lt K6.out)).trans K6.out
  have hK : ∀ w' : World, w'.heap[P4]? = w8.heap[P4]? → w'.heap[P6]? = w8.heap[P6]? → w'.cell? ⟨P4, 0, none⟩ = some (.pointer (some ⟨g, 0, none⟩)) ∧ w'.cell? ⟨P6, 0, none⟩ = some (.int .u32 (o : Int)) ∧ w'.cell? ⟨P6, 1, none⟩ = some (.slice none 0 0) := fun w' e4 e6 => ⟨blk_cell (e4.trans k4) 0, blk_cell (e6.trans k6) 0, blk_cell (e6.trans k6) 1⟩
  have HK3 := Aside0.mk hK
  obtain ⟨W9, hW9⟩ : ∃ W, W = w8.alloc (.cells #[.int .u32 (o : Int), .slice none 0 0] 108) := ⟨_, rfl⟩
  have hb9 : Below w8.heap.size w8 W9 := by rw [hW9]; exact (Below.refl _ _).alloc (Nat.le_refl _) _
  have hF9 : W9.heap[g]? = _ := (hb9.block g hltg).trans hFX
  have hv9 : W9.heap[w8.heap.size]? = some (.cells (rcells [(⟨o, 0, (none, 0)⟩ : Rv)]).toArray 108 (0, 0)) := by rw [hW9]; exact heap_alloc_new _ _
  have HREP : Aside0 (Calls Tryd.prog 57 #[.slice none 0 0, .int .i64 0, .int .i64 0, .slice (some ⟨w8.heap.size, 0, none⟩) 1 1] W9.drew fun e w' => ∃ b' c', e = .returned (.slice (some ⟨b', 0, none⟩) 1 c') ∧ (∃ sp', RS w' b' c' [⟨o, 0, (none, 0)⟩] sp') ∧ c' ≤ maxLen ∧ W9.drew.heap.size ≤ b' ∧ W9.drew.grownBy w' none) := ⟨rep_nil w8.heap.size ⟨o, 0, (none, 0)⟩ W9.drew hv9⟩
  have y0 : w8.cell? ⟨g, 0, none⟩ = some (.slice none 0 0) := blk_cell hFX 0
  have y1 : ∀ ob, (w8.alloc ob).cell? ⟨g, 0, none⟩ = some (.slice none 0 0) := fun ob => ((Below.refl w8.heap.size w8).alloc (Nat.le_refl _) ob).cell hltg |>.trans y0
  have HW9 := Aside0.mk hW9
  have HB9 := Aside0.mk hb9
  have HLT : Aside0 (P4 < w8.heap.size ∧ P6 < w8.heap.size ∧ g < w8.heap.size ∧ P4 ≠ g ∧ P6 ≠ g) := ⟨hlt4, hlt6, hltg, blk_ne k4 hFX (by decide), blk_ne k6 hFX (by decide)⟩
  have HL9 : Aside0 (P4 < W9.drew.heap.size ∧ P6 < W9.drew.heap.size ∧ g < W9.drew.heap.size) := ⟨Nat.lt_of_lt_of_le hlt4 hb9.size, Nat.lt_of_lt_of_le hlt6 hb9.size, Nat.lt_of_lt_of_le hltg hb9.size⟩
  have HG9 : Aside0 (W9.drew.heap[g]? = some (.cells (fcells (.slice none 0 0) cov t l hd ep st) 102 (0, 0))) := ⟨hF9⟩
  have H49 : Aside0 (W9.drew.heap[P4]? = w8.heap[P4]?) := ⟨hb9.block P4 hlt4⟩
  have H69 : Aside0 (W9.drew.heap[P6]? = w8.heap[P6]?) := ⟨hb9.block P6 hlt6⟩
  have HNO : Aside0 (∀ k : Nat, some k ≠ (none : Option Nat)) := ⟨fun k => by simp⟩
  clear hK hW9 hb9 hF9 hv9 hFX k4 k6 hlt4 hlt6 hltg
  refine wp_region_noPanic ?_
  refine wp_region_held_drew (S := (fun w' => w'.cell? ⟨P4, 0, none⟩ = some (.pointer (some ⟨g, 0, none⟩)) ∧ w'.cell? ⟨P6, 0, none⟩ = some (.int .u32 (o : Int)) ∧ w'.cell? ⟨P6, 1, none⟩ = some (.slice none 0 0))) (by kernel_rfl) ?_ (fun hHeld => ?_)
  ·(try dsimp only); exact HK3.out _ rfl rfl
  refine wpAnyH_take (i := 0) (oi := _) (v := ?_) rfl (by kernel_rfl) (by kernel_rfl) (by kernel_rfl) (fun _ _ _ h => h) (Or.inl ⟨by rfl, ?_⟩) (by assumption) ?_
  rotate_left
  ·intro w hSw; (try dsimp only at hSw); go_simp; (try with_reducible rfl)
  try simp only [Act.put, List.setIfInBounds_toArray, List.set_cons_zero, List.set_cons_succ]
  refine wpAnyH_take (i := 1) (oi := _) (v := ?_) rfl (by kernel_rfl) (by kernel_rfl) (by kernel_rfl) (fun _ _ _ h => h) (Or.inl ⟨by rfl, ?_⟩) (by assumption) ?_
  rotate_left
  ·intro w hSw; (try dsimp only at hSw); go_simp; (try with_reducible rfl)
  try simp only [Act.put, List.setIfInBounds_toArray, List.set_cons_zero, List.set_cons_succ]
  refine wpAnyH_take (i := 2) (oi := _) (v := ?_) rfl (by kernel_rfl) (by kernel_rfl) (by kernel_rfl) (fun _ _ _ h => h) (Or.inl ⟨by rfl, ?_⟩) (by assumption) ?_
  rotate_left
  ·intro w hSw; (try dsimp only at hSw); go_simp; (try with_reducible rfl)
  try simp only [Act.put, List.setIfInBounds_toArray, List.set_cons_zero, List.set_cons_succ]
  refine wpAnyH_take (i := 3) (oi := _) (v := ?_) rfl (by kernel_rfl) (by kernel_rfl) (by kernel_rfl) (fun _ _ _ h => h) (Or.inl ⟨by rfl, ?_⟩) (by assumption) ?_
  rotate_left
  ·intro w hSw; (try dsimp only at hSw); go_simp; (try with_reducible rfl)
  try simp only [Act.put, List.setIfInBounds_toArray, List.set_cons_zero, List.set_cons_succ]
  refine wpAnyH_take (i := 5) (oi := _) (v := ?_) rfl (by kernel_rfl) (by kernel_rfl) (by kernel_rfl) (fun _ _ _ h => h) (Or.inl ⟨by rfl, ?_⟩) (by assumption) ?_
  rotate_left
  ·intro w hSw; (try dsimp only at hSw); go_simp; (try with_reducible rfl)
  try simp only [Act.put, List.setIfInBounds_toArray, List.set_cons_zero, List.set_cons_succ]
  refine wpAnyH_take (i := 6) (oi := _) (v := ?_) rfl (by kernel_rfl) (by kernel_rfl) (by kernel_rfl) (fun _ _ _ h => h) (Or.inl ⟨by rfl, ?_⟩) (by assumption) ?_
  rotate_left
  ·intro w hSw; (try dsimp only at hSw); go_simp; (try with_reducible rfl)
  try simp only [Act.put, List.setIfInBounds_toArray, List.set_cons_zero, List.set_cons_succ]
  refine wpAnyH_take (i := 7) (oi := _) (v := ?_) rfl (by kernel_rfl) (by kernel_rfl) (by kernel_rfl) (fun _ _ _ h => h) (Or.inl ⟨by rfl, ?_⟩) (by assumption) ?_
  rotate_left
  ·intro w hSw; (try dsimp only at hSw); go_simp; (try with_reducible rfl)
  try simp only [Act.put, List.setIfInBounds_toArray, List.set_cons_zero, List.set_cons_succ]
  refine wpAnyH_ready (rs := [4, 8]) (by kernel_rfl) (by simp) ?_
  refine AllReadyH.cons rfl (fun K hK => ?_) (AllReadyH.cons rfl (fun K hK => ?_) AllReadyH.nil)
  go_simp
  refine hK.out _ _ ?_ (fun hHeld => ?_)
  ·(try dsimp only); exact HK3.out _ rfl rfl
  clear hK K
  try simp only [Act.put, List.setIfInBounds_toArray, List.set_cons_zero, List.set_cons_succ]
  refine wpAnyH_ready (rs := [8]) (by kernel_rfl) (by simp) ?_
  refine AllReadyH.cons rfl (fun K hK => ?_) AllReadyH.nil
  go_simp
  refine hK.out _ _ ?_ (fun hHeld => ?_)
  ·(try dsimp only); exact HK3.out _ (heap_alloc_old _ _ HLT.out.1) (heap_alloc_old _ _ HLT.out.2.1)
  clear hK K
  try simp only [Act.put, List.setIfInBounds_toArray, List.set_cons_zero, List.set_cons_succ]
  refine wpAnyH_ready (rs := [9]) (by kernel_rfl) (by simp) ?_
  refine AllReadyH.cons rfl (fun K hK => ?_) AllReadyH.nil
  go_simp
  first | (go_at_call 57; go_loud (rw [← HW9.out]; (with_reducible refine (HREP.out).mono ?_); rintro e w10 ⟨b', c', rfl, q2, q3, q4, q5⟩; have Q2 := Aside0.mk q2; have Q3 := Aside0.mk q3; have Q4 := Aside0.mk q4; have Q5 := Aside0.mk q5; have E4 := Aside0.mk ((q5.block P4 HL9.out.1 (HNO.out _)).trans H49.out); have E6 := Aside0.mk ((q5.block P6 HL9.out.2.1 (HNO.out _)).trans H69.out); have eg := (q5.block g HL9.out.2.2 (HNO.out _)).trans HG9.out; have y5 : w10.cell? ⟨g, 0, none⟩ = some (.slice none 0 0) := blk_cell eg 0; have f5 := blk_frozen eg 0; have EG := Aside0.mk eg; clear q2 q3 q4 q5 eg))
  refine hK.out _ _ ?_ (fun hHeld => ?_)
  ·(try dsimp only); exact HK3.out _ E4.out E6.out
  clear hK K
  try simp only [Act.put, List.setIfInBounds_toArray, List.set_cons_zero, List.set_cons_succ]
  refine wpAnyH_take (i := 10) (oi := _) (v := ?_) rfl (by kernel_rfl) (by kernel_rfl) (by kernel_rfl) (fun _ _ _ h => h) (Or.inl ⟨by rfl, ?_⟩) (by assumption) ?_
  rotate_left
  ·intro w hSw; (try dsimp only at hSw); go_simp; (try with_reducible rfl)
  try simp only [Act.put, List.setIfInBounds_toArray, List.set_cons_zero, List.set_cons_succ]
  refine wpAnyH_take (i := 11) (oi := _) (v := ?_) rfl (by kernel_rfl) (by kernel_rfl) (by kernel_rfl) (fun _ _ _ h => h) (Or.inl ⟨by rfl, ?_⟩) (by assumption) ?_
  rotate_left
  ·intro w hSw; (try dsimp only at hSw); go_simp; (try with_reducible rfl)
  try simp only [Act.put, List.setIfInBounds_toArray, List.set_cons_zero, List.set_cons_succ]
  refine wpAnyH_ready (rs := [12]) (by kernel_rfl) (by simp) ?_
  refine AllReadyH.cons rfl (fun K hK => ?_) AllReadyH.nil
  go_simp
  refine hK.out _ _ ?_ (fun hHeld => ?_)
  ·(try dsimp only); exact HK3.out _ ((Below.heap_setCell _ _ _ _ HLT.out.2.2.2.1).trans E4.out) ((Below.heap_setCell _ _ _ _ HLT.out.2.2.2.2).trans E6.out)
  clear hK K
  try simp only [Act.put, List.setIfInBounds_toArray, List.set_cons_zero, List.set_cons_succ]
  refine wpAnyH_done (by kernel_rfl) ?_ _
  refine NoPanic.normal ?_
  rotate_left
  go_simp
  refine hK.out _ _ ?_ (fun hHeld => ?_)
  ·(try dsimp only); exact HK3.out _ (heap_alloc_old _ _ HLT.out.1) (heap_alloc_old _ _ HLT.out.2.1)
  clear hK K
  try simp only [Act.put, List.setIfInBounds_toArray, List.set_cons_zero, List.set_cons_succ]
  refine wpAnyH_ready (rs := [4]) (by kernel_rfl) (by simp) ?_
  refine AllReadyH.cons rfl (fun K hK => ?_) AllReadyH.nil
  go_simp
  refine hK.out _ _ ?_ (fun hHeld => ?_)
  ·(try dsimp only); exact HK3.out _ (heap_alloc_old _ _ HLT.out.1) (heap_alloc_old _ _ HLT.out.2.1)
  clear hK K
  try simp only [Act.put, List.setIfInBounds_toArray, List.set_cons_zero, List.set_cons_succ]
  refine wpAnyH_ready (rs := [9]) (by kernel_rfl) (by simp) ?_
  refine AllReadyH.cons rfl (fun K hK => ?_) AllReadyH.nil
  go_simp
  first | (go_at_call 57; go_loud (rw [← HW9.out]; (with_reducible refine (HREP.out).mono ?_); rintro e w10 ⟨b', c', rfl, q2, q3, q4, q5⟩; have Q2 := Aside0.mk q2; have Q3 := Aside0.mk q3; have Q4 := Aside0.mk q4; have Q5 := Aside0.mk q5; have E4 := Aside0.mk ((q5.block P4 HL9.out.1 (HNO.out _)).trans H49.out); have E6 := Aside0.mk ((q5.block P6 HL9.out.2.1 (HNO.out _)).trans H69.out); have eg := (q5.block g HL9.out.2.2 (HNO.out _)).trans HG9.out; have y5 : w10.cell? ⟨g, 0, none⟩ = some (.slice none 0 0) := blk_cell eg 0; have f5 := blk_frozen eg 0; have EG := Aside0.mk eg; clear q2 q3 q4 q5 eg))
  refine hK.out _ _ ?_ (fun hHeld => ?_)
  ·(try dsimp only); exact HK3.out _ E4.out E6.out
  clear hK K
  try simp only [Act.put, List.setIfInBounds_toArray, List.set_cons_zero, List.set_cons_succ]
  refine wpAnyH_take (i := 10) (oi := _) (v := ?_) rfl (by kernel_rfl) (by kernel_rfl) (by kernel_rfl) (fun _ _ _ h => h) (Or.inl ⟨by rfl, ?_⟩) (by assumption) ?_
  rotate_left
  ·intro w hSw; (try dsimp only at hSw); go_simp; (try with_reducible rfl)
  try simp only [Act.put, List.setIfInBounds_toArray, List.set_cons_zero, List.set_cons_succ]
  refine wpAnyH_take (i := 11) (oi := _) (v := ?_) rfl (by kernel_rfl) (by kernel_rfl) (by kernel_rfl) (fun _ _ _ h => h) (Or.inl ⟨by rfl, ?_⟩) (by assumption) ?_
  rotate_left
  ·intro w hSw; (try dsimp only at hSw); go_simp; (try with_reducible rfl)
  try simp only [Act.put, List.setIfInBounds_toArray, List.set_cons_zero, List.set_cons_succ]
  refine wpAnyH_ready (rs := [12]) (by kernel_rfl) (by simp) ?_
  refine AllReadyH.cons rfl (fun K hK => ?_) AllReadyH.nil
  go_simp
  refine hK.out _ _ ?_ (fun hHeld => ?_)
  ·(try dsimp only); exact HK3.out _ ((Below.heap_setCell _ _ _ _ HLT.out.2.2.2.1).trans E4.out) ((Below.heap_setCell _ _ _ _ HLT.out.2.2.2.2).trans E6.out)
  clear hK K
  try simp only [Act.put, List.setIfInBounds_toArray, List.set_cons_zero, List.set_cons_succ]
  refine wpAnyH_done (by kernel_rfl) ?_ _
  refine NoPanic.normal ?_
  rotate_left
  all_goals
   obtain ⟨sp', hq2⟩ := Q2.out
   obtain ⟨W11, hW11⟩ : ∃ W, W = w10.setCell ⟨g, 0, none⟩ (.slice (some ⟨b', 0, none⟩) 1 c') := ⟨_, rfl⟩
   rw [← hW11]
   have hgb : g ≠ b' := blk_ne EG.out hq2.h (by decide)
   have hFB : FB W11 g b' c' [⟨o, 0, (none, 0)⟩] sp' cov t l hd ep st := ⟨by rw [hW11, blk_set EG.out 0 _]; rfl, ⟨by rw [hW11]; exact blk_far hq2.h (p := ⟨g, 0, none⟩) (fun e => hgb e.symm) _, hq2.l⟩⟩
   have HADV : Aside0 (Calls Tryd.prog 58 #[.pointer (some ⟨g, 0, none⟩), .int .i64 0] W11 fun e w' => e = .returned (.tuple #[]) ∧ FB w' g b' c' [⟨o, 0, (none, 0)⟩] sp' (advance [⟨o, 0, (none, 0)⟩] cov) t l hd ep st ∧ W11.grownBy w' (some g)) := Aside0.mk (adv_calls g b' c' 0 cov t l ep hd st [⟨o, 0, (none, 0)⟩] sp' W11 hFB (by simp) (by simp) (fun x hx => by
    rw [List.mem_singleton] at hx
    subst hx
    have := HHB.out
    show o + 0 < 4294967296
    omega))
   have HAP : Aside0 (∀ w12, W11.grownBy w12 (some g) → w.grownBy w12 (some g)) := ⟨fun w12 hgr => by
    have hq5 := Q5.out
    have hb9 := HB9.out
    have h18 := HBR.out
    have h01 := HB.out
    have s11 : W11.heap.size = w10.heap.size := by rw [hW11]; simp [World.setCell]
    have o11 : W11.os = w10.os ∧ W11.tape = w10.tape ∧ W11.output = w10.output := by rw [hW11]; exact ⟨rfl, rfl, rfl⟩
    have z5 := hq5.size
    have z9 := hb9.size
    have z8 := h18.size
    have z1 := h01.size
    have z12 := hgr.size
    have z9' : W9.drew.heap.size = W9.heap.size := rfl
    refine ⟨hgr.os.trans (o11.1.trans (hq5.os.trans (hb9.os.trans (h18.os.trans h01.os)))), hgr.tape.trans (o11.2.1.trans (hq5.tape.trans (hb9.tape.trans (h18.tape.trans h01.tape)))), hgr.output.trans (o11.2.2.trans (hq5.output.trans (hb9.output.trans (h18.output.trans h01.output)))), by omega, fun k hk hkg => ?_⟩
    have e1 : w12.heap[k]? = W11.heap[k]? := hgr.block k (by omega) hkg
    have e2 : W11.heap[k]? = w10.heap[k]? := by rw [hW11]; exact Below.heap_setCell _ ⟨g, 0, none⟩ _ k (fun e => hkg (by rw [e]))
    have e3 : w10.heap[k]? = W9.heap[k]? := hq5.block k (by omega) (by simp)
    exact e1.trans (e2.trans (e3.trans ((hb9.block k (by omega)).trans ((h18.block k (by omega)).trans (h01.block k hk)))))⟩
   have HQ4 : Aside0 (w.heap.size ≤ b') := ⟨by
    have z9 := HB9.out.size
    have z8 := HBR.out.size
    have z1 := HB.out.size
    have z9' : W9.drew.heap.size = W9.heap.size := rfl
    have := Q4.out
    omega⟩
   have x4 : W11.cell? ⟨P4, 0, none⟩ = some (.pointer (some ⟨g, 0, none⟩)) := by
    rw [hW11]
    exact (HK3.out _ ((Below.heap_setCell _ _ _ _ HLT.out.2.2.2.1).trans E4.out) ((Below.heap_setCell _ _ _ _ HLT.out.2.2.2.2).trans E6.out)).1
   clear hq2 hW11 hgb hFB y5 f5
   go_wp2_with (go_at_call 58; go_loud ((with_reducible refine (HADV.out).mono ?_); rintro e w12 ⟨rfl, hfb, hgr⟩; have HFB := Aside0.mk hfb; have HGR := Aside0.mk hgr; clear hfb hgr))
   exact bodyPost_ret (v := .tuple #[.int .i64 1, .int .i64 0, .nilIface]) (by simp [results, Tryd.results45, go_sem]) rfl ⟨rfl, b', c', sp', HFB.out, Q3.out, HQ4.out, HAP.out _ HGR.out⟩

set_option maxHeartbeats 8000000 in
set_option maxRecDepth 100000 in
theorem addn_calls (g cov t l ep av : Nat) (hd : Nat × Nat × Nat × Nat × Nat) (st : Bool) (r : Rv) (A0 : Option Addr) (pc0 : Nat) (w : World) (h : w.heap[g]? = some (.cells (fcells (.slice none 0 0) cov t l hd ep st) 102 (0, 0))) (hb1 : r.off + r.len < 2147483648) (hz : (r.len ≠ 0 ∧ r.p = (A0, pc0)) ∨ (r.len = 0 ∧ r.p = (none, 0))) (hav : 1 ≤ av) (hav2 : av ≤ 1000) :
 Calls Tryd.prog 45 #[.pointer (some ⟨g, 0, none⟩), .int .u32 (r.off : Int), .slice A0 r.len pc0, .int .i64 (av : Int)] w (AddedN w g cov t l hd ep st r) := by
 obtain ⟨P4, hP4⟩ : ∃ x, x = w.heap.size := ⟨_, rfl⟩
 obtain ⟨P5, hP5⟩ : ∃ x, x = w.heap.size + 1 := ⟨_, rfl⟩
 obtain ⟨P6, hP6⟩ : ∃ x, x = w.heap.size + 1 + 1 := ⟨_, rfl⟩
 obtain ⟨W1, hW1⟩ : ∃ W, W = (((w.alloc (.cells #[.pointer (some ⟨g, 0, none⟩)] 98)).alloc (.cells #[.int .u32 (r.off : Int)] 95)).alloc (.cells #[.int .u32 (r.off : Int), .slice r.p.1 r.len r.p.2] 108)) := ⟨_, rfl⟩
 have hb : Below w.heap.size w W1 := by rw [hW1]; exact (((Below.refl _ _).alloc (Nat.le_refl _) _).alloc (by simp) _).alloc (by simp; omega) _
 have k4 : W1.heap[P4]? = some (.cells #[.pointer (some ⟨g, 0, none⟩)] 98 (0, 0)) := by rw [hW1, hP4, heap_alloc_old _ _ (by simp; omega), heap_alloc_old _ _ (by simp)]; exact heap_alloc_new _ _
 have k6 : W1.heap[P6]? = some (.cells #[.int .u32 (r.off : Int), .slice r.p.1 r.len r.p.2] 108 (0, 0)) := by rw [hW1, hP6]; exact heap_alloc_at _ _ _ (by simp)
 have hF : W1.heap[g]? = _ := (hb.block g (blk_lt h)).trans h
 have HSR := Aside0.mk (search_nil P4 P5 W1)
 have q0 : W1.cell? ⟨g, 0, none⟩ = some (.slice none 0 0) := blk_cell hF 0
 have HCV : Aside0 (∀ m, Calls Tryd.prog 56 #[.pointer (some ⟨g, 0, none⟩), .int .i64 0, .agg #[.int .u32 (r.off : Int), .slice r.p.1 r.len r.p.2]] (W1.drewN m) fun e w' => e = .returned (.bool false) ∧ Below W1.heap.size (W1.drewN m) w') := ⟨fun m => covers_nil g r.off r.len r.p.2 r.p.1 (W1.drewN m) q0⟩
 have p0 : W1.cell? ⟨P4, 0, none⟩ = some (.pointer (some ⟨g, 0, none⟩)) := blk_cell k4 0
 have p2 : W1.cell? ⟨P6, 0, none⟩ = some (.int .u32 (r.off : Int)) := blk_cell k6 0
 have p3 : W1.cell? ⟨P6, 1, none⟩ = some (.slice r.p.1 r.len r.p.2) := blk_cell k6 1
 have HW1 := Aside0.mk hW1
 have HP4 := Aside0.mk hP4
 have HP5 := Aside0.mk hP5
 have HP6 := Aside0.mk hP6
 have HF := Aside0.mk hF
 have HB := Aside0.mk hb
 have K4 := Aside0.mk k4
 have K6 := Aside0.mk k6
 have HH := Aside0.mk h
 have HHB := Aside0.mk hb1
 have g0 : w.cell? ⟨g, 0, none⟩ = some (.slice none 0 0) := blk_cell h 0
 have g0' : (((w.alloc (.cells #[.pointer (some ⟨g, 0, none⟩)] 98)).alloc (.cells #[.int .u32 (r.off : Int)] 95)).alloc (.cells #[.int .u32 (r.off : Int), .slice r.p.1 r.len r.p.2] 108)).cell? ⟨g, 0, none⟩ = some (.slice none 0 0) := by rw [← hW1]; exact q0
 clear h hb k4 k6 hF hW1 hP4 hP5 hP6 hb1
 rcases hz with ⟨hr0, hp⟩ | ⟨hr0, hp⟩
 ·have z0 : ((r.len : Int) == 0) = false := by simp; exact hr0
  have hA : Value.slice A0 r.len pc0 = .slice r.p.1 r.len r.p.2 := by rw [hp]
  rw [hA]
  clear hA hp hr0
  go_enter Tryd.func45, Tryd.ntmps45
  go_wp2_with (fail)
  rw [← HW1.out, ← HP6.out, ← HP5.out, ← HP4.out]
  clear g0 g0'
  refine (HSR.out).mono ?_
  rintro e w2 ⟨rfl, m, rfl⟩
  have HCV2 := Aside0.mk (HCV.out m)
  clear HSR HCV
  go_wp2_with (fail)
  refine (HCV2.out).mono ?_
  rintro e w3 ⟨rfl, h3⟩
  have HBR : Aside0 (Below W1.heap.size W1 w3) := ⟨⟨h3.os, h3.tape, h3.output, h3.size, h3.block⟩⟩
  clear h3 q0 p0 p2 p3 z0
  go_wp2_with (fail)
  go_loopg [8, 9, 13] 0 (fun kq v8 v9 v13 wr => v8 = .int .i64 0 ∧ v9 = .int .i64 0 ∧ v13 = .int .i64 0 ∧ Aside0 (Below W1.heap.size W1 wr))
  case atStart => exact ⟨rfl, rfl, rfl, HBR⟩
  case round =>
   obtain ⟨rfl, rfl, rfl, HW⟩ := hrel
   clear HBR
   have hFr : wr.heap[g]? = _ := (HW.out.block g (blk_lt HF.out)).trans HF.out
   have z1 : wr.cell? ⟨P4, 0, none⟩ = some (.pointer (some ⟨g, 0, none⟩)) := blk_cell ((HW.out.block P4 (blk_lt K4.out)).trans K4.out) 0
   have z2 : wr.cell? ⟨g, 0, none⟩ = some (.slice none 0 0) := blk_cell hFr 0
   clear hFr
   go_wp2_with (fail)
   go_region
   obtain ⟨w8, hw8⟩ : ∃ w8, w8 = wr.drew := ⟨_, rfl⟩
   rw [← hw8]
   have HBR : Aside0 (Below W1.heap.size W1 w8) := ⟨by rw [hw8]; exact HW.out.drew⟩
   clear hw8 z1 z2
   have c12 : (1 : Int) ≤ (av : Int) := by omega
   go_wp2_with (fail)
   clear c12
   have hlt4 : P4 < w8.heap.size := Nat.lt_of_lt_of_le (blk_lt K4.out) HBR.out.size
   have hlt6 : P6 < w8.heap.size := Nat.lt_of_lt_of_le (blk_lt K6.out) HBR.out.size
   have hFX : w8.heap[g]? = _ := (HBR.out.block g (blk_lt HF.out)).trans HF.out
   have hltg : g < w8.heap.size := blk_lt hFX
   have k4 : w8.heap[P4]? = _ := (HBR.out.block P4 (blk_lt K4.out)).trans K4.out
   have k6 : w8.heap[P6]? = _ := (HBR.out.block P6 (blk_lt K6.out)).trans K6.out
   have hK : ∀ w' : World, w'.heap[P4]? = w8.heap[P4]? → w'.heap[P6]? = w8.heap[P6]? → w'.cell? ⟨P4, 0, none⟩ = some (.pointer (some ⟨g, 0, none⟩)) ∧ w'.cell? ⟨P6, 0, none⟩ = some (.int .u32 (r.off : Int)) ∧ w'.cell? ⟨P6, 1, none⟩ = some (.slice r.p.1 r.len r.p.2) := fun w' e4 e6 => ⟨blk_cell (e4.trans k4) 0, blk_cell (e6.trans k6) 0, blk_cell (e6.trans k6) 1⟩
   have HK3 := Aside0.mk hK
   obtain ⟨W9, hW9⟩ : ∃ W, W = w8.alloc (.cells #[.int .u32 (r.off : Int), .slice r.p.1 r.len r.p.2] 108) := ⟨_, rfl⟩
   have hb9 : Below w8.heap.size w8 W9 := by rw [hW9]; exact (Below.refl _ _).alloc (Nat.le_refl _) _
   have hF9 : W9.heap[g]? = _ := (hb9.block g hltg).trans hFX
   have hv9 : W9.heap[w8.heap.size]? = some (.cells (rcells [r]).toArray 108 (0, 0)) := by rw [hW9]; exact heap_alloc_new _ _
   have HREP : Aside0 (Calls Tryd.prog 57 #[.slice none 0 0, .int .i64 0, .int .i64 0, .slice (some ⟨w8.heap.size, 0, none⟩) 1 1] W9.drew fun e w' => ∃ b' c', e = .returned (.slice (some ⟨b', 0, none⟩) 1 c') ∧ (∃ sp', RS w' b' c' [r] sp') ∧ c' ≤ maxLen ∧ W9.drew.heap.size ≤ b' ∧ W9.drew.grownBy w' none) := ⟨rep_nil w8.heap.size r W9.drew hv9⟩
   have y0 : w8.cell? ⟨g, 0, none⟩ = some (.slice none 0 0) := blk_cell hFX 0
   have y1 : ∀ o, (w8.alloc o).cell? ⟨g, 0, none⟩ = some (.slice none 0 0) := fun o => ((Below.refl w8.heap.size w8).alloc (Nat.le_refl _) o).cell hltg |>.trans y0
   have HW9 := Aside0.mk hW9
   have HB9 := Aside0.mk hb9
   have HLT : Aside0 (P4 < w8.heap.size ∧ P6 < w8.heap.size ∧ g < w8.heap.size ∧ P4 ≠ g ∧ P6 ≠ g) := ⟨hlt4, hlt6, hltg, blk_ne k4 hFX (by decide), blk_ne k6 hFX (by decide)⟩
   have HL9 : Aside0 (P4 < W9.drew.heap.size ∧ P6 < W9.drew.heap.size ∧ g < W9.drew.heap.size) := ⟨Nat.lt_of_lt_of_le hlt4 hb9.size, Nat.lt_of_lt_of_le hlt6 hb9.size, Nat.lt_of_lt_of_le hltg hb9.size⟩
   have HG9 : Aside0 (W9.drew.heap[g]? = some (.cells (fcells (.slice none 0 0) cov t l hd ep st) 102 (0, 0))) := ⟨hF9⟩
   have H49 : Aside0 (W9.drew.heap[P4]? = w8.heap[P4]?) := ⟨hb9.block P4 hlt4⟩
   have H69 : Aside0 (W9.drew.heap[P6]? = w8.heap[P6]?) := ⟨hb9.block P6 hlt6⟩
   have HNO : Aside0 (∀ k : Nat, some k ≠ (none : Option Nat)) := ⟨fun k => by simp⟩
   clear hK hW9 hb9 hF9 hv9 hFX k4 k6 hlt4 hlt6 hltg
   refine wp_region_noPanic ?_
   refine wp_region_held_drew (S := (fun w' => w'.cell? ⟨P4, 0, none⟩ = some (.pointer (some ⟨g, 0, none⟩)) ∧ w'.cell? ⟨P6, 0, none⟩ = some (.int .u32 (r.off : Int)) ∧ w'.cell? ⟨P6, 1, none⟩ = some (.slice r.p.1 r.len r.p.2))) (by kernel_rfl) ?_ (fun hHeld => ?_)
   ·(try dsimp only); exact HK3.out _ rfl rfl
   refine wpAnyH_take (i := 0) (oi := _) (v := ?_) rfl (by kernel_rfl) (by kernel_rfl) (by kernel_rfl) (fun _ _ _ h => h) (Or.inl ⟨by rfl, ?_⟩) (by assumption) ?_
   rotate_left
   ·intro w hSw; (try dsimp only at hSw); go_simp; (try with_reducible rfl)
   try simp only [Act.put, List.setIfInBounds_toArray, List.set_cons_zero, List.set_cons_succ]
   refine wpAnyH_take (i := 1) (oi := _) (v := ?_) rfl (by kernel_rfl) (by kernel_rfl) (by kernel_rfl) (fun _ _ _ h => h) (Or.inl ⟨by rfl, ?_⟩) (by assumption) ?_
   rotate_left
   ·intro w hSw; (try dsimp only at hSw); go_simp; (try with_reducible rfl)
   try simp only [Act.put, List.setIfInBounds_toArray, List.set_cons_zero, List.set_cons_succ]
   refine wpAnyH_take (i := 2) (oi := _) (v := ?_) rfl (by kernel_rfl) (by kernel_rfl) (by kernel_rfl) (fun _ _ _ h => h) (Or.inl ⟨by rfl, ?_⟩) (by assumption) ?_
   rotate_left
   ·intro w hSw; (try dsimp only at hSw); go_simp; (try with_reducible rfl)
   try simp only [Act.put, List.setIfInBounds_toArray, List.set_cons_zero, List.set_cons_succ]
   refine wpAnyH_take (i := 3) (oi := _) (v := ?_) rfl (by kernel_rfl) (by kernel_rfl) (by kernel_rfl) (fun _ _ _ h => h) (Or.inl ⟨by rfl, ?_⟩) (by assumption) ?_
   rotate_left
   ·intro w hSw; (try dsimp only at hSw); go_simp; (try with_reducible rfl)
   try simp only [Act.put, List.setIfInBounds_toArray, List.set_cons_zero, List.set_cons_succ]
   refine wpAnyH_take (i := 5) (oi := _) (v := ?_) rfl (by kernel_rfl) (by kernel_rfl) (by kernel_rfl) (fun _ _ _ h => h) (Or.inl ⟨by rfl, ?_⟩) (by assumption) ?_
   rotate_left
   ·intro w hSw; (try dsimp only at hSw); go_simp; (try with_reducible rfl)
   try simp only [Act.put, List.setIfInBounds_toArray, List.set_cons_zero, List.set_cons_succ]
   refine wpAnyH_take (i := 6) (oi := _) (v := ?_) rfl (by kernel_rfl) (by kernel_rfl) (by kernel_rfl) (fun _ _ _ h => h) (Or.inl ⟨by rfl, ?_⟩) (by assumption) ?_
   rotate_left
   ·intro w hSw; (try dsimp only at hSw); go_simp; (try with_reducible rfl)
   try simp only [Act.put, List.setIfInBounds_toArray, List.set_cons_zero, List.set_cons_succ]
   refine wpAnyH_take (i := 7) (oi := _) (v := ?_) rfl (by kernel_rfl) (by kernel_rfl) (by kernel_rfl) (fun _ _ _ h => h) (Or.inl ⟨by rfl, ?_⟩) (by assumption) ?_
   rotate_left
   ·intro w hSw; (try dsimp only at hSw); go_simp; (try with_reducible rfl)
   try simp only [Act.put, List.setIfInBounds_toArray, List.set_cons_zero, List.set_cons_succ]
   refine wpAnyH_ready (rs := [4, 8]) (by kernel_rfl) (by simp) ?_
   refine AllReadyH.cons rfl (fun K hK => ?_) (AllReadyH.cons rfl (fun K hK => ?_) AllReadyH.nil)
   go_simp
   refine hK.out _ _ ?_ (fun hHeld => ?_)
   ·(try dsimp only); exact HK3.out _ rfl rfl
   clear hK K
   try simp only [Act.put, List.setIfInBounds_toArray, List.set_cons_zero, List.set_cons_succ]
   refine wpAnyH_ready (rs := [8]) (by kernel_rfl) (by simp) ?_
   refine AllReadyH.cons rfl (fun K hK => ?_) AllReadyH.nil
   go_simp
   refine hK.out _ _ ?_ (fun hHeld => ?_)
   ·(try dsimp only); exact HK3.out _ (heap_alloc_old _ _ HLT.out.1) (heap_alloc_old _ _ HLT.out.2.1)
   clear hK K
   try simp only [Act.put, List.setIfInBounds_toArray, List.set_cons_zero, List.set_cons_succ]
   refine wpAnyH_ready (rs := [9]) (by kernel_rfl) (by simp) ?_
   refine AllReadyH.cons rfl (fun K hK => ?_) AllReadyH.nil
   go_simp
   first | (go_at_call 57; go_loud (rw [← HW9.out]; (with_reducible refine (HREP.out).mono ?_); rintro e w10 ⟨b', c', rfl, q2, q3, q4, q5⟩; have Q2 := Aside0.mk q2; have Q3 := Aside0.mk q3; have Q4 := Aside0.mk q4; have Q5 := Aside0.mk q5; have E4 := Aside0.mk ((q5.block P4 HL9.out.1 (HNO.out _)).trans H49.out); have E6 := Aside0.mk ((q5.block P6 HL9.out.2.1 (HNO.out _)).trans H69.out); have eg := (q5.block g HL9.out.2.2 (HNO.out _)).trans HG9.out; have y5 : w10.cell? ⟨g, 0, none⟩ = some (.slice none 0 0) := blk_cell eg 0; have f5 := blk_frozen eg 0; have EG := Aside0.mk eg; clear q2 q3 q4 q5 eg))
   refine hK.out _ _ ?_ (fun hHeld => ?_)
   ·(try dsimp only); exact HK3.out _ E4.out E6.out
   clear hK K
   try simp only [Act.put, List.setIfInBounds_toArray, List.set_cons_zero, List.set_cons_succ]
   refine wpAnyH_take (i := 10) (oi := _) (v := ?_) rfl (by kernel_rfl) (by kernel_rfl) (by kernel_rfl) (fun _ _ _ h => h) (Or.inl ⟨by rfl, ?_⟩) (by assumption) ?_
   rotate_left
   ·intro w hSw; (try dsimp only at hSw); go_simp; (try with_reducible rfl)
   try simp only [Act.put, List.setIfInBounds_toArray, List.set_cons_zero, List.set_cons_succ]
   refine wpAnyH_take (i := 11) (oi := _) (v := ?_) rfl (by kernel_rfl) (by kernel_rfl) (by kernel_rfl) (fun _ _ _ h => h) (Or.inl ⟨by rfl, ?_⟩) (by assumption) ?_
   rotate_left
   ·intro w hSw; (try dsimp only at hSw); go_simp; (try with_reducible rfl)
   try simp only [Act.put, List.setIfInBounds_toArray, List.set_cons_zero, List.set_cons_succ]
   refine wpAnyH_ready (rs := [12]) (by kernel_rfl) (by simp) ?_
   refine AllReadyH.cons rfl (fun K hK => ?_) AllReadyH.nil
   go_simp
   refine hK.out _ _ ?_ (fun hHeld => ?_)
   ·(try dsimp only); exact HK3.out _ ((Below.heap_setCell _ _ _ _ HLT.out.2.2.2.1).trans E4.out) ((Below.heap_setCell _ _ _ _ HLT.out.2.2.2.2).trans E6.out)
   clear hK K
   try simp only [Act.put, List.setIfInBounds_toArray, List.set_cons_zero, List.set_cons_succ]
   refine wpAnyH_done (by kernel_rfl) ?_ _
   refine NoPanic.normal ?_
   rotate_left
   go_simp
   refine hK.out _ _ ?_ (fun hHeld => ?_)
   ·(try dsimp only); exact HK3.out _ (heap_alloc_old _ _ HLT.out.1) (heap_alloc_old _ _ HLT.out.2.1)
   clear hK K
   try simp only [Act.put, List.setIfInBounds_toArray, List.set_cons_zero, List.set_cons_succ]
   refine wpAnyH_ready (rs := [4]) (by kernel_rfl) (by simp) ?_
   refine AllReadyH.cons rfl (fun K hK => ?_) AllReadyH.nil
   go_simp
   refine hK.out _ _ ?_ (fun hHeld => ?_)
   ·(try dsimp only); exact HK3.out _ (heap_alloc_old _ _ HLT.out.1) (heap_alloc_old _ _ HLT.out.2.1)
   clear hK K
   try simp only [Act.put, List.setIfInBounds_toArray, List.set_cons_zero, List.set_cons_succ]
   refine wpAnyH_ready (rs := [9]) (by kernel_rfl) (by simp) ?_
   refine AllReadyH.cons rfl (fun K hK => ?_) AllReadyH.nil
   go_simp
   first | (go_at_call 57; go_loud (rw [← HW9.out]; (with_reducible refine (HREP.out).mono ?_); rintro e w10 ⟨b', c', rfl, q2, q3, q4, q5⟩; have Q2 := Aside0.mk q2; have Q3 := Aside0.mk q3; have Q4 := Aside0.mk q4; have Q5 := Aside0.mk q5; have E4 := Aside0.mk ((q5.block P4 HL9.out.1 (HNO.out _)).trans H49.out); have E6 := Aside0.mk ((q5.block P6 HL9.out.2.1 (HNO.out _)).trans H69.out); have eg := (q5.block g HL9.out.2.2 (HNO.out _)).trans HG9.out; have y5 : w10.cell? ⟨g, 0, none⟩ = some (.slice none 0 0) := blk_cell eg 0; have f5 := blk_frozen eg 0; have EG := Aside0.mk eg; clear q2 q3 q4 q5 eg))
   refine hK.out _ _ ?_ (fun hHeld => ?_)
   ·(try dsimp only); exact HK3.out _ E4.out E6.out
   clear hK K
   try simp only [Act.put, List.setIfInBounds_toArray, List.set_cons_zero, List.set_cons_succ]
   refine wpAnyH_take (i := 10) (oi := _) (v := ?_) rfl (by kernel_rfl) (by kernel_rfl) (by kernel_rfl) (fun _ _ _ h => h) (Or.inl ⟨by rfl, ?_⟩) (by assumption) ?_
   rotate_left
   ·intro w hSw; (try dsimp only at hSw); go_simp; (try with_reducible rfl)
   try simp only [Act.put, List.setIfInBounds_toArray, List.set_cons_zero, List.set_cons_succ]
   refine wpAnyH_take (i := 11) (oi := _) (v := ?_) rfl (by kernel_rfl) (by kernel_rfl) (by kernel_rfl) (fun _ _ _ h => h) (Or.inl ⟨by rfl, ?_⟩) (by assumption) ?_
   rotate_left
   ·intro w hSw; (try dsimp only at hSw); go_simp; (try with_reducible rfl)
   try simp only [Act.put, List.setIfInBounds_toArray, List.set_cons_zero, List.set_cons_succ]
   refine wpAnyH_ready (rs := [12]) (by kernel_rfl) (by simp) ?_
   refine AllReadyH.cons rfl (fun K hK => ?_) AllReadyH.nil
   go_simp
   refine hK.out _ _ ?_ (fun hHeld => ?_)
   ·(try dsimp only); exact HK3.out _ ((Below.heap_setCell _ _ _ _ HLT.out.2.2.2.1).trans E4.out) ((Below.heap_setCell _ _ _ _ HLT.out.2.2.2.2).trans E6.out)
   clear hK K
   try simp only [Act.put, List.setIfInBounds_toArray, List.set_cons_zero, List.set_cons_succ]
   refine wpAnyH_done (by kernel_rfl) ?_ _
   refine NoPanic.normal ?_
   rotate_left
   all_goals
    obtain ⟨sp', hq2⟩ := Q2.out
    obtain ⟨W11, hW11⟩ : ∃ W, W = w10.setCell ⟨g, 0, none⟩ (.slice (some ⟨b', 0, none⟩) 1 c') := ⟨_, rfl⟩
    rw [← hW11]
    have hgb : g ≠ b' := blk_ne EG.out hq2.h (by decide)
    have hFB : FB W11 g b' c' [r] sp' cov t l hd ep st := ⟨by rw [hW11, blk_set EG.out 0 _]; rfl, ⟨by rw [hW11]; exact blk_far hq2.h (p := ⟨g, 0, none⟩) (fun e => hgb e.symm) _, hq2.l⟩⟩
    have HADV : Aside0 (Calls Tryd.prog 58 #[.pointer (some ⟨g, 0, none⟩), .int .i64 0] W11 fun e w' => e = .returned (.tuple #[]) ∧ FB w' g b' c' [r] sp' (advance [r] cov) t l hd ep st ∧ W11.grownBy w' (some g)) := Aside0.mk (adv_calls g b' c' 0 cov t l ep hd st [r] sp' W11 hFB (by simp) (by simp) (fun x hx => by
     rw [List.mem_singleton] at hx
     subst hx
     have := HHB.out
     omega))
    have HAP : Aside0 (∀ w12, W11.grownBy w12 (some g) → w.grownBy w12 (some g)) := ⟨fun w12 hgr => by
     have hq5 := Q5.out
     have hb9 := HB9.out
     have h18 := HBR.out
     have h01 := HB.out
     have s11 : W11.heap.size = w10.heap.size := by rw [hW11]; simp [World.setCell]
     have o11 : W11.os = w10.os ∧ W11.tape = w10.tape ∧ W11.output = w10.output := by rw [hW11]; exact ⟨rfl, rfl, rfl⟩
     have z5 := hq5.size
     have z9 := hb9.size
     have z8 := h18.size
     have z1 := h01.size
     have z12 := hgr.size
     have z9' : W9.drew.heap.size = W9.heap.size := rfl
     refine ⟨hgr.os.trans (o11.1.trans (hq5.os.trans (hb9.os.trans (h18.os.trans h01.os)))), hgr.tape.trans (o11.2.1.trans (hq5.tape.trans (hb9.tape.trans (h18.tape.trans h01.tape)))), hgr.output.trans (o11.2.2.trans (hq5.output.trans (hb9.output.trans (h18.output.trans h01.output)))), by omega, fun k hk hkg => ?_⟩
     have e1 : w12.heap[k]? = W11.heap[k]? := hgr.block k (by omega) hkg
     have e2 : W11.heap[k]? = w10.heap[k]? := by rw [hW11]; exact Below.heap_setCell _ ⟨g, 0, none⟩ _ k (fun e => hkg (by rw [e]))
     have e3 : w10.heap[k]? = W9.heap[k]? := hq5.block k (by omega) (by simp)
     exact e1.trans (e2.trans (e3.trans ((hb9.block k (by omega)).trans ((h18.block k (by omega)).trans (h01.block k hk)))))⟩
    have HQ4 : Aside0 (w.heap.size ≤ b') := ⟨by
     have z9 := HB9.out.size
     have z8 := HBR.out.size
     have z1 := HB.out.size
     have z9' : W9.drew.heap.size = W9.heap.size := rfl
     have := Q4.out
     omega⟩
    have x4 : W11.cell? ⟨P4, 0, none⟩ = some (.pointer (some ⟨g, 0, none⟩)) := by
     rw [hW11]
     exact (HK3.out _ ((Below.heap_setCell _ _ _ _ HLT.out.2.2.2.1).trans E4.out) ((Below.heap_setCell _ _ _ _ HLT.out.2.2.2.2).trans E6.out)).1
    have hl9 : r.len < 2147483648 := by have := HHB.out; omega
    clear hq2 hW11 hgb hFB y5 f5
    go_wp2_with (go_at_call 58; go_loud ((with_reducible refine (HADV.out).mono ?_); rintro e w12 ⟨rfl, hfb, hgr⟩; have HFB := Aside0.mk hfb; have HGR := Aside0.mk hgr; clear hfb hgr))
    exact bodyPost_ret (v := .tuple #[.int .i64 1, .int .i64 (r.len : Int), .nilIface]) (by simp [results, Tryd.results45, go_sem]) rfl ⟨rfl, b', c', sp', HFB.out, Q3.out, HQ4.out, HAP.out _ HGR.out⟩
 ·have hre : r = ⟨r.off, 0, (none, 0)⟩ := by
   cases r
   simp at hr0 hp
   simp [hr0, hp]
  have h0 := addn0_calls g cov t l ep av hd st r.off A0 pc0 w HH.out (by have := HHB.out; omega) hav hav2
  rw [hr0]
  rw [← hre] at h0
  exact h0
end Go.Proofs.YtjflijebcpcbmaaDoor.G
