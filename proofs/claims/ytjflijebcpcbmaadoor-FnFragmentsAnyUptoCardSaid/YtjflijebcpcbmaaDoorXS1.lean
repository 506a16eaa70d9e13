/- What is proved: Go functions answer as the Lean functions of this text (written by a program of this session over the print of the kit). Conditions: those in the hypotheses. -/
import Derived.Test.YtjflijebcpcbmaaDoorXS0
namespace Go.Proofs.YtjflijebcpcbmaaDoor.G
open Go.RowKit Go.Proofs.YtjflijebcpcbmaaDoorW.PrintWords Go.Proofs.YtjflijebcpcbmaaDoorW.PrintLast Go.Proofs.YtjflijebcpcbmaaDoorW.PrintMore
attribute [local go_sem] max2_int min2_int max_two min_two max_three min_three max_four min_four   -- for this text's walks alone
set_option linter.unusedVariables false
set_option linter.unusedSimpArgs false

/-! ### impl_Fragments: function 14: given by hand -/
/-! ### laws_zzFits6: function 29 -/
def laws_zzFits6.f (a0_0 : Bool) (a0_1 : ByteArray) : Option (Bool) := if (a0_1.size : Int) > 2147483647 then (some false) else (some true)
set_option maxHeartbeats 8000000 in
set_option maxRecDepth 100000 in
theorem laws_zzFits6.calls (a0_0 : Bool) (a0_1 : ByteArray) (r : Bool) (w : World) (h : laws_zzFits6.f a0_0 a0_1 = some r) :
 Calls Tryd.prog 29 #[.agg #[.bool a0_0, .string a0_1]] w fun e w' => e = .returned (.bool r) ∧ Below w.heap.size w w' := by
 have hu45 := Tryd.underlying45
 have HB := Aside0.mk (Below.refl w.heap.size w)
 have H : (if (a0_1.size : Int) > 2147483647 then (some false) else (some true)) = some r := h
 clear h
 by_cases c2 : (a0_1.size : Int) > 2147483647
 ·rw [if_pos c2] at H
  have c2b0 : decide (2147483647 < (a0_1.size : Int)) = true := decide_eq_true c2
  have c2b1 : decide (2147483647 < a0_1.size) = true := decide_eq_true (by omega)
  clear c2
  obtain rfl := Option.some.inj H
  go_enter Tryd.func29, Tryd.ntmps29
  go_wp2_with (first | ((with_reducible refine gate_dst (N := 1) rfl ?_); refine box_event ?hg (N := 1) ?hd (cs := #[.bool a0_0, .string a0_1]) (t := 45) ?hr ?_; (case hd => rfl); (case hg => rfl); (case hr => first | (go_simp; done) | (go_simp; rfl)); intro gb101 hg w3 hbox hb; have n0_ := Aside0.mk (below_step (by repeat (first | (with_reducible first | exact HB.out | apply below_alloc | apply pw_below_drewN | apply below_drew1) | exact HB.out)) hb); have n1_ := Aside0.mk (hbox); have n2_ := Aside0.mk ((by rw [hg]; exact (below_size (by repeat (first | (with_reducible first | exact HB.out | apply below_alloc | apply pw_below_drewN | apply below_drew1) | exact HB.out))) : w.heap.size ≤ gb101)); have n3_ := Aside0.mk ((by rw [hg]; exact (below_size (by repeat (first | (with_reducible first | exact HB.out | apply below_alloc | apply pw_below_drewN | apply below_drew1) | exact HB.out))) : w.heap.size ≤ gb101)); clear HB; have HB := n0_; have BK101 := n1_; have GW101 := n2_; have GE101 := n3_; clear n0_ n1_ n2_ n3_; clear hb hbox hg; have hcz4_0 : w3.cell? ⟨gb101, 0, none⟩ = some (.bool a0_0) := (blk_cell BK101.out 0).trans rfl; have hcz4_1 : w3.cell? ⟨gb101, 1, none⟩ = some (.string a0_1) := (blk_cell BK101.out 1).trans rfl; have hfz4_0 := blk_frozen BK101.out 0; have hfz4_1 := blk_frozen BK101.out 1))
  go_ret
  exact ⟨by first | rfl | (simp [errW_none, errW_some] <;> rfl) | (simp [*, errW_none, errW_some] <;> rfl), by repeat (first | (with_reducible first | exact HB.out | apply below_alloc | apply pw_below_drewN | apply below_drew1 | refine below_set ?_ GE101.out) | exact HB.out)⟩
 ·rw [if_neg c2] at H
  have c2b0 : decide (2147483647 < (a0_1.size : Int)) = false := decide_eq_false c2
  have c2b1 : decide (2147483647 < a0_1.size) = false := decide_eq_false (by omega)
  clear c2
  obtain rfl := Option.some.inj H
  go_enter Tryd.func29, Tryd.ntmps29
  go_wp2_with (first | ((with_reducible refine gate_dst (N := 1) rfl ?_); refine box_event ?hg (N := 1) ?hd (cs := #[.bool a0_0, .string a0_1]) (t := 45) ?hr ?_; (case hd => rfl); (case hg => rfl); (case hr => first | (go_simp; done) | (go_simp; rfl)); intro gb101 hg w5 hbox hb; have n0_ := Aside0.mk (below_step (by repeat (first | (with_reducible first | exact HB.out | apply below_alloc | apply pw_below_drewN | apply below_drew1) | exact HB.out)) hb); have n1_ := Aside0.mk (hbox); have n2_ := Aside0.mk ((by rw [hg]; exact (below_size (by repeat (first | (with_reducible first | exact HB.out | apply below_alloc | apply pw_below_drewN | apply below_drew1) | exact HB.out))) : w.heap.size ≤ gb101)); have n3_ := Aside0.mk ((by rw [hg]; exact (below_size (by repeat (first | (with_reducible first | exact HB.out | apply below_alloc | apply pw_below_drewN | apply below_drew1) | exact HB.out))) : w.heap.size ≤ gb101)); clear HB; have HB := n0_; have BK101 := n1_; have GW101 := n2_; have GE101 := n3_; clear n0_ n1_ n2_ n3_; clear hb hbox hg; have hcz6_0 : w5.cell? ⟨gb101, 0, none⟩ = some (.bool a0_0) := (blk_cell BK101.out 0).trans rfl; have hcz6_1 : w5.cell? ⟨gb101, 1, none⟩ = some (.string a0_1) := (blk_cell BK101.out 1).trans rfl; have hfz6_0 := blk_frozen BK101.out 0; have hfz6_1 := blk_frozen BK101.out 1))
  go_ret
  exact ⟨by first | rfl | (simp [errW_none, errW_some] <;> rfl) | (simp [*, errW_none, errW_some] <;> rfl), by repeat (first | (with_reducible first | exact HB.out | apply below_alloc | apply pw_below_drewN | apply below_drew1 | refine below_set ?_ GE101.out) | exact HB.out)⟩

/-! ### laws_zzFits5: function 17 -/
def laws_zzFits5.l0 : Nat → List (S45) → Int → Int → Option (Bool)
 | 0, _, _, _ => none
 | k + 1, x8, x9, x10 => if x10 < x9 then (if 0 ≤ x10 then (if x10 < (x8.length : Int) then ((laws_zzFits6.f ((rd_T45 x8 x10).f0) ((rd_T45 x8 x10).f1)).bind fun t104 => (if t104 = true then (laws_zzFits5.l0 k x8 x9 (wrap64 (x10 + 1))) else (some false))) else (none)) else (none)) else (some true)
def laws_zzFits5.f (k : Nat) (l0 : List (S45)) : Option (Bool) := if (l0.length : Int) > 2147483647 then (some false) else (laws_zzFits5.l0 k l0 (l0.length : Int) 0)
set_option maxHeartbeats 8000000 in
set_option maxRecDepth 100000 in
theorem laws_zzFits5.calls (k : Nat) (A0 : Option Addr) (c0 : Nat) (l0 : List (S45)) (r : Bool) (w : World) (hr0 : Kd.C k45 w A0 l0.length l0) (hc0 : l0.length ≤ c0) (h : laws_zzFits5.f k l0 = some r) :
 Calls Tryd.prog 17 #[.slice A0 l0.length c0] w fun e w' => e = .returned (.bool r) ∧ Below w.heap.size w w' := by
 have hu45 := Tryd.underlying45
 have HR0 := Aside0.mk hr0
 have HC0 := Aside0.mk hc0
 clear hr0 hc0
 have HB := Aside0.mk (Below.refl w.heap.size w)
 have H : (if (l0.length : Int) > 2147483647 then (some false) else (laws_zzFits5.l0 k l0 (l0.length : Int) 0)) = some r := h
 clear h
 by_cases c2 : (l0.length : Int) > 2147483647
 ·rw [if_pos c2] at H
  have c2b0 : decide (2147483647 < (l0.length : Int)) = true := decide_eq_true c2
  have c2b1 : decide (2147483647 < l0.length) = true := decide_eq_true (by omega)
  clear c2
  obtain rfl := Option.some.inj H
  go_enter Tryd.func17, Tryd.ntmps17
  go_wp2
  go_ret
  exact ⟨by first | rfl | (simp [errW_none, errW_some] <;> rfl) | (simp [*, errW_none, errW_some] <;> rfl), by repeat (first | (with_reducible first | exact HB.out | apply below_alloc | apply pw_below_drewN | apply below_drew1) | exact HB.out)⟩
 ·rw [if_neg c2] at H
  have c2b0 : decide (2147483647 < (l0.length : Int)) = false := decide_eq_false c2
  have c2b1 : decide (2147483647 < l0.length) = false := decide_eq_false (by omega)
  clear c2
  have H' := Aside0.mk H
  clear H
  go_enter Tryd.func17, Tryd.ntmps17
  go_wp2
  go_loopg [10] k (fun kq v10 w' => ∃ (x10_1 : Int), v10 = .int .i64 x10_1 ∧ Aside0 (laws_zzFits5.l0 kq l0 (l0.length : Int) x10_1 = some r) ∧ Aside0 (kq ≤ k) ∧ Aside0 (Below w.heap.size w w'))
  case atStart => exact ⟨(0), (by first | rfl | (simp; done) | (simp [*]; done)), H', ⟨Nat.le_refl _⟩, ⟨by repeat (first | (with_reducible first | exact HB.out | apply below_alloc | apply pw_below_drewN | apply below_drew1) | exact HB.out)⟩⟩
  case round =>
   clear H'
   try clear c1
   try clear c2
   try clear c2b0
   try clear c2b1
   try clear p2
   obtain ⟨x10_1, rfl, HA, HK1, HB⟩ := hrel
   cases gk with
   | zero => exact absurd HA.out (by simp [laws_zzFits5.l0])
   | succ k1 =>
     have H := HA.out
     clear HA
     simp only [laws_zzFits5.l0] at H
     by_cases c3 : x10_1 < (l0.length : Int)
     ·rw [if_pos c3] at H
      have c3b0 : decide (x10_1 < (l0.length : Int)) = true := decide_eq_true c3
      clear c3
      by_cases c4 : 0 ≤ x10_1
      ·rw [if_pos c4] at H
       have c4b0 : decide (0 ≤ x10_1) = true := decide_eq_true c4
       clear c4
       by_cases c5 : x10_1 < (l0.length : Int)
       ·rw [if_pos c5] at H
        have c5b0 : decide (x10_1 < (l0.length : Int)) = true := decide_eq_true c5
        clear c5
        replace H := Option.bind_eq_some_iff.mp H
        obtain ⟨t104, A60, H⟩ := H
        replace H : (if t104 = true then (laws_zzFits5.l0 k1 l0 (l0.length : Int) (wrap64 (x10_1 + 1))) else (some false)) = some r := H
        have A6 := Aside0.mk A60
        clear A60
        by_cases c7 : t104 = true
        ·subst c7
         have H1 : (laws_zzFits5.l0 k1 l0 (l0.length : Int) (wrap64 (x10_1 + 1))) = some r := by rw [if_pos rfl] at H; exact H
         clear H
         have H := H1
         clear H1
         have H' := Aside0.mk H
         clear H
         have p102 : 0 ≤ (x10_1 : Int) := of_decide_eq_true (by first | (with_reducible assumption) | assumption)
         have q102 : x10_1 < (l0.length : Int) := of_decide_eq_true (by first | (with_reducible assumption) | assumption)
         obtain ⟨ad102, e102, hx102_0, hx102_1⟩ := at_T45 HR0.out x10_1 p102 q102
         cases e102
         replace hx102_0 := (HB.out.cell (World.block_lt_of_cell? w _ hx102_0)).trans hx102_0
         replace hx102_1 := (HB.out.cell (World.block_lt_of_cell? w _ hx102_1)).trans hx102_1
         replace p102 := eq_true p102
         replace q102 := eq_true q102
         go_wp2_with (first | ((with_reducible refine gate_dst (N := 4) rfl ?_); refine box_event ?hg (N := 4) ?hd (cs := #[.bool false, .string (⟨#[]⟩ : ByteArray)]) (t := 45) ?hr ?_; (case hd => rfl); (case hg => rfl); (case hr => first | (go_simp; done) | (go_simp; rfl)); intro gb103 hg w8 hbox hb; have n0_ := Aside0.mk (below_step (by repeat (first | (with_reducible first | exact HB.out | apply below_alloc | apply pw_below_drewN | apply below_drew1) | exact HB.out)) hb); have n1_ := Aside0.mk (hbox); have n2_ := Aside0.mk ((by rw [hg]; exact (below_size (by repeat (first | (with_reducible first | exact HB.out | apply below_alloc | apply pw_below_drewN | apply below_drew1) | exact HB.out))) : w.heap.size ≤ gb103)); have n3_ := Aside0.mk ((by rw [hg]; exact (below_size (by repeat (first | (with_reducible first | exact HB.out | apply below_alloc | apply pw_below_drewN | apply below_drew1) | exact HB.out))) : w.heap.size ≤ gb103)); clear HB; have HB := n0_; have BK103 := n1_; have GW103 := n2_; have GE103 := n3_; clear n0_ n1_ n2_ n3_; clear hb hbox hg; have hcz9_0 : w8.cell? ⟨gb103, 0, none⟩ = some (.bool false) := (blk_cell BK103.out 0).trans rfl; have hcz9_1 : w8.cell? ⟨gb103, 1, none⟩ = some (.string (⟨#[]⟩ : ByteArray)) := (blk_cell BK103.out 1).trans rfl; have hfz9_0 := blk_frozen BK103.out 0; have hfz9_1 := blk_frozen BK103.out 1) | ((with_reducible refine gate_callee (f := 29) rfl ?_); refine goesL_ (some 15) rfl rfl Tryd.func29 (by kernel_rfl) rfl #[.agg #[.bool ((rd_T45 l0 x10_1).f0), .string ((rd_T45 l0 x10_1).f1)]] rfl (by (try simp only [List.map_toArray, List.map_cons, List.map_nil]); first | done | rfl | (simp only [List.length_drop, List.length_take]; rfl)) ?_; (with_reducible refine (laws_zzFits6.calls ((rd_T45 l0 x10_1).f0) ((rd_T45 l0 x10_1).f1) true _ A6.out).mono ?_); rintro e w10 ⟨rfl, hb⟩; refine ⟨_, rfl, ?_⟩; have n0_ := Aside0.mk (blk_below (g := gb103) (o := .cells #[.bool ((rd_T45 l0 x10_1).f0), .string ((rd_T45 l0 x10_1).f1)] 45 (0, 0)) (by (with_reducible repeat (first | refine blk_drewN ?_ _ | refine blk_drew ?_ | refine blk_alloc ?_ _)); refine blk_put (cs := #[.bool ((rd_T45 l0 x10_1).f0), .string (⟨#[]⟩ : ByteArray)]) ?_ 1 _ rfl; (with_reducible repeat (first | refine blk_drewN ?_ _ | refine blk_drew ?_ | refine blk_alloc ?_ _)); refine blk_put (cs := #[.bool false, .string (⟨#[]⟩ : ByteArray)]) ?_ 0 _ rfl; (with_reducible repeat (first | refine blk_drewN ?_ _ | refine blk_drew ?_ | refine blk_alloc ?_ _)); exact BK103.out) hb); have n1_ := Aside0.mk (below_step (by repeat (first | (with_reducible first | exact HB.out | apply below_alloc | apply pw_below_drewN | apply below_drew1 | refine below_set ?_ GE103.out) | exact HB.out)) hb); clear BK103; clear HB; have BK103 := n0_; have HB := n1_; clear n0_ n1_; (try clear hb); (try clear hb2); (try clear hk); (try clear hi)))
         go_roundg k1
         case measure => have := HK1.out; omega
         case rel => exact ⟨(wrap64 (x10_1 + 1)), (by first | rfl | (simp; done) | (simp [*]; done)), H', ⟨by have := HK1.out; omega⟩, ⟨by repeat (first | (with_reducible first | exact HB.out | apply below_alloc | apply pw_below_drewN | apply below_drew1 | refine below_set ?_ GE103.out) | exact HB.out)⟩⟩
        ·replace c7 := Bool.eq_false_iff.mpr c7
         subst c7
         have H1 : (some false) = some r := by rw [if_neg (show ¬ (false = true) by decide)] at H; exact H
         clear H
         have H := H1
         clear H1
         obtain rfl := Option.some.inj H
         have p102 : 0 ≤ (x10_1 : Int) := of_decide_eq_true (by first | (with_reducible assumption) | assumption)
         have q102 : x10_1 < (l0.length : Int) := of_decide_eq_true (by first | (with_reducible assumption) | assumption)
         obtain ⟨ad102, e102, hx102_0, hx102_1⟩ := at_T45 HR0.out x10_1 p102 q102
         cases e102
         replace hx102_0 := (HB.out.cell (World.block_lt_of_cell? w _ hx102_0)).trans hx102_0
         replace hx102_1 := (HB.out.cell (World.block_lt_of_cell? w _ hx102_1)).trans hx102_1
         replace p102 := eq_true p102
         replace q102 := eq_true q102
         go_wp2_with (first | ((with_reducible refine gate_dst (N := 4) rfl ?_); refine box_event ?hg (N := 4) ?hd (cs := #[.bool false, .string (⟨#[]⟩ : ByteArray)]) (t := 45) ?hr ?_; (case hd => rfl); (case hg => rfl); (case hr => first | (go_simp; done) | (go_simp; rfl)); intro gb103 hg w11 hbox hb; have n0_ := Aside0.mk (below_step (by repeat (first | (with_reducible first | exact HB.out | apply below_alloc | apply pw_below_drewN | apply below_drew1) | exact HB.out)) hb); have n1_ := Aside0.mk (hbox); have n2_ := Aside0.mk ((by rw [hg]; exact (below_size (by repeat (first | (with_reducible first | exact HB.out | apply below_alloc | apply pw_below_drewN | apply below_drew1) | exact HB.out))) : w.heap.size ≤ gb103)); have n3_ := Aside0.mk ((by rw [hg]; exact (below_size (by repeat (first | (with_reducible first | exact HB.out | apply below_alloc | apply pw_below_drewN | apply below_drew1) | exact HB.out))) : w.heap.size ≤ gb103)); clear HB; have HB := n0_; have BK103 := n1_; have GW103 := n2_; have GE103 := n3_; clear n0_ n1_ n2_ n3_; clear hb hbox hg; have hcz12_0 : w11.cell? ⟨gb103, 0, none⟩ = some (.bool false) := (blk_cell BK103.out 0).trans rfl; have hcz12_1 : w11.cell? ⟨gb103, 1, none⟩ = some (.string (⟨#[]⟩ : ByteArray)) := (blk_cell BK103.out 1).trans rfl; have hfz12_0 := blk_frozen BK103.out 0; have hfz12_1 := blk_frozen BK103.out 1) | ((with_reducible refine gate_callee (f := 29) rfl ?_); refine goesL_ (some 15) rfl rfl Tryd.func29 (by kernel_rfl) rfl #[.agg #[.bool ((rd_T45 l0 x10_1).f0), .string ((rd_T45 l0 x10_1).f1)]] rfl (by (try simp only [List.map_toArray, List.map_cons, List.map_nil]); first | done | rfl | (simp only [List.length_drop, List.length_take]; rfl)) ?_; (with_reducible refine (laws_zzFits6.calls ((rd_T45 l0 x10_1).f0) ((rd_T45 l0 x10_1).f1) false _ A6.out).mono ?_); rintro e w13 ⟨rfl, hb⟩; refine ⟨_, rfl, ?_⟩; have n0_ := Aside0.mk (blk_below (g := gb103) (o := .cells #[.bool ((rd_T45 l0 x10_1).f0), .string ((rd_T45 l0 x10_1).f1)] 45 (0, 0)) (by (with_reducible repeat (first | refine blk_drewN ?_ _ | refine blk_drew ?_ | refine blk_alloc ?_ _)); refine blk_put (cs := #[.bool ((rd_T45 l0 x10_1).f0), .string (⟨#[]⟩ : ByteArray)]) ?_ 1 _ rfl; (with_reducible repeat (first | refine blk_drewN ?_ _ | refine blk_drew ?_ | refine blk_alloc ?_ _)); refine blk_put (cs := #[.bool false, .string (⟨#[]⟩ : ByteArray)]) ?_ 0 _ rfl; (with_reducible repeat (first | refine blk_drewN ?_ _ | refine blk_drew ?_ | refine blk_alloc ?_ _)); exact BK103.out) hb); have n1_ := Aside0.mk (below_step (by repeat (first | (with_reducible first | exact HB.out | apply below_alloc | apply pw_below_drewN | apply below_drew1 | refine below_set ?_ GE103.out) | exact HB.out)) hb); clear BK103; clear HB; have BK103 := n0_; have HB := n1_; clear n0_ n1_; (try clear hb); (try clear hb2); (try clear hk); (try clear hi)))
         go_ret
         exact ⟨by first | rfl | (simp [errW_none, errW_some] <;> rfl) | (simp [*, errW_none, errW_some] <;> rfl), by repeat (first | (with_reducible first | exact HB.out | apply below_alloc | apply pw_below_drewN | apply below_drew1 | refine below_set ?_ GE103.out) | exact HB.out)⟩
       ·rw [if_neg c5] at H
        exact absurd H (by simp)
      ·rw [if_neg c4] at H
       exact absurd H (by simp)
     ·rw [if_neg c3] at H
      have c3b0 : decide (x10_1 < (l0.length : Int)) = false := decide_eq_false c3
      clear c3
      obtain rfl := Option.some.inj H
      go_wp2
      go_ret
      exact ⟨by first | rfl | (simp [errW_none, errW_some] <;> rfl) | (simp [*, errW_none, errW_some] <;> rfl), by repeat (first | (with_reducible first | exact HB.out | apply below_alloc | apply pw_below_drewN | apply below_drew1) | exact HB.out)⟩

/-! ### spec_pieces: function 30: given by hand -/
/-! ### spec_alike: function 31 -/
mutual
def spec_alike.j0 : Nat → Bool → Int → Int → Int → Int → ByteArray → Int → Int → Int → Int → Int → ByteArray → Int → Option (Bool)
 | 0, _, _, _, _, _, _, _, _, _, _, _, _, _ => none
 | k + 1, x25, x106000, x106001, x106002, x106003, x106004, x106005, x107000, x107001, x107002, x107003, x107004, x107005 => if x25 = true then (some false) else (spec_alike.l0 k 0 x106000 x106001 x106002 x106003 x106004 x106005 x107000 x107001 x107002 x107003 x107004 x107005)
def spec_alike.l0 : Nat → Int → Int → Int → Int → Int → ByteArray → Int → Int → Int → Int → Int → ByteArray → Int → Option (Bool)
 | 0, _, _, _, _, _, _, _, _, _, _, _, _, _ => none
 | k + 1, x5, x106000, x106001, x106002, x106003, x106004, x106005, x107000, x107001, x107002, x107003, x107004, x107005 => if x5 < (x106004.size : Int) then (if (wrap64 ((wrap64 (x106003 + x5)) - x107003)) ≥ 0 then (if (wrap64 ((wrap64 (x106003 + x5)) - x107003)) < (x107004.size : Int) then (if 0 ≤ x5 then (if 0 ≤ (wrap64 ((wrap64 (x106003 + x5)) - x107003)) then (if (bt x106004 x5) = (bt x107004 (wrap64 ((wrap64 (x106003 + x5)) - x107003))) then (spec_alike.l0 k (wrap64 (x5 + 1)) x106000 x106001 x106002 x106003 x106004 x106005 x107000 x107001 x107002 x107003 x107004 x107005) else (some false)) else (none)) else (none)) else (spec_alike.l0 k (wrap64 (x5 + 1)) x106000 x106001 x106002 x106003 x106004 x106005 x107000 x107001 x107002 x107003 x107004 x107005)) else (spec_alike.l0 k (wrap64 (x5 + 1)) x106000 x106001 x106002 x106003 x106004 x106005 x107000 x107001 x107002 x107003 x107004 x107005)) else (some true)
end
def spec_alike.f (k : Nat) (a0_0 : Int) (a0_1 : Int) (a0_2 : Int) (a0_3 : Int) (a0_4 : ByteArray) (a0_5 : Int) (a1_0 : Int) (a1_1 : Int) (a1_2 : Int) (a1_3 : Int) (a1_4 : ByteArray) (a1_5 : Int) : Option (Bool) := if a0_0 = a1_0 then (if a0_1 = a1_1 then (spec_alike.j0 k (a0_5 != a1_5) a0_0 a0_1 a0_2 a0_3 a0_4 a0_5 a1_0 a1_1 a1_2 a1_3 a1_4 a1_5) else (spec_alike.j0 k true a0_0 a0_1 a0_2 a0_3 a0_4 a0_5 a1_0 a1_1 a1_2 a1_3 a1_4 a1_5)) else (spec_alike.j0 k true a0_0 a0_1 a0_2 a0_3 a0_4 a0_5 a1_0 a1_1 a1_2 a1_3 a1_4 a1_5)
set_option maxHeartbeats 8000000 in
set_option maxRecDepth 100000 in
theorem spec_alike.calls (k : Nat) (a0_0 : Int) (a0_1 : Int) (a0_2 : Int) (a0_3 : Int) (a0_4 : ByteArray) (a0_5 : Int) (a1_0 : Int) (a1_1 : Int) (a1_2 : Int) (a1_3 : Int) (a1_4 : ByteArray) (a1_5 : Int) (r : Bool) (w : World) (h : spec_alike.f k a0_0 a0_1 a0_2 a0_3 a0_4 a0_5 a1_0 a1_1 a1_2 a1_3 a1_4 a1_5 = some r) :
 Calls Tryd.prog 31 #[.agg #[.int .u8 a0_0, .int .i64 a0_1, .int .i64 a0_2, .int .i64 a0_3, .string a0_4, .int .u16 a0_5], .agg #[.int .u8 a1_0, .int .i64 a1_1, .int .i64 a1_2, .int .i64 a1_3, .string a1_4, .int .u16 a1_5]] w fun e w' => e = .returned (.bool r) ∧ Below w.heap.size w w' := by
 have hu69 := Tryd.underlying69
 have HB := Aside0.mk (Below.refl w.heap.size w)
 have H : (if a0_0 = a1_0 then (if a0_1 = a1_1 then (spec_alike.j0 k (a0_5 != a1_5) a0_0 a0_1 a0_2 a0_3 a0_4 a0_5 a1_0 a1_1 a1_2 a1_3 a1_4 a1_5) else (spec_alike.j0 k true a0_0 a0_1 a0_2 a0_3 a0_4 a0_5 a1_0 a1_1 a1_2 a1_3 a1_4 a1_5)) else (spec_alike.j0 k true a0_0 a0_1 a0_2 a0_3 a0_4 a0_5 a1_0 a1_1 a1_2 a1_3 a1_4 a1_5)) = some r := h
 clear h
 have HC3 := Aside0.mk H
 clear H
 go_enter Tryd.func31, Tryd.ntmps31
 go_upto_region 1 with (first | ((with_reducible refine gate_dst (N := 2) rfl ?_); (try (refine gate_guard (by rfl) ?_; dsimp only)); refine box_event ?hg (N := 2) ?hd (cs := #[.int .u8 a0_0, .int .i64 a0_1, .int .i64 a0_2, .int .i64 a0_3, .string a0_4, .int .u16 a0_5]) (t := 69) ?hr ?_; (case hd => rfl); (case hg => rfl); (case hr => first | (go_simp; done) | (go_simp; rfl)); intro gb105 hg w4 hbox hb; have n0_ := Aside0.mk (below_step (by repeat (first | (with_reducible first | exact HB.out | apply below_alloc | apply pw_below_drewN | apply below_drew1) | exact HB.out)) hb); have n1_ := Aside0.mk (hbox); have n2_ := Aside0.mk ((by rw [hg]; exact (below_size (by repeat (first | (with_reducible first | exact HB.out | apply below_alloc | apply pw_below_drewN | apply below_drew1) | exact HB.out))) : w.heap.size ≤ gb105)); have n3_ := Aside0.mk ((by rw [hg]; exact (below_size (by repeat (first | (with_reducible first | exact HB.out | apply below_alloc | apply pw_below_drewN | apply below_drew1) | exact HB.out))) : w.heap.size ≤ gb105)); clear HB; have HB := n0_; have BK105 := n1_; have GW105 := n2_; have GE105 := n3_; clear n0_ n1_ n2_ n3_; clear hb hbox hg) | ((with_reducible refine gate_dst (N := 3) rfl ?_); (try (refine gate_guard (by rfl) ?_; dsimp only)); refine box_event ?hg (N := 3) ?hd (cs := #[.int .u8 a1_0, .int .i64 a1_1, .int .i64 a1_2, .int .i64 a1_3, .string a1_4, .int .u16 a1_5]) (t := 69) ?hr ?_; (case hd => rfl); (case hg => rfl); (case hr => first | (go_simp; done) | (go_simp; rfl)); intro gb106 hg w5 hbox hb; have n0_ := Aside0.mk (blk_below (g := gb105) (o := .cells #[.int .u8 a0_0, .int .i64 a0_1, .int .i64 a0_2, .int .i64 a0_3, .string a0_4, .int .u16 a0_5] 69 (0, 0)) (by (with_reducible repeat (first | refine blk_drewN ?_ _ | refine blk_drew ?_ | refine blk_alloc ?_ _)); exact BK105.out) hb); have n1_ := Aside0.mk (below_step (by repeat (first | (with_reducible first | exact HB.out | apply below_alloc | apply pw_below_drewN | apply below_drew1 | refine below_set ?_ GE105.out) | exact HB.out)) hb); have n2_ := Aside0.mk (hbox); have n3_ := Aside0.mk ((by rw [hg]; exact (below_size (by repeat (first | (with_reducible first | exact HB.out | apply below_alloc | apply pw_below_drewN | apply below_drew1 | refine below_set ?_ GE105.out) | exact HB.out))) : w.heap.size ≤ gb106)); have n4_ := Aside0.mk ((by rw [hg]; exact (below_size (by repeat (first | (with_reducible first | exact HB.out | apply below_alloc | apply pw_below_drewN | apply below_drew1 | refine below_set ?_ GE105.out) | exact HB.out))) : w.heap.size ≤ gb106)); have n5_ := Aside0.mk ((by rw [hg]; exact Nat.ne_of_lt (blk_lt (g := gb105) (o := .cells #[.int .u8 a0_0, .int .i64 a0_1, .int .i64 a0_2, .int .i64 a0_3, .string a0_4, .int .u16 a0_5] 69 (0, 0)) (by (with_reducible repeat (first | refine blk_drewN ?_ _ | refine blk_drew ?_ | refine blk_alloc ?_ _)); exact BK105.out)) : gb105 ≠ gb106)); have n6_ := Aside0.mk ((by rw [hg]; exact Nat.ne_of_gt (blk_lt (g := gb105) (o := .cells #[.int .u8 a0_0, .int .i64 a0_1, .int .i64 a0_2, .int .i64 a0_3, .string a0_4, .int .u16 a0_5] 69 (0, 0)) (by (with_reducible repeat (first | refine blk_drewN ?_ _ | refine blk_drew ?_ | refine blk_alloc ?_ _)); exact BK105.out)) : gb106 ≠ gb105)); clear BK105; clear HB; have BK105 := n0_; have HB := n1_; have BK106 := n2_; have GW106 := n3_; have GE106 := n4_; have NB105_106 := n5_; have NB106_105 := n6_; clear n0_ n1_ n2_ n3_ n4_ n5_ n6_; clear hb hbox hg))
 repeat (go_quiet (first | ((with_reducible refine gate_dst (N := 2) rfl ?_); (try (refine gate_guard (by rfl) ?_; dsimp only)); refine box_event ?hg (N := 2) ?hd (cs := #[.int .u8 a0_0, .int .i64 a0_1, .int .i64 a0_2, .int .i64 a0_3, .string a0_4, .int .u16 a0_5]) (t := 69) ?hr ?_; (case hd => rfl); (case hg => rfl); (case hr => first | (go_simp; done) | (go_simp; rfl)); intro gb105 hg w4 hbox hb; have n0_ := Aside0.mk (below_step (by repeat (first | (with_reducible first | exact HB.out | apply below_alloc | apply pw_below_drewN | apply below_drew1) | exact HB.out)) hb); have n1_ := Aside0.mk (hbox); have n2_ := Aside0.mk ((by rw [hg]; exact (below_size (by repeat (first | (with_reducible first | exact HB.out | apply below_alloc | apply pw_below_drewN | apply below_drew1) | exact HB.out))) : w.heap.size ≤ gb105)); have n3_ := Aside0.mk ((by rw [hg]; exact (below_size (by repeat (first | (with_reducible first | exact HB.out | apply below_alloc | apply pw_below_drewN | apply below_drew1) | exact HB.out))) : w.heap.size ≤ gb105)); clear HB; have HB := n0_; have BK105 := n1_; have GW105 := n2_; have GE105 := n3_; clear n0_ n1_ n2_ n3_; clear hb hbox hg) | ((with_reducible refine gate_dst (N := 3) rfl ?_); (try (refine gate_guard (by rfl) ?_; dsimp only)); refine box_event ?hg (N := 3) ?hd (cs := #[.int .u8 a1_0, .int .i64 a1_1, .int .i64 a1_2, .int .i64 a1_3, .string a1_4, .int .u16 a1_5]) (t := 69) ?hr ?_; (case hd => rfl); (case hg => rfl); (case hr => first | (go_simp; done) | (go_simp; rfl)); intro gb106 hg w5 hbox hb; have n0_ := Aside0.mk (blk_below (g := gb105) (o := .cells #[.int .u8 a0_0, .int .i64 a0_1, .int .i64 a0_2, .int .i64 a0_3, .string a0_4, .int .u16 a0_5] 69 (0, 0)) (by (with_reducible repeat (first | refine blk_drewN ?_ _ | refine blk_drew ?_ | refine blk_alloc ?_ _)); exact BK105.out) hb); have n1_ := Aside0.mk (below_step (by repeat (first | (with_reducible first | exact HB.out | apply below_alloc | apply pw_below_drewN | apply below_drew1 | refine below_set ?_ GE105.out) | exact HB.out)) hb); have n2_ := Aside0.mk (hbox); have n3_ := Aside0.mk ((by rw [hg]; exact (below_size (by repeat (first | (with_reducible first | exact HB.out | apply below_alloc | apply pw_below_drewN | apply below_drew1 | refine below_set ?_ GE105.out) | exact HB.out))) : w.heap.size ≤ gb106)); have n4_ := Aside0.mk ((by rw [hg]; exact (below_size (by repeat (first | (with_reducible first | exact HB.out | apply below_alloc | apply pw_below_drewN | apply below_drew1 | refine below_set ?_ GE105.out) | exact HB.out))) : w.heap.size ≤ gb106)); have n5_ := Aside0.mk ((by rw [hg]; exact Nat.ne_of_lt (blk_lt (g := gb105) (o := .cells #[.int .u8 a0_0, .int .i64 a0_1, .int .i64 a0_2, .int .i64 a0_3, .string a0_4, .int .u16 a0_5] 69 (0, 0)) (by (with_reducible repeat (first | refine blk_drewN ?_ _ | refine blk_drew ?_ | refine blk_alloc ?_ _)); exact BK105.out)) : gb105 ≠ gb106)); have n6_ := Aside0.mk ((by rw [hg]; exact Nat.ne_of_gt (blk_lt (g := gb105) (o := .cells #[.int .u8 a0_0, .int .i64 a0_1, .int .i64 a0_2, .int .i64 a0_3, .string a0_4, .int .u16 a0_5] 69 (0, 0)) (by (with_reducible repeat (first | refine blk_drewN ?_ _ | refine blk_drew ?_ | refine blk_alloc ?_ _)); exact BK105.out)) : gb106 ≠ gb105)); clear BK105; clear HB; have BK105 := n0_; have HB := n1_; have BK106 := n2_; have GW106 := n3_; have GE106 := n4_; have NB105_106 := n5_; have NB106_105 := n6_; clear n0_ n1_ n2_ n3_ n4_ n5_ n6_; clear hb hbox hg)); go_upto_region 1 with (first | ((with_reducible refine gate_dst (N := 2) rfl ?_); (try (refine gate_guard (by rfl) ?_; dsimp only)); refine box_event ?hg (N := 2) ?hd (cs := #[.int .u8 a0_0, .int .i64 a0_1, .int .i64 a0_2, .int .i64 a0_3, .string a0_4, .int .u16 a0_5]) (t := 69) ?hr ?_; (case hd => rfl); (case hg => rfl); (case hr => first | (go_simp; done) | (go_simp; rfl)); intro gb105 hg w4 hbox hb; have n0_ := Aside0.mk (below_step (by repeat (first | (with_reducible first | exact HB.out | apply below_alloc | apply pw_below_drewN | apply below_drew1) | exact HB.out)) hb); have n1_ := Aside0.mk (hbox); have n2_ := Aside0.mk ((by rw [hg]; exact (below_size (by repeat (first | (with_reducible first | exact HB.out | apply below_alloc | apply pw_below_drewN | apply below_drew1) | exact HB.out))) : w.heap.size ≤ gb105)); have n3_ := Aside0.mk ((by rw [hg]; exact (below_size (by repeat (first | (with_reducible first | exact HB.out | apply below_alloc | apply pw_below_drewN | apply below_drew1) | exact HB.out))) : w.heap.size ≤ gb105)); clear HB; have HB := n0_; have BK105 := n1_; have GW105 := n2_; have GE105 := n3_; clear n0_ n1_ n2_ n3_; clear hb hbox hg) | ((with_reducible refine gate_dst (N := 3) rfl ?_); (try (refine gate_guard (by rfl) ?_; dsimp only)); refine box_event ?hg (N := 3) ?hd (cs := #[.int .u8 a1_0, .int .i64 a1_1, .int .i64 a1_2, .int .i64 a1_3, .string a1_4, .int .u16 a1_5]) (t := 69) ?hr ?_; (case hd => rfl); (case hg => rfl); (case hr => first | (go_simp; done) | (go_simp; rfl)); intro gb106 hg w5 hbox hb; have n0_ := Aside0.mk (blk_below (g := gb105) (o := .cells #[.int .u8 a0_0, .int .i64 a0_1, .int .i64 a0_2, .int .i64 a0_3, .string a0_4, .int .u16 a0_5] 69 (0, 0)) (by (with_reducible repeat (first | refine blk_drewN ?_ _ | refine blk_drew ?_ | refine blk_alloc ?_ _)); exact BK105.out) hb); have n1_ := Aside0.mk (below_step (by repeat (first | (with_reducible first | exact HB.out | apply below_alloc | apply pw_below_drewN | apply below_drew1 | refine below_set ?_ GE105.out) | exact HB.out)) hb); have n2_ := Aside0.mk (hbox); have n3_ := Aside0.mk ((by rw [hg]; exact (below_size (by repeat (first | (with_reducible first | exact HB.out | apply below_alloc | apply pw_below_drewN | apply below_drew1 | refine below_set ?_ GE105.out) | exact HB.out))) : w.heap.size ≤ gb106)); have n4_ := Aside0.mk ((by rw [hg]; exact (below_size (by repeat (first | (with_reducible first | exact HB.out | apply below_alloc | apply pw_below_drewN | apply below_drew1 | refine below_set ?_ GE105.out) | exact HB.out))) : w.heap.size ≤ gb106)); have n5_ := Aside0.mk ((by rw [hg]; exact Nat.ne_of_lt (blk_lt (g := gb105) (o := .cells #[.int .u8 a0_0, .int .i64 a0_1, .int .i64 a0_2, .int .i64 a0_3, .string a0_4, .int .u16 a0_5] 69 (0, 0)) (by (with_reducible repeat (first | refine blk_drewN ?_ _ | refine blk_drew ?_ | refine blk_alloc ?_ _)); exact BK105.out)) : gb105 ≠ gb106)); have n6_ := Aside0.mk ((by rw [hg]; exact Nat.ne_of_gt (blk_lt (g := gb105) (o := .cells #[.int .u8 a0_0, .int .i64 a0_1, .int .i64 a0_2, .int .i64 a0_3, .string a0_4, .int .u16 a0_5] 69 (0, 0)) (by (with_reducible repeat (first | refine blk_drewN ?_ _ | refine blk_drew ?_ | refine blk_alloc ?_ _)); exact BK105.out)) : gb106 ≠ gb105)); clear BK105; clear HB; have BK105 := n0_; have HB := n1_; have BK106 := n2_; have GW106 := n3_; have GE106 := n4_; have NB105_106 := n5_; have NB106_105 := n6_; clear n0_ n1_ n2_ n3_ n4_ n5_ n6_; clear hb hbox hg)))
 (try simp only [Act.put, List.setIfInBounds_toArray, List.set_cons_zero, List.set_cons_succ])
 go_cut [25] (fun v25 wc => ∃ (kq : Nat) (x25_2 : Bool), v25 = .bool x25_2 ∧ Aside0 (spec_alike.j0 kq x25_2 a0_0 a0_1 a0_2 a0_3 a0_4 a0_5 a1_0 a1_1 a1_2 a1_3 a1_4 a1_5 = some r) ∧ Aside0 (kq ≤ k) ∧ Aside0 (wc.heap[gb105]? = some (.cells #[.int .u8 a0_0, .int .i64 a0_1, .int .i64 a0_2, .int .i64 a0_3, .string a0_4, .int .u16 a0_5] 69 (0, 0))) ∧ Aside0 (wc.heap[gb106]? = some (.cells #[.int .u8 a1_0, .int .i64 a1_1, .int .i64 a1_2, .int .i64 a1_3, .string a1_4, .int .u16 a1_5] 69 (0, 0))) ∧ Aside0 (Below w.heap.size w wc))
 case first =>
  have H := HC3.out
  clear HC3
  by_cases c6 : a0_0 = a1_0
  ·rw [if_pos c6] at H
   have c6b0 : (a0_0 == a1_0) = true := beq_iff_eq.mpr c6
   have c6b1 : (a0_0 != a1_0) = false := bne_eq_false_iff_eq.mpr c6
   clear c6
   (first | rw [c6b0] | (simp only [i64_w, i32_w]; rw [c6b0]) | skip)
   by_cases c7 : a0_1 = a1_1
   ·rw [if_pos c7] at H
    have c7b0 : (a0_1 == a1_1) = true := beq_iff_eq.mpr c7
    have c7b1 : (a0_1 != a1_1) = false := bne_eq_false_iff_eq.mpr c7
    clear c7
    have H' := Aside0.mk H
    clear H
    have hnb8 := NB105_106.out
    have hnc8 := NB106_105.out
    have hcz9_0 : w5.cell? ⟨gb105, 0, none⟩ = some (.int .u8 a0_0) := (blk_cell BK105.out 0).trans rfl
    have hcz9_1 : w5.cell? ⟨gb105, 1, none⟩ = some (.int .i64 a0_1) := (blk_cell BK105.out 1).trans rfl
    have hcz9_2 : w5.cell? ⟨gb105, 2, none⟩ = some (.int .i64 a0_2) := (blk_cell BK105.out 2).trans rfl
    have hcz9_3 : w5.cell? ⟨gb105, 3, none⟩ = some (.int .i64 a0_3) := (blk_cell BK105.out 3).trans rfl
    have hcz9_4 : w5.cell? ⟨gb105, 4, none⟩ = some (.string a0_4) := (blk_cell BK105.out 4).trans rfl
    have hcz9_5 : w5.cell? ⟨gb105, 5, none⟩ = some (.int .u16 a0_5) := (blk_cell BK105.out 5).trans rfl
    have hfz9_0 := blk_frozen BK105.out 0
    have hfz9_1 := blk_frozen BK105.out 1
    have hfz9_2 := blk_frozen BK105.out 2
    have hfz9_3 := blk_frozen BK105.out 3
    have hfz9_4 := blk_frozen BK105.out 4
    have hfz9_5 := blk_frozen BK105.out 5
    have hcz10_0 : w5.cell? ⟨gb106, 0, none⟩ = some (.int .u8 a1_0) := (blk_cell BK106.out 0).trans rfl
    have hcz10_1 : w5.cell? ⟨gb106, 1, none⟩ = some (.int .i64 a1_1) := (blk_cell BK106.out 1).trans rfl
    have hcz10_2 : w5.cell? ⟨gb106, 2, none⟩ = some (.int .i64 a1_2) := (blk_cell BK106.out 2).trans rfl
    have hcz10_3 : w5.cell? ⟨gb106, 3, none⟩ = some (.int .i64 a1_3) := (blk_cell BK106.out 3).trans rfl
    have hcz10_4 : w5.cell? ⟨gb106, 4, none⟩ = some (.string a1_4) := (blk_cell BK106.out 4).trans rfl
    have hcz10_5 : w5.cell? ⟨gb106, 5, none⟩ = some (.int .u16 a1_5) := (blk_cell BK106.out 5).trans rfl
    have hfz10_0 := blk_frozen BK106.out 0
    have hfz10_1 := blk_frozen BK106.out 1
    have hfz10_2 := blk_frozen BK106.out 2
    have hfz10_3 := blk_frozen BK106.out 3
    have hfz10_4 := blk_frozen BK106.out 4
    have hfz10_5 := blk_frozen BK106.out 5
    go_wp2
    repeat (go_quiet (fail); try go_wp2)
    go_meet
    case rel => exact ⟨_, ((a0_5 != a1_5)), (by first | rfl | (simp; done) | (simp [*]; done)), H', ⟨by first | omega | exact Nat.le_refl _⟩, ⟨by (with_reducible repeat (first | refine blk_drewN ?_ _ | refine blk_drew ?_ | refine blk_alloc ?_ _)); exact BK105.out⟩, ⟨by (with_reducible repeat (first | refine blk_drewN ?_ _ | refine blk_drew ?_ | refine blk_alloc ?_ _)); exact BK106.out⟩, ⟨by repeat (first | (with_reducible first | exact HB.out | apply below_alloc | apply pw_below_drewN | apply below_drew1 | refine below_set ?_ GE105.out | refine below_set ?_ GE106.out) | exact HB.out)⟩⟩
   ·rw [if_neg c7] at H
    have c7b0 : (a0_1 == a1_1) = false := beq_eq_false_iff_ne.mpr c7
    have c7b1 : (a0_1 != a1_1) = true := bne_iff_ne.mpr c7
    have H' := Aside0.mk H
    clear H
    have hnb11 := NB105_106.out
    have hnc11 := NB106_105.out
    have hcz12_0 : w5.cell? ⟨gb105, 0, none⟩ = some (.int .u8 a0_0) := (blk_cell BK105.out 0).trans rfl
    have hcz12_1 : w5.cell? ⟨gb105, 1, none⟩ = some (.int .i64 a0_1) := (blk_cell BK105.out 1).trans rfl
    have hcz12_2 : w5.cell? ⟨gb105, 2, none⟩ = some (.int .i64 a0_2) := (blk_cell BK105.out 2).trans rfl
    have hcz12_3 : w5.cell? ⟨gb105, 3, none⟩ = some (.int .i64 a0_3) := (blk_cell BK105.out 3).trans rfl
    have hcz12_4 : w5.cell? ⟨gb105, 4, none⟩ = some (.string a0_4) := (blk_cell BK105.out 4).trans rfl
    have hcz12_5 : w5.cell? ⟨gb105, 5, none⟩ = some (.int .u16 a0_5) := (blk_cell BK105.out 5).trans rfl
    have hfz12_0 := blk_frozen BK105.out 0
    have hfz12_1 := blk_frozen BK105.out 1
    have hfz12_2 := blk_frozen BK105.out 2
    have hfz12_3 := blk_frozen BK105.out 3
    have hfz12_4 := blk_frozen BK105.out 4
    have hfz12_5 := blk_frozen BK105.out 5
    have hcz13_0 : w5.cell? ⟨gb106, 0, none⟩ = some (.int .u8 a1_0) := (blk_cell BK106.out 0).trans rfl
    have hcz13_1 : w5.cell? ⟨gb106, 1, none⟩ = some (.int .i64 a1_1) := (blk_cell BK106.out 1).trans rfl
    have hcz13_2 : w5.cell? ⟨gb106, 2, none⟩ = some (.int .i64 a1_2) := (blk_cell BK106.out 2).trans rfl
    have hcz13_3 : w5.cell? ⟨gb106, 3, none⟩ = some (.int .i64 a1_3) := (blk_cell BK106.out 3).trans rfl
    have hcz13_4 : w5.cell? ⟨gb106, 4, none⟩ = some (.string a1_4) := (blk_cell BK106.out 4).trans rfl
    have hcz13_5 : w5.cell? ⟨gb106, 5, none⟩ = some (.int .u16 a1_5) := (blk_cell BK106.out 5).trans rfl
    have hfz13_0 := blk_frozen BK106.out 0
    have hfz13_1 := blk_frozen BK106.out 1
    have hfz13_2 := blk_frozen BK106.out 2
    have hfz13_3 := blk_frozen BK106.out 3
    have hfz13_4 := blk_frozen BK106.out 4
    have hfz13_5 := blk_frozen BK106.out 5
    go_wp2
    repeat (go_quiet (fail); try go_wp2)
    go_meet
    case rel => exact ⟨_, (true), (by first | rfl | (simp; done) | (simp [*]; done)), H', ⟨by first | omega | exact Nat.le_refl _⟩, ⟨by (with_reducible repeat (first | refine blk_drewN ?_ _ | refine blk_drew ?_ | refine blk_alloc ?_ _)); exact BK105.out⟩, ⟨by (with_reducible repeat (first | refine blk_drewN ?_ _ | refine blk_drew ?_ | refine blk_alloc ?_ _)); exact BK106.out⟩, ⟨by repeat (first | (with_reducible first | exact HB.out | apply below_alloc | apply pw_below_drewN | apply below_drew1 | refine below_set ?_ GE105.out | refine below_set ?_ GE106.out) | exact HB.out)⟩⟩
  ·rw [if_neg c6] at H
   have c6b0 : (a0_0 == a1_0) = false := beq_eq_false_iff_ne.mpr c6
   have c6b1 : (a0_0 != a1_0) = true := bne_iff_ne.mpr c6
   (first | rw [c6b0] | (simp only [i64_w, i32_w]; rw [c6b0]) | skip)
   have H' := Aside0.mk H
   clear H
   have hnb14 := NB105_106.out
   have hnc14 := NB106_105.out
   have hcz15_0 : w5.cell? ⟨gb105, 0, none⟩ = some (.int .u8 a0_0) := (blk_cell BK105.out 0).trans rfl
   have hcz15_1 : w5.cell? ⟨gb105, 1, none⟩ = some (.int .i64 a0_1) := (blk_cell BK105.out 1).trans rfl
   have hcz15_2 : w5.cell? ⟨gb105, 2, none⟩ = some (.int .i64 a0_2) := (blk_cell BK105.out 2).trans rfl
   have hcz15_3 : w5.cell? ⟨gb105, 3, none⟩ = some (.int .i64 a0_3) := (blk_cell BK105.out 3).trans rfl
   have hcz15_4 : w5.cell? ⟨gb105, 4, none⟩ = some (.string a0_4) := (blk_cell BK105.out 4).trans rfl
   have hcz15_5 : w5.cell? ⟨gb105, 5, none⟩ = some (.int .u16 a0_5) := (blk_cell BK105.out 5).trans rfl
   have hfz15_0 := blk_frozen BK105.out 0
   have hfz15_1 := blk_frozen BK105.out 1
   have hfz15_2 := blk_frozen BK105.out 2
   have hfz15_3 := blk_frozen BK105.out 3
   have hfz15_4 := blk_frozen BK105.out 4
   have hfz15_5 := blk_frozen BK105.out 5
   have hcz16_0 : w5.cell? ⟨gb106, 0, none⟩ = some (.int .u8 a1_0) := (blk_cell BK106.out 0).trans rfl
   have hcz16_1 : w5.cell? ⟨gb106, 1, none⟩ = some (.int .i64 a1_1) := (blk_cell BK106.out 1).trans rfl
   have hcz16_2 : w5.cell? ⟨gb106, 2, none⟩ = some (.int .i64 a1_2) := (blk_cell BK106.out 2).trans rfl
   have hcz16_3 : w5.cell? ⟨gb106, 3, none⟩ = some (.int .i64 a1_3) := (blk_cell BK106.out 3).trans rfl
   have hcz16_4 : w5.cell? ⟨gb106, 4, none⟩ = some (.string a1_4) := (blk_cell BK106.out 4).trans rfl
   have hcz16_5 : w5.cell? ⟨gb106, 5, none⟩ = some (.int .u16 a1_5) := (blk_cell BK106.out 5).trans rfl
   have hfz16_0 := blk_frozen BK106.out 0
   have hfz16_1 := blk_frozen BK106.out 1
   have hfz16_2 := blk_frozen BK106.out 2
   have hfz16_3 := blk_frozen BK106.out 3
   have hfz16_4 := blk_frozen BK106.out 4
   have hfz16_5 := blk_frozen BK106.out 5
   go_wp2
   repeat (go_quiet (fail); try go_wp2)
   go_meet
   case rel => exact ⟨_, (true), (by first | rfl | (simp; done) | (simp [*]; done)), H', ⟨by first | omega | exact Nat.le_refl _⟩, ⟨by (with_reducible repeat (first | refine blk_drewN ?_ _ | refine blk_drew ?_ | refine blk_alloc ?_ _)); exact BK105.out⟩, ⟨by (with_reducible repeat (first | refine blk_drewN ?_ _ | refine blk_drew ?_ | refine blk_alloc ?_ _)); exact BK106.out⟩, ⟨by repeat (first | (with_reducible first | exact HB.out | apply below_alloc | apply pw_below_drewN | apply below_drew1 | refine below_set ?_ GE105.out | refine below_set ?_ GE106.out) | exact HB.out)⟩⟩
 case rest =>
  clear HC3
  try clear c1
  try clear p2
  try clear c3
  try clear c6
  try clear c6b0
  try clear c6b1
  try clear c7
  try clear c7b0
  try clear c7b1
  try clear c8
  try clear c11
  try clear c14
  try clear hcz10_0
  try clear hcz10_1
  try clear hcz10_2
  try clear hcz10_3
  try clear hcz10_4
  try clear hcz10_5
  try clear hcz12_0
  try clear hcz12_1
  try clear hcz12_2
  try clear hcz12_3
  try clear hcz12_4
  try clear hcz12_5
  try clear hcz13_0
  try clear hcz13_1
  try clear hcz13_2
  try clear hcz13_3
  try clear hcz13_4
  try clear hcz13_5
  try clear hcz15_0
  try clear hcz15_1
  try clear hcz15_2
  try clear hcz15_3
  try clear hcz15_4
  try clear hcz15_5
  try clear hcz16_0
  try clear hcz16_1
  try clear hcz16_2
  try clear hcz16_3
  try clear hcz16_4
  try clear hcz16_5
  try clear hcz9_0
  try clear hcz9_1
  try clear hcz9_2
  try clear hcz9_3
  try clear hcz9_4
  try clear hcz9_5
  try clear hfz10_0
  try clear hfz10_1
  try clear hfz10_2
  try clear hfz10_3
  try clear hfz10_4
  try clear hfz10_5
  try clear hfz12_0
  try clear hfz12_1
  try clear hfz12_2
  try clear hfz12_3
  try clear hfz12_4
  try clear hfz12_5
  try clear hfz13_0
  try clear hfz13_1
  try clear hfz13_2
  try clear hfz13_3
  try clear hfz13_4
  try clear hfz13_5
  try clear hfz15_0
  try clear hfz15_1
  try clear hfz15_2
  try clear hfz15_3
  try clear hfz15_4
  try clear hfz15_5
  try clear hfz16_0
  try clear hfz16_1
  try clear hfz16_2
  try clear hfz16_3
  try clear hfz16_4
  try clear hfz16_5
  try clear hfz9_0
  try clear hfz9_1
  try clear hfz9_2
  try clear hfz9_3
  try clear hfz9_4
  try clear hfz9_5
  obtain ⟨kq, x25_2, rfl, HA, HJ2, BK105, BK106, HB⟩ := hcut
  cases kq with
  | zero => exact absurd HA.out (by simp [spec_alike.j0])
  | succ kj2 =>
    have H := HA.out
    clear HA
    simp only [spec_alike.j0] at H
    by_cases c17 : x25_2 = true
    ·subst c17
     have H1 : (some false) = some r := by rw [if_pos rfl] at H; exact H
     clear H
     have H := H1
     clear H1
     obtain rfl := Option.some.inj H
     go_wp2
     repeat (go_quiet (fail); try go_wp2)
     go_ret
     exact ⟨by first | rfl | (simp [errW_none, errW_some] <;> rfl) | (simp [*, errW_none, errW_some] <;> rfl), by repeat (first | (with_reducible first | exact HB.out | apply below_alloc | apply pw_below_drewN | apply below_drew1 | refine below_set ?_ GE105.out | refine below_set ?_ GE106.out) | exact HB.out)⟩
    ·replace c17 := Bool.eq_false_iff.mpr c17
     subst c17
     have H1 : (spec_alike.l0 kj2 0 a0_0 a0_1 a0_2 a0_3 a0_4 a0_5 a1_0 a1_1 a1_2 a1_3 a1_4 a1_5) = some r := by rw [if_neg (show ¬ (false = true) by decide)] at H; exact H
     clear H
     have H := H1
     clear H1
     have H' := Aside0.mk H
     clear H
     go_wp2
     repeat (go_quiet (fail); try go_wp2)
     go_loopg [5] kj2 (fun kq v5 w' => ∃ (x5_2 : Int), v5 = .int .i64 x5_2 ∧ Aside0 (spec_alike.l0 kq x5_2 a0_0 a0_1 a0_2 a0_3 a0_4 a0_5 a1_0 a1_1 a1_2 a1_3 a1_4 a1_5 = some r) ∧ Aside0 (kq ≤ kj2) ∧ Aside0 (w'.heap[gb105]? = some (.cells #[.int .u8 a0_0, .int .i64 a0_1, .int .i64 a0_2, .int .i64 a0_3, .string a0_4, .int .u16 a0_5] 69 (0, 0))) ∧ Aside0 (w'.heap[gb106]? = some (.cells #[.int .u8 a1_0, .int .i64 a1_1, .int .i64 a1_2, .int .i64 a1_3, .string a1_4, .int .u16 a1_5] 69 (0, 0))) ∧ Aside0 (Below w.heap.size w w'))
     case atStart => exact ⟨(0), (by first | rfl | (simp; done) | (simp [*]; done)), H', ⟨Nat.le_refl _⟩, ⟨by (with_reducible repeat (first | refine blk_drewN ?_ _ | refine blk_drew ?_ | refine blk_alloc ?_ _)); exact BK105.out⟩, ⟨by (with_reducible repeat (first | refine blk_drewN ?_ _ | refine blk_drew ?_ | refine blk_alloc ?_ _)); exact BK106.out⟩, ⟨by repeat (first | (with_reducible first | exact HB.out | apply below_alloc | apply pw_below_drewN | apply below_drew1 | refine below_set ?_ GE105.out | refine below_set ?_ GE106.out) | exact HB.out)⟩⟩
     case round =>
      clear H'
      try clear c1
      try clear p2
      try clear c3
      try clear c6
      try clear c6b0
      try clear c6b1
      try clear c7
      try clear c7b0
      try clear c7b1
      try clear c8
      try clear c11
      try clear c14
      try clear c17
      try clear hcz10_0
      try clear hcz10_1
      try clear hcz10_2
      try clear hcz10_3
      try clear hcz10_4
      try clear hcz10_5
      try clear hcz12_0
      try clear hcz12_1
      try clear hcz12_2
      try clear hcz12_3
      try clear hcz12_4
      try clear hcz12_5
      try clear hcz13_0
      try clear hcz13_1
      try clear hcz13_2
      try clear hcz13_3
      try clear hcz13_4
      try clear hcz13_5
      try clear hcz15_0
      try clear hcz15_1
      try clear hcz15_2
      try clear hcz15_3
      try clear hcz15_4
      try clear hcz15_5
      try clear hcz16_0
      try clear hcz16_1
      try clear hcz16_2
      try clear hcz16_3
      try clear hcz16_4
      try clear hcz16_5
      try clear hcz9_0
      try clear hcz9_1
      try clear hcz9_2
      try clear hcz9_3
      try clear hcz9_4
      try clear hcz9_5
      try clear hfz10_0
      try clear hfz10_1
      try clear hfz10_2
      try clear hfz10_3
      try clear hfz10_4
      try clear hfz10_5
      try clear hfz12_0
      try clear hfz12_1
      try clear hfz12_2
      try clear hfz12_3
      try clear hfz12_4
      try clear hfz12_5
      try clear hfz13_0
      try clear hfz13_1
      try clear hfz13_2
      try clear hfz13_3
      try clear hfz13_4
      try clear hfz13_5
      try clear hfz15_0
      try clear hfz15_1
      try clear hfz15_2
      try clear hfz15_3
      try clear hfz15_4
      try clear hfz15_5
      try clear hfz16_0
      try clear hfz16_1
      try clear hfz16_2
      try clear hfz16_3
      try clear hfz16_4
      try clear hfz16_5
      try clear hfz9_0
      try clear hfz9_1
      try clear hfz9_2
      try clear hfz9_3
      try clear hfz9_4
      try clear hfz9_5
      try clear p2
      obtain ⟨x5_2, rfl, HA, HK2, BK105, BK106, HB⟩ := hrel
      cases gk with
      | zero => exact absurd HA.out (by simp [spec_alike.l0])
      | succ k2 =>
        have H := HA.out
        clear HA
        simp only [spec_alike.l0] at H
        by_cases c18 : x5_2 < (a0_4.size : Int)
        ·rw [if_pos c18] at H
         have c18b0 : decide (x5_2 < (a0_4.size : Int)) = true := decide_eq_true c18
         clear c18
         by_cases c19 : (wrap64 ((wrap64 (a0_3 + x5_2)) - a1_3)) ≥ 0
         ·rw [if_pos c19] at H
          have c19b0 : decide (0 ≤ (wrap64 ((wrap64 (a0_3 + x5_2)) - a1_3))) = true := decide_eq_true c19
          clear c19
          by_cases c20 : (wrap64 ((wrap64 (a0_3 + x5_2)) - a1_3)) < (a1_4.size : Int)
          ·rw [if_pos c20] at H
           have c20b0 : decide ((wrap64 ((wrap64 (a0_3 + x5_2)) - a1_3)) < (a1_4.size : Int)) = true := decide_eq_true c20
           clear c20
           by_cases c21 : 0 ≤ x5_2
           ·rw [if_pos c21] at H
            have c21b0 : decide (0 ≤ x5_2) = true := decide_eq_true c21
            clear c21
            obtain ⟨ji23, hji23⟩ : ∃ j_ : Int, (wrap64 ((wrap64 (a0_3 + x5_2)) - a1_3)) = j_ := ⟨_, rfl⟩
            replace H : (if 0 ≤ (ji23) then (if (bt a0_4 x5_2) = (bt a1_4 (ji23)) then (spec_alike.l0 k2 (wrap64 (x5_2 + 1)) a0_0 a0_1 a0_2 a0_3 a0_4 a0_5 a1_0 a1_1 a1_2 a1_3 a1_4 a1_5) else (some false)) else (none)) = some r := by first | (rw [hji23] at H; exact H) | (simp only [hji23] at H ⊢; exact H)
            (try rw [hji23] at c19b0)
            (try rw [hji23] at c20b0)
            have hji23w : (IntKind.i64.wrap ((wrap64 (a0_3 + x5_2)) - a1_3)) = ji23 := (i64_w _).trans hji23
            by_cases c24 : 0 ≤ (ji23)
            ·rw [if_pos c24] at H
             have c24b0 : decide (0 ≤ (ji23)) = true := decide_eq_true c24
             clear c24
             by_cases c26 : (bt a0_4 x5_2) = (bt a1_4 (ji23))
             ·rw [if_pos c26] at H
              have c26b0 : ((bt a0_4 x5_2) == (bt a1_4 (ji23))) = true := beq_iff_eq.mpr c26
              have c26b1 : ((bt a0_4 x5_2) != (bt a1_4 (ji23))) = false := bne_eq_false_iff_eq.mpr c26
              clear c26
              have H' := Aside0.mk H
              clear H
              have hnb27 := NB105_106.out
              have hnc27 := NB106_105.out
              have hcz28_0 : wr.cell? ⟨gb105, 0, none⟩ = some (.int .u8 a0_0) := (blk_cell BK105.out 0).trans rfl
              have hcz28_1 : wr.cell? ⟨gb105, 1, none⟩ = some (.int .i64 a0_1) := (blk_cell BK105.out 1).trans rfl
              have hcz28_2 : wr.cell? ⟨gb105, 2, none⟩ = some (.int .i64 a0_2) := (blk_cell BK105.out 2).trans rfl
              have hcz28_3 : wr.cell? ⟨gb105, 3, none⟩ = some (.int .i64 a0_3) := (blk_cell BK105.out 3).trans rfl
              have hcz28_4 : wr.cell? ⟨gb105, 4, none⟩ = some (.string a0_4) := (blk_cell BK105.out 4).trans rfl
              have hcz28_5 : wr.cell? ⟨gb105, 5, none⟩ = some (.int .u16 a0_5) := (blk_cell BK105.out 5).trans rfl
              have hfz28_0 := blk_frozen BK105.out 0
              have hfz28_1 := blk_frozen BK105.out 1
              have hfz28_2 := blk_frozen BK105.out 2
              have hfz28_3 := blk_frozen BK105.out 3
              have hfz28_4 := blk_frozen BK105.out 4
              have hfz28_5 := blk_frozen BK105.out 5
              have hcz29_0 : wr.cell? ⟨gb106, 0, none⟩ = some (.int .u8 a1_0) := (blk_cell BK106.out 0).trans rfl
              have hcz29_1 : wr.cell? ⟨gb106, 1, none⟩ = some (.int .i64 a1_1) := (blk_cell BK106.out 1).trans rfl
              have hcz29_2 : wr.cell? ⟨gb106, 2, none⟩ = some (.int .i64 a1_2) := (blk_cell BK106.out 2).trans rfl
              have hcz29_3 : wr.cell? ⟨gb106, 3, none⟩ = some (.int .i64 a1_3) := (blk_cell BK106.out 3).trans rfl
              have hcz29_4 : wr.cell? ⟨gb106, 4, none⟩ = some (.string a1_4) := (blk_cell BK106.out 4).trans rfl
              have hcz29_5 : wr.cell? ⟨gb106, 5, none⟩ = some (.int .u16 a1_5) := (blk_cell BK106.out 5).trans rfl
              have hfz29_0 := blk_frozen BK106.out 0
              have hfz29_1 := blk_frozen BK106.out 1
              have hfz29_2 := blk_frozen BK106.out 2
              have hfz29_3 := blk_frozen BK106.out 3
              have hfz29_4 := blk_frozen BK106.out 4
              have hfz29_5 := blk_frozen BK106.out 5
              have p22 : 0 ≤ (x5_2 : Int) := of_decide_eq_true (by first | (with_reducible assumption) | assumption)
              have q22 : x5_2 < (a0_4.size : Int) := of_decide_eq_true (by first | (with_reducible assumption) | assumption)
              have hx22 := bt_at a0_4 x5_2
              replace p22 := eq_true p22
              replace q22 := eq_true q22
              have p25 : 0 ≤ ((ji23) : Int) := of_decide_eq_true (by first | (with_reducible assumption) | assumption)
              have q25 : (ji23) < (a1_4.size : Int) := of_decide_eq_true (by first | (with_reducible assumption) | assumption)
              have hx25 := bt_at a1_4 (ji23)
              replace p25 := eq_true p25
              replace q25 := eq_true q25
              go_wp2
              repeat (go_quiet (fail); try go_wp2)
              go_roundg k2
              case measure => have := HJ2.out; have := HK2.out; omega
              case rel => exact ⟨(wrap64 (x5_2 + 1)), (by first | rfl | (simp; done) | (simp [*]; done)), H', ⟨by have := HJ2.out; have := HK2.out; omega⟩, ⟨by (with_reducible repeat (first | refine blk_drewN ?_ _ | refine blk_drew ?_ | refine blk_alloc ?_ _)); exact BK105.out⟩, ⟨by (with_reducible repeat (first | refine blk_drewN ?_ _ | refine blk_drew ?_ | refine blk_alloc ?_ _)); exact BK106.out⟩, ⟨by repeat (first | (with_reducible first | exact HB.out | apply below_alloc | apply pw_below_drewN | apply below_drew1 | refine below_set ?_ GE105.out | refine below_set ?_ GE106.out) | exact HB.out)⟩⟩
             ·rw [if_neg c26] at H
              have c26b0 : ((bt a0_4 x5_2) == (bt a1_4 (ji23))) = false := beq_eq_false_iff_ne.mpr c26
              have c26b1 : ((bt a0_4 x5_2) != (bt a1_4 (ji23))) = true := bne_iff_ne.mpr c26
              obtain rfl := Option.some.inj H
              have hnb30 := NB105_106.out
              have hnc30 := NB106_105.out
              have hcz31_0 : wr.cell? ⟨gb105, 0, none⟩ = some (.int .u8 a0_0) := (blk_cell BK105.out 0).trans rfl
              have hcz31_1 : wr.cell? ⟨gb105, 1, none⟩ = some (.int .i64 a0_1) := (blk_cell BK105.out 1).trans rfl
              have hcz31_2 : wr.cell? ⟨gb105, 2, none⟩ = some (.int .i64 a0_2) := (blk_cell BK105.out 2).trans rfl
              have hcz31_3 : wr.cell? ⟨gb105, 3, none⟩ = some (.int .i64 a0_3) := (blk_cell BK105.out 3).trans rfl
              have hcz31_4 : wr.cell? ⟨gb105, 4, none⟩ = some (.string a0_4) := (blk_cell BK105.out 4).trans rfl
              have hcz31_5 : wr.cell? ⟨gb105, 5, none⟩ = some (.int .u16 a0_5) := (blk_cell BK105.out 5).trans rfl
              have hfz31_0 := blk_frozen BK105.out 0
              have hfz31_1 := blk_frozen BK105.out 1
              have hfz31_2 := blk_frozen BK105.out 2
              have hfz31_3 := blk_frozen BK105.out 3
              have hfz31_4 := blk_frozen BK105.out 4
              have hfz31_5 := blk_frozen BK105.out 5
              have hcz32_0 : wr.cell? ⟨gb106, 0, none⟩ = some (.int .u8 a1_0) := (blk_cell BK106.out 0).trans rfl
              have hcz32_1 : wr.cell? ⟨gb106, 1, none⟩ = some (.int .i64 a1_1) := (blk_cell BK106.out 1).trans rfl
              have hcz32_2 : wr.cell? ⟨gb106, 2, none⟩ = some (.int .i64 a1_2) := (blk_cell BK106.out 2).trans rfl
              have hcz32_3 : wr.cell? ⟨gb106, 3, none⟩ = some (.int .i64 a1_3) := (blk_cell BK106.out 3).trans rfl
              have hcz32_4 : wr.cell? ⟨gb106, 4, none⟩ = some (.string a1_4) := (blk_cell BK106.out 4).trans rfl
              have hcz32_5 : wr.cell? ⟨gb106, 5, none⟩ = some (.int .u16 a1_5) := (blk_cell BK106.out 5).trans rfl
              have hfz32_0 := blk_frozen BK106.out 0
              have hfz32_1 := blk_frozen BK106.out 1
              have hfz32_2 := blk_frozen BK106.out 2
              have hfz32_3 := blk_frozen BK106.out 3
              have hfz32_4 := blk_frozen BK106.out 4
              have hfz32_5 := blk_frozen BK106.out 5
              have p22 : 0 ≤ (x5_2 : Int) := of_decide_eq_true (by first | (with_reducible assumption) | assumption)
              have q22 : x5_2 < (a0_4.size : Int) := of_decide_eq_true (by first | (with_reducible assumption) | assumption)
              have hx22 := bt_at a0_4 x5_2
              replace p22 := eq_true p22
              replace q22 := eq_true q22
              have p25 : 0 ≤ ((ji23) : Int) := of_decide_eq_true (by first | (with_reducible assumption) | assumption)
              have q25 : (ji23) < (a1_4.size : Int) := of_decide_eq_true (by first | (with_reducible assumption) | assumption)
              have hx25 := bt_at a1_4 (ji23)
              replace p25 := eq_true p25
              replace q25 := eq_true q25
              go_wp2
              repeat (go_quiet (fail); try go_wp2)
              go_ret
              exact ⟨by first | rfl | (simp [errW_none, errW_some] <;> rfl) | (simp only [← hji23]; first | rfl | (simp [errW_none, errW_some] <;> rfl)) | (simp [*, errW_none, errW_some] <;> rfl), by repeat (first | (with_reducible first | exact HB.out | apply below_alloc | apply pw_below_drewN | apply below_drew1 | refine below_set ?_ GE105.out | refine below_set ?_ GE106.out) | exact HB.out)⟩
            ·rw [if_neg c24] at H
             exact absurd H (by simp)
           ·rw [if_neg c21] at H
            exact absurd H (by simp)
          ·rw [if_neg c20] at H
           have c20b0 : decide ((wrap64 ((wrap64 (a0_3 + x5_2)) - a1_3)) < (a1_4.size : Int)) = false := decide_eq_false c20
           clear c20
           have H' := Aside0.mk H
           clear H
           have hnb33 := NB105_106.out
           have hnc33 := NB106_105.out
           have hcz34_0 : wr.cell? ⟨gb105, 0, none⟩ = some (.int .u8 a0_0) := (blk_cell BK105.out 0).trans rfl
           have hcz34_1 : wr.cell? ⟨gb105, 1, none⟩ = some (.int .i64 a0_1) := (blk_cell BK105.out 1).trans rfl
           have hcz34_2 : wr.cell? ⟨gb105, 2, none⟩ = some (.int .i64 a0_2) := (blk_cell BK105.out 2).trans rfl
           have hcz34_3 : wr.cell? ⟨gb105, 3, none⟩ = some (.int .i64 a0_3) := (blk_cell BK105.out 3).trans rfl
           have hcz34_4 : wr.cell? ⟨gb105, 4, none⟩ = some (.string a0_4) := (blk_cell BK105.out 4).trans rfl
           have hcz34_5 : wr.cell? ⟨gb105, 5, none⟩ = some (.int .u16 a0_5) := (blk_cell BK105.out 5).trans rfl
           have hfz34_0 := blk_frozen BK105.out 0
           have hfz34_1 := blk_frozen BK105.out 1
           have hfz34_2 := blk_frozen BK105.out 2
           have hfz34_3 := blk_frozen BK105.out 3
           have hfz34_4 := blk_frozen BK105.out 4
           have hfz34_5 := blk_frozen BK105.out 5
           have hcz35_0 : wr.cell? ⟨gb106, 0, none⟩ = some (.int .u8 a1_0) := (blk_cell BK106.out 0).trans rfl
           have hcz35_1 : wr.cell? ⟨gb106, 1, none⟩ = some (.int .i64 a1_1) := (blk_cell BK106.out 1).trans rfl
           have hcz35_2 : wr.cell? ⟨gb106, 2, none⟩ = some (.int .i64 a1_2) := (blk_cell BK106.out 2).trans rfl
           have hcz35_3 : wr.cell? ⟨gb106, 3, none⟩ = some (.int .i64 a1_3) := (blk_cell BK106.out 3).trans rfl
           have hcz35_4 : wr.cell? ⟨gb106, 4, none⟩ = some (.string a1_4) := (blk_cell BK106.out 4).trans rfl
           have hcz35_5 : wr.cell? ⟨gb106, 5, none⟩ = some (.int .u16 a1_5) := (blk_cell BK106.out 5).trans rfl
           have hfz35_0 := blk_frozen BK106.out 0
           have hfz35_1 := blk_frozen BK106.out 1
           have hfz35_2 := blk_frozen BK106.out 2
           have hfz35_3 := blk_frozen BK106.out 3
           have hfz35_4 := blk_frozen BK106.out 4
           have hfz35_5 := blk_frozen BK106.out 5
           go_wp2
           repeat (go_quiet (fail); try go_wp2)
           go_roundg k2
           case measure => have := HJ2.out; have := HK2.out; omega
           case rel => exact ⟨(wrap64 (x5_2 + 1)), (by first | rfl | (simp; done) | (simp [*]; done)), H', ⟨by have := HJ2.out; have := HK2.out; omega⟩, ⟨by (with_reducible repeat (first | refine blk_drewN ?_ _ | refine blk_drew ?_ | refine blk_alloc ?_ _)); exact BK105.out⟩, ⟨by (with_reducible repeat (first | refine blk_drewN ?_ _ | refine blk_drew ?_ | refine blk_alloc ?_ _)); exact BK106.out⟩, ⟨by repeat (first | (with_reducible first | exact HB.out | apply below_alloc | apply pw_below_drewN | apply below_drew1 | refine below_set ?_ GE105.out | refine below_set ?_ GE106.out) | exact HB.out)⟩⟩
         ·rw [if_neg c19] at H
          have c19b0 : decide (0 ≤ (wrap64 ((wrap64 (a0_3 + x5_2)) - a1_3))) = false := decide_eq_false c19
          clear c19
          have H' := Aside0.mk H
          clear H
          have hnb36 := NB105_106.out
          have hnc36 := NB106_105.out
          have hcz37_0 : wr.cell? ⟨gb105, 0, none⟩ = some (.int .u8 a0_0) := (blk_cell BK105.out 0).trans rfl
          have hcz37_1 : wr.cell? ⟨gb105, 1, none⟩ = some (.int .i64 a0_1) := (blk_cell BK105.out 1).trans rfl
          have hcz37_2 : wr.cell? ⟨gb105, 2, none⟩ = some (.int .i64 a0_2) := (blk_cell BK105.out 2).trans rfl
          have hcz37_3 : wr.cell? ⟨gb105, 3, none⟩ = some (.int .i64 a0_3) := (blk_cell BK105.out 3).trans rfl
          have hcz37_4 : wr.cell? ⟨gb105, 4, none⟩ = some (.string a0_4) := (blk_cell BK105.out 4).trans rfl
          have hcz37_5 : wr.cell? ⟨gb105, 5, none⟩ = some (.int .u16 a0_5) := (blk_cell BK105.out 5).trans rfl
          have hfz37_0 := blk_frozen BK105.out 0
          have hfz37_1 := blk_frozen BK105.out 1
          have hfz37_2 := blk_frozen BK105.out 2
          have hfz37_3 := blk_frozen BK105.out 3
          have hfz37_4 := blk_frozen BK105.out 4
          have hfz37_5 := blk_frozen BK105.out 5
          have hcz38_0 : wr.cell? ⟨gb106, 0, none⟩ = some (.int .u8 a1_0) := (blk_cell BK106.out 0).trans rfl
          have hcz38_1 : wr.cell? ⟨gb106, 1, none⟩ = some (.int .i64 a1_1) := (blk_cell BK106.out 1).trans rfl
          have hcz38_2 : wr.cell? ⟨gb106, 2, none⟩ = some (.int .i64 a1_2) := (blk_cell BK106.out 2).trans rfl
          have hcz38_3 : wr.cell? ⟨gb106, 3, none⟩ = some (.int .i64 a1_3) := (blk_cell BK106.out 3).trans rfl
          have hcz38_4 : wr.cell? ⟨gb106, 4, none⟩ = some (.string a1_4) := (blk_cell BK106.out 4).trans rfl
          have hcz38_5 : wr.cell? ⟨gb106, 5, none⟩ = some (.int .u16 a1_5) := (blk_cell BK106.out 5).trans rfl
          have hfz38_0 := blk_frozen BK106.out 0
          have hfz38_1 := blk_frozen BK106.out 1
          have hfz38_2 := blk_frozen BK106.out 2
          have hfz38_3 := blk_frozen BK106.out 3
          have hfz38_4 := blk_frozen BK106.out 4
          have hfz38_5 := blk_frozen BK106.out 5
          go_wp2
          repeat (go_quiet (fail); try go_wp2)
          go_roundg k2
          case measure => have := HJ2.out; have := HK2.out; omega
          case rel => exact ⟨(wrap64 (x5_2 + 1)), (by first | rfl | (simp; done) | (simp [*]; done)), H', ⟨by have := HJ2.out; have := HK2.out; omega⟩, ⟨by (with_reducible repeat (first | refine blk_drewN ?_ _ | refine blk_drew ?_ | refine blk_alloc ?_ _)); exact BK105.out⟩, ⟨by (with_reducible repeat (first | refine blk_drewN ?_ _ | refine blk_drew ?_ | refine blk_alloc ?_ _)); exact BK106.out⟩, ⟨by repeat (first | (with_reducible first | exact HB.out | apply below_alloc | apply pw_below_drewN | apply below_drew1 | refine below_set ?_ GE105.out | refine below_set ?_ GE106.out) | exact HB.out)⟩⟩
        ·rw [if_neg c18] at H
         have c18b0 : decide (x5_2 < (a0_4.size : Int)) = false := decide_eq_false c18
         clear c18
         obtain rfl := Option.some.inj H
         have hnb39 := NB105_106.out
         have hnc39 := NB106_105.out
         have hcz40_0 : wr.cell? ⟨gb105, 0, none⟩ = some (.int .u8 a0_0) := (blk_cell BK105.out 0).trans rfl
         have hcz40_1 : wr.cell? ⟨gb105, 1, none⟩ = some (.int .i64 a0_1) := (blk_cell BK105.out 1).trans rfl
         have hcz40_2 : wr.cell? ⟨gb105, 2, none⟩ = some (.int .i64 a0_2) := (blk_cell BK105.out 2).trans rfl
         have hcz40_3 : wr.cell? ⟨gb105, 3, none⟩ = some (.int .i64 a0_3) := (blk_cell BK105.out 3).trans rfl
         have hcz40_4 : wr.cell? ⟨gb105, 4, none⟩ = some (.string a0_4) := (blk_cell BK105.out 4).trans rfl
         have hcz40_5 : wr.cell? ⟨gb105, 5, none⟩ = some (.int .u16 a0_5) := (blk_cell BK105.out 5).trans rfl
         have hfz40_0 := blk_frozen BK105.out 0
         have hfz40_1 := blk_frozen BK105.out 1
         have hfz40_2 := blk_frozen BK105.out 2
         have hfz40_3 := blk_frozen BK105.out 3
         have hfz40_4 := blk_frozen BK105.out 4
         have hfz40_5 := blk_frozen BK105.out 5
         go_wp2
         repeat (go_quiet (fail); try go_wp2)
         go_ret
         exact ⟨by first | rfl | (simp [errW_none, errW_some] <;> rfl) | (simp [*, errW_none, errW_some] <;> rfl), by repeat (first | (with_reducible first | exact HB.out | apply below_alloc | apply pw_below_drewN | apply below_drew1 | refine below_set ?_ GE105.out | refine below_set ?_ GE106.out) | exact HB.out)⟩

end Go.Proofs.YtjflijebcpcbmaaDoor.G
