/- What is proved: Go functions answer as the Lean functions of this text (written by a program of this session over the print of the kit). Conditions: those in the hypotheses. -/
import Derived.Test.YtjflijebcpcbmaaDoorXS0
import Derived.Test.YtjflijebcpcbmaaDoorXS1
import Derived.Test.YtjflijebcpcbmaaDoorXSpP
namespace Go.Proofs.YtjflijebcpcbmaaDoor.G
open Go.RowKit Go.Proofs.YtjflijebcpcbmaaDoorW.PrintWords Go.Proofs.YtjflijebcpcbmaaDoorW.PrintLast Go.Proofs.YtjflijebcpcbmaaDoorW.PrintMore
attribute [local go_sem] max2_int min2_int max_two min_two max_three min_three max_four min_four   -- for this text's walks alone
set_option linter.unusedVariables false
set_option linter.unusedSimpArgs false

/-! ### spec_FragmentsKnown: function 18 -/
mutual
def spec_FragmentsKnown.l0 : Nat → List (S45) → List (S69) → Int → Int → Option (Bool)
 | 0, _, _, _, _ => none
 | k + 1, x0, x3, x4, x5 => if x5 < (x0.length : Int) then (if 0 ≤ x5 then (if ((rd_T45 x0 x5).f0 = true) then (if (((rd_T45 x0 x5).f1).size : Int) ≤ 13 then (spec_FragmentsKnown.j1 k x0 x3 x4 x5 true) else (if 1 < (((rd_T45 x0 x5).f1).size : Int) then (if (bt ((rd_T45 x0 x5).f1) 1) = 254 then (if 2 < (((rd_T45 x0 x5).f1).size : Int) then (spec_FragmentsKnown.j1 k x0 x3 x4 x5 ((bt ((rd_T45 x0 x5).f1) 2) != 253)) else (none)) else (spec_FragmentsKnown.j1 k x0 x3 x4 x5 true)) else (none))) else (spec_FragmentsKnown.l0 k x0 x3 x4 (wrap64 (x5 + 1)))) else (none)) else (if (x0.length : Int) ≤ 100 then (if x4 ≤ 20000 then (some (decide ((x3.length : Int) ≤ 500))) else (some false)) else (some false))
def spec_FragmentsKnown.j1 : Nat → List (S45) → List (S69) → Int → Int → Bool → Option (Bool)
 | 0, _, _, _, _, _ => none
 | k + 1, x0, x3, x4, x5, x46 => if x46 = true then (some false) else (if 0 ≤ x5 then (if x5 < (x0.length : Int) then (if 0 < (((rd_T45 x0 x5).f1).size : Int) then (if (bt ((rd_T45 x0 x5).f1) 0) = 22 then ((spec_pieces.f ((rd_T45 x0 x5).f1)).bind fun bt116 => (if bt116.2 = true then (if 11 < (((rd_T45 x0 x5).f1).size : Int) then (if 12 < (((rd_T45 x0 x5).f1).size : Int) then (spec_FragmentsKnown.j2 k x0 x3 (wrap64 (x4 + (((rd_T45 x0 x5).f1).size : Int))) x5 bt116.1 ((Go.bits .or .i64 (wrap64 ((wrap64 (bt ((rd_T45 x0 x5).f1) 11)) * 256)) (wrap64 (bt ((rd_T45 x0 x5).f1) 12))) != (wrap64 ((((rd_T45 x0 x5).f1).size : Int) - 13)))) else (none)) else (none)) else (spec_FragmentsKnown.j2 k x0 x3 (wrap64 (x4 + (((rd_T45 x0 x5).f1).size : Int))) x5 bt116.1 true))) else (if (bt ((rd_T45 x0 x5).f1) 0) < 20 then (some false) else (if (bt ((rd_T45 x0 x5).f1) 0) > 23 then (some false) else (spec_FragmentsKnown.l0 k x0 x3 (wrap64 (x4 + (((rd_T45 x0 x5).f1).size : Int))) (wrap64 (x5 + 1)))))) else (none)) else (none)) else (none))
def spec_FragmentsKnown.j2 : Nat → List (S45) → List (S69) → Int → Int → List (S69) → Bool → Option (Bool)
 | 0, _, _, _, _, _, _ => none
 | k + 1, x0, x3, x4, x5, x6, x114 => if x114 = true then (some false) else (spec_FragmentsKnown.l1 k x0 x3 x4 x5 x6 0)
def spec_FragmentsKnown.l1 : Nat → List (S45) → List (S69) → Int → Int → List (S69) → Int → Option (Bool)
 | 0, _, _, _, _, _, _ => none
 | k + 1, x0, x3, x4, x5, x6, x8 => if x8 < (x6.length : Int) then (if 0 ≤ x8 then (if ((rd_T69 x6 x8).f4).toList = ([] : List UInt8) then (spec_FragmentsKnown.j4 k x0 x3 x4 x5 x6 x8 (decide (((rd_T69 x6 x8).f1) > 0))) else (spec_FragmentsKnown.j4 k x0 x3 x4 x5 x6 x8 false)) else (none)) else (spec_FragmentsKnown.l0 k x0 x3 x4 (wrap64 (x5 + 1)))
def spec_FragmentsKnown.j4 : Nat → List (S45) → List (S69) → Int → Int → List (S69) → Int → Bool → Option (Bool)
 | 0, _, _, _, _, _, _, _ => none
 | k + 1, x0, x3, x4, x5, x6, x8, x134 => if x134 = true then (some false) else (spec_FragmentsKnown.l2 k x0 x3 x4 x5 x6 x8 0)
def spec_FragmentsKnown.l2 : Nat → List (S45) → List (S69) → Int → Int → List (S69) → Int → Int → Option (Bool)
 | 0, _, _, _, _, _, _, _ => none
 | k + 1, x0, x3, x4, x5, x6, x8, x9 => if x9 < (x3.length : Int) then (if 0 ≤ x9 then (if 0 ≤ x8 then (if x8 < (x6.length : Int) then (if ((rd_T69 x3 x9).f2) = ((rd_T69 x6 x8).f2) then ((spec_alike.f k ((rd_T69 x3 x9).f0) ((rd_T69 x3 x9).f1) ((rd_T69 x3 x9).f2) ((rd_T69 x3 x9).f3) ((rd_T69 x3 x9).f4) ((rd_T69 x3 x9).f5) ((rd_T69 x6 x8).f0) ((rd_T69 x6 x8).f1) ((rd_T69 x6 x8).f2) ((rd_T69 x6 x8).f3) ((rd_T69 x6 x8).f4) ((rd_T69 x6 x8).f5)).bind fun t129 => (if t129 = true then (spec_FragmentsKnown.l2 k x0 x3 x4 x5 x6 x8 (wrap64 (x9 + 1))) else (some false))) else (spec_FragmentsKnown.l2 k x0 x3 x4 x5 x6 x8 (wrap64 (x9 + 1)))) else (none)) else (none)) else (none)) else (if 0 ≤ x8 then (if x8 < (x6.length : Int) then (if x3.length < 2513169434916 then (spec_FragmentsKnown.l1 k x0 (x3 ++ [(⟨(rd_T69 x6 x8).f0, (rd_T69 x6 x8).f1, (rd_T69 x6 x8).f2, (rd_T69 x6 x8).f3, (rd_T69 x6 x8).f4, (rd_T69 x6 x8).f5⟩ : S69)]) x4 x5 x6 (wrap64 (x8 + 1))) else (none)) else (none)) else (none))
end
def spec_FragmentsKnown.f (k : Nat) (l0 : List (S45)) : Option (Bool) := spec_FragmentsKnown.l0 k l0 ([] : List (S69)) 0 0
def spec_FragmentsKnown.T14 : Bool × List (List Nat × List Nat) := (true, [([], []), ([0], [0]), ([1], [1]), ([2], [2]), ([2], [2]), ([3, 4, 2], [2, 3, 4]), ([5, 2], [2, 5]), ([6, 2], [2, 6]), ([7, 2], [2, 7]), ([8, 2], [2, 8]), ([9, 2], [2, 9]), ([2], [2]), ([2], [2]), ([11, 12, 2], [2, 11, 12]), ([13, 2], [2, 13]), ([14, 2], [2, 14]), ([15, 2], [2, 15]), ([16, 2], [2, 16]), ([10, 17, 2], [2, 10, 17]), ([2], [2]), ([2], [2]), ([19, 20, 2], [2, 19, 20]), ([21, 2], [2, 21]), ([22, 2], [2, 22]), ([23, 2], [2, 23]), ([24, 2], [2, 24]), ([18, 25, 2], [2, 18, 25]), ([2, 26], [2, 26])])
def spec_FragmentsKnown.B14 : List Nat := [0, 1, 3, 7, 7, 31, 63, 127, 255, 511, 1023, 7, 7, 6151, 14343, 30727, 63495, 129031, 262143, 7, 7, 1572871, 3670023, 7864327, 16252935, 33030151, 67108863, 134217727]
theorem spec_FragmentsKnown.tab14 : rtab .any (opsOf Tryd.f18 14) = spec_FragmentsKnown.T14 := by kernel_rfl
theorem spec_FragmentsKnown.bits14 : waitsOk spec_FragmentsKnown.T14.2 spec_FragmentsKnown.B14 = true := by kernel_rfl
def spec_FragmentsKnown.T24 : Bool × List (List Nat × List Nat) := (true, [([], []), ([], []), ([0, 1], [0, 1]), ([2], [2]), ([3], [3]), ([], []), ([], []), ([5, 6], [5, 6]), ([7], [7]), ([8], [8]), ([4, 9], [4, 9]), ([10], [10]), ([11], [11]), ([11], [11]), ([12, 13, 11], [11, 12, 13]), ([14, 11], [11, 14]), ([11], [11]), ([11], [11]), ([16, 17, 11], [11, 16, 17]), ([18, 11], [11, 18]), ([15, 19, 11, 11], [11, 15, 19]), ([20, 11], [11, 20]), ([11, 21], [11, 21])])
def spec_FragmentsKnown.B24 : List Nat := [0, 0, 3, 7, 15, 0, 0, 96, 224, 480, 1023, 2047, 4095, 4095, 16383, 32767, 4095, 4095, 200703, 462847, 1048575, 2097151, 4194303]
theorem spec_FragmentsKnown.tab24 : rtab .any (opsOf Tryd.f18 24) = spec_FragmentsKnown.T24 := by kernel_rfl
theorem spec_FragmentsKnown.bits24 : waitsOk spec_FragmentsKnown.T24.2 spec_FragmentsKnown.B24 = true := by kernel_rfl
set_option maxHeartbeats 8000000 in
set_option maxRecDepth 100000 in
theorem spec_FragmentsKnown.calls (k : Nat) (A0 : Option Addr) (c0 : Nat) (l0 : List (S45)) (r : Bool) (w : World) (hr0 : Kd.C k45 w A0 l0.length l0) (hc0 : l0.length ≤ c0) (h : spec_FragmentsKnown.f k l0 = some r) :
 Calls Tryd.prog 18 #[.slice A0 l0.length c0] w fun e w' => e = .returned (.bool r) ∧ Below w.heap.size w w' := by
 have hu69 := Tryd.underlying69
 have HR0 := Aside0.mk hr0
 have HC0 := Aside0.mk hc0
 clear hr0 hc0
 have HB := Aside0.mk (Below.refl w.heap.size w)
 have H : (spec_FragmentsKnown.l0 k l0 ([] : List (S69)) 0 0) = some r := h
 clear h
 have H' := Aside0.mk H
 clear H
 go_enter Tryd.func18, Tryd.ntmps18
 go_wp2
 go_loopg [3, 4, 5] k (fun kq v3 v4 v5 w' => ∃ (x3_1 : List (S69)) (x4_1 : Int) (x5_1 : Int), v4 = .int .i64 x4_1 ∧ v5 = .int .i64 x5_1 ∧ Aside0 (spec_FragmentsKnown.l0 kq l0 x3_1 x4_1 x5_1 = some r) ∧ Aside0 (kq ≤ k) ∧ Aside0 (Kd.R k69 69 w' w.heap.size (fun _ => True) v3 x3_1) ∧ Aside0 (Below w.heap.size w w'))
 case atStart => exact ⟨(([] : List (S69))), (0), (0), (by first | rfl | (simp; done) | (simp [*]; done)), (by first | rfl | (simp; done) | (simp [*]; done)), H', ⟨Nat.le_refl _⟩, ⟨by first | exact Kd.R_nil _ _ _ _ _ | exact Kd.N_nil _ _ _ _ _ | exact Kd.V_nil _ _ _ _ _ | exact Kd.Q_nil _ _ _ _ _ | exact Kd.S_nil _ _ _ _ _⟩, ⟨by repeat (first | (with_reducible first | exact HB.out | apply below_alloc | apply pw_below_drewN | apply below_drew1) | exact HB.out)⟩⟩
 case round =>
  clear H'
  try clear c1
  obtain ⟨x3_1, x4_1, x5_1, rfl, rfl, HA, HK1, HO_3, HB⟩ := hrel
  cases gk with
  | zero => exact absurd HA.out (by simp [spec_FragmentsKnown.l0])
  | succ k1 =>
    have H := HA.out
    clear HA
    simp only [spec_FragmentsKnown.l0] at H
    by_cases c2 : x5_1 < (l0.length : Int)
    ·rw [if_pos c2] at H
     have c2b0 : decide (x5_1 < (l0.length : Int)) = true := decide_eq_true c2
     clear c2
     by_cases c3 : 0 ≤ x5_1
     ·rw [if_pos c3] at H
      have c3b0 : decide (0 ≤ x5_1) = true := decide_eq_true c3
      clear c3
      obtain ⟨bq4, hbq4⟩ : ∃ b_ : Bool, b_ = ((rd_T45 l0 x5_1).f0) := ⟨_, rfl⟩
      replace H : (if (bq4 = true) then (if (((rd_T45 l0 x5_1).f1).size : Int) ≤ 13 then (spec_FragmentsKnown.j1 k1 l0 x3_1 x4_1 x5_1 true) else (if 1 < (((rd_T45 l0 x5_1).f1).size : Int) then (if (bt ((rd_T45 l0 x5_1).f1) 1) = 254 then (if 2 < (((rd_T45 l0 x5_1).f1).size : Int) then (spec_FragmentsKnown.j1 k1 l0 x3_1 x4_1 x5_1 ((bt ((rd_T45 l0 x5_1).f1) 2) != 253)) else (none)) else (spec_FragmentsKnown.j1 k1 l0 x3_1 x4_1 x5_1 true)) else (none))) else (spec_FragmentsKnown.l0 k1 l0 x3_1 x4_1 (wrap64 (x5_1 + 1)))) = some r := by rw [← hbq4] at H; exact H
      have Nbq4 := Aside0.mk hbq4
      clear hbq4
      by_cases c5 : (bq4 = true)
      ·subst c5
       have H1 : (if (((rd_T45 l0 x5_1).f1).size : Int) ≤ 13 then (spec_FragmentsKnown.j1 k1 l0 x3_1 x4_1 x5_1 true) else (if 1 < (((rd_T45 l0 x5_1).f1).size : Int) then (if (bt ((rd_T45 l0 x5_1).f1) 1) = 254 then (if 2 < (((rd_T45 l0 x5_1).f1).size : Int) then (spec_FragmentsKnown.j1 k1 l0 x3_1 x4_1 x5_1 ((bt ((rd_T45 l0 x5_1).f1) 2) != 253)) else (none)) else (spec_FragmentsKnown.j1 k1 l0 x3_1 x4_1 x5_1 true)) else (none))) = some r := by rw [if_pos rfl] at H; exact H
       clear H
       have H := H1
       clear H1
       have HC6 := Aside0.mk H
       clear H
       have p107 : 0 ≤ (x5_1 : Int) := of_decide_eq_true (by first | (with_reducible assumption) | assumption)
       have q107 : x5_1 < (l0.length : Int) := of_decide_eq_true (by first | (with_reducible assumption) | assumption)
       obtain ⟨ad107, e107, hx107_0, hx107_1⟩ := at_T45 HR0.out x5_1 p107 q107
       (try rw [← Nbq4.out] at hx107_0)
       cases e107
       replace hx107_0 := (HB.out.cell (World.block_lt_of_cell? w _ hx107_0)).trans hx107_0
       replace hx107_1 := (HB.out.cell (World.block_lt_of_cell? w _ hx107_1)).trans hx107_1
       replace p107 := eq_true p107
       replace q107 := eq_true q107
       go_upto_region 7 with (fail)
       go_cut [46] (fun v46 wc => ∃ (kq : Nat) (x46_5 : Bool), v46 = .bool x46_5 ∧ Aside0 (spec_FragmentsKnown.j1 kq l0 x3_1 x4_1 x5_1 x46_5 = some r) ∧ Aside0 (kq ≤ k1) ∧ Aside0 (Kd.R k69 69 wc w.heap.size (fun _ => True) u3 x3_1) ∧ Aside0 (Below w.heap.size w wc))
       case first =>
        have H := HC6.out
        clear HC6
        by_cases c7 : (((rd_T45 l0 x5_1).f1).size : Int) ≤ 13
        ·rw [if_pos c7] at H
         have c7b0 : decide ((((rd_T45 l0 x5_1).f1).size : Int) ≤ 13) = true := decide_eq_true c7
         have c7b1 : decide (((rd_T45 l0 x5_1).f1).size ≤ 13) = true := decide_eq_true (by omega)
         clear c7
         (first | rw [c7b0] | (simp only [i64_w, i32_w]; rw [c7b0]) | skip)
         have H' := Aside0.mk H
         clear H
         have p108 : 0 ≤ (x5_1 : Int) := of_decide_eq_true (by first | (with_reducible assumption) | assumption)
         have q108 : x5_1 < (l0.length : Int) := of_decide_eq_true (by first | (with_reducible assumption) | assumption)
         obtain ⟨ad108, e108, hx108_0, hx108_1⟩ := at_T45 HR0.out x5_1 p108 q108
         (try rw [← Nbq4.out] at hx108_0)
         obtain rfl : ad107 = ad108 := (by injection e108)
         replace hx108_0 := (HB.out.cell (World.block_lt_of_cell? w _ hx108_0)).trans hx108_0
         replace hx108_1 := (HB.out.cell (World.block_lt_of_cell? w _ hx108_1)).trans hx108_1
         replace p108 := eq_true p108
         replace q108 := eq_true q108
         go_wp2
         go_meet
         case rel => exact ⟨_, (true), (by first | rfl | (simp; done) | (simp [*]; done)), H', ⟨by have := HK1.out; first | omega | exact Nat.le_refl _⟩, ⟨by (with_reducible repeat (first | apply Kd.R_alloc | apply Kd.R_drewN | apply Kd.R_drew)); exact HO_3.out⟩, ⟨by repeat (first | (with_reducible first | exact HB.out | apply below_alloc | apply pw_below_drewN | apply below_drew1) | exact HB.out)⟩⟩
        ·rw [if_neg c7] at H
         have c7b0 : decide ((((rd_T45 l0 x5_1).f1).size : Int) ≤ 13) = false := decide_eq_false c7
         have c7b1 : decide (((rd_T45 l0 x5_1).f1).size ≤ 13) = false := decide_eq_false (by omega)
         clear c7
         (first | rw [c7b0] | (simp only [i64_w, i32_w]; rw [c7b0]) | skip)
         by_cases c8 : 1 < (((rd_T45 l0 x5_1).f1).size : Int)
         ·rw [if_pos c8] at H
          have c8b0 : decide (1 < (((rd_T45 l0 x5_1).f1).size : Int)) = true := decide_eq_true c8
          have c8b1 : decide (1 < ((rd_T45 l0 x5_1).f1).size) = true := decide_eq_true (by omega)
          clear c8
          by_cases c10 : (bt ((rd_T45 l0 x5_1).f1) 1) = 254
          ·rw [if_pos c10] at H
           have c10b0 : ((bt ((rd_T45 l0 x5_1).f1) 1) == 254) = true := beq_iff_eq.mpr c10
           have c10b1 : ((bt ((rd_T45 l0 x5_1).f1) 1) != 254) = false := bne_eq_false_iff_eq.mpr c10
           clear c10
           by_cases c11 : 2 < (((rd_T45 l0 x5_1).f1).size : Int)
           ·rw [if_pos c11] at H
            have c11b0 : decide (2 < (((rd_T45 l0 x5_1).f1).size : Int)) = true := decide_eq_true c11
            have c11b1 : decide (2 < ((rd_T45 l0 x5_1).f1).size) = true := decide_eq_true (by omega)
            clear c11
            have H' := Aside0.mk H
            clear H
            have p108 : 0 ≤ (x5_1 : Int) := of_decide_eq_true (by first | (with_reducible assumption) | assumption)
            have q108 : x5_1 < (l0.length : Int) := of_decide_eq_true (by first | (with_reducible assumption) | assumption)
            obtain ⟨ad108, e108, hx108_0, hx108_1⟩ := at_T45 HR0.out x5_1 p108 q108
            (try rw [← Nbq4.out] at hx108_0)
            obtain rfl : ad107 = ad108 := (by injection e108)
            replace hx108_0 := (HB.out.cell (World.block_lt_of_cell? w _ hx108_0)).trans hx108_0
            replace hx108_1 := (HB.out.cell (World.block_lt_of_cell? w _ hx108_1)).trans hx108_1
            replace p108 := eq_true p108
            replace q108 := eq_true q108
            have p109 : 0 ≤ (x5_1 : Int) := of_decide_eq_true (by first | (with_reducible assumption) | assumption)
            have q109 : x5_1 < (l0.length : Int) := of_decide_eq_true (by first | (with_reducible assumption) | assumption)
            obtain ⟨ad109, e109, hx109_0, hx109_1⟩ := at_T45 HR0.out x5_1 p109 q109
            (try rw [← Nbq4.out] at hx109_0)
            obtain rfl : ad107 = ad109 := (by injection e109)
            replace hx109_0 := (HB.out.cell (World.block_lt_of_cell? w _ hx109_0)).trans hx109_0
            replace hx109_1 := (HB.out.cell (World.block_lt_of_cell? w _ hx109_1)).trans hx109_1
            replace p109 := eq_true p109
            replace q109 := eq_true q109
            have p9 : 0 ≤ (1 : Int) := (by omega)
            have q9 : 1 < ((rd_T45 l0 x5_1).f1).size := (by have : (1 : Int) < (((rd_T45 l0 x5_1).f1).size : Int) := of_decide_eq_true (by first | (with_reducible assumption) | assumption); omega)
            have hx9 : ∀ h : 1 < ((rd_T45 l0 x5_1).f1).size, ((((rd_T45 l0 x5_1).f1)[1]'h).toNat : Int) = bt ((rd_T45 l0 x5_1).f1) 1 := bt_at ((rd_T45 l0 x5_1).f1) 1
            clear p9
            have qi9 : (1 < (((rd_T45 l0 x5_1).f1).size : Int)) = True := eq_true (of_decide_eq_true (by first | (with_reducible assumption) | assumption))
            replace q9 := eq_true q9
            have p110 : 0 ≤ (x5_1 : Int) := of_decide_eq_true (by first | (with_reducible assumption) | assumption)
            have q110 : x5_1 < (l0.length : Int) := of_decide_eq_true (by first | (with_reducible assumption) | assumption)
            obtain ⟨ad110, e110, hx110_0, hx110_1⟩ := at_T45 HR0.out x5_1 p110 q110
            (try rw [← Nbq4.out] at hx110_0)
            obtain rfl : ad107 = ad110 := (by injection e110)
            replace hx110_0 := (HB.out.cell (World.block_lt_of_cell? w _ hx110_0)).trans hx110_0
            replace hx110_1 := (HB.out.cell (World.block_lt_of_cell? w _ hx110_1)).trans hx110_1
            replace p110 := eq_true p110
            replace q110 := eq_true q110
            have p12 : 0 ≤ (2 : Int) := (by omega)
            have q12 : 2 < ((rd_T45 l0 x5_1).f1).size := (by have : (2 : Int) < (((rd_T45 l0 x5_1).f1).size : Int) := of_decide_eq_true (by first | (with_reducible assumption) | assumption); omega)
            have hx12 : ∀ h : 2 < ((rd_T45 l0 x5_1).f1).size, ((((rd_T45 l0 x5_1).f1)[2]'h).toNat : Int) = bt ((rd_T45 l0 x5_1).f1) 2 := bt_at ((rd_T45 l0 x5_1).f1) 2
            clear p12
            have qi12 : (2 < (((rd_T45 l0 x5_1).f1).size : Int)) = True := eq_true (of_decide_eq_true (by first | (with_reducible assumption) | assumption))
            replace q12 := eq_true q12
            go_wp2
            go_meet
            case rel => exact ⟨_, (((bt ((rd_T45 l0 x5_1).f1) 2) != 253)), (by first | rfl | (simp; done) | (simp [*]; done)), H', ⟨by have := HK1.out; first | omega | exact Nat.le_refl _⟩, ⟨by (with_reducible repeat (first | apply Kd.R_alloc | apply Kd.R_drewN | apply Kd.R_drew)); exact HO_3.out⟩, ⟨by repeat (first | (with_reducible first | exact HB.out | apply below_alloc | apply pw_below_drewN | apply below_drew1) | exact HB.out)⟩⟩
           ·rw [if_neg c11] at H
            exact absurd H (by simp)
          ·rw [if_neg c10] at H
           have c10b0 : ((bt ((rd_T45 l0 x5_1).f1) 1) == 254) = false := beq_eq_false_iff_ne.mpr c10
           have c10b1 : ((bt ((rd_T45 l0 x5_1).f1) 1) != 254) = true := bne_iff_ne.mpr c10
           have H' := Aside0.mk H
           clear H
           have p108 : 0 ≤ (x5_1 : Int) := of_decide_eq_true (by first | (with_reducible assumption) | assumption)
           have q108 : x5_1 < (l0.length : Int) := of_decide_eq_true (by first | (with_reducible assumption) | assumption)
           obtain ⟨ad108, e108, hx108_0, hx108_1⟩ := at_T45 HR0.out x5_1 p108 q108
           (try rw [← Nbq4.out] at hx108_0)
           obtain rfl : ad107 = ad108 := (by injection e108)
           replace hx108_0 := (HB.out.cell (World.block_lt_of_cell? w _ hx108_0)).trans hx108_0
           replace hx108_1 := (HB.out.cell (World.block_lt_of_cell? w _ hx108_1)).trans hx108_1
           replace p108 := eq_true p108
           replace q108 := eq_true q108
           have p109 : 0 ≤ (x5_1 : Int) := of_decide_eq_true (by first | (with_reducible assumption) | assumption)
           have q109 : x5_1 < (l0.length : Int) := of_decide_eq_true (by first | (with_reducible assumption) | assumption)
           obtain ⟨ad109, e109, hx109_0, hx109_1⟩ := at_T45 HR0.out x5_1 p109 q109
           (try rw [← Nbq4.out] at hx109_0)
           obtain rfl : ad107 = ad109 := (by injection e109)
           replace hx109_0 := (HB.out.cell (World.block_lt_of_cell? w _ hx109_0)).trans hx109_0
           replace hx109_1 := (HB.out.cell (World.block_lt_of_cell? w _ hx109_1)).trans hx109_1
           replace p109 := eq_true p109
           replace q109 := eq_true q109
           have p9 : 0 ≤ (1 : Int) := (by omega)
           have q9 : 1 < ((rd_T45 l0 x5_1).f1).size := (by have : (1 : Int) < (((rd_T45 l0 x5_1).f1).size : Int) := of_decide_eq_true (by first | (with_reducible assumption) | assumption); omega)
           have hx9 : ∀ h : 1 < ((rd_T45 l0 x5_1).f1).size, ((((rd_T45 l0 x5_1).f1)[1]'h).toNat : Int) = bt ((rd_T45 l0 x5_1).f1) 1 := bt_at ((rd_T45 l0 x5_1).f1) 1
           clear p9
           have qi9 : (1 < (((rd_T45 l0 x5_1).f1).size : Int)) = True := eq_true (of_decide_eq_true (by first | (with_reducible assumption) | assumption))
           replace q9 := eq_true q9
           go_wp2
           go_meet
           case rel => exact ⟨_, (true), (by first | rfl | (simp; done) | (simp [*]; done)), H', ⟨by have := HK1.out; first | omega | exact Nat.le_refl _⟩, ⟨by (with_reducible repeat (first | apply Kd.R_alloc | apply Kd.R_drewN | apply Kd.R_drew)); exact HO_3.out⟩, ⟨by repeat (first | (with_reducible first | exact HB.out | apply below_alloc | apply pw_below_drewN | apply below_drew1) | exact HB.out)⟩⟩
         ·rw [if_neg c8] at H
          exact absurd H (by simp)
       case rest =>
        clear HC6
        try clear c1
        try clear p1
        try clear q1
        try clear hx1
        try clear qi1
        try clear c2
        try clear c2b0
        try clear p2
        try clear c3
        try clear c3b0
        try clear q4
        try clear c5
        try clear p6
        try clear c7
        try clear c7b0
        try clear c7b1
        try clear c8
        try clear c8b0
        try clear c8b1
        try clear p9
        try clear q9
        try clear hx9
        try clear qi9
        try clear c10
        try clear c10b0
        try clear c10b1
        try clear p10
        try clear q10
        try clear hx10
        try clear c11
        try clear c11b0
        try clear c11b1
        try clear p11
        try clear q11
        try clear hx11
        try clear p12
        try clear q12
        try clear hx12
        try clear qi12
        try clear hx107_0
        try clear hx107_1
        try clear hx108_0
        try clear hx108_1
        try clear hx109_0
        try clear hx109_1
        try clear hx110_0
        try clear hx110_1
        try clear p107
        try clear p108
        try clear p109
        try clear p110
        try clear p12
        try clear p9
        try clear q107
        try clear q108
        try clear q109
        try clear q110
        try clear q12
        try clear q9
        obtain ⟨kq, x46_5, rfl, HA, HJ5, HO_3, HB⟩ := hcut
        cases kq with
        | zero => exact absurd HA.out (by simp [spec_FragmentsKnown.j1])
        | succ kj5 =>
          have H := HA.out
          clear HA
          simp only [spec_FragmentsKnown.j1] at H
          by_cases c13 : x46_5 = true
          ·subst c13
           have H1 : (some false) = some r := by rw [if_pos rfl] at H; exact H
           clear H
           have H := H1
           clear H1
           obtain rfl := Option.some.inj H
           go_wp2
           go_ret
           exact ⟨by first | rfl | (simp [errW_none, errW_some] <;> rfl) | (simp [*, errW_none, errW_some] <;> rfl), by repeat (first | (with_reducible first | exact HB.out | apply below_alloc | apply pw_below_drewN | apply below_drew1) | exact HB.out)⟩
          ·replace c13 := Bool.eq_false_iff.mpr c13
           subst c13
           have H1 : (if 0 ≤ x5_1 then (if x5_1 < (l0.length : Int) then (if 0 < (((rd_T45 l0 x5_1).f1).size : Int) then (if (bt ((rd_T45 l0 x5_1).f1) 0) = 22 then ((spec_pieces.f ((rd_T45 l0 x5_1).f1)).bind fun bt116 => (if bt116.2 = true then (if 11 < (((rd_T45 l0 x5_1).f1).size : Int) then (if 12 < (((rd_T45 l0 x5_1).f1).size : Int) then (spec_FragmentsKnown.j2 kj5 l0 x3_1 (wrap64 (x4_1 + (((rd_T45 l0 x5_1).f1).size : Int))) x5_1 bt116.1 ((Go.bits .or .i64 (wrap64 ((wrap64 (bt ((rd_T45 l0 x5_1).f1) 11)) * 256)) (wrap64 (bt ((rd_T45 l0 x5_1).f1) 12))) != (wrap64 ((((rd_T45 l0 x5_1).f1).size : Int) - 13)))) else (none)) else (none)) else (spec_FragmentsKnown.j2 kj5 l0 x3_1 (wrap64 (x4_1 + (((rd_T45 l0 x5_1).f1).size : Int))) x5_1 bt116.1 true))) else (if (bt ((rd_T45 l0 x5_1).f1) 0) < 20 then (some false) else (if (bt ((rd_T45 l0 x5_1).f1) 0) > 23 then (some false) else (spec_FragmentsKnown.l0 kj5 l0 x3_1 (wrap64 (x4_1 + (((rd_T45 l0 x5_1).f1).size : Int))) (wrap64 (x5_1 + 1)))))) else (none)) else (none)) else (none)) = some r := by rw [if_neg (show ¬ (false = true) by decide)] at H; exact H
           clear H
           have H := H1
           clear H1
           by_cases c14 : 0 ≤ x5_1
           ·rw [if_pos c14] at H
            have c14b0 : decide (0 ≤ x5_1) = true := decide_eq_true c14
            clear c14
            by_cases c15 : x5_1 < (l0.length : Int)
            ·rw [if_pos c15] at H
             have c15b0 : decide (x5_1 < (l0.length : Int)) = true := decide_eq_true c15
             clear c15
             by_cases c16 : 0 < (((rd_T45 l0 x5_1).f1).size : Int)
             ·rw [if_pos c16] at H
              have c16b0 : decide (0 < (((rd_T45 l0 x5_1).f1).size : Int)) = true := decide_eq_true c16
              have c16b1 : decide (0 < ((rd_T45 l0 x5_1).f1).size) = true := decide_eq_true (by omega)
              clear c16
              by_cases c18 : (bt ((rd_T45 l0 x5_1).f1) 0) = 22
              ·rw [if_pos c18] at H
               have c18b0 : ((bt ((rd_T45 l0 x5_1).f1) 0) == 22) = true := beq_iff_eq.mpr c18
               have c18b1 : ((bt ((rd_T45 l0 x5_1).f1) 0) != 22) = false := bne_eq_false_iff_eq.mpr c18
               clear c18
               replace H := Option.bind_eq_some_iff.mp H
               obtain ⟨⟨t116, t117⟩, A190, H⟩ := H
               replace H : (if t117 = true then (if 11 < (((rd_T45 l0 x5_1).f1).size : Int) then (if 12 < (((rd_T45 l0 x5_1).f1).size : Int) then (spec_FragmentsKnown.j2 kj5 l0 x3_1 (wrap64 (x4_1 + (((rd_T45 l0 x5_1).f1).size : Int))) x5_1 t116 ((Go.bits .or .i64 (wrap64 ((wrap64 (bt ((rd_T45 l0 x5_1).f1) 11)) * 256)) (wrap64 (bt ((rd_T45 l0 x5_1).f1) 12))) != (wrap64 ((((rd_T45 l0 x5_1).f1).size : Int) - 13)))) else (none)) else (none)) else (spec_FragmentsKnown.j2 kj5 l0 x3_1 (wrap64 (x4_1 + (((rd_T45 l0 x5_1).f1).size : Int))) x5_1 t116 true)) = some r := H
               have A19 := Aside0.mk A190
               clear A190
               have HC20 := Aside0.mk H
               clear H
               have p111 : 0 ≤ (x5_1 : Int) := of_decide_eq_true (by first | (with_reducible assumption) | assumption)
               have q111 : x5_1 < (l0.length : Int) := of_decide_eq_true (by first | (with_reducible assumption) | assumption)
               obtain ⟨ad111, e111, hx111_0, hx111_1⟩ := at_T45 HR0.out x5_1 p111 q111
               (try rw [← Nbq4.out] at hx111_0)
               obtain rfl : ad107 = ad111 := (by injection e111)
               replace hx111_0 := (HB.out.cell (World.block_lt_of_cell? w _ hx111_0)).trans hx111_0
               replace hx111_1 := (HB.out.cell (World.block_lt_of_cell? w _ hx111_1)).trans hx111_1
               replace p111 := eq_true p111
               replace q111 := eq_true q111
               have p112 : 0 ≤ (x5_1 : Int) := of_decide_eq_true (by first | (with_reducible assumption) | assumption)
               have q112 : x5_1 < (l0.length : Int) := of_decide_eq_true (by first | (with_reducible assumption) | assumption)
               obtain ⟨ad112, e112, hx112_0, hx112_1⟩ := at_T45 HR0.out x5_1 p112 q112
               (try rw [← Nbq4.out] at hx112_0)
               obtain rfl : ad107 = ad112 := (by injection e112)
               replace hx112_0 := (HB.out.cell (World.block_lt_of_cell? w _ hx112_0)).trans hx112_0
               replace hx112_1 := (HB.out.cell (World.block_lt_of_cell? w _ hx112_1)).trans hx112_1
               replace p112 := eq_true p112
               replace q112 := eq_true q112
               have p17 : 0 ≤ (0 : Int) := (by omega)
               have q17 : 0 < ((rd_T45 l0 x5_1).f1).size := (by have : (0 : Int) < (((rd_T45 l0 x5_1).f1).size : Int) := of_decide_eq_true (by first | (with_reducible assumption) | assumption); omega)
               have hx17 : ∀ h : 0 < ((rd_T45 l0 x5_1).f1).size, ((((rd_T45 l0 x5_1).f1)[0]'h).toNat : Int) = bt ((rd_T45 l0 x5_1).f1) 0 := bt_at ((rd_T45 l0 x5_1).f1) 0
               clear p17
               have qi17 : (0 < (((rd_T45 l0 x5_1).f1).size : Int)) = True := eq_true (of_decide_eq_true (by first | (with_reducible assumption) | assumption))
               replace q17 := eq_true q17
               have p115 : 0 ≤ (x5_1 : Int) := of_decide_eq_true (by first | (with_reducible assumption) | assumption)
               have q115 : x5_1 < (l0.length : Int) := of_decide_eq_true (by first | (with_reducible assumption) | assumption)
               obtain ⟨ad115, e115, hx115_0, hx115_1⟩ := at_T45 HR0.out x5_1 p115 q115
               (try rw [← Nbq4.out] at hx115_0)
               obtain rfl : ad107 = ad115 := (by injection e115)
               replace hx115_0 := (HB.out.cell (World.block_lt_of_cell? w _ hx115_0)).trans hx115_0
               replace hx115_1 := (HB.out.cell (World.block_lt_of_cell? w _ hx115_1)).trans hx115_1
               replace p115 := eq_true p115
               replace q115 := eq_true q115
               go_upto_region 14 with (first | ((with_reducible refine gate_callee (f := 30) rfl ?_); refine goesL_ (some 84) rfl rfl Tryd.func30 (by kernel_rfl) rfl #[.string ((rd_T45 l0 x5_1).f1)] rfl (by (try simp only [List.map_toArray, List.map_cons, List.map_nil]); first | done | rfl | (simp only [List.length_drop, List.length_take]; rfl)) ?_; (with_reducible refine (spec_pieces.calls ((rd_T45 l0 x5_1).f1) t116 t117 _ A19.out).mono ?_); rintro e w21 ⟨v118, rfl, ho0, hb⟩; refine ⟨_, rfl, ?_⟩; have n0_ := Aside0.mk (Kd.R_elder' (by (with_reducible repeat (first | apply Kd.R_alloc | apply Kd.R_drewN | apply Kd.R_drew)); exact HO_3.out) (Kd.R_base ho0) hb); have n1_ := Aside0.mk (Kd.R_lower (Kd.R_new' ho0 (Kd.R_lt (by (with_reducible repeat (first | apply Kd.R_alloc | apply Kd.R_drewN | apply Kd.R_drew)); exact HO_3.out))) (below_size (by repeat (first | (with_reducible first | exact HB.out | apply below_alloc | apply pw_below_drewN | apply below_drew1) | exact HB.out)))); have n2_ := Aside0.mk (below_step (by repeat (first | (with_reducible first | exact HB.out | apply below_alloc | apply pw_below_drewN | apply below_drew1) | exact HB.out)) hb); clear HO_3; clear HB; have HO_3 := n0_; have HO119 := n1_; have HB := n2_; clear n0_ n1_ n2_; (try clear hb); (try clear hb2); (try clear hk); (try clear hi); (try clear ho0)))
               (try simp only [Act.put, List.setIfInBounds_toArray, List.set_cons_zero, List.set_cons_succ])
               go_cut [114] (fun v114 wc => ∃ (kq : Nat) (x114_19 : Bool), v114 = .bool x114_19 ∧ Aside0 (spec_FragmentsKnown.j2 kq l0 x3_1 (wrap64 (x4_1 + (((rd_T45 l0 x5_1).f1).size : Int))) x5_1 t116 x114_19 = some r) ∧ Aside0 (kq ≤ kj5) ∧ Aside0 (Kd.R k69 69 wc w.heap.size (fun k_ => some k_ ≠ (v118 : Value).ownBlock) u3 x3_1) ∧ Aside0 (Kd.R k69 69 wc w.heap.size (fun k_ => some k_ ≠ (u3 : Value).ownBlock) v118 t116) ∧ Aside0 (Below w.heap.size w wc))
               case first =>
                have H := HC20.out
                clear HC20
                by_cases c22 : t117 = true
                ·subst c22
                 have H1 : (if 11 < (((rd_T45 l0 x5_1).f1).size : Int) then (if 12 < (((rd_T45 l0 x5_1).f1).size : Int) then (spec_FragmentsKnown.j2 kj5 l0 x3_1 (wrap64 (x4_1 + (((rd_T45 l0 x5_1).f1).size : Int))) x5_1 t116 ((Go.bits .or .i64 (wrap64 ((wrap64 (bt ((rd_T45 l0 x5_1).f1) 11)) * 256)) (wrap64 (bt ((rd_T45 l0 x5_1).f1) 12))) != (wrap64 ((((rd_T45 l0 x5_1).f1).size : Int) - 13)))) else (none)) else (none)) = some r := by rw [if_pos rfl] at H; exact H
                 clear H
                 have H := H1
                 clear H1
                 by_cases c23 : 11 < (((rd_T45 l0 x5_1).f1).size : Int)
                 ·rw [if_pos c23] at H
                  have c23b0 : decide (11 < (((rd_T45 l0 x5_1).f1).size : Int)) = true := decide_eq_true c23
                  have c23b1 : decide (11 < ((rd_T45 l0 x5_1).f1).size) = true := decide_eq_true (by omega)
                  clear c23
                  (first | rw [c23b0] | (simp only [i64_w, i32_w]; rw [c23b0]) | skip)
                  by_cases c25 : 12 < (((rd_T45 l0 x5_1).f1).size : Int)
                  ·rw [if_pos c25] at H
                   have c25b0 : decide (12 < (((rd_T45 l0 x5_1).f1).size : Int)) = true := decide_eq_true c25
                   have c25b1 : decide (12 < ((rd_T45 l0 x5_1).f1).size) = true := decide_eq_true (by omega)
                   clear c25
                   have H' := Aside0.mk H
                   clear H
                   try go_wp2
                   have n0_ := Aside0.mk (Kd.R_drew HO_3.out)
                   have n1_ := Aside0.mk (Kd.R_drew HO119.out)
                   have n2_ := Aside0.mk (below_drew1 HB.out)
                   clear HO_3
                   clear HO119
                   clear HB
                   have HO_3 := n0_
                   have HO119 := n1_
                   have HB := n2_
                   clear n0_ n1_ n2_
                   have p120 : 0 ≤ (x5_1 : Int) := of_decide_eq_true (by first | (with_reducible assumption) | assumption)
                   have q120 : x5_1 < (l0.length : Int) := of_decide_eq_true (by first | (with_reducible assumption) | assumption)
                   obtain ⟨ad120, e120, hx120_0, hx120_1⟩ := at_T45 HR0.out x5_1 p120 q120
                   have hw120_1 := hx120_1
                   have hw120_0 := hx120_0
                   (try rw [← Nbq4.out] at hx120_0)
                   obtain rfl : ad107 = ad120 := (by injection e120)
                   replace hx120_0 := (HB.out.cell (World.block_lt_of_cell? w _ hx120_0)).trans hx120_0
                   replace hx120_1 := (HB.out.cell (World.block_lt_of_cell? w _ hx120_1)).trans hx120_1
                   replace p120 := eq_true p120
                   replace q120 := eq_true q120
                   have p24 : 0 ≤ (11 : Int) := (by omega)
                   have q24 : 11 < ((rd_T45 l0 x5_1).f1).size := (by have : (11 : Int) < (((rd_T45 l0 x5_1).f1).size : Int) := of_decide_eq_true (by first | (with_reducible assumption) | assumption); omega)
                   have hx24 : ∀ h : 11 < ((rd_T45 l0 x5_1).f1).size, ((((rd_T45 l0 x5_1).f1)[11]'h).toNat : Int) = bt ((rd_T45 l0 x5_1).f1) 11 := bt_at ((rd_T45 l0 x5_1).f1) 11
                   clear p24
                   have qi24 : (11 < (((rd_T45 l0 x5_1).f1).size : Int)) = True := eq_true (of_decide_eq_true (by first | (with_reducible assumption) | assumption))
                   replace q24 := eq_true q24
                   have p121 : 0 ≤ (x5_1 : Int) := of_decide_eq_true (by first | (with_reducible assumption) | assumption)
                   have q121 : x5_1 < (l0.length : Int) := of_decide_eq_true (by first | (with_reducible assumption) | assumption)
                   obtain ⟨ad121, e121, hx121_0, hx121_1⟩ := at_T45 HR0.out x5_1 p121 q121
                   have hw121_1 := hx121_1
                   have hw121_0 := hx121_0
                   (try rw [← Nbq4.out] at hx121_0)
                   obtain rfl : ad107 = ad121 := (by injection e121)
                   replace hx121_0 := (HB.out.cell (World.block_lt_of_cell? w _ hx121_0)).trans hx121_0
                   replace hx121_1 := (HB.out.cell (World.block_lt_of_cell? w _ hx121_1)).trans hx121_1
                   replace p121 := eq_true p121
                   replace q121 := eq_true q121
                   have p26 : 0 ≤ (12 : Int) := (by omega)
                   have q26 : 12 < ((rd_T45 l0 x5_1).f1).size := (by have : (12 : Int) < (((rd_T45 l0 x5_1).f1).size : Int) := of_decide_eq_true (by first | (with_reducible assumption) | assumption); omega)
                   have hx26 : ∀ h : 12 < ((rd_T45 l0 x5_1).f1).size, ((((rd_T45 l0 x5_1).f1)[12]'h).toNat : Int) = bt ((rd_T45 l0 x5_1).f1) 12 := bt_at ((rd_T45 l0 x5_1).f1) 12
                   clear p26
                   have qi26 : (12 < (((rd_T45 l0 x5_1).f1).size : Int)) = True := eq_true (of_decide_eq_true (by first | (with_reducible assumption) | assumption))
                   replace q26 := eq_true q26
                   have p122 : 0 ≤ (x5_1 : Int) := of_decide_eq_true (by first | (with_reducible assumption) | assumption)
                   have q122 : x5_1 < (l0.length : Int) := of_decide_eq_true (by first | (with_reducible assumption) | assumption)
                   obtain ⟨ad122, e122, hx122_0, hx122_1⟩ := at_T45 HR0.out x5_1 p122 q122
                   have hw122_1 := hx122_1
                   have hw122_0 := hx122_0
                   (try rw [← Nbq4.out] at hx122_0)
                   obtain rfl : ad107 = ad122 := (by injection e122)
                   replace hx122_0 := (HB.out.cell (World.block_lt_of_cell? w _ hx122_0)).trans hx122_0
                   replace hx122_1 := (HB.out.cell (World.block_lt_of_cell? w _ hx122_1)).trans hx122_1
                   replace p122 := eq_true p122
                   replace q122 := eq_true q122
                   refine start_ (n := 28) (S := fun w' => w'.cell? (ad107.add ((x5_1).toNat * 2)) = some (.bool ((rd_T45 l0 x5_1).f0)) ∧ w'.cell? ⟨(ad107.add ((x5_1).toNat * 2)).block, (ad107.add ((x5_1).toNat * 2)).off + 1, none⟩ = some (.string ((rd_T45 l0 x5_1).f1)) ∧ w'.cell? (ad107.add ((x5_1).toNat * 2)) = some (.bool ((rd_T45 l0 x5_1).f0)) ∧ w'.cell? ⟨(ad107.add ((x5_1).toNat * 2)).block, (ad107.add ((x5_1).toNat * 2)).off + 1, none⟩ = some (.string ((rd_T45 l0 x5_1).f1)) ∧ w'.cell? (ad107.add ((x5_1).toNat * 2)) = some (.bool ((rd_T45 l0 x5_1).f0)) ∧ w'.cell? ⟨(ad107.add ((x5_1).toNat * 2)).block, (ad107.add ((x5_1).toNat * 2)).off + 1, none⟩ = some (.string ((rd_T45 l0 x5_1).f1))) (ds := []) #[false, false, false, false, false, false, false, false, false, false, false, false, false, false, false, false, false, false, false, false, false, false, false, false, false, false, false, false] (by kernel_rfl) rfl rfl ⟨((HB.out.cell (World.block_lt_of_cell? w _ hw120_0)).trans hw120_0), ((HB.out.cell (World.block_lt_of_cell? w _ hw120_1)).trans hw120_1), ((HB.out.cell (World.block_lt_of_cell? w _ hw121_0)).trans hw121_0), ((HB.out.cell (World.block_lt_of_cell? w _ hw121_1)).trans hw121_1), ((HB.out.cell (World.block_lt_of_cell? w _ hw122_0)).trans hw122_0), ((HB.out.cell (World.block_lt_of_cell? w _ hw122_1)).trans hw122_1)⟩ (fun hHeld => ?_); refine with_tabW spec_FragmentsKnown.tab14 spec_FragmentsKnown.bits14 (fun HT_ HW_ => ?_)
                   generalize w21.drew = w27 at HO_3 HO119 HB hx120_0 hx120_1 hx121_0 hx121_1 hx122_0 hx122_1 hHeld ⊢
                   refine pure_ (i := 0) (N := some 87) (v := ?_) (a' := ?_) #[true, false, false, false, false, false, false, false, false, false, false, false, false, false, false, false, false, false, false, false, false, false, false, false, false, false, false, false] rfl rfl (any_of HT_.out (by kernel_rfl)) (fun _ _ _ h => h) (Or.inl ⟨by rfl, ?_⟩) ?_ ?_
                   rotate_left
                   ·intro w'
                    go_simp
                    with_reducible rfl
                   rotate_left
                   ·simp only [Act.put, List.setIfInBounds_toArray, List.set_cons_zero, List.set_cons_succ, i64_w, i32_w]
                    rfl
                   refine pure_ (i := 1) (N := some 88) (v := ?_) (a' := ?_) #[true, true, false, false, false, false, false, false, false, false, false, false, false, false, false, false, false, false, false, false, false, false, false, false, false, false, false, false] rfl rfl (any_of HT_.out (by kernel_rfl)) (fun _ _ _ h => h) (Or.inl ⟨by rfl, ?_⟩) ?_ ?_
                   rotate_left
                   ·intro w'
                    go_simp
                    with_reducible rfl
                   rotate_left
                   ·simp only [Act.put, List.setIfInBounds_toArray, List.set_cons_zero, List.set_cons_succ, i64_w, i32_w]
                    rfl
                   refine pure_ (i := 2) (N := some 89) (v := ?_) (a' := ?_) #[true, true, true, false, false, false, false, false, false, false, false, false, false, false, false, false, false, false, false, false, false, false, false, false, false, false, false, false] rfl rfl (any_of HT_.out (by kernel_rfl)) (fun _ _ _ h => h) (Or.inl ⟨by rfl, ?_⟩) ?_ ?_
                   rotate_left
                   ·intro w'
                    go_simp
                    with_reducible rfl
                   rotate_left
                   ·simp only [Act.put, List.setIfInBounds_toArray, List.set_cons_zero, List.set_cons_succ, i64_w, i32_w]
                    rfl
                   refine pure_ (i := 3) (N := some 90) (v := ?_) (a' := ?_) #[true, true, true, true, false, false, false, false, false, false, false, false, false, false, false, false, false, false, false, false, false, false, false, false, false, false, false, false] rfl rfl (any_of HT_.out (by kernel_rfl)) (fun _ _ _ h => h) (Or.inl ⟨by rfl, ?_⟩) ?_ ?_
                   rotate_left
                   ·intro w'
                    go_simp
                    with_reducible rfl
                   rotate_left
                   ·simp only [Act.put, List.setIfInBounds_toArray, List.set_cons_zero, List.set_cons_succ, i64_w, i32_w]
                    rfl
                   refine pure_ (i := 4) (N := some 91) (v := ?_) (a' := ?_) #[true, true, true, true, true, false, false, false, false, false, false, false, false, false, false, false, false, false, false, false, false, false, false, false, false, false, false, false] rfl rfl (any_of HT_.out (by kernel_rfl)) (fun _ _ _ h => h) (Or.inl ⟨by rfl, ?_⟩) ?_ ?_
                   rotate_left
                   ·intro w'
                    go_simp
                    with_reducible rfl
                   rotate_left
                   ·simp only [Act.put, List.setIfInBounds_toArray, List.set_cons_zero, List.set_cons_succ, i64_w, i32_w]
                    rfl
                   refine pure_ (i := 5) (N := some 92) (v := ?_) (a' := ?_) #[true, true, true, true, true, true, false, false, false, false, false, false, false, false, false, false, false, false, false, false, false, false, false, false, false, false, false, false] rfl rfl (any_of HT_.out (by kernel_rfl)) (fun _ _ _ h => h) (Or.inl ⟨by rfl, ?_⟩) ?_ ?_
                   rotate_left
                   ·intro w'
                    go_simp
                    with_reducible rfl
                   rotate_left
                   ·simp only [Act.put, List.setIfInBounds_toArray, List.set_cons_zero, List.set_cons_succ, i64_w, i32_w]
                    rfl
                   refine pure_ (i := 6) (N := some 93) (v := ?_) (a' := ?_) #[true, true, true, true, true, true, true, false, false, false, false, false, false, false, false, false, false, false, false, false, false, false, false, false, false, false, false, false] rfl rfl (any_of HT_.out (by kernel_rfl)) (fun _ _ _ h => h) (Or.inl ⟨by rfl, ?_⟩) ?_ ?_
                   rotate_left
                   ·intro w'
                    go_simp
                    with_reducible rfl
                   rotate_left
                   ·simp only [Act.put, List.setIfInBounds_toArray, List.set_cons_zero, List.set_cons_succ, i64_w, i32_w]
                    rfl
                   refine pure_ (i := 11) (N := some 98) (v := ?_) (a' := ?_) #[true, true, true, true, true, true, true, false, false, false, false, true, false, false, false, false, false, false, false, false, false, false, false, false, false, false, false, false] rfl rfl (any_of HT_.out (by kernel_rfl)) (fun _ _ _ h => h) (Or.inl ⟨by rfl, ?_⟩) ?_ ?_
                   rotate_left
                   ·intro w'
                    go_simp
                    with_reducible rfl
                   rotate_left
                   ·simp only [Act.put, List.setIfInBounds_toArray, List.set_cons_zero, List.set_cons_succ, i64_w, i32_w]
                    rfl
                   refine pure_ (i := 12) (N := some 99) (v := ?_) (a' := ?_) #[true, true, true, true, true, true, true, false, false, false, false, true, true, false, false, false, false, false, false, false, false, false, false, false, false, false, false, false] rfl rfl (any_of HT_.out (by kernel_rfl)) (fun _ _ _ h => h) (Or.inl ⟨by rfl, ?_⟩) ?_ ?_
                   rotate_left
                   ·intro w'
                    go_simp
                    with_reducible rfl
                   rotate_left
                   ·simp only [Act.put, List.setIfInBounds_toArray, List.set_cons_zero, List.set_cons_succ, i64_w, i32_w]
                    rfl
                   refine pure_ (i := 13) (N := some 100) (v := ?_) (a' := ?_) #[true, true, true, true, true, true, true, false, false, false, false, true, true, true, false, false, false, false, false, false, false, false, false, false, false, false, false, false] rfl rfl (any_of HT_.out (by kernel_rfl)) (fun _ _ _ h => h) (Or.inl ⟨by rfl, ?_⟩) ?_ ?_
                   rotate_left
                   ·intro w'
                    go_simp
                    with_reducible rfl
                   rotate_left
                   ·simp only [Act.put, List.setIfInBounds_toArray, List.set_cons_zero, List.set_cons_succ, i64_w, i32_w]
                    rfl
                   refine pure_ (i := 14) (N := some 101) (v := ?_) (a' := ?_) #[true, true, true, true, true, true, true, false, false, false, false, true, true, true, true, false, false, false, false, false, false, false, false, false, false, false, false, false] rfl rfl (any_of HT_.out (by kernel_rfl)) (fun _ _ _ h => h) (Or.inl ⟨by rfl, ?_⟩) ?_ ?_
                   rotate_left
                   ·intro w'
                    go_simp
                    with_reducible rfl
                   rotate_left
                   ·simp only [Act.put, List.setIfInBounds_toArray, List.set_cons_zero, List.set_cons_succ, i64_w, i32_w]
                    rfl
                   refine pure_ (i := 19) (N := some 106) (v := ?_) (a' := ?_) #[true, true, true, true, true, true, true, false, false, false, false, true, true, true, true, false, false, false, false, true, false, false, false, false, false, false, false, false] rfl rfl (any_of HT_.out (by kernel_rfl)) (fun _ _ _ h => h) (Or.inl ⟨by rfl, ?_⟩) ?_ ?_
                   rotate_left
                   ·intro w'
                    go_simp
                    with_reducible rfl
                   rotate_left
                   ·simp only [Act.put, List.setIfInBounds_toArray, List.set_cons_zero, List.set_cons_succ, i64_w, i32_w]
                    rfl
                   refine pure_ (i := 20) (N := some 107) (v := ?_) (a' := ?_) #[true, true, true, true, true, true, true, false, false, false, false, true, true, true, true, false, false, false, false, true, true, false, false, false, false, false, false, false] rfl rfl (any_of HT_.out (by kernel_rfl)) (fun _ _ _ h => h) (Or.inl ⟨by rfl, ?_⟩) ?_ ?_
                   rotate_left
                   ·intro w'
                    go_simp
                    with_reducible rfl
                   rotate_left
                   ·simp only [Act.put, List.setIfInBounds_toArray, List.set_cons_zero, List.set_cons_succ, i64_w, i32_w]
                    rfl
                   refine pure_ (i := 21) (N := some 108) (v := ?_) (a' := ?_) #[true, true, true, true, true, true, true, false, false, false, false, true, true, true, true, false, false, false, false, true, true, true, false, false, false, false, false, false] rfl rfl (any_of HT_.out (by kernel_rfl)) (fun _ _ _ h => h) (Or.inl ⟨by rfl, ?_⟩) ?_ ?_
                   rotate_left
                   ·intro w'
                    go_simp
                    with_reducible rfl
                   rotate_left
                   ·simp only [Act.put, List.setIfInBounds_toArray, List.set_cons_zero, List.set_cons_succ, i64_w, i32_w]
                    rfl
                   refine pure_ (i := 22) (N := some 109) (v := ?_) (a' := ?_) #[true, true, true, true, true, true, true, false, false, false, false, true, true, true, true, false, false, false, false, true, true, true, true, false, false, false, false, false] rfl rfl (any_of HT_.out (by kernel_rfl)) (fun _ _ _ h => h) (Or.inl ⟨by rfl, ?_⟩) ?_ ?_
                   rotate_left
                   ·intro w'
                    go_simp
                    with_reducible rfl
                   rotate_left
                   ·simp only [Act.put, List.setIfInBounds_toArray, List.set_cons_zero, List.set_cons_succ, i64_w, i32_w]
                    rfl
                   refine take_ (i := 7) (N := some 94) (v := ?_) (a' := ?_) #[true, true, true, true, true, true, true, true, false, false, false, true, true, true, true, false, false, false, false, true, true, true, true, false, false, false, false, false] rfl rfl (take_ofW HT_.out HW_.out (by kernel_rfl)) (fun _ _ _ h => h) (Or.inl ⟨by rfl, ?_⟩) hHeld ?_ ?_
                   rotate_left
                   ·rintro w' ⟨s0, s1, s2, s3, s4, s5⟩
                    go_simp
                    with_reducible rfl
                   rotate_left
                   ·simp only [Act.put, List.setIfInBounds_toArray, List.set_cons_zero, List.set_cons_succ, i64_w, i32_w]
                    rfl
                   refine take_ (i := 8) (N := some 95) (v := ?_) (a' := ?_) #[true, true, true, true, true, true, true, true, true, false, false, true, true, true, true, false, false, false, false, true, true, true, true, false, false, false, false, false] rfl rfl (take_ofW HT_.out HW_.out (by kernel_rfl)) (fun _ _ _ h => h) (Or.inl ⟨by rfl, ?_⟩) hHeld ?_ ?_
                   rotate_left
                   ·rintro w' ⟨s0, s1, s2, s3, s4, s5⟩
                    go_simp
                    with_reducible rfl
                   rotate_left
                   ·simp only [Act.put, List.setIfInBounds_toArray, List.set_cons_zero, List.set_cons_succ, i64_w, i32_w]
                    rfl
                   refine pure_ (i := 9) (N := some 96) (v := ?_) (a' := ?_) #[true, true, true, true, true, true, true, true, true, true, false, true, true, true, true, false, false, false, false, true, true, true, true, false, false, false, false, false] rfl rfl (any_of HT_.out (by kernel_rfl)) (fun _ _ _ h => h) (Or.inl ⟨by rfl, ?_⟩) ?_ ?_
                   rotate_left
                   ·intro w'
                    go_simp
                    with_reducible rfl
                   rotate_left
                   ·simp only [Act.put, List.setIfInBounds_toArray, List.set_cons_zero, List.set_cons_succ, i64_w, i32_w]
                    rfl
                   refine pure_ (i := 10) (N := some 97) (v := ?_) (a' := ?_) #[true, true, true, true, true, true, true, true, true, true, true, true, true, true, true, false, false, false, false, true, true, true, true, false, false, false, false, false] rfl rfl (any_of HT_.out (by kernel_rfl)) (fun _ _ _ h => h) (Or.inl ⟨by rfl, ?_⟩) ?_ ?_
                   rotate_left
                   ·intro w'
                    go_simp
                    with_reducible rfl
                   rotate_left
                   ·simp only [Act.put, List.setIfInBounds_toArray, List.set_cons_zero, List.set_cons_succ, i64_w, i32_w]
                    rfl
                   refine take_ (i := 15) (N := some 102) (v := ?_) (a' := ?_) #[true, true, true, true, true, true, true, true, true, true, true, true, true, true, true, true, false, false, false, true, true, true, true, false, false, false, false, false] rfl rfl (take_ofW HT_.out HW_.out (by kernel_rfl)) (fun _ _ _ h => h) (Or.inl ⟨by rfl, ?_⟩) hHeld ?_ ?_
                   rotate_left
                   ·rintro w' ⟨s0, s1, s2, s3, s4, s5⟩
                    go_simp
                    with_reducible rfl
                   rotate_left
                   ·simp only [Act.put, List.setIfInBounds_toArray, List.set_cons_zero, List.set_cons_succ, i64_w, i32_w]
                    rfl
                   refine take_ (i := 16) (N := some 103) (v := ?_) (a' := ?_) #[true, true, true, true, true, true, true, true, true, true, true, true, true, true, true, true, true, false, false, true, true, true, true, false, false, false, false, false] rfl rfl (take_ofW HT_.out HW_.out (by kernel_rfl)) (fun _ _ _ h => h) (Or.inl ⟨by rfl, ?_⟩) hHeld ?_ ?_
                   rotate_left
                   ·rintro w' ⟨s0, s1, s2, s3, s4, s5⟩
                    go_simp
                    with_reducible rfl
                   rotate_left
                   ·simp only [Act.put, List.setIfInBounds_toArray, List.set_cons_zero, List.set_cons_succ, i64_w, i32_w]
                    rfl
                   refine pure_ (i := 17) (N := some 104) (v := ?_) (a' := ?_) #[true, true, true, true, true, true, true, true, true, true, true, true, true, true, true, true, true, true, false, true, true, true, true, false, false, false, false, false] rfl rfl (any_of HT_.out (by kernel_rfl)) (fun _ _ _ h => h) (Or.inl ⟨by rfl, ?_⟩) ?_ ?_
                   rotate_left
                   ·intro w'
                    go_simp
                    with_reducible rfl
                   rotate_left
                   ·simp only [Act.put, List.setIfInBounds_toArray, List.set_cons_zero, List.set_cons_succ, i64_w, i32_w]
                    rfl
                   refine pure_ (i := 18) (N := some 105) (v := ?_) (a' := ?_) #[true, true, true, true, true, true, true, true, true, true, true, true, true, true, true, true, true, true, true, true, true, true, true, false, false, false, false, false] rfl rfl (any_of HT_.out (by kernel_rfl)) (fun _ _ _ h => h) (Or.inl ⟨by rfl, ?_⟩) ?_ ?_
                   rotate_left
                   ·intro w'
                    go_simp
                    with_reducible rfl
                   rotate_left
                   ·simp only [Act.put, List.setIfInBounds_toArray, List.set_cons_zero, List.set_cons_succ, i64_w, i32_w]
                    rfl
                   refine take_ (i := 23) (N := some 110) (v := ?_) (a' := ?_) #[true, true, true, true, true, true, true, true, true, true, true, true, true, true, true, true, true, true, true, true, true, true, true, true, false, false, false, false] rfl rfl (take_ofW HT_.out HW_.out (by kernel_rfl)) (fun _ _ _ h => h) (Or.inl ⟨by rfl, ?_⟩) hHeld ?_ ?_
                   rotate_left
                   ·rintro w' ⟨s0, s1, s2, s3, s4, s5⟩
                    go_simp
                    with_reducible rfl
                   rotate_left
                   ·simp only [Act.put, List.setIfInBounds_toArray, List.set_cons_zero, List.set_cons_succ, i64_w, i32_w]
                    rfl
                   refine pure_ (i := 24) (N := some 111) (v := ?_) (a' := ?_) #[true, true, true, true, true, true, true, true, true, true, true, true, true, true, true, true, true, true, true, true, true, true, true, true, true, false, false, false] rfl rfl (any_of HT_.out (by kernel_rfl)) (fun _ _ _ h => h) (Or.inl ⟨by rfl, ?_⟩) ?_ ?_
                   rotate_left
                   ·intro w'
                    go_simp
                    with_reducible rfl
                   rotate_left
                   ·simp only [Act.put, List.setIfInBounds_toArray, List.set_cons_zero, List.set_cons_succ, i64_w, i32_w]
                    rfl
                   refine pure_ (i := 25) (N := some 112) (v := ?_) (a' := ?_) #[true, true, true, true, true, true, true, true, true, true, true, true, true, true, true, true, true, true, true, true, true, true, true, true, true, true, false, false] rfl rfl (any_of HT_.out (by kernel_rfl)) (fun _ _ _ h => h) (Or.inl ⟨by rfl, ?_⟩) ?_ ?_
                   rotate_left
                   ·intro w'
                    go_simp
                    with_reducible rfl
                   rotate_left
                   ·simp only [Act.put, List.setIfInBounds_toArray, List.set_cons_zero, List.set_cons_succ, i64_w, i32_w]
                    rfl
                   refine pure_ (i := 26) (N := some 113) (v := ?_) (a' := ?_) #[true, true, true, true, true, true, true, true, true, true, true, true, true, true, true, true, true, true, true, true, true, true, true, true, true, true, true, false] rfl rfl (any_of HT_.out (by kernel_rfl)) (fun _ _ _ h => h) (Or.inl ⟨by rfl, ?_⟩) ?_ ?_
                   rotate_left
                   ·intro w'
                    go_simp
                    with_reducible rfl
                   rotate_left
                   ·simp only [Act.put, List.setIfInBounds_toArray, List.set_cons_zero, List.set_cons_succ, i64_w, i32_w]
                    rfl
                   refine pure_ (i := 27) (N := some 114) (v := ?_) (a' := ?_) #[true, true, true, true, true, true, true, true, true, true, true, true, true, true, true, true, true, true, true, true, true, true, true, true, true, true, true, true] rfl rfl (any_of HT_.out (by kernel_rfl)) (fun _ _ _ h => h) (Or.inl ⟨by rfl, ?_⟩) ?_ ?_
                   rotate_left
                   ·intro w'
                    go_simp
                    with_reducible rfl
                   rotate_left
                   ·simp only [Act.put, List.setIfInBounds_toArray, List.set_cons_zero, List.set_cons_succ, i64_w, i32_w]
                    rfl
                   refine done_ (done_of HT_.out (by kernel_rfl)) ?_
                   try go_wp2
                   go_meet
                   case rel => exact ⟨_, (((Go.bits .or .i64 (wrap64 ((wrap64 (bt ((rd_T45 l0 x5_1).f1) 11)) * 256)) (wrap64 (bt ((rd_T45 l0 x5_1).f1) 12))) != (wrap64 ((((rd_T45 l0 x5_1).f1).size : Int) - 13)))), (by first | rfl | (simp; done) | (simp [*]; done)), H', ⟨by have := HK1.out; have := HJ5.out; first | omega | exact Nat.le_refl _⟩, ⟨by (with_reducible repeat (first | apply Kd.R_alloc | apply Kd.R_drewN | apply Kd.R_drew)); exact Kd.R_mono HO_3.out (fun _ hk => hk.2)⟩, ⟨by (with_reducible repeat (first | apply Kd.R_alloc | apply Kd.R_drewN | apply Kd.R_drew)); exact Kd.R_mono HO119.out (fun _ hk => hk.2)⟩, ⟨by repeat (first | (with_reducible first | exact HB.out | apply below_alloc | apply pw_below_drewN | apply below_drew1) | exact HB.out)⟩⟩
                  ·rw [if_neg c25] at H
                   exact absurd H (by simp)
                 ·rw [if_neg c23] at H
                  exact absurd H (by simp)
                ·replace c22 := Bool.eq_false_iff.mpr c22
                 subst c22
                 have H1 : (spec_FragmentsKnown.j2 kj5 l0 x3_1 (wrap64 (x4_1 + (((rd_T45 l0 x5_1).f1).size : Int))) x5_1 t116 true) = some r := by rw [if_neg (show ¬ (false = true) by decide)] at H; exact H
                 clear H
                 have H := H1
                 clear H1
                 have H' := Aside0.mk H
                 clear H
                 try go_wp2
                 have n0_ := Aside0.mk (Kd.R_drew HO_3.out)
                 have n1_ := Aside0.mk (Kd.R_drew HO119.out)
                 have n2_ := Aside0.mk (below_drew1 HB.out)
                 clear HO_3
                 clear HO119
                 clear HB
                 have HO_3 := n0_
                 have HO119 := n1_
                 have HB := n2_
                 clear n0_ n1_ n2_
                 refine start_ (n := 28) (S := fun w' => True) (ds := []) #[false, false, false, false, false, false, false, false, false, false, false, false, false, false, false, false, false, false, false, false, false, false, false, false, false, false, false, false] (by kernel_rfl) rfl rfl trivial (fun hHeld => ?_); refine with_tabW spec_FragmentsKnown.tab14 spec_FragmentsKnown.bits14 (fun HT_ HW_ => ?_)
                 generalize w21.drew = w28 at HO_3 HO119 HB hHeld ⊢
                 refine pure_ (i := 0) (N := some 87) (v := ?_) (a' := ?_) #[true, false, false, false, false, false, false, false, false, false, false, false, false, false, false, false, false, false, false, false, false, false, false, false, false, false, false, false] rfl rfl (any_of HT_.out (by kernel_rfl)) (fun _ _ _ h => h) (Or.inl ⟨by rfl, ?_⟩) ?_ ?_
                 rotate_left
                 ·intro w'
                  go_simp
                  with_reducible rfl
                 rotate_left
                 ·simp only [Act.put, List.setIfInBounds_toArray, List.set_cons_zero, List.set_cons_succ, i64_w, i32_w]
                  rfl
                 refine pure_ (i := 1) (N := some 88) (v := ?_) (a' := ?_) #[true, true, false, false, false, false, false, false, false, false, false, false, false, false, false, false, false, false, false, false, false, false, false, false, false, false, false, false] rfl rfl (any_of HT_.out (by kernel_rfl)) (fun _ _ _ h => h) (Or.inl ⟨by rfl, ?_⟩) ?_ ?_
                 rotate_left
                 ·intro w'
                  go_simp
                  with_reducible rfl
                 rotate_left
                 ·simp only [Act.put, List.setIfInBounds_toArray, List.set_cons_zero, List.set_cons_succ, i64_w, i32_w]
                  rfl
                 refine pure_ (i := 2) (N := some 89) (v := ?_) (a' := ?_) #[true, true, true, false, false, false, false, false, false, false, false, false, false, false, false, false, false, false, false, false, false, false, false, false, false, false, false, false] rfl rfl (any_of HT_.out (by kernel_rfl)) (fun _ _ _ h => h) (Or.inl ⟨by rfl, ?_⟩) ?_ ?_
                 rotate_left
                 ·intro w'
                  go_simp
                  with_reducible rfl
                 rotate_left
                 ·simp only [Act.put, List.setIfInBounds_toArray, List.set_cons_zero, List.set_cons_succ, i64_w, i32_w]
                  rfl
                 refine pure_ (i := 3) (N := some 90) (v := undef) (a' := ?_) #[true, true, true, true, false, false, false, false, false, false, false, false, false, false, false, false, false, false, false, false, false, false, false, false, false, false, false, false] rfl rfl (any_of HT_.out (by kernel_rfl)) (fun _ _ _ h => h) (Or.inr ⟨by rfl, rfl⟩) ?_ ?_
                 rotate_left
                 ·simp only [Act.put, List.setIfInBounds_toArray, List.set_cons_zero, List.set_cons_succ, i64_w, i32_w]
                  rfl
                 refine pure_ (i := 4) (N := some 91) (v := undef) (a' := ?_) #[true, true, true, true, true, false, false, false, false, false, false, false, false, false, false, false, false, false, false, false, false, false, false, false, false, false, false, false] rfl rfl (any_of HT_.out (by kernel_rfl)) (fun _ _ _ h => h) (Or.inr ⟨by rfl, rfl⟩) ?_ ?_
                 rotate_left
                 ·simp only [Act.put, List.setIfInBounds_toArray, List.set_cons_zero, List.set_cons_succ, i64_w, i32_w]
                  rfl
                 refine pure_ (i := 5) (N := some 92) (v := undef) (a' := ?_) #[true, true, true, true, true, true, false, false, false, false, false, false, false, false, false, false, false, false, false, false, false, false, false, false, false, false, false, false] rfl rfl (any_of HT_.out (by kernel_rfl)) (fun _ _ _ h => h) (Or.inr ⟨by rfl, rfl⟩) ?_ ?_
                 rotate_left
                 ·simp only [Act.put, List.setIfInBounds_toArray, List.set_cons_zero, List.set_cons_succ, i64_w, i32_w]
                  rfl
                 refine pure_ (i := 6) (N := some 93) (v := undef) (a' := ?_) #[true, true, true, true, true, true, true, false, false, false, false, false, false, false, false, false, false, false, false, false, false, false, false, false, false, false, false, false] rfl rfl (any_of HT_.out (by kernel_rfl)) (fun _ _ _ h => h) (Or.inr ⟨by rfl, rfl⟩) ?_ ?_
                 rotate_left
                 ·simp only [Act.put, List.setIfInBounds_toArray, List.set_cons_zero, List.set_cons_succ, i64_w, i32_w]
                  rfl
                 refine pure_ (i := 7) (N := some 94) (v := undef) (a' := ?_) #[true, true, true, true, true, true, true, true, false, false, false, false, false, false, false, false, false, false, false, false, false, false, false, false, false, false, false, false] rfl rfl (any_of HT_.out (by kernel_rfl)) (fun _ _ _ h => h) (Or.inr ⟨by rfl, rfl⟩) ?_ ?_
                 rotate_left
                 ·simp only [Act.put, List.setIfInBounds_toArray, List.set_cons_zero, List.set_cons_succ, i64_w, i32_w]
                  rfl
                 refine pure_ (i := 8) (N := some 95) (v := undef) (a' := ?_) #[true, true, true, true, true, true, true, true, true, false, false, false, false, false, false, false, false, false, false, false, false, false, false, false, false, false, false, false] rfl rfl (any_of HT_.out (by kernel_rfl)) (fun _ _ _ h => h) (Or.inr ⟨by rfl, rfl⟩) ?_ ?_
                 rotate_left
                 ·simp only [Act.put, List.setIfInBounds_toArray, List.set_cons_zero, List.set_cons_succ, i64_w, i32_w]
                  rfl
                 refine pure_ (i := 9) (N := some 96) (v := undef) (a' := ?_) #[true, true, true, true, true, true, true, true, true, true, false, false, false, false, false, false, false, false, false, false, false, false, false, false, false, false, false, false] rfl rfl (any_of HT_.out (by kernel_rfl)) (fun _ _ _ h => h) (Or.inr ⟨by rfl, rfl⟩) ?_ ?_
                 rotate_left
                 ·simp only [Act.put, List.setIfInBounds_toArray, List.set_cons_zero, List.set_cons_succ, i64_w, i32_w]
                  rfl
                 refine pure_ (i := 10) (N := some 97) (v := undef) (a' := ?_) #[true, true, true, true, true, true, true, true, true, true, true, false, false, false, false, false, false, false, false, false, false, false, false, false, false, false, false, false] rfl rfl (any_of HT_.out (by kernel_rfl)) (fun _ _ _ h => h) (Or.inr ⟨by rfl, rfl⟩) ?_ ?_
                 rotate_left
                 ·simp only [Act.put, List.setIfInBounds_toArray, List.set_cons_zero, List.set_cons_succ, i64_w, i32_w]
                  rfl
                 refine pure_ (i := 11) (N := some 98) (v := undef) (a' := ?_) #[true, true, true, true, true, true, true, true, true, true, true, true, false, false, false, false, false, false, false, false, false, false, false, false, false, false, false, false] rfl rfl (any_of HT_.out (by kernel_rfl)) (fun _ _ _ h => h) (Or.inr ⟨by rfl, rfl⟩) ?_ ?_
                 rotate_left
                 ·simp only [Act.put, List.setIfInBounds_toArray, List.set_cons_zero, List.set_cons_succ, i64_w, i32_w]
                  rfl
                 refine pure_ (i := 12) (N := some 99) (v := undef) (a' := ?_) #[true, true, true, true, true, true, true, true, true, true, true, true, true, false, false, false, false, false, false, false, false, false, false, false, false, false, false, false] rfl rfl (any_of HT_.out (by kernel_rfl)) (fun _ _ _ h => h) (Or.inr ⟨by rfl, rfl⟩) ?_ ?_
                 rotate_left
                 ·simp only [Act.put, List.setIfInBounds_toArray, List.set_cons_zero, List.set_cons_succ, i64_w, i32_w]
                  rfl
                 refine pure_ (i := 13) (N := some 100) (v := undef) (a' := ?_) #[true, true, true, true, true, true, true, true, true, true, true, true, true, true, false, false, false, false, false, false, false, false, false, false, false, false, false, false] rfl rfl (any_of HT_.out (by kernel_rfl)) (fun _ _ _ h => h) (Or.inr ⟨by rfl, rfl⟩) ?_ ?_
                 rotate_left
                 ·simp only [Act.put, List.setIfInBounds_toArray, List.set_cons_zero, List.set_cons_succ, i64_w, i32_w]
                  rfl
                 refine pure_ (i := 14) (N := some 101) (v := undef) (a' := ?_) #[true, true, true, true, true, true, true, true, true, true, true, true, true, true, true, false, false, false, false, false, false, false, false, false, false, false, false, false] rfl rfl (any_of HT_.out (by kernel_rfl)) (fun _ _ _ h => h) (Or.inr ⟨by rfl, rfl⟩) ?_ ?_
                 rotate_left
                 ·simp only [Act.put, List.setIfInBounds_toArray, List.set_cons_zero, List.set_cons_succ, i64_w, i32_w]
                  rfl
                 refine pure_ (i := 15) (N := some 102) (v := undef) (a' := ?_) #[true, true, true, true, true, true, true, true, true, true, true, true, true, true, true, true, false, false, false, false, false, false, false, false, false, false, false, false] rfl rfl (any_of HT_.out (by kernel_rfl)) (fun _ _ _ h => h) (Or.inr ⟨by rfl, rfl⟩) ?_ ?_
                 rotate_left
                 ·simp only [Act.put, List.setIfInBounds_toArray, List.set_cons_zero, List.set_cons_succ, i64_w, i32_w]
                  rfl
                 refine pure_ (i := 16) (N := some 103) (v := undef) (a' := ?_) #[true, true, true, true, true, true, true, true, true, true, true, true, true, true, true, true, true, false, false, false, false, false, false, false, false, false, false, false] rfl rfl (any_of HT_.out (by kernel_rfl)) (fun _ _ _ h => h) (Or.inr ⟨by rfl, rfl⟩) ?_ ?_
                 rotate_left
                 ·simp only [Act.put, List.setIfInBounds_toArray, List.set_cons_zero, List.set_cons_succ, i64_w, i32_w]
                  rfl
                 refine pure_ (i := 17) (N := some 104) (v := undef) (a' := ?_) #[true, true, true, true, true, true, true, true, true, true, true, true, true, true, true, true, true, true, false, false, false, false, false, false, false, false, false, false] rfl rfl (any_of HT_.out (by kernel_rfl)) (fun _ _ _ h => h) (Or.inr ⟨by rfl, rfl⟩) ?_ ?_
                 rotate_left
                 ·simp only [Act.put, List.setIfInBounds_toArray, List.set_cons_zero, List.set_cons_succ, i64_w, i32_w]
                  rfl
                 refine pure_ (i := 18) (N := some 105) (v := undef) (a' := ?_) #[true, true, true, true, true, true, true, true, true, true, true, true, true, true, true, true, true, true, true, false, false, false, false, false, false, false, false, false] rfl rfl (any_of HT_.out (by kernel_rfl)) (fun _ _ _ h => h) (Or.inr ⟨by rfl, rfl⟩) ?_ ?_
                 rotate_left
                 ·simp only [Act.put, List.setIfInBounds_toArray, List.set_cons_zero, List.set_cons_succ, i64_w, i32_w]
                  rfl
                 refine pure_ (i := 19) (N := some 106) (v := undef) (a' := ?_) #[true, true, true, true, true, true, true, true, true, true, true, true, true, true, true, true, true, true, true, true, false, false, false, false, false, false, false, false] rfl rfl (any_of HT_.out (by kernel_rfl)) (fun _ _ _ h => h) (Or.inr ⟨by rfl, rfl⟩) ?_ ?_
                 rotate_left
                 ·simp only [Act.put, List.setIfInBounds_toArray, List.set_cons_zero, List.set_cons_succ, i64_w, i32_w]
                  rfl
                 refine pure_ (i := 20) (N := some 107) (v := undef) (a' := ?_) #[true, true, true, true, true, true, true, true, true, true, true, true, true, true, true, true, true, true, true, true, true, false, false, false, false, false, false, false] rfl rfl (any_of HT_.out (by kernel_rfl)) (fun _ _ _ h => h) (Or.inr ⟨by rfl, rfl⟩) ?_ ?_
                 rotate_left
                 ·simp only [Act.put, List.setIfInBounds_toArray, List.set_cons_zero, List.set_cons_succ, i64_w, i32_w]
                  rfl
                 refine pure_ (i := 21) (N := some 108) (v := undef) (a' := ?_) #[true, true, true, true, true, true, true, true, true, true, true, true, true, true, true, true, true, true, true, true, true, true, false, false, false, false, false, false] rfl rfl (any_of HT_.out (by kernel_rfl)) (fun _ _ _ h => h) (Or.inr ⟨by rfl, rfl⟩) ?_ ?_
                 rotate_left
                 ·simp only [Act.put, List.setIfInBounds_toArray, List.set_cons_zero, List.set_cons_succ, i64_w, i32_w]
                  rfl
                 refine pure_ (i := 22) (N := some 109) (v := undef) (a' := ?_) #[true, true, true, true, true, true, true, true, true, true, true, true, true, true, true, true, true, true, true, true, true, true, true, false, false, false, false, false] rfl rfl (any_of HT_.out (by kernel_rfl)) (fun _ _ _ h => h) (Or.inr ⟨by rfl, rfl⟩) ?_ ?_
                 rotate_left
                 ·simp only [Act.put, List.setIfInBounds_toArray, List.set_cons_zero, List.set_cons_succ, i64_w, i32_w]
                  rfl
                 refine pure_ (i := 23) (N := some 110) (v := undef) (a' := ?_) #[true, true, true, true, true, true, true, true, true, true, true, true, true, true, true, true, true, true, true, true, true, true, true, true, false, false, false, false] rfl rfl (any_of HT_.out (by kernel_rfl)) (fun _ _ _ h => h) (Or.inr ⟨by rfl, rfl⟩) ?_ ?_
                 rotate_left
                 ·simp only [Act.put, List.setIfInBounds_toArray, List.set_cons_zero, List.set_cons_succ, i64_w, i32_w]
                  rfl
                 refine pure_ (i := 24) (N := some 111) (v := undef) (a' := ?_) #[true, true, true, true, true, true, true, true, true, true, true, true, true, true, true, true, true, true, true, true, true, true, true, true, true, false, false, false] rfl rfl (any_of HT_.out (by kernel_rfl)) (fun _ _ _ h => h) (Or.inr ⟨by rfl, rfl⟩) ?_ ?_
                 rotate_left
                 ·simp only [Act.put, List.setIfInBounds_toArray, List.set_cons_zero, List.set_cons_succ, i64_w, i32_w]
                  rfl
                 refine pure_ (i := 25) (N := some 112) (v := undef) (a' := ?_) #[true, true, true, true, true, true, true, true, true, true, true, true, true, true, true, true, true, true, true, true, true, true, true, true, true, true, false, false] rfl rfl (any_of HT_.out (by kernel_rfl)) (fun _ _ _ h => h) (Or.inr ⟨by rfl, rfl⟩) ?_ ?_
                 rotate_left
                 ·simp only [Act.put, List.setIfInBounds_toArray, List.set_cons_zero, List.set_cons_succ, i64_w, i32_w]
                  rfl
                 refine pure_ (i := 26) (N := some 113) (v := undef) (a' := ?_) #[true, true, true, true, true, true, true, true, true, true, true, true, true, true, true, true, true, true, true, true, true, true, true, true, true, true, true, false] rfl rfl (any_of HT_.out (by kernel_rfl)) (fun _ _ _ h => h) (Or.inr ⟨by rfl, rfl⟩) ?_ ?_
                 rotate_left
                 ·simp only [Act.put, List.setIfInBounds_toArray, List.set_cons_zero, List.set_cons_succ, i64_w, i32_w]
                  rfl
                 refine pure_ (i := 27) (N := some 114) (v := ?_) (a' := ?_) #[true, true, true, true, true, true, true, true, true, true, true, true, true, true, true, true, true, true, true, true, true, true, true, true, true, true, true, true] rfl rfl (any_of HT_.out (by kernel_rfl)) (fun _ _ _ h => h) (Or.inl ⟨by rfl, ?_⟩) ?_ ?_
                 rotate_left
                 ·intro w'
                  go_simp
                  with_reducible rfl
                 rotate_left
                 ·simp only [Act.put, List.setIfInBounds_toArray, List.set_cons_zero, List.set_cons_succ, i64_w, i32_w]
                  rfl
                 refine done_ (done_of HT_.out (by kernel_rfl)) ?_
                 try go_wp2
                 go_meet
                 case rel => exact ⟨_, (true), (by first | rfl | (simp; done) | (simp [*]; done)), H', ⟨by have := HK1.out; have := HJ5.out; first | omega | exact Nat.le_refl _⟩, ⟨by (with_reducible repeat (first | apply Kd.R_alloc | apply Kd.R_drewN | apply Kd.R_drew)); exact Kd.R_mono HO_3.out (fun _ hk => hk.2)⟩, ⟨by (with_reducible repeat (first | apply Kd.R_alloc | apply Kd.R_drewN | apply Kd.R_drew)); exact Kd.R_mono HO119.out (fun _ hk => hk.2)⟩, ⟨by repeat (first | (with_reducible first | exact HB.out | apply below_alloc | apply pw_below_drewN | apply below_drew1) | exact HB.out)⟩⟩
               case rest =>
                clear HC20
                try clear c1
                try clear p1
                try clear q1
                try clear hx1
                try clear qi1
                try clear c2
                try clear p2
                try clear q2
                try clear hx2
                try clear qi2
                try clear c3
                try clear q4
                try clear c5
                try clear p6
                try clear c7
                try clear c7b0
                try clear c7b1
                try clear c8
                try clear c8b0
                try clear c8b1
                try clear p9
                try clear q9
                try clear hx9
                try clear qi9
                try clear c10
                try clear c10b0
                try clear c10b1
                try clear p10
                try clear q10
                try clear hx10
                try clear c11
                try clear c11b0
                try clear c11b1
                try clear p11
                try clear q11
                try clear hx11
                try clear p12
                try clear q12
                try clear hx12
                try clear qi12
                try clear c13
                try clear c14
                try clear c14b0
                try clear c15
                try clear c15b0
                try clear c16
                try clear c16b0
                try clear c16b1
                try clear p17
                try clear q17
                try clear hx17
                try clear qi17
                try clear c18
                try clear c18b0
                try clear c18b1
                try clear c22
                try clear c23
                try clear c23b0
                try clear c23b1
                try clear p24
                try clear q24
                try clear hx24
                try clear qi24
                try clear c25
                try clear c25b0
                try clear c25b1
                try clear p26
                try clear q26
                try clear hx26
                try clear qi26
                try clear hx107_0
                try clear hx107_1
                try clear hx108_0
                try clear hx108_1
                try clear hx109_0
                try clear hx109_1
                try clear hx110_0
                try clear hx110_1
                try clear hx111_0
                try clear hx111_1
                try clear hx112_0
                try clear hx112_1
                try clear hx115_0
                try clear hx115_1
                try clear hx120_0
                try clear hx120_1
                try clear hx121_0
                try clear hx121_1
                try clear hx122_0
                try clear hx122_1
                try clear p10
                try clear p107
                try clear p108
                try clear p109
                try clear p11
                try clear p110
                try clear p111
                try clear p112
                try clear p115
                try clear p12
                try clear p120
                try clear p121
                try clear p122
                try clear p17
                try clear p24
                try clear p26
                try clear p6
                try clear p9
                try clear q10
                try clear q107
                try clear q108
                try clear q109
                try clear q11
                try clear q110
                try clear q111
                try clear q112
                try clear q115
                try clear q12
                try clear q120
                try clear q121
                try clear q122
                try clear q17
                try clear q24
                try clear q26
                try clear q4
                try clear q9
                obtain ⟨kq, x114_19, rfl, HA, HJ19, HO_3, HO_6, HB⟩ := hcut
                cases kq with
                | zero => exact absurd HA.out (by simp [spec_FragmentsKnown.j2])
                | succ kj19 =>
                  have H := HA.out
                  clear HA
                  simp only [spec_FragmentsKnown.j2] at H
                  by_cases c29 : x114_19 = true
                  ·subst c29
                   have H1 : (some false) = some r := by rw [if_pos rfl] at H; exact H
                   clear H
                   have H := H1
                   clear H1
                   obtain rfl := Option.some.inj H
                   go_wp2
                   go_ret
                   exact ⟨by first | rfl | (simp [errW_none, errW_some] <;> rfl) | (simp [*, errW_none, errW_some] <;> rfl), by repeat (first | (with_reducible first | exact HB.out | apply below_alloc | apply pw_below_drewN | apply below_drew1) | exact HB.out)⟩
                  ·replace c29 := Bool.eq_false_iff.mpr c29
                   subst c29
                   have H1 : (spec_FragmentsKnown.l1 kj19 l0 x3_1 (wrap64 (x4_1 + (((rd_T45 l0 x5_1).f1).size : Int))) x5_1 t116 0) = some r := by rw [if_neg (show ¬ (false = true) by decide)] at H; exact H
                   clear H
                   have H := H1
                   clear H1
                   have H' := Aside0.mk H
                   clear H
                   go_wp2
                   go_loopg [3, 8] kj19 (fun kq v3 v8 w' => ∃ (x3_4 : List (S69)) (x8_4 : Int), v8 = .int .i64 x8_4 ∧ Aside0 (spec_FragmentsKnown.l1 kq l0 x3_4 (wrap64 (x4_1 + (((rd_T45 l0 x5_1).f1).size : Int))) x5_1 t116 x8_4 = some r) ∧ Aside0 (kq ≤ kj19) ∧ Aside0 (Kd.R k69 69 w' w.heap.size (fun k_ => some k_ ≠ (v118 : Value).ownBlock) v3 x3_4) ∧ Aside0 (Kd.R k69 69 w' w.heap.size (fun k_ => some k_ ≠ (v3 : Value).ownBlock) v118 t116) ∧ Aside0 (Below w.heap.size w w'))
                   case atStart => exact ⟨(x3_1), (0), (by first | rfl | (simp; done) | (simp [*]; done)), H', ⟨Nat.le_refl _⟩, ⟨by (with_reducible repeat (first | apply Kd.R_alloc | apply Kd.R_drewN | apply Kd.R_drew)); exact HO_3.out⟩, ⟨by (with_reducible repeat (first | apply Kd.R_alloc | apply Kd.R_drewN | apply Kd.R_drew)); exact HO_6.out⟩, ⟨by repeat (first | (with_reducible first | exact HB.out | apply below_alloc | apply pw_below_drewN | apply below_drew1) | exact HB.out)⟩⟩
                   case round =>
                    clear H'
                    try clear c1
                    try clear p1
                    try clear q1
                    try clear hx1
                    try clear qi1
                    try clear c2
                    try clear p2
                    try clear q2
                    try clear hx2
                    try clear qi2
                    try clear c3
                    try clear q4
                    try clear c5
                    try clear p6
                    try clear c7
                    try clear c7b0
                    try clear c7b1
                    try clear c8
                    try clear c8b0
                    try clear c8b1
                    try clear p9
                    try clear q9
                    try clear hx9
                    try clear qi9
                    try clear c10
                    try clear c10b0
                    try clear c10b1
                    try clear p10
                    try clear q10
                    try clear hx10
                    try clear c11
                    try clear c11b0
                    try clear c11b1
                    try clear p11
                    try clear q11
                    try clear hx11
                    try clear p12
                    try clear q12
                    try clear hx12
                    try clear qi12
                    try clear c13
                    try clear c14
                    try clear c14b0
                    try clear c15
                    try clear c15b0
                    try clear c16
                    try clear c16b0
                    try clear c16b1
                    try clear p17
                    try clear q17
                    try clear hx17
                    try clear qi17
                    try clear c18
                    try clear c18b0
                    try clear c18b1
                    try clear c22
                    try clear c23
                    try clear c23b0
                    try clear c23b1
                    try clear p24
                    try clear q24
                    try clear hx24
                    try clear qi24
                    try clear c25
                    try clear c25b0
                    try clear c25b1
                    try clear p26
                    try clear q26
                    try clear hx26
                    try clear qi26
                    try clear c29
                    try clear hx107_0
                    try clear hx107_1
                    try clear hx108_0
                    try clear hx108_1
                    try clear hx109_0
                    try clear hx109_1
                    try clear hx110_0
                    try clear hx110_1
                    try clear hx111_0
                    try clear hx111_1
                    try clear hx112_0
                    try clear hx112_1
                    try clear hx115_0
                    try clear hx115_1
                    try clear hx120_0
                    try clear hx120_1
                    try clear hx121_0
                    try clear hx121_1
                    try clear hx122_0
                    try clear hx122_1
                    try clear p1
                    try clear p10
                    try clear p107
                    try clear p108
                    try clear p109
                    try clear p11
                    try clear p110
                    try clear p111
                    try clear p112
                    try clear p115
                    try clear p12
                    try clear p120
                    try clear p121
                    try clear p122
                    try clear p17
                    try clear p2
                    try clear p24
                    try clear p26
                    try clear p6
                    try clear p9
                    try clear q1
                    try clear q10
                    try clear q107
                    try clear q108
                    try clear q109
                    try clear q11
                    try clear q110
                    try clear q111
                    try clear q112
                    try clear q115
                    try clear q12
                    try clear q120
                    try clear q121
                    try clear q122
                    try clear q17
                    try clear q2
                    try clear q24
                    try clear q26
                    try clear q4
                    try clear q9
                    obtain ⟨x3_4, x8_4, rfl, HA, HK4, HO_3, HO_6, HB⟩ := hrel
                    cases gk with
                    | zero => exact absurd HA.out (by simp [spec_FragmentsKnown.l1])
                    | succ k4 =>
                      have H := HA.out
                      clear HA
                      simp only [spec_FragmentsKnown.l1] at H
                      by_cases c30 : x8_4 < (t116.length : Int)
                      ·rw [if_pos c30] at H
                       have c30b0 : decide (x8_4 < (t116.length : Int)) = true := decide_eq_true c30
                       clear c30
                       have HC31 := Aside0.mk H
                       clear H
                       obtain ⟨Ao32, co32, eo32⟩ := Kd.R_slice HO_6.out
                       subst eo32
                       go_upto_region 19 with (fail)
                       go_cut [134] (fun v134 wc => ∃ (kq : Nat) (x134_30 : Bool), v134 = .bool x134_30 ∧ Aside0 (spec_FragmentsKnown.j4 kq l0 x3_4 (wrap64 (x4_1 + (((rd_T45 l0 x5_1).f1).size : Int))) x5_1 t116 x8_4 x134_30 = some r) ∧ Aside0 (kq ≤ k4) ∧ Aside0 (Kd.R k69 69 wc w.heap.size (fun k_ => some k_ ≠ ((.slice Ao32 t116.length co32) : Value).ownBlock) u3 x3_4) ∧ Aside0 (Kd.R k69 69 wc w.heap.size (fun k_ => some k_ ≠ (u3 : Value).ownBlock) (.slice Ao32 t116.length co32) t116) ∧ Aside0 (Below w.heap.size w wc))
                       case first =>
                        have H := HC31.out
                        clear HC31
                        by_cases c33 : 0 ≤ x8_4
                        ·rw [if_pos c33] at H
                         have c33b0 : decide (0 ≤ x8_4) = true := decide_eq_true c33
                         clear c33
                         (first | rw [c33b0] | (simp only [i64_w, i32_w]; rw [c33b0]) | skip)
                         by_cases c34 : ((rd_T69 t116 x8_4).f4).toList = ([] : List UInt8)
                         ·rw [if_pos c34] at H
                          have c34b0 : (((rd_T69 t116 x8_4).f4).toList == ([] : List UInt8)) = true := beq_iff_eq.mpr c34
                          have c34b1 : (((rd_T69 t116 x8_4).f4).toList != ([] : List UInt8)) = false := bne_eq_false_iff_eq.mpr c34
                          clear c34
                          have H' := Aside0.mk H
                          clear H
                          have p123 : 0 ≤ (x8_4 : Int) := of_decide_eq_true (by first | (with_reducible assumption) | assumption)
                          have q123 : x8_4 < (t116.length : Int) := of_decide_eq_true (by first | (with_reducible assumption) | assumption)
                          obtain ⟨ad123, e123, hx123_0, hx123_1, hx123_2, hx123_3, hx123_4, hx123_5⟩ := at_T69 (Kd.R_reads' HO_6.out).2.2 x8_4 p123 q123
                          cases e123
                          replace p123 := eq_true p123
                          replace q123 := eq_true q123
                          have p124 : 0 ≤ (x8_4 : Int) := of_decide_eq_true (by first | (with_reducible assumption) | assumption)
                          have q124 : x8_4 < (t116.length : Int) := of_decide_eq_true (by first | (with_reducible assumption) | assumption)
                          obtain ⟨ad124, e124, hx124_0, hx124_1, hx124_2, hx124_3, hx124_4, hx124_5⟩ := at_T69 (Kd.R_reads' HO_6.out).2.2 x8_4 p124 q124
                          obtain rfl : ad123 = ad124 := (by injection e124)
                          replace p124 := eq_true p124
                          replace q124 := eq_true q124
                          go_wp2
                          go_meet
                          case rel => exact ⟨_, (decide (((rd_T69 t116 x8_4).f1) > 0)), (by first | rfl | (simp; done) | (simp [*]; done)), H', ⟨by have := HK1.out; have := HJ5.out; have := HJ19.out; have := HK4.out; first | omega | exact Nat.le_refl _⟩, ⟨by (with_reducible repeat (first | apply Kd.R_alloc | apply Kd.R_drewN | apply Kd.R_drew)); exact HO_3.out⟩, ⟨by (with_reducible repeat (first | apply Kd.R_alloc | apply Kd.R_drewN | apply Kd.R_drew)); exact HO_6.out⟩, ⟨by repeat (first | (with_reducible first | exact HB.out | apply below_alloc | apply pw_below_drewN | apply below_drew1) | exact HB.out)⟩⟩
                         ·rw [if_neg c34] at H
                          have c34b0 : (((rd_T69 t116 x8_4).f4).toList == ([] : List UInt8)) = false := beq_eq_false_iff_ne.mpr c34
                          have c34b1 : (((rd_T69 t116 x8_4).f4).toList != ([] : List UInt8)) = true := bne_iff_ne.mpr c34
                          have H' := Aside0.mk H
                          clear H
                          have p123 : 0 ≤ (x8_4 : Int) := of_decide_eq_true (by first | (with_reducible assumption) | assumption)
                          have q123 : x8_4 < (t116.length : Int) := of_decide_eq_true (by first | (with_reducible assumption) | assumption)
                          obtain ⟨ad123, e123, hx123_0, hx123_1, hx123_2, hx123_3, hx123_4, hx123_5⟩ := at_T69 (Kd.R_reads' HO_6.out).2.2 x8_4 p123 q123
                          cases e123
                          replace p123 := eq_true p123
                          replace q123 := eq_true q123
                          go_wp2
                          go_meet
                          case rel => exact ⟨_, (false), (by first | rfl | (simp; done) | (simp [*]; done)), H', ⟨by have := HK1.out; have := HJ5.out; have := HJ19.out; have := HK4.out; first | omega | exact Nat.le_refl _⟩, ⟨by (with_reducible repeat (first | apply Kd.R_alloc | apply Kd.R_drewN | apply Kd.R_drew)); exact HO_3.out⟩, ⟨by (with_reducible repeat (first | apply Kd.R_alloc | apply Kd.R_drewN | apply Kd.R_drew)); exact HO_6.out⟩, ⟨by repeat (first | (with_reducible first | exact HB.out | apply below_alloc | apply pw_below_drewN | apply below_drew1) | exact HB.out)⟩⟩
                        ·rw [if_neg c33] at H
                         exact absurd H (by simp)
                       case rest =>
                        clear HC31
                        try clear c1
                        try clear p1
                        try clear q1
                        try clear hx1
                        try clear qi1
                        try clear c2
                        try clear p2
                        try clear q2
                        try clear hx2
                        try clear qi2
                        try clear c3
                        try clear q4
                        try clear c5
                        try clear p6
                        try clear c7
                        try clear c7b0
                        try clear c7b1
                        try clear c8
                        try clear c8b0
                        try clear c8b1
                        try clear p9
                        try clear q9
                        try clear hx9
                        try clear qi9
                        try clear c10
                        try clear c10b0
                        try clear c10b1
                        try clear p10
                        try clear q10
                        try clear hx10
                        try clear c11
                        try clear c11b0
                        try clear c11b1
                        try clear p11
                        try clear q11
                        try clear hx11
                        try clear p12
                        try clear q12
                        try clear hx12
                        try clear qi12
                        try clear c13
                        try clear c14
                        try clear c14b0
                        try clear c15
                        try clear c15b0
                        try clear c16
                        try clear c16b0
                        try clear c16b1
                        try clear p17
                        try clear q17
                        try clear hx17
                        try clear qi17
                        try clear c18
                        try clear c18b0
                        try clear c18b1
                        try clear c22
                        try clear c23
                        try clear c23b0
                        try clear c23b1
                        try clear p24
                        try clear q24
                        try clear hx24
                        try clear qi24
                        try clear c25
                        try clear c25b0
                        try clear c25b1
                        try clear p26
                        try clear q26
                        try clear hx26
                        try clear qi26
                        try clear c29
                        try clear c30
                        try clear c30b0
                        try clear c33
                        try clear c33b0
                        try clear c34
                        try clear c34b0
                        try clear c34b1
                        try clear hx107_0
                        try clear hx107_1
                        try clear hx108_0
                        try clear hx108_1
                        try clear hx109_0
                        try clear hx109_1
                        try clear hx110_0
                        try clear hx110_1
                        try clear hx111_0
                        try clear hx111_1
                        try clear hx112_0
                        try clear hx112_1
                        try clear hx115_0
                        try clear hx115_1
                        try clear hx120_0
                        try clear hx120_1
                        try clear hx121_0
                        try clear hx121_1
                        try clear hx122_0
                        try clear hx122_1
                        try clear hx123_0
                        try clear hx123_1
                        try clear hx123_2
                        try clear hx123_3
                        try clear hx123_4
                        try clear hx123_5
                        try clear hx124_0
                        try clear hx124_1
                        try clear hx124_2
                        try clear hx124_3
                        try clear hx124_4
                        try clear hx124_5
                        try clear p1
                        try clear p10
                        try clear p107
                        try clear p108
                        try clear p109
                        try clear p11
                        try clear p110
                        try clear p111
                        try clear p112
                        try clear p115
                        try clear p12
                        try clear p120
                        try clear p121
                        try clear p122
                        try clear p123
                        try clear p124
                        try clear p17
                        try clear p2
                        try clear p24
                        try clear p26
                        try clear p6
                        try clear p9
                        try clear q1
                        try clear q10
                        try clear q107
                        try clear q108
                        try clear q109
                        try clear q11
                        try clear q110
                        try clear q111
                        try clear q112
                        try clear q115
                        try clear q12
                        try clear q120
                        try clear q121
                        try clear q122
                        try clear q123
                        try clear q124
                        try clear q17
                        try clear q2
                        try clear q24
                        try clear q26
                        try clear q4
                        try clear q9
                        obtain ⟨kq, x134_30, rfl, HA, HJ30, HO_3, HO_6, HB⟩ := hcut
                        cases kq with
                        | zero => exact absurd HA.out (by simp [spec_FragmentsKnown.j4])
                        | succ kj30 =>
                          have H := HA.out
                          clear HA
                          simp only [spec_FragmentsKnown.j4] at H
                          by_cases c35 : x134_30 = true
                          ·subst c35
                           have H1 : (some false) = some r := by rw [if_pos rfl] at H; exact H
                           clear H
                           have H := H1
                           clear H1
                           obtain rfl := Option.some.inj H
                           go_wp2
                           go_ret
                           exact ⟨by first | rfl | (simp [errW_none, errW_some] <;> rfl) | (simp [*, errW_none, errW_some] <;> rfl), by repeat (first | (with_reducible first | exact HB.out | apply below_alloc | apply pw_below_drewN | apply below_drew1) | exact HB.out)⟩
                          ·replace c35 := Bool.eq_false_iff.mpr c35
                           subst c35
                           have H1 : (spec_FragmentsKnown.l2 kj30 l0 x3_4 (wrap64 (x4_1 + (((rd_T45 l0 x5_1).f1).size : Int))) x5_1 t116 x8_4 0) = some r := by rw [if_neg (show ¬ (false = true) by decide)] at H; exact H
                           clear H
                           have H := H1
                           clear H1
                           have H' := Aside0.mk H
                           clear H
                           go_wp2
                           go_loopg [9] kj30 (fun kq v9 w' => ∃ (x9_6 : Int), v9 = .int .i64 x9_6 ∧ Aside0 (spec_FragmentsKnown.l2 kq l0 x3_4 (wrap64 (x4_1 + (((rd_T45 l0 x5_1).f1).size : Int))) x5_1 t116 x8_4 x9_6 = some r) ∧ Aside0 (kq ≤ kj30) ∧ Aside0 (Kd.R k69 69 w' w.heap.size (fun k_ => some k_ ≠ ((.slice Ao32 t116.length co32) : Value).ownBlock) u3 x3_4) ∧ Aside0 (Kd.R k69 69 w' w.heap.size (fun k_ => some k_ ≠ (u3 : Value).ownBlock) (.slice Ao32 t116.length co32) t116) ∧ Aside0 (Below w.heap.size w w'))
                           case atStart => exact ⟨(0), (by first | rfl | (simp; done) | (simp [*]; done)), H', ⟨Nat.le_refl _⟩, ⟨by (with_reducible repeat (first | apply Kd.R_alloc | apply Kd.R_drewN | apply Kd.R_drew)); exact HO_3.out⟩, ⟨by (with_reducible repeat (first | apply Kd.R_alloc | apply Kd.R_drewN | apply Kd.R_drew)); exact HO_6.out⟩, ⟨by repeat (first | (with_reducible first | exact HB.out | apply below_alloc | apply pw_below_drewN | apply below_drew1) | exact HB.out)⟩⟩
                           case round =>
                            clear H'
                            try clear c1
                            try clear p1
                            try clear q1
                            try clear hx1
                            try clear qi1
                            try clear c2
                            try clear p2
                            try clear q2
                            try clear hx2
                            try clear qi2
                            try clear c3
                            try clear q4
                            try clear c5
                            try clear p6
                            try clear c7
                            try clear c7b0
                            try clear c7b1
                            try clear c8
                            try clear c8b0
                            try clear c8b1
                            try clear p9
                            try clear q9
                            try clear hx9
                            try clear qi9
                            try clear c10
                            try clear c10b0
                            try clear c10b1
                            try clear p10
                            try clear q10
                            try clear hx10
                            try clear c11
                            try clear c11b0
                            try clear c11b1
                            try clear p11
                            try clear q11
                            try clear hx11
                            try clear p12
                            try clear q12
                            try clear hx12
                            try clear qi12
                            try clear c13
                            try clear c14
                            try clear c14b0
                            try clear c15
                            try clear c15b0
                            try clear c16
                            try clear c16b0
                            try clear c16b1
                            try clear p17
                            try clear q17
                            try clear hx17
                            try clear qi17
                            try clear c18
                            try clear c18b0
                            try clear c18b1
                            try clear c22
                            try clear c23
                            try clear c23b0
                            try clear c23b1
                            try clear p24
                            try clear q24
                            try clear hx24
                            try clear qi24
                            try clear c25
                            try clear c25b0
                            try clear c25b1
                            try clear p26
                            try clear q26
                            try clear hx26
                            try clear qi26
                            try clear c29
                            try clear c30
                            try clear c30b0
                            try clear c33
                            try clear c33b0
                            try clear c34
                            try clear c34b0
                            try clear c34b1
                            try clear c35
                            try clear hx107_0
                            try clear hx107_1
                            try clear hx108_0
                            try clear hx108_1
                            try clear hx109_0
                            try clear hx109_1
                            try clear hx110_0
                            try clear hx110_1
                            try clear hx111_0
                            try clear hx111_1
                            try clear hx112_0
                            try clear hx112_1
                            try clear hx115_0
                            try clear hx115_1
                            try clear hx120_0
                            try clear hx120_1
                            try clear hx121_0
                            try clear hx121_1
                            try clear hx122_0
                            try clear hx122_1
                            try clear hx123_0
                            try clear hx123_1
                            try clear hx123_2
                            try clear hx123_3
                            try clear hx123_4
                            try clear hx123_5
                            try clear hx124_0
                            try clear hx124_1
                            try clear hx124_2
                            try clear hx124_3
                            try clear hx124_4
                            try clear hx124_5
                            try clear p1
                            try clear p10
                            try clear p107
                            try clear p108
                            try clear p109
                            try clear p11
                            try clear p110
                            try clear p111
                            try clear p112
                            try clear p115
                            try clear p12
                            try clear p120
                            try clear p121
                            try clear p122
                            try clear p123
                            try clear p124
                            try clear p17
                            try clear p2
                            try clear p24
                            try clear p26
                            try clear p6
                            try clear p9
                            try clear q1
                            try clear q10
                            try clear q107
                            try clear q108
                            try clear q109
                            try clear q11
                            try clear q110
                            try clear q111
                            try clear q112
                            try clear q115
                            try clear q12
                            try clear q120
                            try clear q121
                            try clear q122
                            try clear q123
                            try clear q124
                            try clear q17
                            try clear q2
                            try clear q24
                            try clear q26
                            try clear q4
                            try clear q9
                            obtain ⟨x9_6, rfl, HA, HK6, HO_3, HO_6, HB⟩ := hrel
                            cases gk with
                            | zero => exact absurd HA.out (by simp [spec_FragmentsKnown.l2])
                            | succ k6 =>
                              have H := HA.out
                              clear HA
                              simp only [spec_FragmentsKnown.l2] at H
                              by_cases c36 : x9_6 < (x3_4.length : Int)
                              ·rw [if_pos c36] at H
                               have c36b0 : decide (x9_6 < (x3_4.length : Int)) = true := decide_eq_true c36
                               clear c36
                               by_cases c37 : 0 ≤ x9_6
                               ·rw [if_pos c37] at H
                                have c37b0 : decide (0 ≤ x9_6) = true := decide_eq_true c37
                                clear c37
                                by_cases c38 : 0 ≤ x8_4
                                ·rw [if_pos c38] at H
                                 have c38b0 : decide (0 ≤ x8_4) = true := decide_eq_true c38
                                 clear c38
                                 by_cases c39 : x8_4 < (t116.length : Int)
                                 ·rw [if_pos c39] at H
                                  have c39b0 : decide (x8_4 < (t116.length : Int)) = true := decide_eq_true c39
                                  clear c39
                                  by_cases c40 : ((rd_T69 x3_4 x9_6).f2) = ((rd_T69 t116 x8_4).f2)
                                  ·rw [if_pos c40] at H
                                   have c40b0 : (((rd_T69 x3_4 x9_6).f2) == ((rd_T69 t116 x8_4).f2)) = true := beq_iff_eq.mpr c40
                                   have c40b1 : (((rd_T69 x3_4 x9_6).f2) != ((rd_T69 t116 x8_4).f2)) = false := bne_eq_false_iff_eq.mpr c40
                                   clear c40
                                   replace H := Option.bind_eq_some_iff.mp H
                                   obtain ⟨t129, A410, H⟩ := H
                                   replace H : (if t129 = true then (spec_FragmentsKnown.l2 k6 l0 x3_4 (wrap64 (x4_1 + (((rd_T45 l0 x5_1).f1).size : Int))) x5_1 t116 x8_4 (wrap64 (x9_6 + 1))) else (some false)) = some r := H
                                   have A41 := Aside0.mk A410
                                   clear A410
                                   by_cases c42 : t129 = true
                                   ·subst c42
                                    have H1 : (spec_FragmentsKnown.l2 k6 l0 x3_4 (wrap64 (x4_1 + (((rd_T45 l0 x5_1).f1).size : Int))) x5_1 t116 x8_4 (wrap64 (x9_6 + 1))) = some r := by rw [if_pos rfl] at H; exact H
                                    clear H
                                    have H := H1
                                    clear H1
                                    have H' := Aside0.mk H
                                    clear H
                                    obtain ⟨Ao43, co43, eo43⟩ := Kd.R_slice HO_3.out
                                    subst eo43
                                    try go_wp2
                                    have n0_ := Aside0.mk (Kd.R_drew HO_3.out)
                                    have n1_ := Aside0.mk (Kd.R_drew HO_6.out)
                                    have n2_ := Aside0.mk (below_drew1 HB.out)
                                    clear HO_3
                                    clear HO_6
                                    clear HB
                                    have HO_3 := n0_
                                    have HO_6 := n1_
                                    have HB := n2_
                                    clear n0_ n1_ n2_
                                    have p125 : 0 ≤ (x9_6 : Int) := of_decide_eq_true (by first | (with_reducible assumption) | assumption)
                                    have q125 : x9_6 < (x3_4.length : Int) := of_decide_eq_true (by first | (with_reducible assumption) | assumption)
                                    obtain ⟨ad125, e125, hx125_0, hx125_1, hx125_2, hx125_3, hx125_4, hx125_5⟩ := at_T69 (Kd.R_reads' HO_3.out).2.2 x9_6 p125 q125
                                    cases e125
                                    replace p125 := eq_true p125
                                    replace q125 := eq_true q125
                                    have p126 : 0 ≤ (x8_4 : Int) := of_decide_eq_true (by first | (with_reducible assumption) | assumption)
                                    have q126 : x8_4 < (t116.length : Int) := of_decide_eq_true (by first | (with_reducible assumption) | assumption)
                                    obtain ⟨ad126, e126, hx126_0, hx126_1, hx126_2, hx126_3, hx126_4, hx126_5⟩ := at_T69 (Kd.R_reads' HO_6.out).2.2 x8_4 p126 q126
                                    cases e126
                                    replace p126 := eq_true p126
                                    replace q126 := eq_true q126
                                    have p127 : 0 ≤ (x9_6 : Int) := of_decide_eq_true (by first | (with_reducible assumption) | assumption)
                                    have q127 : x9_6 < (x3_4.length : Int) := of_decide_eq_true (by first | (with_reducible assumption) | assumption)
                                    obtain ⟨ad127, e127, hx127_0, hx127_1, hx127_2, hx127_3, hx127_4, hx127_5⟩ := at_T69 (Kd.R_reads' HO_3.out).2.2 x9_6 p127 q127
                                    obtain rfl : ad125 = ad127 := (by injection e127)
                                    replace p127 := eq_true p127
                                    replace q127 := eq_true q127
                                    have p128 : 0 ≤ (x8_4 : Int) := of_decide_eq_true (by first | (with_reducible assumption) | assumption)
                                    have q128 : x8_4 < (t116.length : Int) := of_decide_eq_true (by first | (with_reducible assumption) | assumption)
                                    obtain ⟨ad128, e128, hx128_0, hx128_1, hx128_2, hx128_3, hx128_4, hx128_5⟩ := at_T69 (Kd.R_reads' HO_6.out).2.2 x8_4 p128 q128
                                    obtain rfl : ad126 = ad128 := (by injection e128)
                                    replace p128 := eq_true p128
                                    replace q128 := eq_true q128
                                    refine start_ (n := 23) (S := fun w' => w'.cell? (ad125.add ((x9_6).toNat * 6)) = some (.int .u8 ((rd_T69 x3_4 x9_6).f0)) ∧ w'.cell? ⟨(ad125.add ((x9_6).toNat * 6)).block, (ad125.add ((x9_6).toNat * 6)).off + 1, none⟩ = some (.int .i64 ((rd_T69 x3_4 x9_6).f1)) ∧ w'.cell? ⟨(ad125.add ((x9_6).toNat * 6)).block, (ad125.add ((x9_6).toNat * 6)).off + 2, none⟩ = some (.int .i64 ((rd_T69 x3_4 x9_6).f2)) ∧ w'.cell? ⟨(ad125.add ((x9_6).toNat * 6)).block, (ad125.add ((x9_6).toNat * 6)).off + 3, none⟩ = some (.int .i64 ((rd_T69 x3_4 x9_6).f3)) ∧ w'.cell? ⟨(ad125.add ((x9_6).toNat * 6)).block, (ad125.add ((x9_6).toNat * 6)).off + 4, none⟩ = some (.string ((rd_T69 x3_4 x9_6).f4)) ∧ w'.cell? ⟨(ad125.add ((x9_6).toNat * 6)).block, (ad125.add ((x9_6).toNat * 6)).off + 5, none⟩ = some (.int .u16 ((rd_T69 x3_4 x9_6).f5)) ∧ w'.cell? (ad126.add ((x8_4).toNat * 6)) = some (.int .u8 ((rd_T69 t116 x8_4).f0)) ∧ w'.cell? ⟨(ad126.add ((x8_4).toNat * 6)).block, (ad126.add ((x8_4).toNat * 6)).off + 1, none⟩ = some (.int .i64 ((rd_T69 t116 x8_4).f1)) ∧ w'.cell? ⟨(ad126.add ((x8_4).toNat * 6)).block, (ad126.add ((x8_4).toNat * 6)).off + 2, none⟩ = some (.int .i64 ((rd_T69 t116 x8_4).f2)) ∧ w'.cell? ⟨(ad126.add ((x8_4).toNat * 6)).block, (ad126.add ((x8_4).toNat * 6)).off + 3, none⟩ = some (.int .i64 ((rd_T69 t116 x8_4).f3)) ∧ w'.cell? ⟨(ad126.add ((x8_4).toNat * 6)).block, (ad126.add ((x8_4).toNat * 6)).off + 4, none⟩ = some (.string ((rd_T69 t116 x8_4).f4)) ∧ w'.cell? ⟨(ad126.add ((x8_4).toNat * 6)).block, (ad126.add ((x8_4).toNat * 6)).off + 5, none⟩ = some (.int .u16 ((rd_T69 t116 x8_4).f5)) ∧ w'.cell? (ad125.add ((x9_6).toNat * 6)) = some (.int .u8 ((rd_T69 x3_4 x9_6).f0)) ∧ w'.cell? ⟨(ad125.add ((x9_6).toNat * 6)).block, (ad125.add ((x9_6).toNat * 6)).off + 1, none⟩ = some (.int .i64 ((rd_T69 x3_4 x9_6).f1)) ∧ w'.cell? ⟨(ad125.add ((x9_6).toNat * 6)).block, (ad125.add ((x9_6).toNat * 6)).off + 2, none⟩ = some (.int .i64 ((rd_T69 x3_4 x9_6).f2)) ∧ w'.cell? ⟨(ad125.add ((x9_6).toNat * 6)).block, (ad125.add ((x9_6).toNat * 6)).off + 3, none⟩ = some (.int .i64 ((rd_T69 x3_4 x9_6).f3)) ∧ w'.cell? ⟨(ad125.add ((x9_6).toNat * 6)).block, (ad125.add ((x9_6).toNat * 6)).off + 4, none⟩ = some (.string ((rd_T69 x3_4 x9_6).f4)) ∧ w'.cell? ⟨(ad125.add ((x9_6).toNat * 6)).block, (ad125.add ((x9_6).toNat * 6)).off + 5, none⟩ = some (.int .u16 ((rd_T69 x3_4 x9_6).f5)) ∧ w'.cell? (ad126.add ((x8_4).toNat * 6)) = some (.int .u8 ((rd_T69 t116 x8_4).f0)) ∧ w'.cell? ⟨(ad126.add ((x8_4).toNat * 6)).block, (ad126.add ((x8_4).toNat * 6)).off + 1, none⟩ = some (.int .i64 ((rd_T69 t116 x8_4).f1)) ∧ w'.cell? ⟨(ad126.add ((x8_4).toNat * 6)).block, (ad126.add ((x8_4).toNat * 6)).off + 2, none⟩ = some (.int .i64 ((rd_T69 t116 x8_4).f2)) ∧ w'.cell? ⟨(ad126.add ((x8_4).toNat * 6)).block, (ad126.add ((x8_4).toNat * 6)).off + 3, none⟩ = some (.int .i64 ((rd_T69 t116 x8_4).f3)) ∧ w'.cell? ⟨(ad126.add ((x8_4).toNat * 6)).block, (ad126.add ((x8_4).toNat * 6)).off + 4, none⟩ = some (.string ((rd_T69 t116 x8_4).f4)) ∧ w'.cell? ⟨(ad126.add ((x8_4).toNat * 6)).block, (ad126.add ((x8_4).toNat * 6)).off + 5, none⟩ = some (.int .u16 ((rd_T69 t116 x8_4).f5))) (ds := []) #[false, false, false, false, false, false, false, false, false, false, false, false, false, false, false, false, false, false, false, false, false, false, false] (by kernel_rfl) rfl rfl ⟨hx125_0, hx125_1, hx125_2, hx125_3, hx125_4, hx125_5, hx126_0, hx126_1, hx126_2, hx126_3, hx126_4, hx126_5, hx127_0, hx127_1, hx127_2, hx127_3, hx127_4, hx127_5, hx128_0, hx128_1, hx128_2, hx128_3, hx128_4, hx128_5⟩ (fun hHeld => ?_); refine with_tabW spec_FragmentsKnown.tab24 spec_FragmentsKnown.bits24 (fun HT_ HW_ => ?_)
                                    generalize wr.drew = w44 at HO_3 HO_6 HB hx125_0 hx125_1 hx125_2 hx125_3 hx125_4 hx125_5 hx126_0 hx126_1 hx126_2 hx126_3 hx126_4 hx126_5 hx127_0 hx127_1 hx127_2 hx127_3 hx127_4 hx127_5 hx128_0 hx128_1 hx128_2 hx128_3 hx128_4 hx128_5 hHeld ⊢
                                    refine pure_ (i := 0) (N := some 141) (v := ?_) (a' := ?_) #[true, false, false, false, false, false, false, false, false, false, false, false, false, false, false, false, false, false, false, false, false, false, false] rfl rfl (any_of HT_.out (by kernel_rfl)) (fun _ _ _ h => h) (Or.inl ⟨by rfl, ?_⟩) ?_ ?_
                                    rotate_left
                                    ·intro w'
                                     go_simp
                                     with_reducible rfl
                                    rotate_left
                                    ·simp only [Act.put, List.setIfInBounds_toArray, List.set_cons_zero, List.set_cons_succ, i64_w, i32_w]
                                     rfl
                                    refine pure_ (i := 1) (N := some 142) (v := ?_) (a' := ?_) #[true, true, false, false, false, false, false, false, false, false, false, false, false, false, false, false, false, false, false, false, false, false, false] rfl rfl (any_of HT_.out (by kernel_rfl)) (fun _ _ _ h => h) (Or.inl ⟨by rfl, ?_⟩) ?_ ?_
                                    rotate_left
                                    ·intro w'
                                     go_simp
                                     with_reducible rfl
                                    rotate_left
                                    ·simp only [Act.put, List.setIfInBounds_toArray, List.set_cons_zero, List.set_cons_succ, i64_w, i32_w]
                                     rfl
                                    refine pure_ (i := 2) (N := some 143) (v := ?_) (a' := ?_) #[true, true, true, false, false, false, false, false, false, false, false, false, false, false, false, false, false, false, false, false, false, false, false] rfl rfl (any_of HT_.out (by kernel_rfl)) (fun _ _ _ h => h) (Or.inl ⟨by rfl, ?_⟩) ?_ ?_
                                    rotate_left
                                    ·intro w'
                                     go_simp
                                     with_reducible rfl
                                    rotate_left
                                    ·simp only [Act.put, List.setIfInBounds_toArray, List.set_cons_zero, List.set_cons_succ, i64_w, i32_w]
                                     rfl
                                    refine pure_ (i := 3) (N := some 144) (v := ?_) (a' := ?_) #[true, true, true, true, false, false, false, false, false, false, false, false, false, false, false, false, false, false, false, false, false, false, false] rfl rfl (any_of HT_.out (by kernel_rfl)) (fun _ _ _ h => h) (Or.inl ⟨by rfl, ?_⟩) ?_ ?_
                                    rotate_left
                                    ·intro w'
                                     go_simp
                                     with_reducible rfl
                                    rotate_left
                                    ·simp only [Act.put, List.setIfInBounds_toArray, List.set_cons_zero, List.set_cons_succ, i64_w, i32_w]
                                     rfl
                                    refine pure_ (i := 5) (N := some 146) (v := ?_) (a' := ?_) #[true, true, true, true, false, true, false, false, false, false, false, false, false, false, false, false, false, false, false, false, false, false, false] rfl rfl (any_of HT_.out (by kernel_rfl)) (fun _ _ _ h => h) (Or.inl ⟨by rfl, ?_⟩) ?_ ?_
                                    rotate_left
                                    ·intro w'
                                     go_simp
                                     with_reducible rfl
                                    rotate_left
                                    ·simp only [Act.put, List.setIfInBounds_toArray, List.set_cons_zero, List.set_cons_succ, i64_w, i32_w]
                                     rfl
                                    refine pure_ (i := 6) (N := some 147) (v := ?_) (a' := ?_) #[true, true, true, true, false, true, true, false, false, false, false, false, false, false, false, false, false, false, false, false, false, false, false] rfl rfl (any_of HT_.out (by kernel_rfl)) (fun _ _ _ h => h) (Or.inl ⟨by rfl, ?_⟩) ?_ ?_
                                    rotate_left
                                    ·intro w'
                                     go_simp
                                     with_reducible rfl
                                    rotate_left
                                    ·simp only [Act.put, List.setIfInBounds_toArray, List.set_cons_zero, List.set_cons_succ, i64_w, i32_w]
                                     rfl
                                    refine pure_ (i := 7) (N := some 148) (v := ?_) (a' := ?_) #[true, true, true, true, false, true, true, true, false, false, false, false, false, false, false, false, false, false, false, false, false, false, false] rfl rfl (any_of HT_.out (by kernel_rfl)) (fun _ _ _ h => h) (Or.inl ⟨by rfl, ?_⟩) ?_ ?_
                                    rotate_left
                                    ·intro w'
                                     go_simp
                                     with_reducible rfl
                                    rotate_left
                                    ·simp only [Act.put, List.setIfInBounds_toArray, List.set_cons_zero, List.set_cons_succ, i64_w, i32_w]
                                     rfl
                                    refine pure_ (i := 8) (N := some 149) (v := ?_) (a' := ?_) #[true, true, true, true, false, true, true, true, true, false, false, false, false, false, false, false, false, false, false, false, false, false, false] rfl rfl (any_of HT_.out (by kernel_rfl)) (fun _ _ _ h => h) (Or.inl ⟨by rfl, ?_⟩) ?_ ?_
                                    rotate_left
                                    ·intro w'
                                     go_simp
                                     with_reducible rfl
                                    rotate_left
                                    ·simp only [Act.put, List.setIfInBounds_toArray, List.set_cons_zero, List.set_cons_succ, i64_w, i32_w]
                                     rfl
                                    refine take_ (i := 4) (N := some 145) (v := ?_) (a' := ?_) #[true, true, true, true, true, true, true, true, true, false, false, false, false, false, false, false, false, false, false, false, false, false, false] rfl rfl (take_ofW HT_.out HW_.out (by kernel_rfl)) (fun _ _ _ h => h) (Or.inl ⟨by rfl, ?_⟩) hHeld ?_ ?_
                                    rotate_left
                                    ·rintro w' ⟨s0, s1, s2, s3, s4, s5, s6, s7, s8, s9, s10, s11, s12, s13, s14, s15, s16, s17, s18, s19, s20, s21, s22, s23⟩
                                     go_simp
                                     with_reducible rfl
                                    rotate_left
                                    ·simp only [Act.put, List.setIfInBounds_toArray, List.set_cons_zero, List.set_cons_succ, i64_w, i32_w]
                                     rfl
                                    refine take_ (i := 9) (N := some 150) (v := ?_) (a' := ?_) #[true, true, true, true, true, true, true, true, true, true, false, false, false, false, false, false, false, false, false, false, false, false, false] rfl rfl (take_ofW HT_.out HW_.out (by kernel_rfl)) (fun _ _ _ h => h) (Or.inl ⟨by rfl, ?_⟩) hHeld ?_ ?_
                                    rotate_left
                                    ·rintro w' ⟨s0, s1, s2, s3, s4, s5, s6, s7, s8, s9, s10, s11, s12, s13, s14, s15, s16, s17, s18, s19, s20, s21, s22, s23⟩
                                     go_simp
                                     with_reducible rfl
                                    rotate_left
                                    ·simp only [Act.put, List.setIfInBounds_toArray, List.set_cons_zero, List.set_cons_succ, i64_w, i32_w]
                                     rfl
                                    refine pure_ (i := 10) (N := some 151) (v := ?_) (a' := ?_) #[true, true, true, true, true, true, true, true, true, true, true, false, false, false, false, false, false, false, false, false, false, false, false] rfl rfl (any_of HT_.out (by kernel_rfl)) (fun _ _ _ h => h) (Or.inl ⟨by rfl, ?_⟩) ?_ ?_
                                    rotate_left
                                    ·intro w'
                                     go_simp
                                     with_reducible rfl
                                    rotate_left
                                    ·simp only [Act.put, List.setIfInBounds_toArray, List.set_cons_zero, List.set_cons_succ, i64_w, i32_w]
                                     rfl
                                    refine pure_ (i := 11) (N := some 152) (v := ?_) (a' := ?_) #[true, true, true, true, true, true, true, true, true, true, true, true, false, false, false, false, false, false, false, false, false, false, false] rfl rfl (any_of HT_.out (by kernel_rfl)) (fun _ _ _ h => h) (Or.inl ⟨by rfl, ?_⟩) ?_ ?_
                                    rotate_left
                                    ·intro w'
                                     go_simp
                                     with_reducible rfl
                                    rotate_left
                                    ·simp only [Act.put, List.setIfInBounds_toArray, List.set_cons_zero, List.set_cons_succ, i64_w, i32_w]
                                     rfl
                                    refine pure_ (i := 12) (N := some 153) (v := ?_) (a' := ?_) #[true, true, true, true, true, true, true, true, true, true, true, true, true, false, false, false, false, false, false, false, false, false, false] rfl rfl (any_of HT_.out (by kernel_rfl)) (fun _ _ _ h => h) (Or.inl ⟨by rfl, ?_⟩) ?_ ?_
                                    rotate_left
                                    ·intro w'
                                     go_simp
                                     with_reducible rfl
                                    rotate_left
                                    ·simp only [Act.put, List.setIfInBounds_toArray, List.set_cons_zero, List.set_cons_succ, i64_w, i32_w]
                                     rfl
                                    refine pure_ (i := 13) (N := some 154) (v := ?_) (a' := ?_) #[true, true, true, true, true, true, true, true, true, true, true, true, true, true, false, false, false, false, false, false, false, false, false] rfl rfl (any_of HT_.out (by kernel_rfl)) (fun _ _ _ h => h) (Or.inl ⟨by rfl, ?_⟩) ?_ ?_
                                    rotate_left
                                    ·intro w'
                                     go_simp
                                     with_reducible rfl
                                    rotate_left
                                    ·simp only [Act.put, List.setIfInBounds_toArray, List.set_cons_zero, List.set_cons_succ, i64_w, i32_w]
                                     rfl
                                    refine pure_ (i := 14) (N := some 155) (v := ?_) (a' := ?_) #[true, true, true, true, true, true, true, true, true, true, true, true, true, true, true, false, false, false, false, false, false, false, false] rfl rfl (any_of HT_.out (by kernel_rfl)) (fun _ _ _ h => h) (Or.inl ⟨by rfl, ?_⟩) ?_ ?_
                                    rotate_left
                                    ·intro w'
                                     go_simp
                                     with_reducible rfl
                                    rotate_left
                                    ·simp only [Act.put, List.setIfInBounds_toArray, List.set_cons_zero, List.set_cons_succ, i64_w, i32_w]
                                     rfl
                                    refine pure_ (i := 16) (N := some 157) (v := ?_) (a' := ?_) #[true, true, true, true, true, true, true, true, true, true, true, true, true, true, true, false, true, false, false, false, false, false, false] rfl rfl (any_of HT_.out (by kernel_rfl)) (fun _ _ _ h => h) (Or.inl ⟨by rfl, ?_⟩) ?_ ?_
                                    rotate_left
                                    ·intro w'
                                     go_simp
                                     with_reducible rfl
                                    rotate_left
                                    ·simp only [Act.put, List.setIfInBounds_toArray, List.set_cons_zero, List.set_cons_succ, i64_w, i32_w]
                                     rfl
                                    refine pure_ (i := 17) (N := some 158) (v := ?_) (a' := ?_) #[true, true, true, true, true, true, true, true, true, true, true, true, true, true, true, false, true, true, false, false, false, false, false] rfl rfl (any_of HT_.out (by kernel_rfl)) (fun _ _ _ h => h) (Or.inl ⟨by rfl, ?_⟩) ?_ ?_
                                    rotate_left
                                    ·intro w'
                                     go_simp
                                     with_reducible rfl
                                    rotate_left
                                    ·simp only [Act.put, List.setIfInBounds_toArray, List.set_cons_zero, List.set_cons_succ, i64_w, i32_w]
                                     rfl
                                    refine pure_ (i := 18) (N := some 159) (v := ?_) (a' := ?_) #[true, true, true, true, true, true, true, true, true, true, true, true, true, true, true, false, true, true, true, false, false, false, false] rfl rfl (any_of HT_.out (by kernel_rfl)) (fun _ _ _ h => h) (Or.inl ⟨by rfl, ?_⟩) ?_ ?_
                                    rotate_left
                                    ·intro w'
                                     go_simp
                                     with_reducible rfl
                                    rotate_left
                                    ·simp only [Act.put, List.setIfInBounds_toArray, List.set_cons_zero, List.set_cons_succ, i64_w, i32_w]
                                     rfl
                                    refine take_ (i := 15) (N := some 156) (v := ?_) (a' := ?_) #[true, true, true, true, true, true, true, true, true, true, true, true, true, true, true, true, true, true, true, false, false, false, false] rfl rfl (take_ofW HT_.out HW_.out (by kernel_rfl)) (fun _ _ _ h => h) (Or.inl ⟨by rfl, ?_⟩) hHeld ?_ ?_
                                    rotate_left
                                    ·rintro w' ⟨s0, s1, s2, s3, s4, s5, s6, s7, s8, s9, s10, s11, s12, s13, s14, s15, s16, s17, s18, s19, s20, s21, s22, s23⟩
                                     go_simp
                                     with_reducible rfl
                                    rotate_left
                                    ·simp only [Act.put, List.setIfInBounds_toArray, List.set_cons_zero, List.set_cons_succ, i64_w, i32_w]
                                     rfl
                                    refine take_ (i := 19) (N := some 160) (v := ?_) (a' := ?_) #[true, true, true, true, true, true, true, true, true, true, true, true, true, true, true, true, true, true, true, true, false, false, false] rfl rfl (take_ofW HT_.out HW_.out (by kernel_rfl)) (fun _ _ _ h => h) (Or.inl ⟨by rfl, ?_⟩) hHeld ?_ ?_
                                    rotate_left
                                    ·rintro w' ⟨s0, s1, s2, s3, s4, s5, s6, s7, s8, s9, s10, s11, s12, s13, s14, s15, s16, s17, s18, s19, s20, s21, s22, s23⟩
                                     go_simp
                                     with_reducible rfl
                                    rotate_left
                                    ·simp only [Act.put, List.setIfInBounds_toArray, List.set_cons_zero, List.set_cons_succ, i64_w, i32_w]
                                     rfl
                                    refine one_ (i := 20) (N := some 161) #[true, true, true, true, true, true, true, true, true, true, true, true, true, true, true, true, true, true, true, true, true, false, false] rfl rfl (one_of HT_.out (by kernel_rfl)) (by decide) (fun K hK => ?_)
                                    refine goes_ Tryd.func31 (by kernel_rfl) rfl #[.agg #[.int .u8 ((rd_T69 x3_4 x9_6).f0), .int .i64 ((rd_T69 x3_4 x9_6).f1), .int .i64 ((rd_T69 x3_4 x9_6).f2), .int .i64 ((rd_T69 x3_4 x9_6).f3), .string ((rd_T69 x3_4 x9_6).f4), .int .u16 ((rd_T69 x3_4 x9_6).f5)], .agg #[.int .u8 ((rd_T69 t116 x8_4).f0), .int .i64 ((rd_T69 t116 x8_4).f1), .int .i64 ((rd_T69 t116 x8_4).f2), .int .i64 ((rd_T69 t116 x8_4).f3), .string ((rd_T69 t116 x8_4).f4), .int .u16 ((rd_T69 t116 x8_4).f5)]] (by rfl) rfl rfl (by (try simp only [List.map_toArray, List.map_cons, List.map_nil]); first | done | rfl | (simp only [List.length_drop, List.length_take]; rfl)) ?_
                                    with_reducible refine (spec_alike.calls k6 ((rd_T69 x3_4 x9_6).f0) ((rd_T69 x3_4 x9_6).f1) ((rd_T69 x3_4 x9_6).f2) ((rd_T69 x3_4 x9_6).f3) ((rd_T69 x3_4 x9_6).f4) ((rd_T69 x3_4 x9_6).f5) ((rd_T69 t116 x8_4).f0) ((rd_T69 t116 x8_4).f1) ((rd_T69 t116 x8_4).f2) ((rd_T69 t116 x8_4).f3) ((rd_T69 t116 x8_4).f4) ((rd_T69 t116 x8_4).f5) true _ A41.out).mono ?_
                                    rintro e w45 ⟨rfl, hb⟩
                                    have HS0_ := (hb.cell (World.block_lt_of_cell? _ _ (hHeld.1))).trans (hHeld.1)
                                    have HS1_ := (hb.cell (World.block_lt_of_cell? _ _ (hHeld.2.1))).trans (hHeld.2.1)
                                    have HS2_ := (hb.cell (World.block_lt_of_cell? _ _ (hHeld.2.2.1))).trans (hHeld.2.2.1)
                                    have HS3_ := (hb.cell (World.block_lt_of_cell? _ _ (hHeld.2.2.2.1))).trans (hHeld.2.2.2.1)
                                    have HS4_ := (hb.cell (World.block_lt_of_cell? _ _ (hHeld.2.2.2.2.1))).trans (hHeld.2.2.2.2.1)
                                    have HS5_ := (hb.cell (World.block_lt_of_cell? _ _ (hHeld.2.2.2.2.2.1))).trans (hHeld.2.2.2.2.2.1)
                                    have HS6_ := (hb.cell (World.block_lt_of_cell? _ _ (hHeld.2.2.2.2.2.2.1))).trans (hHeld.2.2.2.2.2.2.1)
                                    have HS7_ := (hb.cell (World.block_lt_of_cell? _ _ (hHeld.2.2.2.2.2.2.2.1))).trans (hHeld.2.2.2.2.2.2.2.1)
                                    have HS8_ := (hb.cell (World.block_lt_of_cell? _ _ (hHeld.2.2.2.2.2.2.2.2.1))).trans (hHeld.2.2.2.2.2.2.2.2.1)
                                    have HS9_ := (hb.cell (World.block_lt_of_cell? _ _ (hHeld.2.2.2.2.2.2.2.2.2.1))).trans (hHeld.2.2.2.2.2.2.2.2.2.1)
                                    have HS10_ := (hb.cell (World.block_lt_of_cell? _ _ (hHeld.2.2.2.2.2.2.2.2.2.2.1))).trans (hHeld.2.2.2.2.2.2.2.2.2.2.1)
                                    have HS11_ := (hb.cell (World.block_lt_of_cell? _ _ (hHeld.2.2.2.2.2.2.2.2.2.2.2.1))).trans (hHeld.2.2.2.2.2.2.2.2.2.2.2.1)
                                    have HS12_ := (hb.cell (World.block_lt_of_cell? _ _ (hHeld.2.2.2.2.2.2.2.2.2.2.2.2.1))).trans (hHeld.2.2.2.2.2.2.2.2.2.2.2.2.1)
                                    have HS13_ := (hb.cell (World.block_lt_of_cell? _ _ (hHeld.2.2.2.2.2.2.2.2.2.2.2.2.2.1))).trans (hHeld.2.2.2.2.2.2.2.2.2.2.2.2.2.1)
                                    have HS14_ := (hb.cell (World.block_lt_of_cell? _ _ (hHeld.2.2.2.2.2.2.2.2.2.2.2.2.2.2.1))).trans (hHeld.2.2.2.2.2.2.2.2.2.2.2.2.2.2.1)
                                    have HS15_ := (hb.cell (World.block_lt_of_cell? _ _ (hHeld.2.2.2.2.2.2.2.2.2.2.2.2.2.2.2.1))).trans (hHeld.2.2.2.2.2.2.2.2.2.2.2.2.2.2.2.1)
                                    have HS16_ := (hb.cell (World.block_lt_of_cell? _ _ (hHeld.2.2.2.2.2.2.2.2.2.2.2.2.2.2.2.2.1))).trans (hHeld.2.2.2.2.2.2.2.2.2.2.2.2.2.2.2.2.1)
                                    have HS17_ := (hb.cell (World.block_lt_of_cell? _ _ (hHeld.2.2.2.2.2.2.2.2.2.2.2.2.2.2.2.2.2.1))).trans (hHeld.2.2.2.2.2.2.2.2.2.2.2.2.2.2.2.2.2.1)
                                    have HS18_ := (hb.cell (World.block_lt_of_cell? _ _ (hHeld.2.2.2.2.2.2.2.2.2.2.2.2.2.2.2.2.2.2.1))).trans (hHeld.2.2.2.2.2.2.2.2.2.2.2.2.2.2.2.2.2.2.1)
                                    have HS19_ := (hb.cell (World.block_lt_of_cell? _ _ (hHeld.2.2.2.2.2.2.2.2.2.2.2.2.2.2.2.2.2.2.2.1))).trans (hHeld.2.2.2.2.2.2.2.2.2.2.2.2.2.2.2.2.2.2.2.1)
                                    have HS20_ := (hb.cell (World.block_lt_of_cell? _ _ (hHeld.2.2.2.2.2.2.2.2.2.2.2.2.2.2.2.2.2.2.2.2.1))).trans (hHeld.2.2.2.2.2.2.2.2.2.2.2.2.2.2.2.2.2.2.2.2.1)
                                    have HS21_ := (hb.cell (World.block_lt_of_cell? _ _ (hHeld.2.2.2.2.2.2.2.2.2.2.2.2.2.2.2.2.2.2.2.2.2.1))).trans (hHeld.2.2.2.2.2.2.2.2.2.2.2.2.2.2.2.2.2.2.2.2.2.1)
                                    have HS22_ := (hb.cell (World.block_lt_of_cell? _ _ (hHeld.2.2.2.2.2.2.2.2.2.2.2.2.2.2.2.2.2.2.2.2.2.2.1))).trans (hHeld.2.2.2.2.2.2.2.2.2.2.2.2.2.2.2.2.2.2.2.2.2.2.1)
                                    have HS23_ := (hb.cell (World.block_lt_of_cell? _ _ (hHeld.2.2.2.2.2.2.2.2.2.2.2.2.2.2.2.2.2.2.2.2.2.2.2))).trans (hHeld.2.2.2.2.2.2.2.2.2.2.2.2.2.2.2.2.2.2.2.2.2.2.2)
                                    refine ⟨_, rfl, ?_⟩
                                    have n0_ := Aside0.mk (Kd.R_below (by (with_reducible repeat (first | apply Kd.R_alloc | apply Kd.R_drewN | apply Kd.R_drew)); exact HO_3.out) hb)
                                    have n1_ := Aside0.mk (Kd.R_below (by (with_reducible repeat (first | apply Kd.R_alloc | apply Kd.R_drewN | apply Kd.R_drew)); exact HO_6.out) hb)
                                    have n2_ := Aside0.mk (below_step (by repeat (first | (with_reducible first | exact HB.out | apply below_alloc | apply pw_below_drewN | apply below_drew1) | exact HB.out)) hb)
                                    clear HO_3
                                    clear HO_6
                                    clear HB
                                    have HO_3 := n0_
                                    have HO_6 := n1_
                                    have HB := n2_
                                    clear n0_ n1_ n2_
                                    (try clear hb)
                                    (try clear hb2)
                                    (try clear hk)
                                    (try clear hi)
                                    refine hK.out _ _ ⟨HS0_, HS1_, HS2_, HS3_, HS4_, HS5_, HS6_, HS7_, HS8_, HS9_, HS10_, HS11_, HS12_, HS13_, HS14_, HS15_, HS16_, HS17_, HS18_, HS19_, HS20_, HS21_, HS22_, HS23_⟩ (fun hHeld => ?_)
                                    clear hK K
                                    refine norm_ (a' := ?_) ?_ ?_
                                    rotate_left
                                    ·show Act.put _ (some 161) _ = _
                                     simp only [Act.put, List.setIfInBounds_toArray, List.set_cons_zero, List.set_cons_succ, i64_w, i32_w]
                                     rfl
                                    refine pure_ (i := 21) (N := some 162) (v := ?_) (a' := ?_) #[true, true, true, true, true, true, true, true, true, true, true, true, true, true, true, true, true, true, true, true, true, true, false] rfl rfl (any_of HT_.out (by kernel_rfl)) (fun _ _ _ h => h) (Or.inl ⟨by rfl, ?_⟩) ?_ ?_
                                    rotate_left
                                    ·intro w'
                                     go_simp
                                     with_reducible rfl
                                    rotate_left
                                    ·simp only [Act.put, List.setIfInBounds_toArray, List.set_cons_zero, List.set_cons_succ, i64_w, i32_w]
                                     rfl
                                    refine pure_ (i := 22) (N := some 163) (v := ?_) (a' := ?_) #[true, true, true, true, true, true, true, true, true, true, true, true, true, true, true, true, true, true, true, true, true, true, true] rfl rfl (any_of HT_.out (by kernel_rfl)) (fun _ _ _ h => h) (Or.inl ⟨by rfl, ?_⟩) ?_ ?_
                                    rotate_left
                                    ·intro w'
                                     go_simp
                                     with_reducible rfl
                                    rotate_left
                                    ·simp only [Act.put, List.setIfInBounds_toArray, List.set_cons_zero, List.set_cons_succ, i64_w, i32_w]
                                     rfl
                                    refine done_ (done_of HT_.out (by kernel_rfl)) ?_
                                    try go_wp2
                                    go_roundg k6
                                    case measure => have := HK1.out; have := HJ5.out; have := HJ19.out; have := HK4.out; have := HJ30.out; have := HK6.out; omega
                                    case rel => exact ⟨(wrap64 (x9_6 + 1)), (by first | rfl | (simp; done) | (simp [*]; done)), H', ⟨by have := HK1.out; have := HJ5.out; have := HJ19.out; have := HK4.out; have := HJ30.out; have := HK6.out; omega⟩, ⟨by (with_reducible repeat (first | apply Kd.R_alloc | apply Kd.R_drewN | apply Kd.R_drew)); exact HO_3.out⟩, ⟨by (with_reducible repeat (first | apply Kd.R_alloc | apply Kd.R_drewN | apply Kd.R_drew)); exact HO_6.out⟩, ⟨by repeat (first | (with_reducible first | exact HB.out | apply below_alloc | apply pw_below_drewN | apply below_drew1) | exact HB.out)⟩⟩
                                   ·replace c42 := Bool.eq_false_iff.mpr c42
                                    subst c42
                                    have H1 : (some false) = some r := by rw [if_neg (show ¬ (false = true) by decide)] at H; exact H
                                    clear H
                                    have H := H1
                                    clear H1
                                    obtain rfl := Option.some.inj H
                                    obtain ⟨Ao46, co46, eo46⟩ := Kd.R_slice HO_3.out
                                    subst eo46
                                    try go_wp2
                                    have n0_ := Aside0.mk (Kd.R_drew HO_3.out)
                                    have n1_ := Aside0.mk (Kd.R_drew HO_6.out)
                                    have n2_ := Aside0.mk (below_drew1 HB.out)
                                    clear HO_3
                                    clear HO_6
                                    clear HB
                                    have HO_3 := n0_
                                    have HO_6 := n1_
                                    have HB := n2_
                                    clear n0_ n1_ n2_
                                    have p125 : 0 ≤ (x9_6 : Int) := of_decide_eq_true (by first | (with_reducible assumption) | assumption)
                                    have q125 : x9_6 < (x3_4.length : Int) := of_decide_eq_true (by first | (with_reducible assumption) | assumption)
                                    obtain ⟨ad125, e125, hx125_0, hx125_1, hx125_2, hx125_3, hx125_4, hx125_5⟩ := at_T69 (Kd.R_reads' HO_3.out).2.2 x9_6 p125 q125
                                    cases e125
                                    replace p125 := eq_true p125
                                    replace q125 := eq_true q125
                                    have p126 : 0 ≤ (x8_4 : Int) := of_decide_eq_true (by first | (with_reducible assumption) | assumption)
                                    have q126 : x8_4 < (t116.length : Int) := of_decide_eq_true (by first | (with_reducible assumption) | assumption)
                                    obtain ⟨ad126, e126, hx126_0, hx126_1, hx126_2, hx126_3, hx126_4, hx126_5⟩ := at_T69 (Kd.R_reads' HO_6.out).2.2 x8_4 p126 q126
                                    cases e126
                                    replace p126 := eq_true p126
                                    replace q126 := eq_true q126
                                    have p127 : 0 ≤ (x9_6 : Int) := of_decide_eq_true (by first | (with_reducible assumption) | assumption)
                                    have q127 : x9_6 < (x3_4.length : Int) := of_decide_eq_true (by first | (with_reducible assumption) | assumption)
                                    obtain ⟨ad127, e127, hx127_0, hx127_1, hx127_2, hx127_3, hx127_4, hx127_5⟩ := at_T69 (Kd.R_reads' HO_3.out).2.2 x9_6 p127 q127
                                    obtain rfl : ad125 = ad127 := (by injection e127)
                                    replace p127 := eq_true p127
                                    replace q127 := eq_true q127
                                    have p128 : 0 ≤ (x8_4 : Int) := of_decide_eq_true (by first | (with_reducible assumption) | assumption)
                                    have q128 : x8_4 < (t116.length : Int) := of_decide_eq_true (by first | (with_reducible assumption) | assumption)
                                    obtain ⟨ad128, e128, hx128_0, hx128_1, hx128_2, hx128_3, hx128_4, hx128_5⟩ := at_T69 (Kd.R_reads' HO_6.out).2.2 x8_4 p128 q128
                                    obtain rfl : ad126 = ad128 := (by injection e128)
                                    replace p128 := eq_true p128
                                    replace q128 := eq_true q128
                                    refine start_ (n := 23) (S := fun w' => w'.cell? (ad125.add ((x9_6).toNat * 6)) = some (.int .u8 ((rd_T69 x3_4 x9_6).f0)) ∧ w'.cell? ⟨(ad125.add ((x9_6).toNat * 6)).block, (ad125.add ((x9_6).toNat * 6)).off + 1, none⟩ = some (.int .i64 ((rd_T69 x3_4 x9_6).f1)) ∧ w'.cell? ⟨(ad125.add ((x9_6).toNat * 6)).block, (ad125.add ((x9_6).toNat * 6)).off + 2, none⟩ = some (.int .i64 ((rd_T69 x3_4 x9_6).f2)) ∧ w'.cell? ⟨(ad125.add ((x9_6).toNat * 6)).block, (ad125.add ((x9_6).toNat * 6)).off + 3, none⟩ = some (.int .i64 ((rd_T69 x3_4 x9_6).f3)) ∧ w'.cell? ⟨(ad125.add ((x9_6).toNat * 6)).block, (ad125.add ((x9_6).toNat * 6)).off + 4, none⟩ = some (.string ((rd_T69 x3_4 x9_6).f4)) ∧ w'.cell? ⟨(ad125.add ((x9_6).toNat * 6)).block, (ad125.add ((x9_6).toNat * 6)).off + 5, none⟩ = some (.int .u16 ((rd_T69 x3_4 x9_6).f5)) ∧ w'.cell? (ad126.add ((x8_4).toNat * 6)) = some (.int .u8 ((rd_T69 t116 x8_4).f0)) ∧ w'.cell? ⟨(ad126.add ((x8_4).toNat * 6)).block, (ad126.add ((x8_4).toNat * 6)).off + 1, none⟩ = some (.int .i64 ((rd_T69 t116 x8_4).f1)) ∧ w'.cell? ⟨(ad126.add ((x8_4).toNat * 6)).block, (ad126.add ((x8_4).toNat * 6)).off + 2, none⟩ = some (.int .i64 ((rd_T69 t116 x8_4).f2)) ∧ w'.cell? ⟨(ad126.add ((x8_4).toNat * 6)).block, (ad126.add ((x8_4).toNat * 6)).off + 3, none⟩ = some (.int .i64 ((rd_T69 t116 x8_4).f3)) ∧ w'.cell? ⟨(ad126.add ((x8_4).toNat * 6)).block, (ad126.add ((x8_4).toNat * 6)).off + 4, none⟩ = some (.string ((rd_T69 t116 x8_4).f4)) ∧ w'.cell? ⟨(ad126.add ((x8_4).toNat * 6)).block, (ad126.add ((x8_4).toNat * 6)).off + 5, none⟩ = some (.int .u16 ((rd_T69 t116 x8_4).f5)) ∧ w'.cell? (ad125.add ((x9_6).toNat * 6)) = some (.int .u8 ((rd_T69 x3_4 x9_6).f0)) ∧ w'.cell? ⟨(ad125.add ((x9_6).toNat * 6)).block, (ad125.add ((x9_6).toNat * 6)).off + 1, none⟩ = some (.int .i64 ((rd_T69 x3_4 x9_6).f1)) ∧ w'.cell? ⟨(ad125.add ((x9_6).toNat * 6)).block, (ad125.add ((x9_6).toNat * 6)).off + 2, none⟩ = some (.int .i64 ((rd_T69 x3_4 x9_6).f2)) ∧ w'.cell? ⟨(ad125.add ((x9_6).toNat * 6)).block, (ad125.add ((x9_6).toNat * 6)).off + 3, none⟩ = some (.int .i64 ((rd_T69 x3_4 x9_6).f3)) ∧ w'.cell? ⟨(ad125.add ((x9_6).toNat * 6)).block, (ad125.add ((x9_6).toNat * 6)).off + 4, none⟩ = some (.string ((rd_T69 x3_4 x9_6).f4)) ∧ w'.cell? ⟨(ad125.add ((x9_6).toNat * 6)).block, (ad125.add ((x9_6).toNat * 6)).off + 5, none⟩ = some (.int .u16 ((rd_T69 x3_4 x9_6).f5)) ∧ w'.cell? (ad126.add ((x8_4).toNat * 6)) = some (.int .u8 ((rd_T69 t116 x8_4).f0)) ∧ w'.cell? ⟨(ad126.add ((x8_4).toNat * 6)).block, (ad126.add ((x8_4).toNat * 6)).off + 1, none⟩ = some (.int .i64 ((rd_T69 t116 x8_4).f1)) ∧ w'.cell? ⟨(ad126.add ((x8_4).toNat * 6)).block, (ad126.add ((x8_4).toNat * 6)).off + 2, none⟩ = some (.int .i64 ((rd_T69 t116 x8_4).f2)) ∧ w'.cell? ⟨(ad126.add ((x8_4).toNat * 6)).block, (ad126.add ((x8_4).toNat * 6)).off + 3, none⟩ = some (.int .i64 ((rd_T69 t116 x8_4).f3)) ∧ w'.cell? ⟨(ad126.add ((x8_4).toNat * 6)).block, (ad126.add ((x8_4).toNat * 6)).off + 4, none⟩ = some (.string ((rd_T69 t116 x8_4).f4)) ∧ w'.cell? ⟨(ad126.add ((x8_4).toNat * 6)).block, (ad126.add ((x8_4).toNat * 6)).off + 5, none⟩ = some (.int .u16 ((rd_T69 t116 x8_4).f5))) (ds := []) #[false, false, false, false, false, false, false, false, false, false, false, false, false, false, false, false, false, false, false, false, false, false, false] (by kernel_rfl) rfl rfl ⟨hx125_0, hx125_1, hx125_2, hx125_3, hx125_4, hx125_5, hx126_0, hx126_1, hx126_2, hx126_3, hx126_4, hx126_5, hx127_0, hx127_1, hx127_2, hx127_3, hx127_4, hx127_5, hx128_0, hx128_1, hx128_2, hx128_3, hx128_4, hx128_5⟩ (fun hHeld => ?_); refine with_tabW spec_FragmentsKnown.tab24 spec_FragmentsKnown.bits24 (fun HT_ HW_ => ?_)
                                    generalize wr.drew = w47 at HO_3 HO_6 HB hx125_0 hx125_1 hx125_2 hx125_3 hx125_4 hx125_5 hx126_0 hx126_1 hx126_2 hx126_3 hx126_4 hx126_5 hx127_0 hx127_1 hx127_2 hx127_3 hx127_4 hx127_5 hx128_0 hx128_1 hx128_2 hx128_3 hx128_4 hx128_5 hHeld ⊢
                                    refine pure_ (i := 0) (N := some 141) (v := ?_) (a' := ?_) #[true, false, false, false, false, false, false, false, false, false, false, false, false, false, false, false, false, false, false, false, false, false, false] rfl rfl (any_of HT_.out (by kernel_rfl)) (fun _ _ _ h => h) (Or.inl ⟨by rfl, ?_⟩) ?_ ?_
                                    rotate_left
                                    ·intro w'
                                     go_simp
                                     with_reducible rfl
                                    rotate_left
                                    ·simp only [Act.put, List.setIfInBounds_toArray, List.set_cons_zero, List.set_cons_succ, i64_w, i32_w]
                                     rfl
                                    refine pure_ (i := 1) (N := some 142) (v := ?_) (a' := ?_) #[true, true, false, false, false, false, false, false, false, false, false, false, false, false, false, false, false, false, false, false, false, false, false] rfl rfl (any_of HT_.out (by kernel_rfl)) (fun _ _ _ h => h) (Or.inl ⟨by rfl, ?_⟩) ?_ ?_
                                    rotate_left
                                    ·intro w'
                                     go_simp
                                     with_reducible rfl
                                    rotate_left
                                    ·simp only [Act.put, List.setIfInBounds_toArray, List.set_cons_zero, List.set_cons_succ, i64_w, i32_w]
                                     rfl
                                    refine pure_ (i := 2) (N := some 143) (v := ?_) (a' := ?_) #[true, true, true, false, false, false, false, false, false, false, false, false, false, false, false, false, false, false, false, false, false, false, false] rfl rfl (any_of HT_.out (by kernel_rfl)) (fun _ _ _ h => h) (Or.inl ⟨by rfl, ?_⟩) ?_ ?_
                                    rotate_left
                                    ·intro w'
                                     go_simp
                                     with_reducible rfl
                                    rotate_left
                                    ·simp only [Act.put, List.setIfInBounds_toArray, List.set_cons_zero, List.set_cons_succ, i64_w, i32_w]
                                     rfl
                                    refine pure_ (i := 3) (N := some 144) (v := ?_) (a' := ?_) #[true, true, true, true, false, false, false, false, false, false, false, false, false, false, false, false, false, false, false, false, false, false, false] rfl rfl (any_of HT_.out (by kernel_rfl)) (fun _ _ _ h => h) (Or.inl ⟨by rfl, ?_⟩) ?_ ?_
                                    rotate_left
                                    ·intro w'
                                     go_simp
                                     with_reducible rfl
                                    rotate_left
                                    ·simp only [Act.put, List.setIfInBounds_toArray, List.set_cons_zero, List.set_cons_succ, i64_w, i32_w]
                                     rfl
                                    refine pure_ (i := 5) (N := some 146) (v := ?_) (a' := ?_) #[true, true, true, true, false, true, false, false, false, false, false, false, false, false, false, false, false, false, false, false, false, false, false] rfl rfl (any_of HT_.out (by kernel_rfl)) (fun _ _ _ h => h) (Or.inl ⟨by rfl, ?_⟩) ?_ ?_
                                    rotate_left
                                    ·intro w'
                                     go_simp
                                     with_reducible rfl
                                    rotate_left
                                    ·simp only [Act.put, List.setIfInBounds_toArray, List.set_cons_zero, List.set_cons_succ, i64_w, i32_w]
                                     rfl
                                    refine pure_ (i := 6) (N := some 147) (v := ?_) (a' := ?_) #[true, true, true, true, false, true, true, false, false, false, false, false, false, false, false, false, false, false, false, false, false, false, false] rfl rfl (any_of HT_.out (by kernel_rfl)) (fun _ _ _ h => h) (Or.inl ⟨by rfl, ?_⟩) ?_ ?_
                                    rotate_left
                                    ·intro w'
                                     go_simp
                                     with_reducible rfl
                                    rotate_left
                                    ·simp only [Act.put, List.setIfInBounds_toArray, List.set_cons_zero, List.set_cons_succ, i64_w, i32_w]
                                     rfl
                                    refine pure_ (i := 7) (N := some 148) (v := ?_) (a' := ?_) #[true, true, true, true, false, true, true, true, false, false, false, false, false, false, false, false, false, false, false, false, false, false, false] rfl rfl (any_of HT_.out (by kernel_rfl)) (fun _ _ _ h => h) (Or.inl ⟨by rfl, ?_⟩) ?_ ?_
                                    rotate_left
                                    ·intro w'
                                     go_simp
                                     with_reducible rfl
                                    rotate_left
                                    ·simp only [Act.put, List.setIfInBounds_toArray, List.set_cons_zero, List.set_cons_succ, i64_w, i32_w]
                                     rfl
                                    refine pure_ (i := 8) (N := some 149) (v := ?_) (a' := ?_) #[true, true, true, true, false, true, true, true, true, false, false, false, false, false, false, false, false, false, false, false, false, false, false] rfl rfl (any_of HT_.out (by kernel_rfl)) (fun _ _ _ h => h) (Or.inl ⟨by rfl, ?_⟩) ?_ ?_
                                    rotate_left
                                    ·intro w'
                                     go_simp
                                     with_reducible rfl
                                    rotate_left
                                    ·simp only [Act.put, List.setIfInBounds_toArray, List.set_cons_zero, List.set_cons_succ, i64_w, i32_w]
                                     rfl
                                    refine take_ (i := 4) (N := some 145) (v := ?_) (a' := ?_) #[true, true, true, true, true, true, true, true, true, false, false, false, false, false, false, false, false, false, false, false, false, false, false] rfl rfl (take_ofW HT_.out HW_.out (by kernel_rfl)) (fun _ _ _ h => h) (Or.inl ⟨by rfl, ?_⟩) hHeld ?_ ?_
                                    rotate_left
                                    ·rintro w' ⟨s0, s1, s2, s3, s4, s5, s6, s7, s8, s9, s10, s11, s12, s13, s14, s15, s16, s17, s18, s19, s20, s21, s22, s23⟩
                                     go_simp
                                     with_reducible rfl
                                    rotate_left
                                    ·simp only [Act.put, List.setIfInBounds_toArray, List.set_cons_zero, List.set_cons_succ, i64_w, i32_w]
                                     rfl
                                    refine take_ (i := 9) (N := some 150) (v := ?_) (a' := ?_) #[true, true, true, true, true, true, true, true, true, true, false, false, false, false, false, false, false, false, false, false, false, false, false] rfl rfl (take_ofW HT_.out HW_.out (by kernel_rfl)) (fun _ _ _ h => h) (Or.inl ⟨by rfl, ?_⟩) hHeld ?_ ?_
                                    rotate_left
                                    ·rintro w' ⟨s0, s1, s2, s3, s4, s5, s6, s7, s8, s9, s10, s11, s12, s13, s14, s15, s16, s17, s18, s19, s20, s21, s22, s23⟩
                                     go_simp
                                     with_reducible rfl
                                    rotate_left
                                    ·simp only [Act.put, List.setIfInBounds_toArray, List.set_cons_zero, List.set_cons_succ, i64_w, i32_w]
                                     rfl
                                    refine pure_ (i := 10) (N := some 151) (v := ?_) (a' := ?_) #[true, true, true, true, true, true, true, true, true, true, true, false, false, false, false, false, false, false, false, false, false, false, false] rfl rfl (any_of HT_.out (by kernel_rfl)) (fun _ _ _ h => h) (Or.inl ⟨by rfl, ?_⟩) ?_ ?_
                                    rotate_left
                                    ·intro w'
                                     go_simp
                                     with_reducible rfl
                                    rotate_left
                                    ·simp only [Act.put, List.setIfInBounds_toArray, List.set_cons_zero, List.set_cons_succ, i64_w, i32_w]
                                     rfl
                                    refine pure_ (i := 11) (N := some 152) (v := ?_) (a' := ?_) #[true, true, true, true, true, true, true, true, true, true, true, true, false, false, false, false, false, false, false, false, false, false, false] rfl rfl (any_of HT_.out (by kernel_rfl)) (fun _ _ _ h => h) (Or.inl ⟨by rfl, ?_⟩) ?_ ?_
                                    rotate_left
                                    ·intro w'
                                     go_simp
                                     with_reducible rfl
                                    rotate_left
                                    ·simp only [Act.put, List.setIfInBounds_toArray, List.set_cons_zero, List.set_cons_succ, i64_w, i32_w]
                                     rfl
                                    refine pure_ (i := 12) (N := some 153) (v := ?_) (a' := ?_) #[true, true, true, true, true, true, true, true, true, true, true, true, true, false, false, false, false, false, false, false, false, false, false] rfl rfl (any_of HT_.out (by kernel_rfl)) (fun _ _ _ h => h) (Or.inl ⟨by rfl, ?_⟩) ?_ ?_
                                    rotate_left
                                    ·intro w'
                                     go_simp
                                     with_reducible rfl
                                    rotate_left
                                    ·simp only [Act.put, List.setIfInBounds_toArray, List.set_cons_zero, List.set_cons_succ, i64_w, i32_w]
                                     rfl
                                    refine pure_ (i := 13) (N := some 154) (v := ?_) (a' := ?_) #[true, true, true, true, true, true, true, true, true, true, true, true, true, true, false, false, false, false, false, false, false, false, false] rfl rfl (any_of HT_.out (by kernel_rfl)) (fun _ _ _ h => h) (Or.inl ⟨by rfl, ?_⟩) ?_ ?_
                                    rotate_left
                                    ·intro w'
                                     go_simp
                                     with_reducible rfl
                                    rotate_left
                                    ·simp only [Act.put, List.setIfInBounds_toArray, List.set_cons_zero, List.set_cons_succ, i64_w, i32_w]
                                     rfl
                                    refine pure_ (i := 14) (N := some 155) (v := ?_) (a' := ?_) #[true, true, true, true, true, true, true, true, true, true, true, true, true, true, true, false, false, false, false, false, false, false, false] rfl rfl (any_of HT_.out (by kernel_rfl)) (fun _ _ _ h => h) (Or.inl ⟨by rfl, ?_⟩) ?_ ?_
                                    rotate_left
                                    ·intro w'
                                     go_simp
                                     with_reducible rfl
                                    rotate_left
                                    ·simp only [Act.put, List.setIfInBounds_toArray, List.set_cons_zero, List.set_cons_succ, i64_w, i32_w]
                                     rfl
                                    refine pure_ (i := 16) (N := some 157) (v := ?_) (a' := ?_) #[true, true, true, true, true, true, true, true, true, true, true, true, true, true, true, false, true, false, false, false, false, false, false] rfl rfl (any_of HT_.out (by kernel_rfl)) (fun _ _ _ h => h) (Or.inl ⟨by rfl, ?_⟩) ?_ ?_
                                    rotate_left
                                    ·intro w'
                                     go_simp
                                     with_reducible rfl
                                    rotate_left
                                    ·simp only [Act.put, List.setIfInBounds_toArray, List.set_cons_zero, List.set_cons_succ, i64_w, i32_w]
                                     rfl
                                    refine pure_ (i := 17) (N := some 158) (v := ?_) (a' := ?_) #[true, true, true, true, true, true, true, true, true, true, true, true, true, true, true, false, true, true, false, false, false, false, false] rfl rfl (any_of HT_.out (by kernel_rfl)) (fun _ _ _ h => h) (Or.inl ⟨by rfl, ?_⟩) ?_ ?_
                                    rotate_left
                                    ·intro w'
                                     go_simp
                                     with_reducible rfl
                                    rotate_left
                                    ·simp only [Act.put, List.setIfInBounds_toArray, List.set_cons_zero, List.set_cons_succ, i64_w, i32_w]
                                     rfl
                                    refine pure_ (i := 18) (N := some 159) (v := ?_) (a' := ?_) #[true, true, true, true, true, true, true, true, true, true, true, true, true, true, true, false, true, true, true, false, false, false, false] rfl rfl (any_of HT_.out (by kernel_rfl)) (fun _ _ _ h => h) (Or.inl ⟨by rfl, ?_⟩) ?_ ?_
                                    rotate_left
                                    ·intro w'
                                     go_simp
                                     with_reducible rfl
                                    rotate_left
                                    ·simp only [Act.put, List.setIfInBounds_toArray, List.set_cons_zero, List.set_cons_succ, i64_w, i32_w]
                                     rfl
                                    refine take_ (i := 15) (N := some 156) (v := ?_) (a' := ?_) #[true, true, true, true, true, true, true, true, true, true, true, true, true, true, true, true, true, true, true, false, false, false, false] rfl rfl (take_ofW HT_.out HW_.out (by kernel_rfl)) (fun _ _ _ h => h) (Or.inl ⟨by rfl, ?_⟩) hHeld ?_ ?_
                                    rotate_left
                                    ·rintro w' ⟨s0, s1, s2, s3, s4, s5, s6, s7, s8, s9, s10, s11, s12, s13, s14, s15, s16, s17, s18, s19, s20, s21, s22, s23⟩
                                     go_simp
                                     with_reducible rfl
                                    rotate_left
                                    ·simp only [Act.put, List.setIfInBounds_toArray, List.set_cons_zero, List.set_cons_succ, i64_w, i32_w]
                                     rfl
                                    refine take_ (i := 19) (N := some 160) (v := ?_) (a' := ?_) #[true, true, true, true, true, true, true, true, true, true, true, true, true, true, true, true, true, true, true, true, false, false, false] rfl rfl (take_ofW HT_.out HW_.out (by kernel_rfl)) (fun _ _ _ h => h) (Or.inl ⟨by rfl, ?_⟩) hHeld ?_ ?_
                                    rotate_left
                                    ·rintro w' ⟨s0, s1, s2, s3, s4, s5, s6, s7, s8, s9, s10, s11, s12, s13, s14, s15, s16, s17, s18, s19, s20, s21, s22, s23⟩
                                     go_simp
                                     with_reducible rfl
                                    rotate_left
                                    ·simp only [Act.put, List.setIfInBounds_toArray, List.set_cons_zero, List.set_cons_succ, i64_w, i32_w]
                                     rfl
                                    refine one_ (i := 20) (N := some 161) #[true, true, true, true, true, true, true, true, true, true, true, true, true, true, true, true, true, true, true, true, true, false, false] rfl rfl (one_of HT_.out (by kernel_rfl)) (by decide) (fun K hK => ?_)
                                    refine goes_ Tryd.func31 (by kernel_rfl) rfl #[.agg #[.int .u8 ((rd_T69 x3_4 x9_6).f0), .int .i64 ((rd_T69 x3_4 x9_6).f1), .int .i64 ((rd_T69 x3_4 x9_6).f2), .int .i64 ((rd_T69 x3_4 x9_6).f3), .string ((rd_T69 x3_4 x9_6).f4), .int .u16 ((rd_T69 x3_4 x9_6).f5)], .agg #[.int .u8 ((rd_T69 t116 x8_4).f0), .int .i64 ((rd_T69 t116 x8_4).f1), .int .i64 ((rd_T69 t116 x8_4).f2), .int .i64 ((rd_T69 t116 x8_4).f3), .string ((rd_T69 t116 x8_4).f4), .int .u16 ((rd_T69 t116 x8_4).f5)]] (by rfl) rfl rfl (by (try simp only [List.map_toArray, List.map_cons, List.map_nil]); first | done | rfl | (simp only [List.length_drop, List.length_take]; rfl)) ?_
                                    with_reducible refine (spec_alike.calls k6 ((rd_T69 x3_4 x9_6).f0) ((rd_T69 x3_4 x9_6).f1) ((rd_T69 x3_4 x9_6).f2) ((rd_T69 x3_4 x9_6).f3) ((rd_T69 x3_4 x9_6).f4) ((rd_T69 x3_4 x9_6).f5) ((rd_T69 t116 x8_4).f0) ((rd_T69 t116 x8_4).f1) ((rd_T69 t116 x8_4).f2) ((rd_T69 t116 x8_4).f3) ((rd_T69 t116 x8_4).f4) ((rd_T69 t116 x8_4).f5) false _ A41.out).mono ?_
                                    rintro e w48 ⟨rfl, hb⟩
                                    have HS0_ := (hb.cell (World.block_lt_of_cell? _ _ (hHeld.1))).trans (hHeld.1)
                                    have HS1_ := (hb.cell (World.block_lt_of_cell? _ _ (hHeld.2.1))).trans (hHeld.2.1)
                                    have HS2_ := (hb.cell (World.block_lt_of_cell? _ _ (hHeld.2.2.1))).trans (hHeld.2.2.1)
                                    have HS3_ := (hb.cell (World.block_lt_of_cell? _ _ (hHeld.2.2.2.1))).trans (hHeld.2.2.2.1)
                                    have HS4_ := (hb.cell (World.block_lt_of_cell? _ _ (hHeld.2.2.2.2.1))).trans (hHeld.2.2.2.2.1)
                                    have HS5_ := (hb.cell (World.block_lt_of_cell? _ _ (hHeld.2.2.2.2.2.1))).trans (hHeld.2.2.2.2.2.1)
                                    have HS6_ := (hb.cell (World.block_lt_of_cell? _ _ (hHeld.2.2.2.2.2.2.1))).trans (hHeld.2.2.2.2.2.2.1)
                                    have HS7_ := (hb.cell (World.block_lt_of_cell? _ _ (hHeld.2.2.2.2.2.2.2.1))).trans (hHeld.2.2.2.2.2.2.2.1)
                                    have HS8_ := (hb.cell (World.block_lt_of_cell? _ _ (hHeld.2.2.2.2.2.2.2.2.1))).trans (hHeld.2.2.2.2.2.2.2.2.1)
                                    have HS9_ := (hb.cell (World.block_lt_of_cell? _ _ (hHeld.2.2.2.2.2.2.2.2.2.1))).trans (hHeld.2.2.2.2.2.2.2.2.2.1)
                                    have HS10_ := (hb.cell (World.block_lt_of_cell? _ _ (hHeld.2.2.2.2.2.2.2.2.2.2.1))).trans (hHeld.2.2.2.2.2.2.2.2.2.2.1)
                                    have HS11_ := (hb.cell (World.block_lt_of_cell? _ _ (hHeld.2.2.2.2.2.2.2.2.2.2.2.1))).trans (hHeld.2.2.2.2.2.2.2.2.2.2.2.1)
                                    have HS12_ := (hb.cell (World.block_lt_of_cell? _ _ (hHeld.2.2.2.2.2.2.2.2.2.2.2.2.1))).trans (hHeld.2.2.2.2.2.2.2.2.2.2.2.2.1)
                                    have HS13_ := (hb.cell (World.block_lt_of_cell? _ _ (hHeld.2.2.2.2.2.2.2.2.2.2.2.2.2.1))).trans (hHeld.2.2.2.2.2.2.2.2.2.2.2.2.2.1)
                                    have HS14_ := (hb.cell (World.block_lt_of_cell? _ _ (hHeld.2.2.2.2.2.2.2.2.2.2.2.2.2.2.1))).trans (hHeld.2.2.2.2.2.2.2.2.2.2.2.2.2.2.1)
                                    have HS15_ := (hb.cell (World.block_lt_of_cell? _ _ (hHeld.2.2.2.2.2.2.2.2.2.2.2.2.2.2.2.1))).trans (hHeld.2.2.2.2.2.2.2.2.2.2.2.2.2.2.2.1)
                                    have HS16_ := (hb.cell (World.block_lt_of_cell? _ _ (hHeld.2.2.2.2.2.2.2.2.2.2.2.2.2.2.2.2.1))).trans (hHeld.2.2.2.2.2.2.2.2.2.2.2.2.2.2.2.2.1)
                                    have HS17_ := (hb.cell (World.block_lt_of_cell? _ _ (hHeld.2.2.2.2.2.2.2.2.2.2.2.2.2.2.2.2.2.1))).trans (hHeld.2.2.2.2.2.2.2.2.2.2.2.2.2.2.2.2.2.1)
                                    have HS18_ := (hb.cell (World.block_lt_of_cell? _ _ (hHeld.2.2.2.2.2.2.2.2.2.2.2.2.2.2.2.2.2.2.1))).trans (hHeld.2.2.2.2.2.2.2.2.2.2.2.2.2.2.2.2.2.2.1)
                                    have HS19_ := (hb.cell (World.block_lt_of_cell? _ _ (hHeld.2.2.2.2.2.2.2.2.2.2.2.2.2.2.2.2.2.2.2.1))).trans (hHeld.2.2.2.2.2.2.2.2.2.2.2.2.2.2.2.2.2.2.2.1)
                                    have HS20_ := (hb.cell (World.block_lt_of_cell? _ _ (hHeld.2.2.2.2.2.2.2.2.2.2.2.2.2.2.2.2.2.2.2.2.1))).trans (hHeld.2.2.2.2.2.2.2.2.2.2.2.2.2.2.2.2.2.2.2.2.1)
                                    have HS21_ := (hb.cell (World.block_lt_of_cell? _ _ (hHeld.2.2.2.2.2.2.2.2.2.2.2.2.2.2.2.2.2.2.2.2.2.1))).trans (hHeld.2.2.2.2.2.2.2.2.2.2.2.2.2.2.2.2.2.2.2.2.2.1)
                                    have HS22_ := (hb.cell (World.block_lt_of_cell? _ _ (hHeld.2.2.2.2.2.2.2.2.2.2.2.2.2.2.2.2.2.2.2.2.2.2.1))).trans (hHeld.2.2.2.2.2.2.2.2.2.2.2.2.2.2.2.2.2.2.2.2.2.2.1)
                                    have HS23_ := (hb.cell (World.block_lt_of_cell? _ _ (hHeld.2.2.2.2.2.2.2.2.2.2.2.2.2.2.2.2.2.2.2.2.2.2.2))).trans (hHeld.2.2.2.2.2.2.2.2.2.2.2.2.2.2.2.2.2.2.2.2.2.2.2)
                                    refine ⟨_, rfl, ?_⟩
                                    have n0_ := Aside0.mk (Kd.R_below (by (with_reducible repeat (first | apply Kd.R_alloc | apply Kd.R_drewN | apply Kd.R_drew)); exact HO_3.out) hb)
                                    have n1_ := Aside0.mk (Kd.R_below (by (with_reducible repeat (first | apply Kd.R_alloc | apply Kd.R_drewN | apply Kd.R_drew)); exact HO_6.out) hb)
                                    have n2_ := Aside0.mk (below_step (by repeat (first | (with_reducible first | exact HB.out | apply below_alloc | apply pw_below_drewN | apply below_drew1) | exact HB.out)) hb)
                                    clear HO_3
                                    clear HO_6
                                    clear HB
                                    have HO_3 := n0_
                                    have HO_6 := n1_
                                    have HB := n2_
                                    clear n0_ n1_ n2_
                                    (try clear hb)
                                    (try clear hb2)
                                    (try clear hk)
                                    (try clear hi)
                                    refine hK.out _ _ ⟨HS0_, HS1_, HS2_, HS3_, HS4_, HS5_, HS6_, HS7_, HS8_, HS9_, HS10_, HS11_, HS12_, HS13_, HS14_, HS15_, HS16_, HS17_, HS18_, HS19_, HS20_, HS21_, HS22_, HS23_⟩ (fun hHeld => ?_)
                                    clear hK K
                                    refine norm_ (a' := ?_) ?_ ?_
                                    rotate_left
                                    ·show Act.put _ (some 161) _ = _
                                     simp only [Act.put, List.setIfInBounds_toArray, List.set_cons_zero, List.set_cons_succ, i64_w, i32_w]
                                     rfl
                                    refine pure_ (i := 21) (N := some 162) (v := ?_) (a' := ?_) #[true, true, true, true, true, true, true, true, true, true, true, true, true, true, true, true, true, true, true, true, true, true, false] rfl rfl (any_of HT_.out (by kernel_rfl)) (fun _ _ _ h => h) (Or.inl ⟨by rfl, ?_⟩) ?_ ?_
                                    rotate_left
                                    ·intro w'
                                     go_simp
                                     with_reducible rfl
                                    rotate_left
                                    ·simp only [Act.put, List.setIfInBounds_toArray, List.set_cons_zero, List.set_cons_succ, i64_w, i32_w]
                                     rfl
                                    refine pure_ (i := 22) (N := some 163) (v := ?_) (a' := ?_) #[true, true, true, true, true, true, true, true, true, true, true, true, true, true, true, true, true, true, true, true, true, true, true] rfl rfl (any_of HT_.out (by kernel_rfl)) (fun _ _ _ h => h) (Or.inl ⟨by rfl, ?_⟩) ?_ ?_
                                    rotate_left
                                    ·intro w'
                                     go_simp
                                     with_reducible rfl
                                    rotate_left
                                    ·simp only [Act.put, List.setIfInBounds_toArray, List.set_cons_zero, List.set_cons_succ, i64_w, i32_w]
                                     rfl
                                    refine done_ (done_of HT_.out (by kernel_rfl)) ?_
                                    try go_wp2
                                    go_ret
                                    exact ⟨by first | rfl | (simp [errW_none, errW_some] <;> rfl) | (simp [*, errW_none, errW_some] <;> rfl), by repeat (first | (with_reducible first | exact HB.out | apply below_alloc | apply pw_below_drewN | apply below_drew1) | exact HB.out)⟩
                                  ·rw [if_neg c40] at H
                                   have c40b0 : (((rd_T69 x3_4 x9_6).f2) == ((rd_T69 t116 x8_4).f2)) = false := beq_eq_false_iff_ne.mpr c40
                                   have c40b1 : (((rd_T69 x3_4 x9_6).f2) != ((rd_T69 t116 x8_4).f2)) = true := bne_iff_ne.mpr c40
                                   have H' := Aside0.mk H
                                   clear H
                                   obtain ⟨Ao49, co49, eo49⟩ := Kd.R_slice HO_3.out
                                   subst eo49
                                   try go_wp2
                                   have n0_ := Aside0.mk (Kd.R_drew HO_3.out)
                                   have n1_ := Aside0.mk (Kd.R_drew HO_6.out)
                                   have n2_ := Aside0.mk (below_drew1 HB.out)
                                   clear HO_3
                                   clear HO_6
                                   clear HB
                                   have HO_3 := n0_
                                   have HO_6 := n1_
                                   have HB := n2_
                                   clear n0_ n1_ n2_
                                   have p125 : 0 ≤ (x9_6 : Int) := of_decide_eq_true (by first | (with_reducible assumption) | assumption)
                                   have q125 : x9_6 < (x3_4.length : Int) := of_decide_eq_true (by first | (with_reducible assumption) | assumption)
                                   obtain ⟨ad125, e125, hx125_0, hx125_1, hx125_2, hx125_3, hx125_4, hx125_5⟩ := at_T69 (Kd.R_reads' HO_3.out).2.2 x9_6 p125 q125
                                   cases e125
                                   replace p125 := eq_true p125
                                   replace q125 := eq_true q125
                                   have p126 : 0 ≤ (x8_4 : Int) := of_decide_eq_true (by first | (with_reducible assumption) | assumption)
                                   have q126 : x8_4 < (t116.length : Int) := of_decide_eq_true (by first | (with_reducible assumption) | assumption)
                                   obtain ⟨ad126, e126, hx126_0, hx126_1, hx126_2, hx126_3, hx126_4, hx126_5⟩ := at_T69 (Kd.R_reads' HO_6.out).2.2 x8_4 p126 q126
                                   cases e126
                                   replace p126 := eq_true p126
                                   replace q126 := eq_true q126
                                   refine start_ (n := 23) (S := fun w' => w'.cell? (ad125.add ((x9_6).toNat * 6)) = some (.int .u8 ((rd_T69 x3_4 x9_6).f0)) ∧ w'.cell? ⟨(ad125.add ((x9_6).toNat * 6)).block, (ad125.add ((x9_6).toNat * 6)).off + 1, none⟩ = some (.int .i64 ((rd_T69 x3_4 x9_6).f1)) ∧ w'.cell? ⟨(ad125.add ((x9_6).toNat * 6)).block, (ad125.add ((x9_6).toNat * 6)).off + 2, none⟩ = some (.int .i64 ((rd_T69 x3_4 x9_6).f2)) ∧ w'.cell? ⟨(ad125.add ((x9_6).toNat * 6)).block, (ad125.add ((x9_6).toNat * 6)).off + 3, none⟩ = some (.int .i64 ((rd_T69 x3_4 x9_6).f3)) ∧ w'.cell? ⟨(ad125.add ((x9_6).toNat * 6)).block, (ad125.add ((x9_6).toNat * 6)).off + 4, none⟩ = some (.string ((rd_T69 x3_4 x9_6).f4)) ∧ w'.cell? ⟨(ad125.add ((x9_6).toNat * 6)).block, (ad125.add ((x9_6).toNat * 6)).off + 5, none⟩ = some (.int .u16 ((rd_T69 x3_4 x9_6).f5)) ∧ w'.cell? (ad126.add ((x8_4).toNat * 6)) = some (.int .u8 ((rd_T69 t116 x8_4).f0)) ∧ w'.cell? ⟨(ad126.add ((x8_4).toNat * 6)).block, (ad126.add ((x8_4).toNat * 6)).off + 1, none⟩ = some (.int .i64 ((rd_T69 t116 x8_4).f1)) ∧ w'.cell? ⟨(ad126.add ((x8_4).toNat * 6)).block, (ad126.add ((x8_4).toNat * 6)).off + 2, none⟩ = some (.int .i64 ((rd_T69 t116 x8_4).f2)) ∧ w'.cell? ⟨(ad126.add ((x8_4).toNat * 6)).block, (ad126.add ((x8_4).toNat * 6)).off + 3, none⟩ = some (.int .i64 ((rd_T69 t116 x8_4).f3)) ∧ w'.cell? ⟨(ad126.add ((x8_4).toNat * 6)).block, (ad126.add ((x8_4).toNat * 6)).off + 4, none⟩ = some (.string ((rd_T69 t116 x8_4).f4)) ∧ w'.cell? ⟨(ad126.add ((x8_4).toNat * 6)).block, (ad126.add ((x8_4).toNat * 6)).off + 5, none⟩ = some (.int .u16 ((rd_T69 t116 x8_4).f5))) (ds := []) #[false, false, false, false, false, false, false, false, false, false, false, false, false, false, false, false, false, false, false, false, false, false, false] (by kernel_rfl) rfl rfl ⟨hx125_0, hx125_1, hx125_2, hx125_3, hx125_4, hx125_5, hx126_0, hx126_1, hx126_2, hx126_3, hx126_4, hx126_5⟩ (fun hHeld => ?_); refine with_tabW spec_FragmentsKnown.tab24 spec_FragmentsKnown.bits24 (fun HT_ HW_ => ?_)
                                   generalize wr.drew = w50 at HO_3 HO_6 HB hx125_0 hx125_1 hx125_2 hx125_3 hx125_4 hx125_5 hx126_0 hx126_1 hx126_2 hx126_3 hx126_4 hx126_5 hHeld ⊢
                                   refine pure_ (i := 0) (N := some 141) (v := ?_) (a' := ?_) #[true, false, false, false, false, false, false, false, false, false, false, false, false, false, false, false, false, false, false, false, false, false, false] rfl rfl (any_of HT_.out (by kernel_rfl)) (fun _ _ _ h => h) (Or.inl ⟨by rfl, ?_⟩) ?_ ?_
                                   rotate_left
                                   ·intro w'
                                    go_simp
                                    with_reducible rfl
                                   rotate_left
                                   ·simp only [Act.put, List.setIfInBounds_toArray, List.set_cons_zero, List.set_cons_succ, i64_w, i32_w]
                                    rfl
                                   refine pure_ (i := 1) (N := some 142) (v := ?_) (a' := ?_) #[true, true, false, false, false, false, false, false, false, false, false, false, false, false, false, false, false, false, false, false, false, false, false] rfl rfl (any_of HT_.out (by kernel_rfl)) (fun _ _ _ h => h) (Or.inl ⟨by rfl, ?_⟩) ?_ ?_
                                   rotate_left
                                   ·intro w'
                                    go_simp
                                    with_reducible rfl
                                   rotate_left
                                   ·simp only [Act.put, List.setIfInBounds_toArray, List.set_cons_zero, List.set_cons_succ, i64_w, i32_w]
                                    rfl
                                   refine pure_ (i := 2) (N := some 143) (v := ?_) (a' := ?_) #[true, true, true, false, false, false, false, false, false, false, false, false, false, false, false, false, false, false, false, false, false, false, false] rfl rfl (any_of HT_.out (by kernel_rfl)) (fun _ _ _ h => h) (Or.inl ⟨by rfl, ?_⟩) ?_ ?_
                                   rotate_left
                                   ·intro w'
                                    go_simp
                                    with_reducible rfl
                                   rotate_left
                                   ·simp only [Act.put, List.setIfInBounds_toArray, List.set_cons_zero, List.set_cons_succ, i64_w, i32_w]
                                    rfl
                                   refine pure_ (i := 3) (N := some 144) (v := ?_) (a' := ?_) #[true, true, true, true, false, false, false, false, false, false, false, false, false, false, false, false, false, false, false, false, false, false, false] rfl rfl (any_of HT_.out (by kernel_rfl)) (fun _ _ _ h => h) (Or.inl ⟨by rfl, ?_⟩) ?_ ?_
                                   rotate_left
                                   ·intro w'
                                    go_simp
                                    with_reducible rfl
                                   rotate_left
                                   ·simp only [Act.put, List.setIfInBounds_toArray, List.set_cons_zero, List.set_cons_succ, i64_w, i32_w]
                                    rfl
                                   refine pure_ (i := 5) (N := some 146) (v := ?_) (a' := ?_) #[true, true, true, true, false, true, false, false, false, false, false, false, false, false, false, false, false, false, false, false, false, false, false] rfl rfl (any_of HT_.out (by kernel_rfl)) (fun _ _ _ h => h) (Or.inl ⟨by rfl, ?_⟩) ?_ ?_
                                   rotate_left
                                   ·intro w'
                                    go_simp
                                    with_reducible rfl
                                   rotate_left
                                   ·simp only [Act.put, List.setIfInBounds_toArray, List.set_cons_zero, List.set_cons_succ, i64_w, i32_w]
                                    rfl
                                   refine pure_ (i := 6) (N := some 147) (v := ?_) (a' := ?_) #[true, true, true, true, false, true, true, false, false, false, false, false, false, false, false, false, false, false, false, false, false, false, false] rfl rfl (any_of HT_.out (by kernel_rfl)) (fun _ _ _ h => h) (Or.inl ⟨by rfl, ?_⟩) ?_ ?_
                                   rotate_left
                                   ·intro w'
                                    go_simp
                                    with_reducible rfl
                                   rotate_left
                                   ·simp only [Act.put, List.setIfInBounds_toArray, List.set_cons_zero, List.set_cons_succ, i64_w, i32_w]
                                    rfl
                                   refine pure_ (i := 7) (N := some 148) (v := ?_) (a' := ?_) #[true, true, true, true, false, true, true, true, false, false, false, false, false, false, false, false, false, false, false, false, false, false, false] rfl rfl (any_of HT_.out (by kernel_rfl)) (fun _ _ _ h => h) (Or.inl ⟨by rfl, ?_⟩) ?_ ?_
                                   rotate_left
                                   ·intro w'
                                    go_simp
                                    with_reducible rfl
                                   rotate_left
                                   ·simp only [Act.put, List.setIfInBounds_toArray, List.set_cons_zero, List.set_cons_succ, i64_w, i32_w]
                                    rfl
                                   refine pure_ (i := 8) (N := some 149) (v := ?_) (a' := ?_) #[true, true, true, true, false, true, true, true, true, false, false, false, false, false, false, false, false, false, false, false, false, false, false] rfl rfl (any_of HT_.out (by kernel_rfl)) (fun _ _ _ h => h) (Or.inl ⟨by rfl, ?_⟩) ?_ ?_
                                   rotate_left
                                   ·intro w'
                                    go_simp
                                    with_reducible rfl
                                   rotate_left
                                   ·simp only [Act.put, List.setIfInBounds_toArray, List.set_cons_zero, List.set_cons_succ, i64_w, i32_w]
                                    rfl
                                   refine take_ (i := 4) (N := some 145) (v := ?_) (a' := ?_) #[true, true, true, true, true, true, true, true, true, false, false, false, false, false, false, false, false, false, false, false, false, false, false] rfl rfl (take_ofW HT_.out HW_.out (by kernel_rfl)) (fun _ _ _ h => h) (Or.inl ⟨by rfl, ?_⟩) hHeld ?_ ?_
                                   rotate_left
                                   ·rintro w' ⟨s0, s1, s2, s3, s4, s5, s6, s7, s8, s9, s10, s11⟩
                                    go_simp
                                    with_reducible rfl
                                   rotate_left
                                   ·simp only [Act.put, List.setIfInBounds_toArray, List.set_cons_zero, List.set_cons_succ, i64_w, i32_w]
                                    rfl
                                   refine take_ (i := 9) (N := some 150) (v := ?_) (a' := ?_) #[true, true, true, true, true, true, true, true, true, true, false, false, false, false, false, false, false, false, false, false, false, false, false] rfl rfl (take_ofW HT_.out HW_.out (by kernel_rfl)) (fun _ _ _ h => h) (Or.inl ⟨by rfl, ?_⟩) hHeld ?_ ?_
                                   rotate_left
                                   ·rintro w' ⟨s0, s1, s2, s3, s4, s5, s6, s7, s8, s9, s10, s11⟩
                                    go_simp
                                    with_reducible rfl
                                   rotate_left
                                   ·simp only [Act.put, List.setIfInBounds_toArray, List.set_cons_zero, List.set_cons_succ, i64_w, i32_w]
                                    rfl
                                   refine pure_ (i := 10) (N := some 151) (v := ?_) (a' := ?_) #[true, true, true, true, true, true, true, true, true, true, true, false, false, false, false, false, false, false, false, false, false, false, false] rfl rfl (any_of HT_.out (by kernel_rfl)) (fun _ _ _ h => h) (Or.inl ⟨by rfl, ?_⟩) ?_ ?_
                                   rotate_left
                                   ·intro w'
                                    go_simp
                                    with_reducible rfl
                                   rotate_left
                                   ·simp only [Act.put, List.setIfInBounds_toArray, List.set_cons_zero, List.set_cons_succ, i64_w, i32_w]
                                    rfl
                                   refine pure_ (i := 11) (N := some 152) (v := ?_) (a' := ?_) #[true, true, true, true, true, true, true, true, true, true, true, true, false, false, false, false, false, false, false, false, false, false, false] rfl rfl (any_of HT_.out (by kernel_rfl)) (fun _ _ _ h => h) (Or.inl ⟨by rfl, ?_⟩) ?_ ?_
                                   rotate_left
                                   ·intro w'
                                    go_simp
                                    with_reducible rfl
                                   rotate_left
                                   ·simp only [Act.put, List.setIfInBounds_toArray, List.set_cons_zero, List.set_cons_succ, i64_w, i32_w]
                                    rfl
                                   refine pure_ (i := 12) (N := some 153) (v := undef) (a' := ?_) #[true, true, true, true, true, true, true, true, true, true, true, true, true, false, false, false, false, false, false, false, false, false, false] rfl rfl (any_of HT_.out (by kernel_rfl)) (fun _ _ _ h => h) (Or.inr ⟨by rfl, rfl⟩) ?_ ?_
                                   rotate_left
                                   ·simp only [Act.put, List.setIfInBounds_toArray, List.set_cons_zero, List.set_cons_succ, i64_w, i32_w]
                                    rfl
                                   refine pure_ (i := 13) (N := some 154) (v := undef) (a' := ?_) #[true, true, true, true, true, true, true, true, true, true, true, true, true, true, false, false, false, false, false, false, false, false, false] rfl rfl (any_of HT_.out (by kernel_rfl)) (fun _ _ _ h => h) (Or.inr ⟨by rfl, rfl⟩) ?_ ?_
                                   rotate_left
                                   ·simp only [Act.put, List.setIfInBounds_toArray, List.set_cons_zero, List.set_cons_succ, i64_w, i32_w]
                                    rfl
                                   refine pure_ (i := 14) (N := some 155) (v := undef) (a' := ?_) #[true, true, true, true, true, true, true, true, true, true, true, true, true, true, true, false, false, false, false, false, false, false, false] rfl rfl (any_of HT_.out (by kernel_rfl)) (fun _ _ _ h => h) (Or.inr ⟨by rfl, rfl⟩) ?_ ?_
                                   rotate_left
                                   ·simp only [Act.put, List.setIfInBounds_toArray, List.set_cons_zero, List.set_cons_succ, i64_w, i32_w]
                                    rfl
                                   refine pure_ (i := 15) (N := some 156) (v := undef) (a' := ?_) #[true, true, true, true, true, true, true, true, true, true, true, true, true, true, true, true, false, false, false, false, false, false, false] rfl rfl (any_of HT_.out (by kernel_rfl)) (fun _ _ _ h => h) (Or.inr ⟨by rfl, rfl⟩) ?_ ?_
                                   rotate_left
                                   ·simp only [Act.put, List.setIfInBounds_toArray, List.set_cons_zero, List.set_cons_succ, i64_w, i32_w]
                                    rfl
                                   refine pure_ (i := 16) (N := some 157) (v := undef) (a' := ?_) #[true, true, true, true, true, true, true, true, true, true, true, true, true, true, true, true, true, false, false, false, false, false, false] rfl rfl (any_of HT_.out (by kernel_rfl)) (fun _ _ _ h => h) (Or.inr ⟨by rfl, rfl⟩) ?_ ?_
                                   rotate_left
                                   ·simp only [Act.put, List.setIfInBounds_toArray, List.set_cons_zero, List.set_cons_succ, i64_w, i32_w]
                                    rfl
                                   refine pure_ (i := 17) (N := some 158) (v := undef) (a' := ?_) #[true, true, true, true, true, true, true, true, true, true, true, true, true, true, true, true, true, true, false, false, false, false, false] rfl rfl (any_of HT_.out (by kernel_rfl)) (fun _ _ _ h => h) (Or.inr ⟨by rfl, rfl⟩) ?_ ?_
                                   rotate_left
                                   ·simp only [Act.put, List.setIfInBounds_toArray, List.set_cons_zero, List.set_cons_succ, i64_w, i32_w]
                                    rfl
                                   refine pure_ (i := 18) (N := some 159) (v := undef) (a' := ?_) #[true, true, true, true, true, true, true, true, true, true, true, true, true, true, true, true, true, true, true, false, false, false, false] rfl rfl (any_of HT_.out (by kernel_rfl)) (fun _ _ _ h => h) (Or.inr ⟨by rfl, rfl⟩) ?_ ?_
                                   rotate_left
                                   ·simp only [Act.put, List.setIfInBounds_toArray, List.set_cons_zero, List.set_cons_succ, i64_w, i32_w]
                                    rfl
                                   refine pure_ (i := 19) (N := some 160) (v := undef) (a' := ?_) #[true, true, true, true, true, true, true, true, true, true, true, true, true, true, true, true, true, true, true, true, false, false, false] rfl rfl (any_of HT_.out (by kernel_rfl)) (fun _ _ _ h => h) (Or.inr ⟨by rfl, rfl⟩) ?_ ?_
                                   rotate_left
                                   ·simp only [Act.put, List.setIfInBounds_toArray, List.set_cons_zero, List.set_cons_succ, i64_w, i32_w]
                                    rfl
                                   refine pure_ (i := 20) (N := some 161) (v := undef) (a' := ?_) #[true, true, true, true, true, true, true, true, true, true, true, true, true, true, true, true, true, true, true, true, true, false, false] rfl rfl (any_of HT_.out (by kernel_rfl)) (fun _ _ _ h => h) (Or.inr ⟨by rfl, rfl⟩) ?_ ?_
                                   rotate_left
                                   ·simp only [Act.put, List.setIfInBounds_toArray, List.set_cons_zero, List.set_cons_succ, i64_w, i32_w]
                                    rfl
                                   refine pure_ (i := 21) (N := some 162) (v := undef) (a' := ?_) #[true, true, true, true, true, true, true, true, true, true, true, true, true, true, true, true, true, true, true, true, true, true, false] rfl rfl (any_of HT_.out (by kernel_rfl)) (fun _ _ _ h => h) (Or.inr ⟨by rfl, rfl⟩) ?_ ?_
                                   rotate_left
                                   ·simp only [Act.put, List.setIfInBounds_toArray, List.set_cons_zero, List.set_cons_succ, i64_w, i32_w]
                                    rfl
                                   refine pure_ (i := 22) (N := some 163) (v := ?_) (a' := ?_) #[true, true, true, true, true, true, true, true, true, true, true, true, true, true, true, true, true, true, true, true, true, true, true] rfl rfl (any_of HT_.out (by kernel_rfl)) (fun _ _ _ h => h) (Or.inl ⟨by rfl, ?_⟩) ?_ ?_
                                   rotate_left
                                   ·intro w'
                                    go_simp
                                    with_reducible rfl
                                   rotate_left
                                   ·simp only [Act.put, List.setIfInBounds_toArray, List.set_cons_zero, List.set_cons_succ, i64_w, i32_w]
                                    rfl
                                   refine done_ (done_of HT_.out (by kernel_rfl)) ?_
                                   try go_wp2
                                   go_roundg k6
                                   case measure => have := HK1.out; have := HJ5.out; have := HJ19.out; have := HK4.out; have := HJ30.out; have := HK6.out; omega
                                   case rel => exact ⟨(wrap64 (x9_6 + 1)), (by first | rfl | (simp; done) | (simp [*]; done)), H', ⟨by have := HK1.out; have := HJ5.out; have := HJ19.out; have := HK4.out; have := HJ30.out; have := HK6.out; omega⟩, ⟨by (with_reducible repeat (first | apply Kd.R_alloc | apply Kd.R_drewN | apply Kd.R_drew)); exact HO_3.out⟩, ⟨by (with_reducible repeat (first | apply Kd.R_alloc | apply Kd.R_drewN | apply Kd.R_drew)); exact HO_6.out⟩, ⟨by repeat (first | (with_reducible first | exact HB.out | apply below_alloc | apply pw_below_drewN | apply below_drew1) | exact HB.out)⟩⟩
                                 ·rw [if_neg c39] at H
                                  exact absurd H (by simp)
                                ·rw [if_neg c38] at H
                                 exact absurd H (by simp)
                               ·rw [if_neg c37] at H
                                exact absurd H (by simp)
                              ·rw [if_neg c36] at H
                               have c36b0 : decide (x9_6 < (x3_4.length : Int)) = false := decide_eq_false c36
                               clear c36
                               by_cases c51 : 0 ≤ x8_4
                               ·rw [if_pos c51] at H
                                have c51b0 : decide (0 ≤ x8_4) = true := decide_eq_true c51
                                clear c51
                                by_cases c52 : x8_4 < (t116.length : Int)
                                ·rw [if_pos c52] at H
                                 have c52b0 : decide (x8_4 < (t116.length : Int)) = true := decide_eq_true c52
                                 clear c52
                                 by_cases c53 : x3_4.length < 2513169434916
                                 ·rw [if_pos c53] at H
                                  have LMc53 := Aside0.mk c53
                                  clear c53
                                  obtain ⟨y131, hy131⟩ : ∃ y_ : List (S69), y_ = (x3_4 ++ [(⟨(rd_T69 t116 x8_4).f0, (rd_T69 t116 x8_4).f1, (rd_T69 t116 x8_4).f2, (rd_T69 t116 x8_4).f3, (rd_T69 t116 x8_4).f4, (rd_T69 t116 x8_4).f5⟩ : S69)]) := ⟨_, rfl⟩
                                  replace H : (spec_FragmentsKnown.l1 k6 l0 y131 (wrap64 (x4_1 + (((rd_T45 l0 x5_1).f1).size : Int))) x5_1 t116 (wrap64 (x8_4 + 1))) = some r := by first | (rw [hy131]; with_reducible exact H) | (have H2_ := (Option.bind_some _ _).symm.trans H; rw [hy131]; with_reducible exact H2_) | (have H2_ := (Option.bind_some _ _).symm.trans H; with_reducible exact H2_) | with_reducible exact H | (rw [hy131]; exact H) | exact H
                                  have Ny131 := Aside0.mk hy131
                                  clear hy131
                                  have H' := Aside0.mk H
                                  clear H
                                  obtain ⟨Ao54, co54, eo54⟩ := Kd.R_slice HO_3.out
                                  subst eo54
                                  have p130 : 0 ≤ (x8_4 : Int) := of_decide_eq_true (by first | (with_reducible assumption) | assumption)
                                  have q130 : x8_4 < (t116.length : Int) := of_decide_eq_true (by first | (with_reducible assumption) | assumption)
                                  obtain ⟨ad130, e130, hx130_0, hx130_1, hx130_2, hx130_3, hx130_4, hx130_5⟩ := at_T69 (Kd.R_reads' HO_6.out).2.2 x8_4 p130 q130
                                  cases e130
                                  replace p130 := eq_true p130
                                  replace q130 := eq_true q130
                                  go_wp2_with (first | ((with_reducible refine gate_builtin (b := .append) (xs := #[.tmp 164, .tmp 169]) rfl ?_); (try (refine gate_guard (by rfl) ?_; dsimp only)); at_builtin; refine Kd.R_append k69 (w0 := w) w.heap.size rfl (.tmp 164) (.tmp 169) 64 69 (.agg #[(.int .u8 0), (.int .i64 0), (.int .i64 0), (.int .i64 0), (.string ⟨#[]⟩), (.int .u16 0)]) 56 rfl Tryd.underlying64 info69 rfl (by decide) (by omega) (.slice Ao54 x3_4.length co54) x3_4 (⟨(rd_T69 t116 x8_4).f0, (rd_T69 t116 x8_4).f1, (rd_T69 t116 x8_4).f2, (rd_T69 t116 x8_4).f3, (rd_T69 t116 x8_4).f4, (rd_T69 t116 x8_4).f5⟩ : S69) [.int .u8 ((rd_T69 t116 x8_4).f0), .int .i64 ((rd_T69 t116 x8_4).f1), .int .i64 ((rd_T69 t116 x8_4).f2), .int .i64 ((rd_T69 t116 x8_4).f3), .string ((rd_T69 t116 x8_4).f4), .int .u16 ((rd_T69 t116 x8_4).f5)] (fun k_ => some k_ ≠ (.slice (some ad130) t116.length co32 : Value).ownBlock) (fun _ => False) rfl rfl ?aP (fun _ hk => hk.elim) ?aF ?aO ?aB ?aS ?aL ?_; (case aP => exact k69_mkM _ _ _ (⟨(rd_T69 t116 x8_4).f0, (rd_T69 t116 x8_4).f1, (rd_T69 t116 x8_4).f2, (rd_T69 t116 x8_4).f3, (rd_T69 t116 x8_4).f4, (rd_T69 t116 x8_4).f5⟩ : S69)); (case aB => exact (by repeat (first | (with_reducible first | exact HB.out | apply below_alloc | apply pw_below_drewN | apply below_drew1) | exact HB.out))); (case aF => exact (fun k_ hk => Kd.fresh' (Kd.R_lt (by (with_reducible repeat (first | apply Kd.R_alloc | apply Kd.R_drewN | apply Kd.R_drew)); exact HO_6.out)) k_ hk)); (case aO => exact (by (with_reducible repeat (first | apply Kd.R_alloc | apply Kd.R_drewN | apply Kd.R_drew)); exact HO_3.out)); (case aS => exact (below_size (by repeat (first | (with_reducible first | exact HB.out | apply below_alloc | apply pw_below_drewN | apply below_drew1) | exact HB.out)))); (case aL => have := LMc53.out; omega); intro v132 w55 ho hb hg hat; rw [← Ny131.out] at ho; have n0_ := Aside0.mk (Kd.R_after (ok := (fun _ => True)) (by (with_reducible repeat (first | apply Kd.R_alloc | apply Kd.R_drewN | apply Kd.R_drew)); exact Kd.R_mono HO_6.out (fun _ hk => ⟨trivial, hk⟩)) hg hat); have n1_ := Aside0.mk (hb); have n2_ := Aside0.mk (ho); clear HO_6; clear HB; clear HO_3; have HO_6 := n0_; have HB := n1_; have HO133 := n2_; clear n0_ n1_ n2_; clear ho hb hg hat))
                                  go_roundg k6
                                  case measure => have := HK1.out; have := HJ5.out; have := HJ19.out; have := HK4.out; have := HJ30.out; have := HK6.out; omega
                                  case rel => exact ⟨(y131), (wrap64 (x8_4 + 1)), (by first | rfl | (simp; done) | (simp [*]; done)), H', ⟨by have := HK1.out; have := HJ5.out; have := HJ19.out; have := HK4.out; have := HJ30.out; have := HK6.out; omega⟩, ⟨by (with_reducible repeat (first | apply Kd.R_alloc | apply Kd.R_drewN | apply Kd.R_drew)); exact HO133.out⟩, ⟨by (with_reducible repeat (first | apply Kd.R_alloc | apply Kd.R_drewN | apply Kd.R_drew)); exact Kd.R_mono HO_6.out (fun _ hk => hk.2)⟩, ⟨by repeat (first | (with_reducible first | exact HB.out | apply below_alloc | apply pw_below_drewN | apply below_drew1) | exact HB.out)⟩⟩
                                 ·rw [if_neg c53] at H
                                  exact absurd H (by simp)
                                ·rw [if_neg c52] at H
                                 exact absurd H (by simp)
                               ·rw [if_neg c51] at H
                                exact absurd H (by simp)
                      ·rw [if_neg c30] at H
                       have c30b0 : decide (x8_4 < (t116.length : Int)) = false := decide_eq_false c30
                       clear c30
                       have H' := Aside0.mk H
                       clear H
                       obtain ⟨Ao56, co56, eo56⟩ := Kd.R_slice HO_6.out
                       subst eo56
                       go_wp2
                       go_roundg k4
                       case measure => have := HK1.out; have := HJ5.out; have := HJ19.out; have := HK4.out; omega
                       case rel => exact ⟨(x3_4), ((wrap64 (x4_1 + (((rd_T45 l0 x5_1).f1).size : Int)))), (wrap64 (x5_1 + 1)), (by first | rfl | (simp; done) | (simp [*]; done)), (by first | rfl | (simp; done) | (simp [*]; done)), H', ⟨by have := HK1.out; have := HJ5.out; have := HJ19.out; have := HK4.out; omega⟩, ⟨by (with_reducible repeat (first | apply Kd.R_alloc | apply Kd.R_drewN | apply Kd.R_drew)); exact Kd.R_mono HO_3.out (fun _ hk => trivial)⟩, ⟨by repeat (first | (with_reducible first | exact HB.out | apply below_alloc | apply pw_below_drewN | apply below_drew1) | exact HB.out)⟩⟩
              ·rw [if_neg c18] at H
               have c18b0 : ((bt ((rd_T45 l0 x5_1).f1) 0) == 22) = false := beq_eq_false_iff_ne.mpr c18
               have c18b1 : ((bt ((rd_T45 l0 x5_1).f1) 0) != 22) = true := bne_iff_ne.mpr c18
               by_cases c58 : (bt ((rd_T45 l0 x5_1).f1) 0) < 20
               ·rw [if_pos c58] at H
                have c58b0 : decide ((bt ((rd_T45 l0 x5_1).f1) 0) < 20) = true := decide_eq_true c58
                clear c58
                obtain rfl := Option.some.inj H
                have p111 : 0 ≤ (x5_1 : Int) := of_decide_eq_true (by first | (with_reducible assumption) | assumption)
                have q111 : x5_1 < (l0.length : Int) := of_decide_eq_true (by first | (with_reducible assumption) | assumption)
                obtain ⟨ad111, e111, hx111_0, hx111_1⟩ := at_T45 HR0.out x5_1 p111 q111
                (try rw [← Nbq4.out] at hx111_0)
                obtain rfl : ad107 = ad111 := (by injection e111)
                replace hx111_0 := (HB.out.cell (World.block_lt_of_cell? w _ hx111_0)).trans hx111_0
                replace hx111_1 := (HB.out.cell (World.block_lt_of_cell? w _ hx111_1)).trans hx111_1
                replace p111 := eq_true p111
                replace q111 := eq_true q111
                have p112 : 0 ≤ (x5_1 : Int) := of_decide_eq_true (by first | (with_reducible assumption) | assumption)
                have q112 : x5_1 < (l0.length : Int) := of_decide_eq_true (by first | (with_reducible assumption) | assumption)
                obtain ⟨ad112, e112, hx112_0, hx112_1⟩ := at_T45 HR0.out x5_1 p112 q112
                (try rw [← Nbq4.out] at hx112_0)
                obtain rfl : ad107 = ad112 := (by injection e112)
                replace hx112_0 := (HB.out.cell (World.block_lt_of_cell? w _ hx112_0)).trans hx112_0
                replace hx112_1 := (HB.out.cell (World.block_lt_of_cell? w _ hx112_1)).trans hx112_1
                replace p112 := eq_true p112
                replace q112 := eq_true q112
                have p17 : 0 ≤ (0 : Int) := (by omega)
                have q17 : 0 < ((rd_T45 l0 x5_1).f1).size := (by have : (0 : Int) < (((rd_T45 l0 x5_1).f1).size : Int) := of_decide_eq_true (by first | (with_reducible assumption) | assumption); omega)
                have hx17 : ∀ h : 0 < ((rd_T45 l0 x5_1).f1).size, ((((rd_T45 l0 x5_1).f1)[0]'h).toNat : Int) = bt ((rd_T45 l0 x5_1).f1) 0 := bt_at ((rd_T45 l0 x5_1).f1) 0
                clear p17
                have qi17 : (0 < (((rd_T45 l0 x5_1).f1).size : Int)) = True := eq_true (of_decide_eq_true (by first | (with_reducible assumption) | assumption))
                replace q17 := eq_true q17
                have p113 : 0 ≤ (x5_1 : Int) := of_decide_eq_true (by first | (with_reducible assumption) | assumption)
                have q113 : x5_1 < (l0.length : Int) := of_decide_eq_true (by first | (with_reducible assumption) | assumption)
                obtain ⟨ad113, e113, hx113_0, hx113_1⟩ := at_T45 HR0.out x5_1 p113 q113
                (try rw [← Nbq4.out] at hx113_0)
                obtain rfl : ad107 = ad113 := (by injection e113)
                replace hx113_0 := (HB.out.cell (World.block_lt_of_cell? w _ hx113_0)).trans hx113_0
                replace hx113_1 := (HB.out.cell (World.block_lt_of_cell? w _ hx113_1)).trans hx113_1
                replace p113 := eq_true p113
                replace q113 := eq_true q113
                have p57 : 0 ≤ (0 : Int) := (by omega)
                have q57 : 0 < ((rd_T45 l0 x5_1).f1).size := (by have : (0 : Int) < (((rd_T45 l0 x5_1).f1).size : Int) := of_decide_eq_true (by first | (with_reducible assumption) | assumption); omega)
                have hx57 : ∀ h : 0 < ((rd_T45 l0 x5_1).f1).size, ((((rd_T45 l0 x5_1).f1)[0]'h).toNat : Int) = bt ((rd_T45 l0 x5_1).f1) 0 := bt_at ((rd_T45 l0 x5_1).f1) 0
                clear p57
                have qi57 : (0 < (((rd_T45 l0 x5_1).f1).size : Int)) = True := eq_true (of_decide_eq_true (by first | (with_reducible assumption) | assumption))
                replace q57 := eq_true q57
                go_wp2
                go_ret
                exact ⟨by first | rfl | (simp [errW_none, errW_some] <;> rfl) | (simp [*, errW_none, errW_some] <;> rfl), by repeat (first | (with_reducible first | exact HB.out | apply below_alloc | apply pw_below_drewN | apply below_drew1) | exact HB.out)⟩
               ·rw [if_neg c58] at H
                have c58b0 : decide ((bt ((rd_T45 l0 x5_1).f1) 0) < 20) = false := decide_eq_false c58
                clear c58
                by_cases c60 : (bt ((rd_T45 l0 x5_1).f1) 0) > 23
                ·rw [if_pos c60] at H
                 have c60b0 : decide (23 < (bt ((rd_T45 l0 x5_1).f1) 0)) = true := decide_eq_true c60
                 clear c60
                 obtain rfl := Option.some.inj H
                 have p111 : 0 ≤ (x5_1 : Int) := of_decide_eq_true (by first | (with_reducible assumption) | assumption)
                 have q111 : x5_1 < (l0.length : Int) := of_decide_eq_true (by first | (with_reducible assumption) | assumption)
                 obtain ⟨ad111, e111, hx111_0, hx111_1⟩ := at_T45 HR0.out x5_1 p111 q111
                 (try rw [← Nbq4.out] at hx111_0)
                 obtain rfl : ad107 = ad111 := (by injection e111)
                 replace hx111_0 := (HB.out.cell (World.block_lt_of_cell? w _ hx111_0)).trans hx111_0
                 replace hx111_1 := (HB.out.cell (World.block_lt_of_cell? w _ hx111_1)).trans hx111_1
                 replace p111 := eq_true p111
                 replace q111 := eq_true q111
                 have p112 : 0 ≤ (x5_1 : Int) := of_decide_eq_true (by first | (with_reducible assumption) | assumption)
                 have q112 : x5_1 < (l0.length : Int) := of_decide_eq_true (by first | (with_reducible assumption) | assumption)
                 obtain ⟨ad112, e112, hx112_0, hx112_1⟩ := at_T45 HR0.out x5_1 p112 q112
                 (try rw [← Nbq4.out] at hx112_0)
                 obtain rfl : ad107 = ad112 := (by injection e112)
                 replace hx112_0 := (HB.out.cell (World.block_lt_of_cell? w _ hx112_0)).trans hx112_0
                 replace hx112_1 := (HB.out.cell (World.block_lt_of_cell? w _ hx112_1)).trans hx112_1
                 replace p112 := eq_true p112
                 replace q112 := eq_true q112
                 have p17 : 0 ≤ (0 : Int) := (by omega)
                 have q17 : 0 < ((rd_T45 l0 x5_1).f1).size := (by have : (0 : Int) < (((rd_T45 l0 x5_1).f1).size : Int) := of_decide_eq_true (by first | (with_reducible assumption) | assumption); omega)
                 have hx17 : ∀ h : 0 < ((rd_T45 l0 x5_1).f1).size, ((((rd_T45 l0 x5_1).f1)[0]'h).toNat : Int) = bt ((rd_T45 l0 x5_1).f1) 0 := bt_at ((rd_T45 l0 x5_1).f1) 0
                 clear p17
                 have qi17 : (0 < (((rd_T45 l0 x5_1).f1).size : Int)) = True := eq_true (of_decide_eq_true (by first | (with_reducible assumption) | assumption))
                 replace q17 := eq_true q17
                 have p113 : 0 ≤ (x5_1 : Int) := of_decide_eq_true (by first | (with_reducible assumption) | assumption)
                 have q113 : x5_1 < (l0.length : Int) := of_decide_eq_true (by first | (with_reducible assumption) | assumption)
                 obtain ⟨ad113, e113, hx113_0, hx113_1⟩ := at_T45 HR0.out x5_1 p113 q113
                 (try rw [← Nbq4.out] at hx113_0)
                 obtain rfl : ad107 = ad113 := (by injection e113)
                 replace hx113_0 := (HB.out.cell (World.block_lt_of_cell? w _ hx113_0)).trans hx113_0
                 replace hx113_1 := (HB.out.cell (World.block_lt_of_cell? w _ hx113_1)).trans hx113_1
                 replace p113 := eq_true p113
                 replace q113 := eq_true q113
                 have p57 : 0 ≤ (0 : Int) := (by omega)
                 have q57 : 0 < ((rd_T45 l0 x5_1).f1).size := (by have : (0 : Int) < (((rd_T45 l0 x5_1).f1).size : Int) := of_decide_eq_true (by first | (with_reducible assumption) | assumption); omega)
                 have hx57 : ∀ h : 0 < ((rd_T45 l0 x5_1).f1).size, ((((rd_T45 l0 x5_1).f1)[0]'h).toNat : Int) = bt ((rd_T45 l0 x5_1).f1) 0 := bt_at ((rd_T45 l0 x5_1).f1) 0
                 clear p57
                 have qi57 : (0 < (((rd_T45 l0 x5_1).f1).size : Int)) = True := eq_true (of_decide_eq_true (by first | (with_reducible assumption) | assumption))
                 replace q57 := eq_true q57
                 have p114 : 0 ≤ (x5_1 : Int) := of_decide_eq_true (by first | (with_reducible assumption) | assumption)
                 have q114 : x5_1 < (l0.length : Int) := of_decide_eq_true (by first | (with_reducible assumption) | assumption)
                 obtain ⟨ad114, e114, hx114_0, hx114_1⟩ := at_T45 HR0.out x5_1 p114 q114
                 (try rw [← Nbq4.out] at hx114_0)
                 obtain rfl : ad107 = ad114 := (by injection e114)
                 replace hx114_0 := (HB.out.cell (World.block_lt_of_cell? w _ hx114_0)).trans hx114_0
                 replace hx114_1 := (HB.out.cell (World.block_lt_of_cell? w _ hx114_1)).trans hx114_1
                 replace p114 := eq_true p114
                 replace q114 := eq_true q114
                 have p59 : 0 ≤ (0 : Int) := (by omega)
                 have q59 : 0 < ((rd_T45 l0 x5_1).f1).size := (by have : (0 : Int) < (((rd_T45 l0 x5_1).f1).size : Int) := of_decide_eq_true (by first | (with_reducible assumption) | assumption); omega)
                 have hx59 : ∀ h : 0 < ((rd_T45 l0 x5_1).f1).size, ((((rd_T45 l0 x5_1).f1)[0]'h).toNat : Int) = bt ((rd_T45 l0 x5_1).f1) 0 := bt_at ((rd_T45 l0 x5_1).f1) 0
                 clear p59
                 have qi59 : (0 < (((rd_T45 l0 x5_1).f1).size : Int)) = True := eq_true (of_decide_eq_true (by first | (with_reducible assumption) | assumption))
                 replace q59 := eq_true q59
                 go_wp2
                 go_ret
                 exact ⟨by first | rfl | (simp [errW_none, errW_some] <;> rfl) | (simp [*, errW_none, errW_some] <;> rfl), by repeat (first | (with_reducible first | exact HB.out | apply below_alloc | apply pw_below_drewN | apply below_drew1) | exact HB.out)⟩
                ·rw [if_neg c60] at H
                 have c60b0 : decide (23 < (bt ((rd_T45 l0 x5_1).f1) 0)) = false := decide_eq_false c60
                 clear c60
                 have H' := Aside0.mk H
                 clear H
                 have p111 : 0 ≤ (x5_1 : Int) := of_decide_eq_true (by first | (with_reducible assumption) | assumption)
                 have q111 : x5_1 < (l0.length : Int) := of_decide_eq_true (by first | (with_reducible assumption) | assumption)
                 obtain ⟨ad111, e111, hx111_0, hx111_1⟩ := at_T45 HR0.out x5_1 p111 q111
                 (try rw [← Nbq4.out] at hx111_0)
                 obtain rfl : ad107 = ad111 := (by injection e111)
                 replace hx111_0 := (HB.out.cell (World.block_lt_of_cell? w _ hx111_0)).trans hx111_0
                 replace hx111_1 := (HB.out.cell (World.block_lt_of_cell? w _ hx111_1)).trans hx111_1
                 replace p111 := eq_true p111
                 replace q111 := eq_true q111
                 have p112 : 0 ≤ (x5_1 : Int) := of_decide_eq_true (by first | (with_reducible assumption) | assumption)
                 have q112 : x5_1 < (l0.length : Int) := of_decide_eq_true (by first | (with_reducible assumption) | assumption)
                 obtain ⟨ad112, e112, hx112_0, hx112_1⟩ := at_T45 HR0.out x5_1 p112 q112
                 (try rw [← Nbq4.out] at hx112_0)
                 obtain rfl : ad107 = ad112 := (by injection e112)
                 replace hx112_0 := (HB.out.cell (World.block_lt_of_cell? w _ hx112_0)).trans hx112_0
                 replace hx112_1 := (HB.out.cell (World.block_lt_of_cell? w _ hx112_1)).trans hx112_1
                 replace p112 := eq_true p112
                 replace q112 := eq_true q112
                 have p17 : 0 ≤ (0 : Int) := (by omega)
                 have q17 : 0 < ((rd_T45 l0 x5_1).f1).size := (by have : (0 : Int) < (((rd_T45 l0 x5_1).f1).size : Int) := of_decide_eq_true (by first | (with_reducible assumption) | assumption); omega)
                 have hx17 : ∀ h : 0 < ((rd_T45 l0 x5_1).f1).size, ((((rd_T45 l0 x5_1).f1)[0]'h).toNat : Int) = bt ((rd_T45 l0 x5_1).f1) 0 := bt_at ((rd_T45 l0 x5_1).f1) 0
                 clear p17
                 have qi17 : (0 < (((rd_T45 l0 x5_1).f1).size : Int)) = True := eq_true (of_decide_eq_true (by first | (with_reducible assumption) | assumption))
                 replace q17 := eq_true q17
                 have p113 : 0 ≤ (x5_1 : Int) := of_decide_eq_true (by first | (with_reducible assumption) | assumption)
                 have q113 : x5_1 < (l0.length : Int) := of_decide_eq_true (by first | (with_reducible assumption) | assumption)
                 obtain ⟨ad113, e113, hx113_0, hx113_1⟩ := at_T45 HR0.out x5_1 p113 q113
                 (try rw [← Nbq4.out] at hx113_0)
                 obtain rfl : ad107 = ad113 := (by injection e113)
                 replace hx113_0 := (HB.out.cell (World.block_lt_of_cell? w _ hx113_0)).trans hx113_0
                 replace hx113_1 := (HB.out.cell (World.block_lt_of_cell? w _ hx113_1)).trans hx113_1
                 replace p113 := eq_true p113
                 replace q113 := eq_true q113
                 have p57 : 0 ≤ (0 : Int) := (by omega)
                 have q57 : 0 < ((rd_T45 l0 x5_1).f1).size := (by have : (0 : Int) < (((rd_T45 l0 x5_1).f1).size : Int) := of_decide_eq_true (by first | (with_reducible assumption) | assumption); omega)
                 have hx57 : ∀ h : 0 < ((rd_T45 l0 x5_1).f1).size, ((((rd_T45 l0 x5_1).f1)[0]'h).toNat : Int) = bt ((rd_T45 l0 x5_1).f1) 0 := bt_at ((rd_T45 l0 x5_1).f1) 0
                 clear p57
                 have qi57 : (0 < (((rd_T45 l0 x5_1).f1).size : Int)) = True := eq_true (of_decide_eq_true (by first | (with_reducible assumption) | assumption))
                 replace q57 := eq_true q57
                 have p114 : 0 ≤ (x5_1 : Int) := of_decide_eq_true (by first | (with_reducible assumption) | assumption)
                 have q114 : x5_1 < (l0.length : Int) := of_decide_eq_true (by first | (with_reducible assumption) | assumption)
                 obtain ⟨ad114, e114, hx114_0, hx114_1⟩ := at_T45 HR0.out x5_1 p114 q114
                 (try rw [← Nbq4.out] at hx114_0)
                 obtain rfl : ad107 = ad114 := (by injection e114)
                 replace hx114_0 := (HB.out.cell (World.block_lt_of_cell? w _ hx114_0)).trans hx114_0
                 replace hx114_1 := (HB.out.cell (World.block_lt_of_cell? w _ hx114_1)).trans hx114_1
                 replace p114 := eq_true p114
                 replace q114 := eq_true q114
                 have p59 : 0 ≤ (0 : Int) := (by omega)
                 have q59 : 0 < ((rd_T45 l0 x5_1).f1).size := (by have : (0 : Int) < (((rd_T45 l0 x5_1).f1).size : Int) := of_decide_eq_true (by first | (with_reducible assumption) | assumption); omega)
                 have hx59 : ∀ h : 0 < ((rd_T45 l0 x5_1).f1).size, ((((rd_T45 l0 x5_1).f1)[0]'h).toNat : Int) = bt ((rd_T45 l0 x5_1).f1) 0 := bt_at ((rd_T45 l0 x5_1).f1) 0
                 clear p59
                 have qi59 : (0 < (((rd_T45 l0 x5_1).f1).size : Int)) = True := eq_true (of_decide_eq_true (by first | (with_reducible assumption) | assumption))
                 replace q59 := eq_true q59
                 go_wp2
                 go_roundg kj5
                 case measure => have := HK1.out; have := HJ5.out; omega
                 case rel => exact ⟨(x3_1), (wrap64 (x4_1 + (((rd_T45 l0 x5_1).f1).size : Int))), (wrap64 (x5_1 + 1)), (by first | rfl | (simp; done) | (simp [*]; done)), (by first | rfl | (simp; done) | (simp [*]; done)), H', ⟨by have := HK1.out; have := HJ5.out; omega⟩, ⟨by (with_reducible repeat (first | apply Kd.R_alloc | apply Kd.R_drewN | apply Kd.R_drew)); exact HO_3.out⟩, ⟨by repeat (first | (with_reducible first | exact HB.out | apply below_alloc | apply pw_below_drewN | apply below_drew1) | exact HB.out)⟩⟩
             ·rw [if_neg c16] at H
              exact absurd H (by simp)
            ·rw [if_neg c15] at H
             exact absurd H (by simp)
           ·rw [if_neg c14] at H
            exact absurd H (by simp)
      ·replace c5 := Bool.eq_false_iff.mpr c5
       subst c5
       have H1 : (spec_FragmentsKnown.l0 k1 l0 x3_1 x4_1 (wrap64 (x5_1 + 1))) = some r := by rw [if_neg (show ¬ (false = true) by decide)] at H; exact H
       clear H
       have H := H1
       clear H1
       have H' := Aside0.mk H
       clear H
       have p107 : 0 ≤ (x5_1 : Int) := of_decide_eq_true (by first | (with_reducible assumption) | assumption)
       have q107 : x5_1 < (l0.length : Int) := of_decide_eq_true (by first | (with_reducible assumption) | assumption)
       obtain ⟨ad107, e107, hx107_0, hx107_1⟩ := at_T45 HR0.out x5_1 p107 q107
       (try rw [← Nbq4.out] at hx107_0)
       cases e107
       replace hx107_0 := (HB.out.cell (World.block_lt_of_cell? w _ hx107_0)).trans hx107_0
       replace hx107_1 := (HB.out.cell (World.block_lt_of_cell? w _ hx107_1)).trans hx107_1
       replace p107 := eq_true p107
       replace q107 := eq_true q107
       go_wp2
       go_roundg k1
       case measure => have := HK1.out; omega
       case rel => exact ⟨(x3_1), (x4_1), (wrap64 (x5_1 + 1)), (by first | rfl | (simp; done) | (simp [*]; done)), (by first | rfl | (simp; done) | (simp [*]; done)), H', ⟨by have := HK1.out; omega⟩, ⟨by (with_reducible repeat (first | apply Kd.R_alloc | apply Kd.R_drewN | apply Kd.R_drew)); exact HO_3.out⟩, ⟨by repeat (first | (with_reducible first | exact HB.out | apply below_alloc | apply pw_below_drewN | apply below_drew1) | exact HB.out)⟩⟩
     ·rw [if_neg c3] at H
      exact absurd H (by simp)
    ·rw [if_neg c2] at H
     have c2b0 : decide (x5_1 < (l0.length : Int)) = false := decide_eq_false c2
     clear c2
     by_cases c61 : (l0.length : Int) ≤ 100
     ·rw [if_pos c61] at H
      have c61b0 : decide ((l0.length : Int) ≤ 100) = true := decide_eq_true c61
      have c61b1 : decide (l0.length ≤ 100) = true := decide_eq_true (by omega)
      clear c61
      by_cases c62 : x4_1 ≤ 20000
      ·rw [if_pos c62] at H
       have c62b0 : decide (x4_1 ≤ 20000) = true := decide_eq_true c62
       clear c62
       obtain rfl := Option.some.inj H
       obtain ⟨Ao63, co63, eo63⟩ := Kd.R_slice HO_3.out
       subst eo63
       go_wp2
       go_ret
       exact ⟨by first | rfl | (simp [errW_none, errW_some] <;> rfl) | (simp [*, errW_none, errW_some] <;> rfl), by repeat (first | (with_reducible first | exact HB.out | apply below_alloc | apply pw_below_drewN | apply below_drew1) | exact HB.out)⟩
      ·rw [if_neg c62] at H
       have c62b0 : decide (x4_1 ≤ 20000) = false := decide_eq_false c62
       clear c62
       obtain rfl := Option.some.inj H
       go_wp2
       go_ret
       exact ⟨by first | rfl | (simp [errW_none, errW_some] <;> rfl) | (simp [*, errW_none, errW_some] <;> rfl), by repeat (first | (with_reducible first | exact HB.out | apply below_alloc | apply pw_below_drewN | apply below_drew1) | exact HB.out)⟩
     ·rw [if_neg c61] at H
      have c61b0 : decide ((l0.length : Int) ≤ 100) = false := decide_eq_false c61
      have c61b1 : decide (l0.length ≤ 100) = false := decide_eq_false (by omega)
      clear c61
      obtain rfl := Option.some.inj H
      go_wp2
      go_ret
      exact ⟨by first | rfl | (simp [errW_none, errW_some] <;> rfl) | (simp [*, errW_none, errW_some] <;> rfl), by repeat (first | (with_reducible first | exact HB.out | apply below_alloc | apply pw_below_drewN | apply below_drew1) | exact HB.out)⟩

end Go.Proofs.YtjflijebcpcbmaaDoor.G
