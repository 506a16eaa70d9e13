-- Written by a program of this session (wip/tools/gprint.py) over the kit's print: functions as Lean functions, and their contracts. Not trusted: Lean checks it.
import Derived.Test.YtaifkiafoebgcaaV0
import Derived.Test.YtaifkiafoebgcaaV1
import Derived.Test.YtaifkiafoebgcaaReplay
namespace Go.Proofs.Ytaifkiafoebgcaa.V
open Go.RowKit Go.Proofs.YtaifkiafoebgcaaW.PrintWords Go.Proofs.YtaifkiafoebgcaaW.PrintLast Go.Proofs.YtaifkiafoebgcaaW.PrintMore
attribute [local go_sem] max2_int min2_int max_two min_two max_three min_three max_four min_four   -- for this text's walks alone
set_option linter.unusedVariables false
set_option linter.unusedSimpArgs false

/-! ### laws_FnWindowShift: function 6 -/
mutual
def laws_FnWindowShift.j0 : Nat → Int → List Int → List Bool → Int → Bool → Option (Bool)
  | 0, _, _, _, _, _ => none
  | k + 1, x0, x1, x2, x3, x23 => if x23 = true then (some true) else ((laws_windowed.f x0 281474976710655 x1 x2).bind fun t113 => (if t113 = true then (laws_FnWindowShift.j1 k x0 x1 x2 x3 281474976710655 (decide (x3 > ((281474976710655 : Int) / 4)))) else (laws_FnWindowShift.j1 k x0 x1 x2 x3 281474976710655 true)))
def laws_FnWindowShift.j1 : Nat → Int → List Int → List Bool → Int → Int → Bool → Option (Bool)
  | 0, _, _, _, _, _, _ => none
  | k + 1, x0, x1, x2, x3, x9, x35 => if x35 = true then (some true) else (laws_FnWindowShift.l0 k x0 x1 x2 x3 x9 ([] : List Int) x1 (x1.length : Int) 0)
def laws_FnWindowShift.l0 : Nat → Int → List Int → List Bool → Int → Int → List Int → List Int → Int → Int → Option (Bool)
  | 0, _, _, _, _, _, _, _, _, _ => none
  | k + 1, x0, x1, x2, x3, x9, x10, x36, x37, x38 => if x38 < x37 then (if 0 ≤ x38 then (if x38 < (x36.length : Int) then (if (rd x36 x38) > (IntKind.u64.wrap (Int.tdiv x9 4)) then (some true) else (if x10.length < 17592186044416 then (laws_FnWindowShift.l0 k x0 x1 x2 x3 x9 (x10 ++ [IntKind.u64.wrap ((rd x36 x38) + x3)]) x36 x37 (wrap64 (x38 + 1))) else (none))) else (none)) else (none)) else ((impl_Replay.f x0 x9 x1 x2).bind fun t118 => ((impl_Replay.f x0 x9 x10 x2).bind fun t121 => (if (t118.length : Int) = (x1.length : Int) then (if (t121.length : Int) = (x1.length : Int) then (if (x1.length : Int) > 0 then (if 0 < (t118.length : Int) then (laws_FnWindowShift.j3 k t118 t121 (!(rdOf false t118 0))) else (none)) else (laws_FnWindowShift.j3 k t118 t121 false)) else (laws_FnWindowShift.j3 k t118 t121 true)) else (laws_FnWindowShift.j3 k t118 t121 true))))
def laws_FnWindowShift.j3 : Nat → List Bool → List Bool → Bool → Option (Bool)
  | 0, _, _, _ => none
  | k + 1, x13, x14, x85 => if x85 = true then (some false) else (laws_FnWindowShift.l1 k x13 x14 (x13.length : Int) 0)
def laws_FnWindowShift.l1 : Nat → List Bool → List Bool → Int → Int → Option (Bool)
  | 0, _, _, _, _ => none
  | k + 1, x13, x14, x87, x88 => if x88 < x87 then (if 0 ≤ x88 then (if x88 < (x13.length : Int) then (if x88 < (x14.length : Int) then (if ((rdOf false x13 x88) != (rdOf false x14 x88)) = true then (some false) else (laws_FnWindowShift.l1 k x13 x14 x87 (wrap64 (x88 + 1)))) else (none)) else (none)) else (none)) else (some true)
end
def laws_FnWindowShift.f (k : Nat) (a0 : Int) (l1 : List Int) (l2 : List Bool) (a3 : Int) : Option (Bool) := if (l1.length : Int) > 2147483647 then (laws_FnWindowShift.j0 k a0 l1 l2 a3 true) else (laws_FnWindowShift.j0 k a0 l1 l2 a3 (decide ((l2.length : Int) > 2147483647)))
theorem laws_FnWindowShift.mono_l : ∀ k, (∀ y0 y1 y2 y3 y4, LeO (laws_FnWindowShift.j0 k y0 y1 y2 y3 y4) (laws_FnWindowShift.j0 (k + 1) y0 y1 y2 y3 y4)) ∧ (∀ y0 y1 y2 y3 y4 y5, LeO (laws_FnWindowShift.j1 k y0 y1 y2 y3 y4 y5) (laws_FnWindowShift.j1 (k + 1) y0 y1 y2 y3 y4 y5)) ∧ (∀ y0 y1 y2 y3 y4 y5 y6 y7 y8, LeO (laws_FnWindowShift.l0 k y0 y1 y2 y3 y4 y5 y6 y7 y8) (laws_FnWindowShift.l0 (k + 1) y0 y1 y2 y3 y4 y5 y6 y7 y8)) ∧ (∀ y0 y1 y2, LeO (laws_FnWindowShift.j3 k y0 y1 y2) (laws_FnWindowShift.j3 (k + 1) y0 y1 y2)) ∧ (∀ y0 y1 y2 y3, LeO (laws_FnWindowShift.l1 k y0 y1 y2 y3) (laws_FnWindowShift.l1 (k + 1) y0 y1 y2 y3))
  | 0 => ⟨fun _ _ _ _ _ r h => by simp [laws_FnWindowShift.j0] at h, fun _ _ _ _ _ _ r h => by simp [laws_FnWindowShift.j1] at h, fun _ _ _ _ _ _ _ _ _ r h => by simp [laws_FnWindowShift.l0] at h, fun _ _ _ r h => by simp [laws_FnWindowShift.j3] at h, fun _ _ _ _ r h => by simp [laws_FnWindowShift.l1] at h⟩
  | k + 1 => by
    obtain ⟨ih0, ih1, ih2, ih3, ih4⟩ := laws_FnWindowShift.mono_l k
    refine ⟨?_, ?_, ?_, ?_, ?_⟩
    · intro y0 y1 y2 y3 y4
      unfold laws_FnWindowShift.j0
      repeat' first
      | (with_reducible exact ih0 _ _ _ _ _)
      | (with_reducible exact ih1 _ _ _ _ _ _)
      | (with_reducible exact ih2 _ _ _ _ _ _ _ _ _)
      | (with_reducible exact ih3 _ _ _)
      | (with_reducible exact ih4 _ _ _ _)
      | (with_reducible exact LeO.refl _)
      | (with_reducible exact LeO.none _)
      | (with_reducible refine LeO.ite ?_ ?_)
      | (with_reducible refine LeO.bind ?_ (fun _ => ?_))
      | exact ih0 _ _ _ _ _
      | exact ih1 _ _ _ _ _ _
      | exact ih2 _ _ _ _ _ _ _ _ _
      | exact ih3 _ _ _
      | exact ih4 _ _ _ _
      | exact LeO.none _
      | refine LeO.ite ?_ ?_
      | refine LeO.bind ?_ (fun _ => ?_)
    · intro y0 y1 y2 y3 y4 y5
      unfold laws_FnWindowShift.j1
      repeat' first
      | (with_reducible exact ih0 _ _ _ _ _)
      | (with_reducible exact ih1 _ _ _ _ _ _)
      | (with_reducible exact ih2 _ _ _ _ _ _ _ _ _)
      | (with_reducible exact ih3 _ _ _)
      | (with_reducible exact ih4 _ _ _ _)
      | (with_reducible exact LeO.refl _)
      | (with_reducible exact LeO.none _)
      | (with_reducible refine LeO.ite ?_ ?_)
      | (with_reducible refine LeO.bind ?_ (fun _ => ?_))
      | exact ih0 _ _ _ _ _
      | exact ih1 _ _ _ _ _ _
      | exact ih2 _ _ _ _ _ _ _ _ _
      | exact ih3 _ _ _
      | exact ih4 _ _ _ _
      | exact LeO.none _
      | refine LeO.ite ?_ ?_
      | refine LeO.bind ?_ (fun _ => ?_)
    · intro y0 y1 y2 y3 y4 y5 y6 y7 y8
      unfold laws_FnWindowShift.l0
      repeat' first
      | (with_reducible exact ih0 _ _ _ _ _)
      | (with_reducible exact ih1 _ _ _ _ _ _)
      | (with_reducible exact ih2 _ _ _ _ _ _ _ _ _)
      | (with_reducible exact ih3 _ _ _)
      | (with_reducible exact ih4 _ _ _ _)
      | (with_reducible exact LeO.refl _)
      | (with_reducible exact LeO.none _)
      | (with_reducible refine LeO.ite ?_ ?_)
      | (with_reducible refine LeO.bind ?_ (fun _ => ?_))
      | exact ih0 _ _ _ _ _
      | exact ih1 _ _ _ _ _ _
      | exact ih2 _ _ _ _ _ _ _ _ _
      | exact ih3 _ _ _
      | exact ih4 _ _ _ _
      | exact LeO.none _
      | refine LeO.ite ?_ ?_
      | refine LeO.bind ?_ (fun _ => ?_)
    · intro y0 y1 y2
      unfold laws_FnWindowShift.j3
      repeat' first
      | (with_reducible exact ih0 _ _ _ _ _)
      | (with_reducible exact ih1 _ _ _ _ _ _)
      | (with_reducible exact ih2 _ _ _ _ _ _ _ _ _)
      | (with_reducible exact ih3 _ _ _)
      | (with_reducible exact ih4 _ _ _ _)
      | (with_reducible exact LeO.refl _)
      | (with_reducible exact LeO.none _)
      | (with_reducible refine LeO.ite ?_ ?_)
      | (with_reducible refine LeO.bind ?_ (fun _ => ?_))
      | exact ih0 _ _ _ _ _
      | exact ih1 _ _ _ _ _ _
      | exact ih2 _ _ _ _ _ _ _ _ _
      | exact ih3 _ _ _
      | exact ih4 _ _ _ _
      | exact LeO.none _
      | refine LeO.ite ?_ ?_
      | refine LeO.bind ?_ (fun _ => ?_)
    · intro y0 y1 y2 y3
      unfold laws_FnWindowShift.l1
      repeat' first
      | (with_reducible exact ih0 _ _ _ _ _)
      | (with_reducible exact ih1 _ _ _ _ _ _)
      | (with_reducible exact ih2 _ _ _ _ _ _ _ _ _)
      | (with_reducible exact ih3 _ _ _)
      | (with_reducible exact ih4 _ _ _ _)
      | (with_reducible exact LeO.refl _)
      | (with_reducible exact LeO.none _)
      | (with_reducible refine LeO.ite ?_ ?_)
      | (with_reducible refine LeO.bind ?_ (fun _ => ?_))
      | exact ih0 _ _ _ _ _
      | exact ih1 _ _ _ _ _ _
      | exact ih2 _ _ _ _ _ _ _ _ _
      | exact ih3 _ _ _
      | exact ih4 _ _ _ _
      | exact LeO.none _
      | refine LeO.ite ?_ ?_
      | refine LeO.bind ?_ (fun _ => ?_)
theorem laws_FnWindowShift.mono : ∀ a0 a1 a2 a3 k, LeO (laws_FnWindowShift.f k a0 a1 a2 a3) (laws_FnWindowShift.f (k + 1) a0 a1 a2 a3) := by
  intro a0 a1 a2 a3 k
  obtain ⟨ih0, ih1, ih2, ih3, ih4⟩ := laws_FnWindowShift.mono_l k
  unfold laws_FnWindowShift.f
  repeat' first
      | (with_reducible exact ih0 _ _ _ _ _)
      | (with_reducible exact ih1 _ _ _ _ _ _)
      | (with_reducible exact ih2 _ _ _ _ _ _ _ _ _)
      | (with_reducible exact ih3 _ _ _)
      | (with_reducible exact ih4 _ _ _ _)
      | (with_reducible exact LeO.refl _)
      | (with_reducible exact LeO.none _)
      | (with_reducible refine LeO.ite ?_ ?_)
      | (with_reducible refine LeO.bind ?_ (fun _ => ?_))
      | exact ih0 _ _ _ _ _
      | exact ih1 _ _ _ _ _ _
      | exact ih2 _ _ _ _ _ _ _ _ _
      | exact ih3 _ _ _
      | exact ih4 _ _ _ _
      | exact LeO.none _
      | refine LeO.ite ?_ ?_
      | refine LeO.bind ?_ (fun _ => ?_)
set_option maxHeartbeats 8000000 in
set_option maxRecDepth 100000 in
theorem laws_FnWindowShift.calls (k : Nat) (a0 : Int) (A1 : Option Addr) (c1 : Nat) (l1 : List Int) (A2 : Option Addr) (c2 : Nat) (l2 : List Bool) (a3 : Int) (r : Bool) (w : World) (hr1 : Kd.C (Kd.int .u64) w A1 l1.length l1) (hc1 : l1.length ≤ c1) (hr2 : Kd.C Kd.bool w A2 l2.length l2) (hc2 : l2.length ≤ c2) (h : laws_FnWindowShift.f k a0 l1 l2 a3 = some r) :
    Calls Try.prog 6 #[.int .i64 a0, .slice A1 l1.length c1, .slice A2 l2.length c2, .int .u64 a3] w fun e w' => e = .returned (.bool r) ∧ Below w.heap.size w w' := by
  have HR1 := Aside0.mk hr1
  have HC1 := Aside0.mk hc1
  clear hr1 hc1
  have HR2 := Aside0.mk hr2
  have HC2 := Aside0.mk hc2
  clear hr2 hc2
  have HB := Aside0.mk (Below.refl w.heap.size w)
  have H : (if (l1.length : Int) > 2147483647 then (laws_FnWindowShift.j0 k a0 l1 l2 a3 true) else (laws_FnWindowShift.j0 k a0 l1 l2 a3 (decide ((l2.length : Int) > 2147483647)))) = some r := h
  clear h
  have HC5 := Aside0.mk H
  clear H
  go_enter Try.func6, Try.ntmps6
  go_upto_region 1 with (fail)
  repeat (go_quiet (fail); go_upto_region 1 with (fail))
  go_cut [23] (fun v23 wc => ∃ (kq : Nat) (x23_4 : Bool), v23 = .bool x23_4 ∧ Aside0 (laws_FnWindowShift.j0 kq a0 l1 l2 a3 x23_4 = some r) ∧ Aside0 (kq ≤ k) ∧ Aside0 (Below w.heap.size w wc))
  case first =>
    have H := HC5.out
    clear HC5
    by_cases c6 : (l1.length : Int) > 2147483647
    · rw [if_pos c6] at H
      have c6b0 : decide (2147483647 < (l1.length : Int)) = true := decide_eq_true c6
      have c6b1 : decide (2147483647 < l1.length) = true := decide_eq_true (by omega)
      clear c6
      (first | rw [c6b0] | (simp only [i64_w, i32_w]; rw [c6b0]) | skip)
      have H' := Aside0.mk H
      clear H
      go_wp2
      repeat (go_quiet (fail); try go_wp2)
      go_meet
      case rel => exact ⟨_, (true), (by first | rfl | (simp; done) | (simp [*]; done)), H', ⟨by first | omega | exact Nat.le_refl _⟩, ⟨by repeat (first | (with_reducible first | exact HB.out | apply below_alloc | apply pw_below_drewN | apply below_drew1) | exact HB.out)⟩⟩
    · rw [if_neg c6] at H
      have c6b0 : decide (2147483647 < (l1.length : Int)) = false := decide_eq_false c6
      have c6b1 : decide (2147483647 < l1.length) = false := decide_eq_false (by omega)
      clear c6
      (first | rw [c6b0] | (simp only [i64_w, i32_w]; rw [c6b0]) | skip)
      have H' := Aside0.mk H
      clear H
      go_wp2
      repeat (go_quiet (fail); try go_wp2)
      go_meet
      case rel => exact ⟨_, (decide ((l2.length : Int) > 2147483647)), (by first | rfl | (simp; done) | (simp [*]; done)), H', ⟨by first | omega | exact Nat.le_refl _⟩, ⟨by repeat (first | (with_reducible first | exact HB.out | apply below_alloc | apply pw_below_drewN | apply below_drew1) | exact HB.out)⟩⟩
  case rest =>
    clear HC5
    try clear c1
    try clear c2
    try clear p2
    try clear c6
    try clear c6b0
    try clear c6b1
    obtain ⟨kq, x23_4, rfl, HA, HJ4, HB⟩ := hcut
    cases kq with
    | zero => exact absurd HA.out (by simp [laws_FnWindowShift.j0])
    | succ kj4 =>
      have H := HA.out
      clear HA
      simp only [laws_FnWindowShift.j0] at H
      by_cases c7 : x23_4 = true
      · subst c7
        have H1 : (some true) = some r := by rw [if_pos rfl] at H; exact H
        clear H
        have H := H1
        clear H1
        obtain rfl := Option.some.inj H
        go_wp2
        repeat (go_quiet (fail); try go_wp2)
        go_ret
        exact ⟨by first | rfl | (simp [errW_none, errW_some] <;> rfl) | (simp [*, errW_none, errW_some] <;> rfl), by repeat (first | (with_reducible first | exact HB.out | apply below_alloc | apply pw_below_drewN | apply below_drew1) | exact HB.out)⟩
      · replace c7 := Bool.eq_false_iff.mpr c7
        subst c7
        have H1 : ((laws_windowed.f a0 281474976710655 l1 l2).bind fun t113 => (if t113 = true then (laws_FnWindowShift.j1 kj4 a0 l1 l2 a3 281474976710655 (decide (a3 > ((281474976710655 : Int) / 4)))) else (laws_FnWindowShift.j1 kj4 a0 l1 l2 a3 281474976710655 true))) = some r := by rw [if_neg (show ¬ (false = true) by decide)] at H; exact H
        clear H
        have H := H1
        clear H1
        have HC8 := Aside0.mk H
        clear H
        go_upto_region 4 with (fail)
        repeat (go_quiet (fail); go_upto_region 4 with (fail))
        go_cut [35] (fun v35 wc => ∃ (kq : Nat) (x35_7 : Bool), v35 = .bool x35_7 ∧ Aside0 (laws_FnWindowShift.j1 kq a0 l1 l2 a3 281474976710655 x35_7 = some r) ∧ Aside0 (kq ≤ kj4) ∧ Aside0 (Below w.heap.size w wc))
        case first =>
          have H := HC8.out
          clear HC8
          replace H := Option.bind_eq_some_iff.mp H
          obtain ⟨t113, A90, H⟩ := H
          replace H : (if t113 = true then (laws_FnWindowShift.j1 kj4 a0 l1 l2 a3 281474976710655 (decide (a3 > ((281474976710655 : Int) / 4)))) else (laws_FnWindowShift.j1 kj4 a0 l1 l2 a3 281474976710655 true)) = some r := H
          have A9 := Aside0.mk A90
          clear A90
          by_cases c10 : t113 = true
          · subst c10
            have H1 : (laws_FnWindowShift.j1 kj4 a0 l1 l2 a3 281474976710655 (decide (a3 > ((281474976710655 : Int) / 4)))) = some r := by rw [if_pos rfl] at H; exact H
            clear H
            have H := H1
            clear H1
            have H' := Aside0.mk H
            clear H
            go_wp2_with (first | (go_at_call 14; (with_reducible refine (laws_windowed.calls a0 281474976710655 _ _ l1 _ _ l2 true _ ?side1 ?side2 ?side3 ?side4 A9.out).mono ?_); (case side1 => repeat (first | exact (Kd.C_below HR1.out HB.out) | (with_reducible refine Kd.C_alloc ?_ _) | (with_reducible refine Kd.C_drewN ?_ _) | (with_reducible refine Kd.C_drew ?_))); (case side2 => exact HC1.out); (case side3 => repeat (first | exact (Kd.C_below HR2.out HB.out) | (with_reducible refine Kd.C_alloc ?_ _) | (with_reducible refine Kd.C_drewN ?_ _) | (with_reducible refine Kd.C_drew ?_))); (case side4 => exact HC2.out); rintro e w' ⟨rfl, ⟨nd, rfl⟩⟩; (try first | exact ⟨rfl, _, World.drewN_drewN _ _ _⟩ | exact ⟨rfl, _, Eq.trans (World.drewN_drewN _ _ _) (congrArg (World.drewN _) (Nat.add_assoc _ _ _))⟩)))
            repeat (go_quiet (first | (go_at_call 14; (with_reducible refine (laws_windowed.calls a0 281474976710655 _ _ l1 _ _ l2 true _ ?side1 ?side2 ?side3 ?side4 A9.out).mono ?_); (case side1 => repeat (first | exact (Kd.C_below HR1.out HB.out) | (with_reducible refine Kd.C_alloc ?_ _) | (with_reducible refine Kd.C_drewN ?_ _) | (with_reducible refine Kd.C_drew ?_))); (case side2 => exact HC1.out); (case side3 => repeat (first | exact (Kd.C_below HR2.out HB.out) | (with_reducible refine Kd.C_alloc ?_ _) | (with_reducible refine Kd.C_drewN ?_ _) | (with_reducible refine Kd.C_drew ?_))); (case side4 => exact HC2.out); rintro e w' ⟨rfl, ⟨nd, rfl⟩⟩; (try first | exact ⟨rfl, _, World.drewN_drewN _ _ _⟩ | exact ⟨rfl, _, Eq.trans (World.drewN_drewN _ _ _) (congrArg (World.drewN _) (Nat.add_assoc _ _ _))⟩))); try go_wp2_with (first | (go_at_call 14; (with_reducible refine (laws_windowed.calls a0 281474976710655 _ _ l1 _ _ l2 true _ ?side1 ?side2 ?side3 ?side4 A9.out).mono ?_); (case side1 => repeat (first | exact (Kd.C_below HR1.out HB.out) | (with_reducible refine Kd.C_alloc ?_ _) | (with_reducible refine Kd.C_drewN ?_ _) | (with_reducible refine Kd.C_drew ?_))); (case side2 => exact HC1.out); (case side3 => repeat (first | exact (Kd.C_below HR2.out HB.out) | (with_reducible refine Kd.C_alloc ?_ _) | (with_reducible refine Kd.C_drewN ?_ _) | (with_reducible refine Kd.C_drew ?_))); (case side4 => exact HC2.out); rintro e w' ⟨rfl, ⟨nd, rfl⟩⟩; (try first | exact ⟨rfl, _, World.drewN_drewN _ _ _⟩ | exact ⟨rfl, _, Eq.trans (World.drewN_drewN _ _ _) (congrArg (World.drewN _) (Nat.add_assoc _ _ _))⟩))))
            go_meet
            case rel => exact ⟨_, (decide (a3 > ((281474976710655 : Int) / 4))), (by first | rfl | (simp; done) | (simp [*]; done)), H', ⟨by have := HJ4.out; first | omega | exact Nat.le_refl _⟩, ⟨by repeat (first | (with_reducible first | exact HB.out | apply below_alloc | apply pw_below_drewN | apply below_drew1) | exact HB.out)⟩⟩
          · replace c10 := Bool.eq_false_iff.mpr c10
            subst c10
            have H1 : (laws_FnWindowShift.j1 kj4 a0 l1 l2 a3 281474976710655 true) = some r := by rw [if_neg (show ¬ (false = true) by decide)] at H; exact H
            clear H
            have H := H1
            clear H1
            have H' := Aside0.mk H
            clear H
            go_wp2_with (first | (go_at_call 14; (with_reducible refine (laws_windowed.calls a0 281474976710655 _ _ l1 _ _ l2 false _ ?side1 ?side2 ?side3 ?side4 A9.out).mono ?_); (case side1 => repeat (first | exact (Kd.C_below HR1.out HB.out) | (with_reducible refine Kd.C_alloc ?_ _) | (with_reducible refine Kd.C_drewN ?_ _) | (with_reducible refine Kd.C_drew ?_))); (case side2 => exact HC1.out); (case side3 => repeat (first | exact (Kd.C_below HR2.out HB.out) | (with_reducible refine Kd.C_alloc ?_ _) | (with_reducible refine Kd.C_drewN ?_ _) | (with_reducible refine Kd.C_drew ?_))); (case side4 => exact HC2.out); rintro e w' ⟨rfl, ⟨nd, rfl⟩⟩; (try first | exact ⟨rfl, _, World.drewN_drewN _ _ _⟩ | exact ⟨rfl, _, Eq.trans (World.drewN_drewN _ _ _) (congrArg (World.drewN _) (Nat.add_assoc _ _ _))⟩)))
            repeat (go_quiet (first | (go_at_call 14; (with_reducible refine (laws_windowed.calls a0 281474976710655 _ _ l1 _ _ l2 false _ ?side1 ?side2 ?side3 ?side4 A9.out).mono ?_); (case side1 => repeat (first | exact (Kd.C_below HR1.out HB.out) | (with_reducible refine Kd.C_alloc ?_ _) | (with_reducible refine Kd.C_drewN ?_ _) | (with_reducible refine Kd.C_drew ?_))); (case side2 => exact HC1.out); (case side3 => repeat (first | exact (Kd.C_below HR2.out HB.out) | (with_reducible refine Kd.C_alloc ?_ _) | (with_reducible refine Kd.C_drewN ?_ _) | (with_reducible refine Kd.C_drew ?_))); (case side4 => exact HC2.out); rintro e w' ⟨rfl, ⟨nd, rfl⟩⟩; (try first | exact ⟨rfl, _, World.drewN_drewN _ _ _⟩ | exact ⟨rfl, _, Eq.trans (World.drewN_drewN _ _ _) (congrArg (World.drewN _) (Nat.add_assoc _ _ _))⟩))); try go_wp2_with (first | (go_at_call 14; (with_reducible refine (laws_windowed.calls a0 281474976710655 _ _ l1 _ _ l2 false _ ?side1 ?side2 ?side3 ?side4 A9.out).mono ?_); (case side1 => repeat (first | exact (Kd.C_below HR1.out HB.out) | (with_reducible refine Kd.C_alloc ?_ _) | (with_reducible refine Kd.C_drewN ?_ _) | (with_reducible refine Kd.C_drew ?_))); (case side2 => exact HC1.out); (case side3 => repeat (first | exact (Kd.C_below HR2.out HB.out) | (with_reducible refine Kd.C_alloc ?_ _) | (with_reducible refine Kd.C_drewN ?_ _) | (with_reducible refine Kd.C_drew ?_))); (case side4 => exact HC2.out); rintro e w' ⟨rfl, ⟨nd, rfl⟩⟩; (try first | exact ⟨rfl, _, World.drewN_drewN _ _ _⟩ | exact ⟨rfl, _, Eq.trans (World.drewN_drewN _ _ _) (congrArg (World.drewN _) (Nat.add_assoc _ _ _))⟩))))
            go_meet
            case rel => exact ⟨_, (true), (by first | rfl | (simp; done) | (simp [*]; done)), H', ⟨by have := HJ4.out; first | omega | exact Nat.le_refl _⟩, ⟨by repeat (first | (with_reducible first | exact HB.out | apply below_alloc | apply pw_below_drewN | apply below_drew1) | exact HB.out)⟩⟩
        case rest =>
          clear HC8
          try clear c1
          try clear c2
          try clear p2
          try clear c6
          try clear c6b0
          try clear c6b1
          try clear c7
          try clear c10
          try clear p2
          obtain ⟨kq, x35_7, rfl, HA, HJ7, HB⟩ := hcut
          cases kq with
          | zero => exact absurd HA.out (by simp [laws_FnWindowShift.j1])
          | succ kj7 =>
            have H := HA.out
            clear HA
            simp only [laws_FnWindowShift.j1] at H
            by_cases c11 : x35_7 = true
            · subst c11
              have H1 : (some true) = some r := by rw [if_pos rfl] at H; exact H
              clear H
              have H := H1
              clear H1
              obtain rfl := Option.some.inj H
              go_wp2
              repeat (go_quiet (fail); try go_wp2)
              go_ret
              exact ⟨by first | rfl | (simp [errW_none, errW_some] <;> rfl) | (simp [*, errW_none, errW_some] <;> rfl), by repeat (first | (with_reducible first | exact HB.out | apply below_alloc | apply pw_below_drewN | apply below_drew1) | exact HB.out)⟩
            · replace c11 := Bool.eq_false_iff.mpr c11
              subst c11
              have H1 : (laws_FnWindowShift.l0 kj7 a0 l1 l2 a3 281474976710655 ([] : List Int) l1 (l1.length : Int) 0) = some r := by rw [if_neg (show ¬ (false = true) by decide)] at H; exact H
              clear H
              have H := H1
              clear H1
              have H' := Aside0.mk H
              clear H
              go_wp2
              repeat (go_quiet (fail); try go_wp2)
              go_loopg [10, 38] kj7 (fun kq v10 v38 w' => ∃ (x10_3 : List Int) (x38_3 : Int), v38 = .int .i64 x38_3 ∧ Aside0 (laws_FnWindowShift.l0 kq a0 l1 l2 a3 281474976710655 x10_3 l1 (l1.length : Int) x38_3 = some r) ∧ Aside0 (kq ≤ kj7) ∧ Aside0 (Kd.R (Kd.int .u64) 27 w' w.heap.size (fun _ => True) v10 x10_3) ∧ Aside0 (Below w.heap.size w w'))
              case atStart => exact ⟨(([] : List Int)), (0), (by first | rfl | (simp; done) | (simp [*]; done)), H', ⟨Nat.le_refl _⟩, ⟨by first | exact Kd.R_nil _ _ _ _ _ | exact Kd.N_nil _ _ _ _ _ | exact Kd.V_nil _ _ _ _ _ | exact Kd.Q_nil _ _ _ _ _ | exact Kd.S_nil _ _ _ _ _⟩, ⟨by repeat (first | (with_reducible first | exact HB.out | apply below_alloc | apply pw_below_drewN | apply below_drew1) | exact HB.out)⟩⟩
              case round =>
                clear H'
                try clear c1
                try clear c2
                try clear p2
                try clear c6
                try clear c6b0
                try clear c6b1
                try clear c7
                try clear c10
                try clear c11
                try clear p2
                obtain ⟨x10_3, x38_3, rfl, HA, HK3, HO_10, HB⟩ := hrel
                cases gk with
                | zero => exact absurd HA.out (by simp [laws_FnWindowShift.l0])
                | succ k3 =>
                  have H := HA.out
                  clear HA
                  simp only [laws_FnWindowShift.l0] at H
                  by_cases c12 : x38_3 < (l1.length : Int)
                  · rw [if_pos c12] at H
                    have c12b0 : decide (x38_3 < (l1.length : Int)) = true := decide_eq_true c12
                    clear c12
                    by_cases c13 : 0 ≤ x38_3
                    · rw [if_pos c13] at H
                      have c13b0 : decide (0 ≤ x38_3) = true := decide_eq_true c13
                      clear c13
                      by_cases c14 : x38_3 < (l1.length : Int)
                      · rw [if_pos c14] at H
                        have c14b0 : decide (x38_3 < (l1.length : Int)) = true := decide_eq_true c14
                        clear c14
                        by_cases c15 : (rd l1 x38_3) > (IntKind.u64.wrap (Int.tdiv 281474976710655 4))
                        · rw [if_pos c15] at H
                          have c15b0 : decide ((IntKind.u64.wrap (Int.tdiv 281474976710655 4)) < (rd l1 x38_3)) = true := decide_eq_true c15
                          have zz_ : decide ((70368744177663 : Int) < (rd l1 x38_3)) = true := by rw [show (70368744177663 : Int) = IntKind.u64.wrap (Int.tdiv 281474976710655 4) from by rfl]; exact c15b0
                          clear c15
                          obtain rfl := Option.some.inj H
                          have p114 : 0 ≤ (x38_3 : Int) := of_decide_eq_true (by first | (with_reducible assumption) | assumption)
                          have q114 : x38_3 < (l1.length : Int) := of_decide_eq_true (by first | (with_reducible assumption) | assumption)
                          obtain ⟨ad114, e114, hx114_0⟩ := Kd.at_int HR1.out x38_3 p114 q114
                          cases e114
                          replace hx114_0 := (HB.out.cell (World.block_lt_of_cell? w _ hx114_0)).trans hx114_0
                          replace p114 := eq_true p114
                          replace q114 := eq_true q114
                          go_wp2
                          repeat (go_quiet (fail); try go_wp2)
                          go_ret
                          exact ⟨by first | rfl | (simp [errW_none, errW_some] <;> rfl) | (simp [*, errW_none, errW_some] <;> rfl), by repeat (first | (with_reducible first | exact HB.out | apply below_alloc | apply pw_below_drewN | apply below_drew1) | exact HB.out)⟩
                        · rw [if_neg c15] at H
                          have c15b0 : decide ((IntKind.u64.wrap (Int.tdiv 281474976710655 4)) < (rd l1 x38_3)) = false := decide_eq_false c15
                          have zz_ : decide ((70368744177663 : Int) < (rd l1 x38_3)) = false := by rw [show (70368744177663 : Int) = IntKind.u64.wrap (Int.tdiv 281474976710655 4) from by rfl]; exact c15b0
                          clear c15
                          by_cases c16 : x10_3.length < 17592186044416
                          · rw [if_pos c16] at H
                            have LMc16 := Aside0.mk c16
                            clear c16
                            obtain ⟨y115, hy115⟩ : ∃ y_ : List Int, y_ = (x10_3 ++ [IntKind.u64.wrap ((rd l1 x38_3) + a3)]) := ⟨_, rfl⟩
                            replace H : (laws_FnWindowShift.l0 k3 a0 l1 l2 a3 281474976710655 y115 l1 (l1.length : Int) (wrap64 (x38_3 + 1))) = some r := by first | (rw [hy115]; with_reducible exact H) | (have H2_ := (Option.bind_some _ _).symm.trans H; rw [hy115]; with_reducible exact H2_) | (have H2_ := (Option.bind_some _ _).symm.trans H; with_reducible exact H2_) | with_reducible exact H | (rw [hy115]; exact H) | exact H
                            have Ny115 := Aside0.mk hy115
                            clear hy115
                            have H' := Aside0.mk H
                            clear H
                            have p114 : 0 ≤ (x38_3 : Int) := of_decide_eq_true (by first | (with_reducible assumption) | assumption)
                            have q114 : x38_3 < (l1.length : Int) := of_decide_eq_true (by first | (with_reducible assumption) | assumption)
                            obtain ⟨ad114, e114, hx114_0⟩ := Kd.at_int HR1.out x38_3 p114 q114
                            cases e114
                            replace hx114_0 := (HB.out.cell (World.block_lt_of_cell? w _ hx114_0)).trans hx114_0
                            replace p114 := eq_true p114
                            replace q114 := eq_true q114
                            go_wp2_with (first | ((with_reducible refine gate_builtin (b := .append) (xs := #[.tmp 46, .tmp 50]) rfl ?_); (try (refine gate_guard (by rfl) ?_; dsimp only)); at_builtin; refine Kd.R_append (Kd.int .u64) (w0 := w) w.heap.size rfl (.tmp 46) (.tmp 50) 28 27 (.int .u64 0) 8 rfl Try.underlying28 info27 rfl (by decide) (by omega) u10 x10_3 (IntKind.u64.wrap ((rd l1 x38_3) + a3)) [.int .u64 (IntKind.u64.wrap ((rd l1 x38_3) + a3))] (fun _ => True) (fun _ => False) rfl rfl ?aP (fun _ hk => hk.elim) ?aF ?aO ?aB ?aS ?aL ?_; (case aP => exact rfl); (case aB => exact (by repeat (first | (with_reducible first | exact HB.out | apply below_alloc | apply pw_below_drewN | apply below_drew1) | exact HB.out))); (case aF => exact (fun _ _ => trivial)); (case aO => exact (by (with_reducible repeat (first | apply Kd.R_alloc | apply Kd.R_drewN | apply Kd.R_drew)); exact HO_10.out)); (case aS => exact (below_size (by repeat (first | (with_reducible first | exact HB.out | apply below_alloc | apply pw_below_drewN | apply below_drew1) | exact HB.out)))); (case aL => have := LMc16.out; omega); intro v116 w17 ho hb hg hat; rw [← Ny115.out] at ho; have n0_ := Aside0.mk (hb); have n1_ := Aside0.mk (ho); clear HB; clear HO_10; have HB := n0_; have HO117 := n1_; clear n0_ n1_; clear ho hb hg hat))
                            repeat (go_quiet (first | ((with_reducible refine gate_builtin (b := .append) (xs := #[.tmp 46, .tmp 50]) rfl ?_); (try (refine gate_guard (by rfl) ?_; dsimp only)); at_builtin; refine Kd.R_append (Kd.int .u64) (w0 := w) w.heap.size rfl (.tmp 46) (.tmp 50) 28 27 (.int .u64 0) 8 rfl Try.underlying28 info27 rfl (by decide) (by omega) u10 x10_3 (IntKind.u64.wrap ((rd l1 x38_3) + a3)) [.int .u64 (IntKind.u64.wrap ((rd l1 x38_3) + a3))] (fun _ => True) (fun _ => False) rfl rfl ?aP (fun _ hk => hk.elim) ?aF ?aO ?aB ?aS ?aL ?_; (case aP => exact rfl); (case aB => exact (by repeat (first | (with_reducible first | exact HB.out | apply below_alloc | apply pw_below_drewN | apply below_drew1) | exact HB.out))); (case aF => exact (fun _ _ => trivial)); (case aO => exact (by (with_reducible repeat (first | apply Kd.R_alloc | apply Kd.R_drewN | apply Kd.R_drew)); exact HO_10.out)); (case aS => exact (below_size (by repeat (first | (with_reducible first | exact HB.out | apply below_alloc | apply pw_below_drewN | apply below_drew1) | exact HB.out)))); (case aL => have := LMc16.out; omega); intro v116 w17 ho hb hg hat; rw [← Ny115.out] at ho; have n0_ := Aside0.mk (hb); have n1_ := Aside0.mk (ho); clear HB; clear HO_10; have HB := n0_; have HO117 := n1_; clear n0_ n1_; clear ho hb hg hat)); try go_wp2_with (first | ((with_reducible refine gate_builtin (b := .append) (xs := #[.tmp 46, .tmp 50]) rfl ?_); (try (refine gate_guard (by rfl) ?_; dsimp only)); at_builtin; refine Kd.R_append (Kd.int .u64) (w0 := w) w.heap.size rfl (.tmp 46) (.tmp 50) 28 27 (.int .u64 0) 8 rfl Try.underlying28 info27 rfl (by decide) (by omega) u10 x10_3 (IntKind.u64.wrap ((rd l1 x38_3) + a3)) [.int .u64 (IntKind.u64.wrap ((rd l1 x38_3) + a3))] (fun _ => True) (fun _ => False) rfl rfl ?aP (fun _ hk => hk.elim) ?aF ?aO ?aB ?aS ?aL ?_; (case aP => exact rfl); (case aB => exact (by repeat (first | (with_reducible first | exact HB.out | apply below_alloc | apply pw_below_drewN | apply below_drew1) | exact HB.out))); (case aF => exact (fun _ _ => trivial)); (case aO => exact (by (with_reducible repeat (first | apply Kd.R_alloc | apply Kd.R_drewN | apply Kd.R_drew)); exact HO_10.out)); (case aS => exact (below_size (by repeat (first | (with_reducible first | exact HB.out | apply below_alloc | apply pw_below_drewN | apply below_drew1) | exact HB.out)))); (case aL => have := LMc16.out; omega); intro v116 w17 ho hb hg hat; rw [← Ny115.out] at ho; have n0_ := Aside0.mk (hb); have n1_ := Aside0.mk (ho); clear HB; clear HO_10; have HB := n0_; have HO117 := n1_; clear n0_ n1_; clear ho hb hg hat)))
                            go_roundg k3
                            case measure => have := HJ4.out; have := HJ7.out; have := HK3.out; omega
                            case rel => exact ⟨(y115), (wrap64 (x38_3 + 1)), (by first | rfl | (simp; done) | (simp [*]; done)), H', ⟨by have := HJ4.out; have := HJ7.out; have := HK3.out; omega⟩, ⟨by (with_reducible repeat (first | apply Kd.R_alloc | apply Kd.R_drewN | apply Kd.R_drew)); exact HO117.out⟩, ⟨by repeat (first | (with_reducible first | exact HB.out | apply below_alloc | apply pw_below_drewN | apply below_drew1) | exact HB.out)⟩⟩
                          · rw [if_neg c16] at H
                            exact absurd H (by simp)
                      · rw [if_neg c14] at H
                        exact absurd H (by simp)
                    · rw [if_neg c13] at H
                      exact absurd H (by simp)
                  · rw [if_neg c12] at H
                    have c12b0 : decide (x38_3 < (l1.length : Int)) = false := decide_eq_false c12
                    clear c12
                    replace H := Option.bind_eq_some_iff.mp H
                    obtain ⟨t118, A180, H⟩ := H
                    replace H : ((impl_Replay.f a0 281474976710655 x10_3 l2).bind fun t121 => (if (t118.length : Int) = (l1.length : Int) then (if (t121.length : Int) = (l1.length : Int) then (if (l1.length : Int) > 0 then (if 0 < (t118.length : Int) then (laws_FnWindowShift.j3 k3 t118 t121 (!(rdOf false t118 0))) else (none)) else (laws_FnWindowShift.j3 k3 t118 t121 false)) else (laws_FnWindowShift.j3 k3 t118 t121 true)) else (laws_FnWindowShift.j3 k3 t118 t121 true))) = some r := H
                    have A18 := Aside0.mk A180
                    clear A180
                    replace H := Option.bind_eq_some_iff.mp H
                    obtain ⟨t121, A190, H⟩ := H
                    replace H : (if (t118.length : Int) = (l1.length : Int) then (if (t121.length : Int) = (l1.length : Int) then (if (l1.length : Int) > 0 then (if 0 < (t118.length : Int) then (laws_FnWindowShift.j3 k3 t118 t121 (!(rdOf false t118 0))) else (none)) else (laws_FnWindowShift.j3 k3 t118 t121 false)) else (laws_FnWindowShift.j3 k3 t118 t121 true)) else (laws_FnWindowShift.j3 k3 t118 t121 true)) = some r := H
                    have A19 := Aside0.mk A190
                    clear A190
                    have HC20 := Aside0.mk H
                    clear H
                    go_upto_region 15 with (first | (go_at_call 13; (with_reducible refine (impl_Replay.calls a0 281474976710655 _ _ l1 _ _ l2 t118 _ ?side1 ?side2 ?side3 ?side4 A18.out).mono ?_); (case side1 => repeat (first | exact (Kd.C_below HR1.out HB.out) | (with_reducible refine Kd.C_alloc ?_ _) | (with_reducible refine Kd.C_drewN ?_ _) | (with_reducible refine Kd.C_drew ?_))); (case side2 => exact HC1.out); (case side3 => repeat (first | exact (Kd.C_below HR2.out HB.out) | (with_reducible refine Kd.C_alloc ?_ _) | (with_reducible refine Kd.C_drewN ?_ _) | (with_reducible refine Kd.C_drew ?_))); (case side4 => exact HC2.out); rintro e w21 ⟨v119, rfl, ho0, hb⟩; have n0_ := Aside0.mk (Kd.R_below (by (with_reducible repeat (first | apply Kd.R_alloc | apply Kd.R_drewN | apply Kd.R_drew)); exact HO_10.out) hb); have n1_ := Aside0.mk (Kd.R_lower ho0 (below_size (by repeat (first | (with_reducible first | exact HB.out | apply below_alloc | apply pw_below_drewN | apply below_drew1) | exact HB.out)))); have n2_ := Aside0.mk (below_step (by repeat (first | (with_reducible first | exact HB.out | apply below_alloc | apply pw_below_drewN | apply below_drew1) | exact HB.out)) hb); clear HO_10; clear HB; have HO_10 := n0_; have HO120 := n1_; have HB := n2_; clear n0_ n1_ n2_; (try clear hb); (try clear hb2); (try clear hk); (try clear hi); (try clear ho0); obtain ⟨Ao22, co22, eo22⟩ := Kd.R_slice HO_10.out; subst eo22) | (go_at_call 13; (with_reducible refine (impl_Replay.calls a0 281474976710655 _ _ x10_3 _ _ l2 t121 _ ?side1 ?side2 ?side3 ?side4 A19.out).mono ?_); (case side1 => repeat (first | exact (Kd.R_reads' HO_10.out).2.2 | (with_reducible refine Kd.C_alloc ?_ _) | (with_reducible refine Kd.C_drewN ?_ _) | (with_reducible refine Kd.C_drew ?_))); (case side2 => exact (Kd.R_reads' HO_10.out).2.1); (case side3 => repeat (first | exact (Kd.C_below HR2.out HB.out) | (with_reducible refine Kd.C_alloc ?_ _) | (with_reducible refine Kd.C_drewN ?_ _) | (with_reducible refine Kd.C_drew ?_))); (case side4 => exact HC2.out); rintro e w23 ⟨v122, rfl, ho0, hb⟩; have n0_ := Aside0.mk (Kd.R_below (by (with_reducible repeat (first | apply Kd.R_alloc | apply Kd.R_drewN | apply Kd.R_drew)); exact HO_10.out) hb); have n1_ := Aside0.mk (Kd.R_elder' (by (with_reducible repeat (first | apply Kd.R_alloc | apply Kd.R_drewN | apply Kd.R_drew)); exact HO120.out) (Kd.R_base ho0) hb); have n2_ := Aside0.mk (Kd.R_lower (Kd.R_new' ho0 (Kd.R_lt (by (with_reducible repeat (first | apply Kd.R_alloc | apply Kd.R_drewN | apply Kd.R_drew)); exact HO120.out))) (below_size (by repeat (first | (with_reducible first | exact HB.out | apply below_alloc | apply pw_below_drewN | apply below_drew1) | exact HB.out)))); have n3_ := Aside0.mk (below_step (by repeat (first | (with_reducible first | exact HB.out | apply below_alloc | apply pw_below_drewN | apply below_drew1) | exact HB.out)) hb); clear HO_10; clear HO120; clear HB; have HO_10 := n0_; have HO120 := n1_; have HO123 := n2_; have HB := n3_; clear n0_ n1_ n2_ n3_; (try clear hb); (try clear hb2); (try clear hk); (try clear hi); (try clear ho0)))
                    repeat (go_quiet (first | (go_at_call 13; (with_reducible refine (impl_Replay.calls a0 281474976710655 _ _ l1 _ _ l2 t118 _ ?side1 ?side2 ?side3 ?side4 A18.out).mono ?_); (case side1 => repeat (first | exact (Kd.C_below HR1.out HB.out) | (with_reducible refine Kd.C_alloc ?_ _) | (with_reducible refine Kd.C_drewN ?_ _) | (with_reducible refine Kd.C_drew ?_))); (case side2 => exact HC1.out); (case side3 => repeat (first | exact (Kd.C_below HR2.out HB.out) | (with_reducible refine Kd.C_alloc ?_ _) | (with_reducible refine Kd.C_drewN ?_ _) | (with_reducible refine Kd.C_drew ?_))); (case side4 => exact HC2.out); rintro e w21 ⟨v119, rfl, ho0, hb⟩; have n0_ := Aside0.mk (Kd.R_below (by (with_reducible repeat (first | apply Kd.R_alloc | apply Kd.R_drewN | apply Kd.R_drew)); exact HO_10.out) hb); have n1_ := Aside0.mk (Kd.R_lower ho0 (below_size (by repeat (first | (with_reducible first | exact HB.out | apply below_alloc | apply pw_below_drewN | apply below_drew1) | exact HB.out)))); have n2_ := Aside0.mk (below_step (by repeat (first | (with_reducible first | exact HB.out | apply below_alloc | apply pw_below_drewN | apply below_drew1) | exact HB.out)) hb); clear HO_10; clear HB; have HO_10 := n0_; have HO120 := n1_; have HB := n2_; clear n0_ n1_ n2_; (try clear hb); (try clear hb2); (try clear hk); (try clear hi); (try clear ho0); obtain ⟨Ao22, co22, eo22⟩ := Kd.R_slice HO_10.out; subst eo22) | (go_at_call 13; (with_reducible refine (impl_Replay.calls a0 281474976710655 _ _ x10_3 _ _ l2 t121 _ ?side1 ?side2 ?side3 ?side4 A19.out).mono ?_); (case side1 => repeat (first | exact (Kd.R_reads' HO_10.out).2.2 | (with_reducible refine Kd.C_alloc ?_ _) | (with_reducible refine Kd.C_drewN ?_ _) | (with_reducible refine Kd.C_drew ?_))); (case side2 => exact (Kd.R_reads' HO_10.out).2.1); (case side3 => repeat (first | exact (Kd.C_below HR2.out HB.out) | (with_reducible refine Kd.C_alloc ?_ _) | (with_reducible refine Kd.C_drewN ?_ _) | (with_reducible refine Kd.C_drew ?_))); (case side4 => exact HC2.out); rintro e w23 ⟨v122, rfl, ho0, hb⟩; have n0_ := Aside0.mk (Kd.R_below (by (with_reducible repeat (first | apply Kd.R_alloc | apply Kd.R_drewN | apply Kd.R_drew)); exact HO_10.out) hb); have n1_ := Aside0.mk (Kd.R_elder' (by (with_reducible repeat (first | apply Kd.R_alloc | apply Kd.R_drewN | apply Kd.R_drew)); exact HO120.out) (Kd.R_base ho0) hb); have n2_ := Aside0.mk (Kd.R_lower (Kd.R_new' ho0 (Kd.R_lt (by (with_reducible repeat (first | apply Kd.R_alloc | apply Kd.R_drewN | apply Kd.R_drew)); exact HO120.out))) (below_size (by repeat (first | (with_reducible first | exact HB.out | apply below_alloc | apply pw_below_drewN | apply below_drew1) | exact HB.out)))); have n3_ := Aside0.mk (below_step (by repeat (first | (with_reducible first | exact HB.out | apply below_alloc | apply pw_below_drewN | apply below_drew1) | exact HB.out)) hb); clear HO_10; clear HO120; clear HB; have HO_10 := n0_; have HO120 := n1_; have HO123 := n2_; have HB := n3_; clear n0_ n1_ n2_ n3_; (try clear hb); (try clear hb2); (try clear hk); (try clear hi); (try clear ho0))); go_upto_region 15 with (first | (go_at_call 13; (with_reducible refine (impl_Replay.calls a0 281474976710655 _ _ l1 _ _ l2 t118 _ ?side1 ?side2 ?side3 ?side4 A18.out).mono ?_); (case side1 => repeat (first | exact (Kd.C_below HR1.out HB.out) | (with_reducible refine Kd.C_alloc ?_ _) | (with_reducible refine Kd.C_drewN ?_ _) | (with_reducible refine Kd.C_drew ?_))); (case side2 => exact HC1.out); (case side3 => repeat (first | exact (Kd.C_below HR2.out HB.out) | (with_reducible refine Kd.C_alloc ?_ _) | (with_reducible refine Kd.C_drewN ?_ _) | (with_reducible refine Kd.C_drew ?_))); (case side4 => exact HC2.out); rintro e w21 ⟨v119, rfl, ho0, hb⟩; have n0_ := Aside0.mk (Kd.R_below (by (with_reducible repeat (first | apply Kd.R_alloc | apply Kd.R_drewN | apply Kd.R_drew)); exact HO_10.out) hb); have n1_ := Aside0.mk (Kd.R_lower ho0 (below_size (by repeat (first | (with_reducible first | exact HB.out | apply below_alloc | apply pw_below_drewN | apply below_drew1) | exact HB.out)))); have n2_ := Aside0.mk (below_step (by repeat (first | (with_reducible first | exact HB.out | apply below_alloc | apply pw_below_drewN | apply below_drew1) | exact HB.out)) hb); clear HO_10; clear HB; have HO_10 := n0_; have HO120 := n1_; have HB := n2_; clear n0_ n1_ n2_; (try clear hb); (try clear hb2); (try clear hk); (try clear hi); (try clear ho0); obtain ⟨Ao22, co22, eo22⟩ := Kd.R_slice HO_10.out; subst eo22) | (go_at_call 13; (with_reducible refine (impl_Replay.calls a0 281474976710655 _ _ x10_3 _ _ l2 t121 _ ?side1 ?side2 ?side3 ?side4 A19.out).mono ?_); (case side1 => repeat (first | exact (Kd.R_reads' HO_10.out).2.2 | (with_reducible refine Kd.C_alloc ?_ _) | (with_reducible refine Kd.C_drewN ?_ _) | (with_reducible refine Kd.C_drew ?_))); (case side2 => exact (Kd.R_reads' HO_10.out).2.1); (case side3 => repeat (first | exact (Kd.C_below HR2.out HB.out) | (with_reducible refine Kd.C_alloc ?_ _) | (with_reducible refine Kd.C_drewN ?_ _) | (with_reducible refine Kd.C_drew ?_))); (case side4 => exact HC2.out); rintro e w23 ⟨v122, rfl, ho0, hb⟩; have n0_ := Aside0.mk (Kd.R_below (by (with_reducible repeat (first | apply Kd.R_alloc | apply Kd.R_drewN | apply Kd.R_drew)); exact HO_10.out) hb); have n1_ := Aside0.mk (Kd.R_elder' (by (with_reducible repeat (first | apply Kd.R_alloc | apply Kd.R_drewN | apply Kd.R_drew)); exact HO120.out) (Kd.R_base ho0) hb); have n2_ := Aside0.mk (Kd.R_lower (Kd.R_new' ho0 (Kd.R_lt (by (with_reducible repeat (first | apply Kd.R_alloc | apply Kd.R_drewN | apply Kd.R_drew)); exact HO120.out))) (below_size (by repeat (first | (with_reducible first | exact HB.out | apply below_alloc | apply pw_below_drewN | apply below_drew1) | exact HB.out)))); have n3_ := Aside0.mk (below_step (by repeat (first | (with_reducible first | exact HB.out | apply below_alloc | apply pw_below_drewN | apply below_drew1) | exact HB.out)) hb); clear HO_10; clear HO120; clear HB; have HO_10 := n0_; have HO120 := n1_; have HO123 := n2_; have HB := n3_; clear n0_ n1_ n2_ n3_; (try clear hb); (try clear hb2); (try clear hk); (try clear hi); (try clear ho0))))
                    (try simp only [Act.put, List.setIfInBounds_toArray, List.set_cons_zero, List.set_cons_succ])
                    go_cut [85] (fun v85 wc => ∃ (kq : Nat) (x85_19 : Bool), v85 = .bool x85_19 ∧ Aside0 (laws_FnWindowShift.j3 kq t118 t121 x85_19 = some r) ∧ Aside0 (kq ≤ k3) ∧ Aside0 (Kd.R Kd.bool 4 wc w.heap.size (fun k_ => some k_ ≠ (v122 : Value).ownBlock) v119 t118) ∧ Aside0 (Kd.R Kd.bool 4 wc w.heap.size (fun k_ => some k_ ≠ (v119 : Value).ownBlock) v122 t121) ∧ Aside0 (Below w.heap.size w wc))
                    case first =>
                      have H := HC20.out
                      clear HC20
                      by_cases c24 : (t118.length : Int) = (l1.length : Int)
                      · rw [if_pos c24] at H
                        have c24b0 : ((t118.length : Int) == (l1.length : Int)) = true := beq_iff_eq.mpr c24
                        have c24b1 : ((t118.length : Int) != (l1.length : Int)) = false := bne_eq_false_iff_eq.mpr c24
                        have c24b2 : (t118.length == l1.length) = true := by first | simpa using c24 | (simp at c24 ⊢; omega)
                        clear c24
                        (first | rw [c24b0] | (simp only [i64_w, i32_w]; rw [c24b0]) | skip)
                        by_cases c25 : (t121.length : Int) = (l1.length : Int)
                        · rw [if_pos c25] at H
                          have c25b0 : ((t121.length : Int) == (l1.length : Int)) = true := beq_iff_eq.mpr c25
                          have c25b1 : ((t121.length : Int) != (l1.length : Int)) = false := bne_eq_false_iff_eq.mpr c25
                          have c25b2 : (t121.length == l1.length) = true := by first | simpa using c25 | (simp at c25 ⊢; omega)
                          clear c25
                          by_cases c26 : (l1.length : Int) > 0
                          · rw [if_pos c26] at H
                            have c26b0 : decide (0 < (l1.length : Int)) = true := decide_eq_true c26
                            have c26b1 : decide (0 < l1.length) = true := decide_eq_true (by omega)
                            clear c26
                            by_cases c27 : 0 < (t118.length : Int)
                            · rw [if_pos c27] at H
                              have c27b0 : decide (0 < (t118.length : Int)) = true := decide_eq_true c27
                              have c27b1 : decide (0 < t118.length) = true := decide_eq_true (by omega)
                              clear c27
                              have H' := Aside0.mk H
                              clear H
                              obtain ⟨Ao28, co28, eo28⟩ := Kd.R_slice HO120.out
                              subst eo28
                              obtain ⟨Ao29, co29, eo29⟩ := Kd.R_slice HO123.out
                              subst eo29
                              have p124 : 0 ≤ (0 : Int) := (by omega)
                              have q124 : 0 < (t118.length : Int) := of_decide_eq_true (by first | (with_reducible assumption) | assumption)
                              obtain ⟨ad124, e124, hx124_0⟩ := Kd.at_bool (Kd.R_reads' HO120.out).2.2 0 p124 q124
                              cases e124
                              have qi124 : (0 < t118.length) = True := eq_true (by omega)
                              (try rw [show ((0 : Int)).toNat = 0 from rfl] at hx124_0)
                              (try rw [Addr.add_zero'] at hx124_0)
                              replace p124 := eq_true p124
                              replace q124 := eq_true q124
                              go_wp2
                              repeat (go_quiet (fail); try go_wp2)
                              go_meet
                              case rel => exact ⟨_, (!(rdOf false t118 0)), (by first | rfl | (simp; done) | (simp [*]; done)), H', ⟨by have := HJ4.out; have := HJ7.out; have := HK3.out; first | omega | exact Nat.le_refl _⟩, ⟨by (with_reducible repeat (first | apply Kd.R_alloc | apply Kd.R_drewN | apply Kd.R_drew)); exact Kd.R_mono HO120.out (fun _ hk => hk.2)⟩, ⟨by (with_reducible repeat (first | apply Kd.R_alloc | apply Kd.R_drewN | apply Kd.R_drew)); exact Kd.R_mono HO123.out (fun _ hk => hk.2)⟩, ⟨by repeat (first | (with_reducible first | exact HB.out | apply below_alloc | apply pw_below_drewN | apply below_drew1) | exact HB.out)⟩⟩
                            · rw [if_neg c27] at H
                              exact absurd H (by simp)
                          · rw [if_neg c26] at H
                            have c26b0 : decide (0 < (l1.length : Int)) = false := decide_eq_false c26
                            have c26b1 : decide (0 < l1.length) = false := decide_eq_false (by omega)
                            clear c26
                            have H' := Aside0.mk H
                            clear H
                            obtain ⟨Ao30, co30, eo30⟩ := Kd.R_slice HO120.out
                            subst eo30
                            obtain ⟨Ao31, co31, eo31⟩ := Kd.R_slice HO123.out
                            subst eo31
                            go_wp2
                            repeat (go_quiet (fail); try go_wp2)
                            go_meet
                            case rel => exact ⟨_, (false), (by first | rfl | (simp; done) | (simp [*]; done)), H', ⟨by have := HJ4.out; have := HJ7.out; have := HK3.out; first | omega | exact Nat.le_refl _⟩, ⟨by (with_reducible repeat (first | apply Kd.R_alloc | apply Kd.R_drewN | apply Kd.R_drew)); exact Kd.R_mono HO120.out (fun _ hk => hk.2)⟩, ⟨by (with_reducible repeat (first | apply Kd.R_alloc | apply Kd.R_drewN | apply Kd.R_drew)); exact Kd.R_mono HO123.out (fun _ hk => hk.2)⟩, ⟨by repeat (first | (with_reducible first | exact HB.out | apply below_alloc | apply pw_below_drewN | apply below_drew1) | exact HB.out)⟩⟩
                        · rw [if_neg c25] at H
                          have c25b0 : ((t121.length : Int) == (l1.length : Int)) = false := beq_eq_false_iff_ne.mpr c25
                          have c25b1 : ((t121.length : Int) != (l1.length : Int)) = true := bne_iff_ne.mpr c25
                          have c25b2 : (t121.length == l1.length) = false := by first | simpa using c25 | (simp at c25 ⊢; omega)
                          have H' := Aside0.mk H
                          clear H
                          obtain ⟨Ao32, co32, eo32⟩ := Kd.R_slice HO120.out
                          subst eo32
                          obtain ⟨Ao33, co33, eo33⟩ := Kd.R_slice HO123.out
                          subst eo33
                          go_wp2
                          repeat (go_quiet (fail); try go_wp2)
                          go_meet
                          case rel => exact ⟨_, (true), (by first | rfl | (simp; done) | (simp [*]; done)), H', ⟨by have := HJ4.out; have := HJ7.out; have := HK3.out; first | omega | exact Nat.le_refl _⟩, ⟨by (with_reducible repeat (first | apply Kd.R_alloc | apply Kd.R_drewN | apply Kd.R_drew)); exact Kd.R_mono HO120.out (fun _ hk => hk.2)⟩, ⟨by (with_reducible repeat (first | apply Kd.R_alloc | apply Kd.R_drewN | apply Kd.R_drew)); exact Kd.R_mono HO123.out (fun _ hk => hk.2)⟩, ⟨by repeat (first | (with_reducible first | exact HB.out | apply below_alloc | apply pw_below_drewN | apply below_drew1) | exact HB.out)⟩⟩
                      · rw [if_neg c24] at H
                        have c24b0 : ((t118.length : Int) == (l1.length : Int)) = false := beq_eq_false_iff_ne.mpr c24
                        have c24b1 : ((t118.length : Int) != (l1.length : Int)) = true := bne_iff_ne.mpr c24
                        have c24b2 : (t118.length == l1.length) = false := by first | simpa using c24 | (simp at c24 ⊢; omega)
                        (first | rw [c24b0] | (simp only [i64_w, i32_w]; rw [c24b0]) | skip)
                        have H' := Aside0.mk H
                        clear H
                        obtain ⟨Ao34, co34, eo34⟩ := Kd.R_slice HO120.out
                        subst eo34
                        go_wp2
                        repeat (go_quiet (fail); try go_wp2)
                        go_meet
                        case rel => exact ⟨_, (true), (by first | rfl | (simp; done) | (simp [*]; done)), H', ⟨by have := HJ4.out; have := HJ7.out; have := HK3.out; first | omega | exact Nat.le_refl _⟩, ⟨by (with_reducible repeat (first | apply Kd.R_alloc | apply Kd.R_drewN | apply Kd.R_drew)); exact Kd.R_mono HO120.out (fun _ hk => hk.2)⟩, ⟨by (with_reducible repeat (first | apply Kd.R_alloc | apply Kd.R_drewN | apply Kd.R_drew)); exact Kd.R_mono HO123.out (fun _ hk => hk.2)⟩, ⟨by repeat (first | (with_reducible first | exact HB.out | apply below_alloc | apply pw_below_drewN | apply below_drew1) | exact HB.out)⟩⟩
                    case rest =>
                      clear HC20
                      try clear c1
                      try clear p1
                      try clear q1
                      try clear hx1
                      try clear qi1
                      try clear c2
                      try clear p2
                      try clear c6
                      try clear c6b0
                      try clear c6b1
                      try clear p6
                      try clear c7
                      try clear c10
                      try clear c11
                      try clear p11
                      try clear q11
                      try clear hx11
                      try clear c12
                      try clear c12b0
                      try clear p12
                      try clear q12
                      try clear hx12
                      try clear qi12
                      try clear c13
                      try clear c13b0
                      try clear c14
                      try clear c14b0
                      try clear c15
                      try clear c15b0
                      try clear c16
                      try clear c24
                      try clear c24b0
                      try clear c24b1
                      try clear c24b2
                      try clear c25
                      try clear c25b0
                      try clear c25b1
                      try clear c25b2
                      try clear c26
                      try clear c26b0
                      try clear c26b1
                      try clear c27
                      try clear c27b0
                      try clear c27b1
                      try clear hx114_0
                      try clear hx124_0
                      try clear p114
                      try clear p124
                      try clear p2
                      try clear q114
                      try clear q124
                      obtain ⟨kq, x85_19, rfl, HA, HJ19, HO_13, HO_14, HB⟩ := hcut
                      cases kq with
                      | zero => exact absurd HA.out (by simp [laws_FnWindowShift.j3])
                      | succ kj19 =>
                        have H := HA.out
                        clear HA
                        simp only [laws_FnWindowShift.j3] at H
                        by_cases c35 : x85_19 = true
                        · subst c35
                          have H1 : (some false) = some r := by rw [if_pos rfl] at H; exact H
                          clear H
                          have H := H1
                          clear H1
                          obtain rfl := Option.some.inj H
                          go_wp2
                          repeat (go_quiet (fail); try go_wp2)
                          go_ret
                          exact ⟨by first | rfl | (simp [errW_none, errW_some] <;> rfl) | (simp [*, errW_none, errW_some] <;> rfl), by repeat (first | (with_reducible first | exact HB.out | apply below_alloc | apply pw_below_drewN | apply below_drew1) | exact HB.out)⟩
                        · replace c35 := Bool.eq_false_iff.mpr c35
                          subst c35
                          have H1 : (laws_FnWindowShift.l1 kj19 t118 t121 (t118.length : Int) 0) = some r := by rw [if_neg (show ¬ (false = true) by decide)] at H; exact H
                          clear H
                          have H := H1
                          clear H1
                          have H' := Aside0.mk H
                          clear H
                          obtain ⟨Ao36, co36, eo36⟩ := Kd.R_slice HO_13.out
                          subst eo36
                          go_wp2
                          repeat (go_quiet (fail); try go_wp2)
                          go_loopg [88] kj19 (fun kq v88 w' => ∃ (x88_5 : Int), v88 = .int .i64 x88_5 ∧ Aside0 (laws_FnWindowShift.l1 kq t118 t121 (t118.length : Int) x88_5 = some r) ∧ Aside0 (kq ≤ kj19) ∧ Aside0 (Kd.R Kd.bool 4 w' w.heap.size (fun k_ => some k_ ≠ (v122 : Value).ownBlock) (.slice Ao36 t118.length co36) t118) ∧ Aside0 (Kd.R Kd.bool 4 w' w.heap.size (fun k_ => some k_ ≠ ((.slice Ao36 t118.length co36) : Value).ownBlock) v122 t121) ∧ Aside0 (Below w.heap.size w w'))
                          case atStart => exact ⟨(0), (by first | rfl | (simp; done) | (simp [*]; done)), H', ⟨Nat.le_refl _⟩, ⟨by (with_reducible repeat (first | apply Kd.R_alloc | apply Kd.R_drewN | apply Kd.R_drew)); exact HO_13.out⟩, ⟨by (with_reducible repeat (first | apply Kd.R_alloc | apply Kd.R_drewN | apply Kd.R_drew)); exact HO_14.out⟩, ⟨by repeat (first | (with_reducible first | exact HB.out | apply below_alloc | apply pw_below_drewN | apply below_drew1) | exact HB.out)⟩⟩
                          case round =>
                            clear H'
                            try clear c1
                            try clear p1
                            try clear q1
                            try clear hx1
                            try clear qi1
                            try clear c2
                            try clear p2
                            try clear c3
                            try clear c6
                            try clear c6b0
                            try clear c6b1
                            try clear p6
                            try clear c7
                            try clear c10
                            try clear c11
                            try clear p11
                            try clear q11
                            try clear hx11
                            try clear c12
                            try clear c12b0
                            try clear p12
                            try clear q12
                            try clear hx12
                            try clear qi12
                            try clear c13
                            try clear c13b0
                            try clear c14
                            try clear c14b0
                            try clear c15
                            try clear c15b0
                            try clear c16
                            try clear c24
                            try clear c24b0
                            try clear c24b1
                            try clear c24b2
                            try clear c25
                            try clear c25b0
                            try clear c25b1
                            try clear c25b2
                            try clear c26
                            try clear c26b0
                            try clear c26b1
                            try clear c27
                            try clear c27b0
                            try clear c27b1
                            try clear c35
                            try clear hx114_0
                            try clear hx124_0
                            try clear p1
                            try clear p11
                            try clear p114
                            try clear p12
                            try clear p124
                            try clear p2
                            try clear p6
                            try clear q1
                            try clear q11
                            try clear q114
                            try clear q12
                            try clear q124
                            obtain ⟨x88_5, rfl, HA, HK5, HO_13, HO_14, HB⟩ := hrel
                            cases gk with
                            | zero => exact absurd HA.out (by simp [laws_FnWindowShift.l1])
                            | succ k5 =>
                              have H := HA.out
                              clear HA
                              simp only [laws_FnWindowShift.l1] at H
                              by_cases c37 : x88_5 < (t118.length : Int)
                              · rw [if_pos c37] at H
                                have c37b0 : decide (x88_5 < (t118.length : Int)) = true := decide_eq_true c37
                                clear c37
                                by_cases c38 : 0 ≤ x88_5
                                · rw [if_pos c38] at H
                                  have c38b0 : decide (0 ≤ x88_5) = true := decide_eq_true c38
                                  clear c38
                                  by_cases c39 : x88_5 < (t118.length : Int)
                                  · rw [if_pos c39] at H
                                    have c39b0 : decide (x88_5 < (t118.length : Int)) = true := decide_eq_true c39
                                    clear c39
                                    by_cases c40 : x88_5 < (t121.length : Int)
                                    · rw [if_pos c40] at H
                                      have c40b0 : decide (x88_5 < (t121.length : Int)) = true := decide_eq_true c40
                                      clear c40
                                      by_cases c41 : ((rdOf false t118 x88_5) != (rdOf false t121 x88_5)) = true
                                      · rw [if_pos c41] at H
                                        have c41b0 : ((rdOf false t118 x88_5) != (rdOf false t121 x88_5)) = true := c41
                                        (try (have c41b1 : decide ((rdOf false t118 x88_5) = (rdOf false t121 x88_5)) = false := by simpa using c41))
                                        (try (have c41b2 : ((rdOf false t118 x88_5) == (rdOf false t121 x88_5)) = false := by simpa using c41))
                                        (try (have c41b3 : ¬ ((rdOf false t118 x88_5) = (rdOf false t121 x88_5)) := by simpa using c41))
                                        clear c41
                                        obtain rfl := Option.some.inj H
                                        have p125 : 0 ≤ (x88_5 : Int) := of_decide_eq_true (by first | (with_reducible assumption) | assumption)
                                        have q125 : x88_5 < (t118.length : Int) := of_decide_eq_true (by first | (with_reducible assumption) | assumption)
                                        obtain ⟨ad125, e125, hx125_0⟩ := Kd.at_bool (Kd.R_reads' HO_13.out).2.2 x88_5 p125 q125
                                        cases e125
                                        replace p125 := eq_true p125
                                        replace q125 := eq_true q125
                                        obtain ⟨Ao42, co42, eo42⟩ := Kd.R_slice HO_14.out
                                        subst eo42
                                        have p126 : 0 ≤ (x88_5 : Int) := of_decide_eq_true (by first | (with_reducible assumption) | assumption)
                                        have q126 : x88_5 < (t121.length : Int) := of_decide_eq_true (by first | (with_reducible assumption) | assumption)
                                        obtain ⟨ad126, e126, hx126_0⟩ := Kd.at_bool (Kd.R_reads' HO_14.out).2.2 x88_5 p126 q126
                                        cases e126
                                        replace p126 := eq_true p126
                                        replace q126 := eq_true q126
                                        go_wp2
                                        repeat (go_quiet (fail); try go_wp2)
                                        go_ret
                                        exact ⟨by first | rfl | (simp [errW_none, errW_some] <;> rfl) | (simp [*, errW_none, errW_some] <;> rfl), by repeat (first | (with_reducible first | exact HB.out | apply below_alloc | apply pw_below_drewN | apply below_drew1) | exact HB.out)⟩
                                      · rw [if_neg c41] at H
                                        have c41b0 : ((rdOf false t118 x88_5) != (rdOf false t121 x88_5)) = false := by simpa using c41
                                        (try (have c41b1 : decide ((rdOf false t118 x88_5) = (rdOf false t121 x88_5)) = true := by simpa using c41))
                                        (try (have c41b2 : ((rdOf false t118 x88_5) == (rdOf false t121 x88_5)) = true := by simpa using c41))
                                        clear c41
                                        have H' := Aside0.mk H
                                        clear H
                                        have p125 : 0 ≤ (x88_5 : Int) := of_decide_eq_true (by first | (with_reducible assumption) | assumption)
                                        have q125 : x88_5 < (t118.length : Int) := of_decide_eq_true (by first | (with_reducible assumption) | assumption)
                                        obtain ⟨ad125, e125, hx125_0⟩ := Kd.at_bool (Kd.R_reads' HO_13.out).2.2 x88_5 p125 q125
                                        cases e125
                                        replace p125 := eq_true p125
                                        replace q125 := eq_true q125
                                        obtain ⟨Ao43, co43, eo43⟩ := Kd.R_slice HO_14.out
                                        subst eo43
                                        have p126 : 0 ≤ (x88_5 : Int) := of_decide_eq_true (by first | (with_reducible assumption) | assumption)
                                        have q126 : x88_5 < (t121.length : Int) := of_decide_eq_true (by first | (with_reducible assumption) | assumption)
                                        obtain ⟨ad126, e126, hx126_0⟩ := Kd.at_bool (Kd.R_reads' HO_14.out).2.2 x88_5 p126 q126
                                        cases e126
                                        replace p126 := eq_true p126
                                        replace q126 := eq_true q126
                                        go_wp2
                                        repeat (go_quiet (fail); try go_wp2)
                                        go_roundg k5
                                        case measure => have := HJ4.out; have := HJ7.out; have := HK3.out; have := HJ19.out; have := HK5.out; omega
                                        case rel => exact ⟨(wrap64 (x88_5 + 1)), (by first | rfl | (simp; done) | (simp [*]; done)), H', ⟨by have := HJ4.out; have := HJ7.out; have := HK3.out; have := HJ19.out; have := HK5.out; omega⟩, ⟨by (with_reducible repeat (first | apply Kd.R_alloc | apply Kd.R_drewN | apply Kd.R_drew)); exact HO_13.out⟩, ⟨by (with_reducible repeat (first | apply Kd.R_alloc | apply Kd.R_drewN | apply Kd.R_drew)); exact HO_14.out⟩, ⟨by repeat (first | (with_reducible first | exact HB.out | apply below_alloc | apply pw_below_drewN | apply below_drew1) | exact HB.out)⟩⟩
                                    · rw [if_neg c40] at H
                                      exact absurd H (by simp)
                                  · rw [if_neg c39] at H
                                    exact absurd H (by simp)
                                · rw [if_neg c38] at H
                                  exact absurd H (by simp)
                              · rw [if_neg c37] at H
                                have c37b0 : decide (x88_5 < (t118.length : Int)) = false := decide_eq_false c37
                                clear c37
                                obtain rfl := Option.some.inj H
                                go_wp2
                                repeat (go_quiet (fail); try go_wp2)
                                go_ret
                                exact ⟨by first | rfl | (simp [errW_none, errW_some] <;> rfl) | (simp [*, errW_none, errW_some] <;> rfl), by repeat (first | (with_reducible first | exact HB.out | apply below_alloc | apply pw_below_drewN | apply below_drew1) | exact HB.out)⟩

end Go.Proofs.Ytaifkiafoebgcaa.V
