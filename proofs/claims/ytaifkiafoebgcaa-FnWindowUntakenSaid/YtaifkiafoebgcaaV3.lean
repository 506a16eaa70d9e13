-- Written by a program of this session (wip/tools/gprint.py) over the kit's print: functions as Lean functions, and their contracts. Not trusted: Lean checks it.
import Derived.Test.YtaifkiafoebgcaaV0
import Derived.Test.YtaifkiafoebgcaaV1
import Derived.Test.YtaifkiafoebgcaaReplay
namespace Go.Proofs.Ytaifkiafoebgcaa.V
open Go.RowKit Go.Proofs.YtaifkiafoebgcaaW.PrintWords Go.Proofs.YtaifkiafoebgcaaW.PrintLast Go.Proofs.YtaifkiafoebgcaaW.PrintMore
attribute [local go_sem] max2_int min2_int max_two min_two max_three min_three max_four min_four   -- for this text's walks alone
set_option linter.unusedVariables false
set_option linter.unusedSimpArgs false

/-! ### laws_FnWindowUntaken: function 7 -/
mutual
def laws_FnWindowUntaken.j0 : Nat → Int → Int → List Int → List Bool → Bool → Option (Bool)
  | 0, _, _, _, _, _ => none
  | k + 1, x0, x1, x2, x3, x24 => if x24 = true then (some true) else ((laws_windowed.f x0 x1 x2 x3).bind fun t127 => (if t127 = true then (laws_FnWindowUntaken.l0 k x0 x1 x2 x3 ([] : List Int) ([] : List Bool) x2 (x2.length : Int) 0) else (some true)))
def laws_FnWindowUntaken.l0 : Nat → Int → Int → List Int → List Bool → List Int → List Bool → List Int → Int → Int → Option (Bool)
  | 0, _, _, _, _, _, _, _, _, _ => none
  | k + 1, x0, x1, x2, x3, x9, x10, x31, x32, x33 => if x33 < x32 then (if 0 ≤ x33 then (if x33 < (x31.length : Int) then (if x33 < (x3.length : Int) then (if rdOf false x3 x33 = true then (if x9.length < 17592186044416 then (if x10.length < 140737488355328 then (laws_FnWindowUntaken.l0 k x0 x1 x2 x3 (x9 ++ [rd x31 x33]) (x10 ++ [true]) x31 x32 (wrap64 (x33 + 1))) else (none)) else (none)) else (laws_FnWindowUntaken.l0 k x0 x1 x2 x3 x9 x10 x31 x32 (wrap64 (x33 + 1)))) else (none)) else (none)) else (none)) else ((impl_Replay.f x0 x1 x2 x3).bind fun t136 => ((impl_Replay.f x0 x1 x9 x10).bind fun t139 => (if (t136.length : Int) = (x2.length : Int) then (laws_FnWindowUntaken.j2 k x3 t136 t139 ((t139.length : Int) != (x9.length : Int))) else (laws_FnWindowUntaken.j2 k x3 t136 t139 true))))
def laws_FnWindowUntaken.j2 : Nat → List Bool → List Bool → List Bool → Bool → Option (Bool)
  | 0, _, _, _, _ => none
  | k + 1, x3, x13, x14, x71 => if x71 = true then (some false) else (laws_FnWindowUntaken.l1 k x3 x13 x14 0 (x13.length : Int) 0)
def laws_FnWindowUntaken.l1 : Nat → List Bool → List Bool → List Bool → Int → Int → Int → Option (Bool)
  | 0, _, _, _, _, _, _ => none
  | k + 1, x3, x13, x14, x15, x73, x74 => if x74 < x73 then (if 0 ≤ x74 then (if x74 < (x3.length : Int) then (if rdOf false x3 x74 = true then (if x74 < (x13.length : Int) then (if 0 ≤ x15 then (if x15 < (x14.length : Int) then (if ((rdOf false x13 x74) != (rdOf false x14 x15)) = true then (some false) else (laws_FnWindowUntaken.l1 k x3 x13 x14 (wrap64 (x15 + 1)) x73 (wrap64 (x74 + 1)))) else (none)) else (none)) else (none)) else (laws_FnWindowUntaken.l1 k x3 x13 x14 x15 x73 (wrap64 (x74 + 1)))) else (none)) else (none)) else (some true)
end
def laws_FnWindowUntaken.f (k : Nat) (a0 : Int) (a1 : Int) (l2 : List Int) (l3 : List Bool) : Option (Bool) := if (l2.length : Int) > 2147483647 then (laws_FnWindowUntaken.j0 k a0 a1 l2 l3 true) else (laws_FnWindowUntaken.j0 k a0 a1 l2 l3 (decide ((l3.length : Int) > 2147483647)))
theorem laws_FnWindowUntaken.mono_l : ∀ k, (∀ y0 y1 y2 y3 y4, LeO (laws_FnWindowUntaken.j0 k y0 y1 y2 y3 y4) (laws_FnWindowUntaken.j0 (k + 1) y0 y1 y2 y3 y4)) ∧ (∀ y0 y1 y2 y3 y4 y5 y6 y7 y8, LeO (laws_FnWindowUntaken.l0 k y0 y1 y2 y3 y4 y5 y6 y7 y8) (laws_FnWindowUntaken.l0 (k + 1) y0 y1 y2 y3 y4 y5 y6 y7 y8)) ∧ (∀ y0 y1 y2 y3, LeO (laws_FnWindowUntaken.j2 k y0 y1 y2 y3) (laws_FnWindowUntaken.j2 (k + 1) y0 y1 y2 y3)) ∧ (∀ y0 y1 y2 y3 y4 y5, LeO (laws_FnWindowUntaken.l1 k y0 y1 y2 y3 y4 y5) (laws_FnWindowUntaken.l1 (k + 1) y0 y1 y2 y3 y4 y5))
  | 0 => ⟨fun _ _ _ _ _ r h => by simp [laws_FnWindowUntaken.j0] at h, fun _ _ _ _ _ _ _ _ _ r h => by simp [laws_FnWindowUntaken.l0] at h, fun _ _ _ _ r h => by simp [laws_FnWindowUntaken.j2] at h, fun _ _ _ _ _ _ r h => by simp [laws_FnWindowUntaken.l1] at h⟩
  | k + 1 => by
    obtain ⟨ih0, ih1, ih2, ih3⟩ := laws_FnWindowUntaken.mono_l k
    refine ⟨?_, ?_, ?_, ?_⟩
    · intro y0 y1 y2 y3 y4
      unfold laws_FnWindowUntaken.j0
      repeat' first
      | (with_reducible exact ih0 _ _ _ _ _)
      | (with_reducible exact ih1 _ _ _ _ _ _ _ _ _)
      | (with_reducible exact ih2 _ _ _ _)
      | (with_reducible exact ih3 _ _ _ _ _ _)
      | (with_reducible exact LeO.refl _)
      | (with_reducible exact LeO.none _)
      | (with_reducible refine LeO.ite ?_ ?_)
      | (with_reducible refine LeO.bind ?_ (fun _ => ?_))
      | exact ih0 _ _ _ _ _
      | exact ih1 _ _ _ _ _ _ _ _ _
      | exact ih2 _ _ _ _
      | exact ih3 _ _ _ _ _ _
      | exact LeO.none _
      | refine LeO.ite ?_ ?_
      | refine LeO.bind ?_ (fun _ => ?_)
    · intro y0 y1 y2 y3 y4 y5 y6 y7 y8
      unfold laws_FnWindowUntaken.l0
      repeat' first
      | (with_reducible exact ih0 _ _ _ _ _)
      | (with_reducible exact ih1 _ _ _ _ _ _ _ _ _)
      | (with_reducible exact ih2 _ _ _ _)
      | (with_reducible exact ih3 _ _ _ _ _ _)
      | (with_reducible exact LeO.refl _)
      | (with_reducible exact LeO.none _)
      | (with_reducible refine LeO.ite ?_ ?_)
      | (with_reducible refine LeO.bind ?_ (fun _ => ?_))
      | exact ih0 _ _ _ _ _
      | exact ih1 _ _ _ _ _ _ _ _ _
      | exact ih2 _ _ _ _
      | exact ih3 _ _ _ _ _ _
      | exact LeO.none _
      | refine LeO.ite ?_ ?_
      | refine LeO.bind ?_ (fun _ => ?_)
    · intro y0 y1 y2 y3
      unfold laws_FnWindowUntaken.j2
      repeat' first
      | (with_reducible exact ih0 _ _ _ _ _)
      | (with_reducible exact ih1 _ _ _ _ _ _ _ _ _)
      | (with_reducible exact ih2 _ _ _ _)
      | (with_reducible exact ih3 _ _ _ _ _ _)
      | (with_reducible exact LeO.refl _)
      | (with_reducible exact LeO.none _)
      | (with_reducible refine LeO.ite ?_ ?_)
      | (with_reducible refine LeO.bind ?_ (fun _ => ?_))
      | exact ih0 _ _ _ _ _
      | exact ih1 _ _ _ _ _ _ _ _ _
      | exact ih2 _ _ _ _
      | exact ih3 _ _ _ _ _ _
      | exact LeO.none _
      | refine LeO.ite ?_ ?_
      | refine LeO.bind ?_ (fun _ => ?_)
    · intro y0 y1 y2 y3 y4 y5
      unfold laws_FnWindowUntaken.l1
      repeat' first
      | (with_reducible exact ih0 _ _ _ _ _)
      | (with_reducible exact ih1 _ _ _ _ _ _ _ _ _)
      | (with_reducible exact ih2 _ _ _ _)
      | (with_reducible exact ih3 _ _ _ _ _ _)
      | (with_reducible exact LeO.refl _)
      | (with_reducible exact LeO.none _)
      | (with_reducible refine LeO.ite ?_ ?_)
      | (with_reducible refine LeO.bind ?_ (fun _ => ?_))
      | exact ih0 _ _ _ _ _
      | exact ih1 _ _ _ _ _ _ _ _ _
      | exact ih2 _ _ _ _
      | exact ih3 _ _ _ _ _ _
      | exact LeO.none _
      | refine LeO.ite ?_ ?_
      | refine LeO.bind ?_ (fun _ => ?_)
theorem laws_FnWindowUntaken.mono : ∀ a0 a1 a2 a3 k, LeO (laws_FnWindowUntaken.f k a0 a1 a2 a3) (laws_FnWindowUntaken.f (k + 1) a0 a1 a2 a3) := by
  intro a0 a1 a2 a3 k
  obtain ⟨ih0, ih1, ih2, ih3⟩ := laws_FnWindowUntaken.mono_l k
  unfold laws_FnWindowUntaken.f
  repeat' first
      | (with_reducible exact ih0 _ _ _ _ _)
      | (with_reducible exact ih1 _ _ _ _ _ _ _ _ _)
      | (with_reducible exact ih2 _ _ _ _)
      | (with_reducible exact ih3 _ _ _ _ _ _)
      | (with_reducible exact LeO.refl _)
      | (with_reducible exact LeO.none _)
      | (with_reducible refine LeO.ite ?_ ?_)
      | (with_reducible refine LeO.bind ?_ (fun _ => ?_))
      | exact ih0 _ _ _ _ _
      | exact ih1 _ _ _ _ _ _ _ _ _
      | exact ih2 _ _ _ _
      | exact ih3 _ _ _ _ _ _
      | exact LeO.none _
      | refine LeO.ite ?_ ?_
      | refine LeO.bind ?_ (fun _ => ?_)
set_option maxHeartbeats 8000000 in
set_option maxRecDepth 100000 in
theorem laws_FnWindowUntaken.calls (k : Nat) (a0 : Int) (a1 : Int) (A2 : Option Addr) (c2 : Nat) (l2 : List Int) (A3 : Option Addr) (c3 : Nat) (l3 : List Bool) (r : Bool) (w : World) (hr2 : Kd.C (Kd.int .u64) w A2 l2.length l2) (hc2 : l2.length ≤ c2) (hr3 : Kd.C Kd.bool w A3 l3.length l3) (hc3 : l3.length ≤ c3) (h : laws_FnWindowUntaken.f k a0 a1 l2 l3 = some r) :
    Calls Try.prog 7 #[.int .i64 a0, .int .u64 a1, .slice A2 l2.length c2, .slice A3 l3.length c3] w fun e w' => e = .returned (.bool r) ∧ Below w.heap.size w w' := by
  have HR2 := Aside0.mk hr2
  have HC2 := Aside0.mk hc2
  clear hr2 hc2
  have HR3 := Aside0.mk hr3
  have HC3 := Aside0.mk hc3
  clear hr3 hc3
  have HB := Aside0.mk (Below.refl w.heap.size w)
  have H : (if (l2.length : Int) > 2147483647 then (laws_FnWindowUntaken.j0 k a0 a1 l2 l3 true) else (laws_FnWindowUntaken.j0 k a0 a1 l2 l3 (decide ((l3.length : Int) > 2147483647)))) = some r := h
  clear h
  have HC5 := Aside0.mk H
  clear H
  go_enter Try.func7, Try.ntmps7
  go_upto_region 1 with (fail)
  repeat (go_quiet (fail); go_upto_region 1 with (fail))
  go_cut [24] (fun v24 wc => ∃ (kq : Nat) (x24_4 : Bool), v24 = .bool x24_4 ∧ Aside0 (laws_FnWindowUntaken.j0 kq a0 a1 l2 l3 x24_4 = some r) ∧ Aside0 (kq ≤ k) ∧ Aside0 (Below w.heap.size w wc))
  case first =>
    have H := HC5.out
    clear HC5
    by_cases c6 : (l2.length : Int) > 2147483647
    · rw [if_pos c6] at H
      have c6b0 : decide (2147483647 < (l2.length : Int)) = true := decide_eq_true c6
      have c6b1 : decide (2147483647 < l2.length) = true := decide_eq_true (by omega)
      clear c6
      (first | rw [c6b0] | (simp only [i64_w, i32_w]; rw [c6b0]) | skip)
      have H' := Aside0.mk H
      clear H
      go_wp2
      repeat (go_quiet (fail); try go_wp2)
      go_meet
      case rel => exact ⟨_, (true), (by first | rfl | (simp; done) | (simp [*]; done)), H', ⟨by first | omega | exact Nat.le_refl _⟩, ⟨by repeat (first | (with_reducible first | exact HB.out | apply below_alloc | apply pw_below_drewN | apply below_drew1) | exact HB.out)⟩⟩
    · rw [if_neg c6] at H
      have c6b0 : decide (2147483647 < (l2.length : Int)) = false := decide_eq_false c6
      have c6b1 : decide (2147483647 < l2.length) = false := decide_eq_false (by omega)
      clear c6
      (first | rw [c6b0] | (simp only [i64_w, i32_w]; rw [c6b0]) | skip)
      have H' := Aside0.mk H
      clear H
      go_wp2
      repeat (go_quiet (fail); try go_wp2)
      go_meet
      case rel => exact ⟨_, (decide ((l3.length : Int) > 2147483647)), (by first | rfl | (simp; done) | (simp [*]; done)), H', ⟨by first | omega | exact Nat.le_refl _⟩, ⟨by repeat (first | (with_reducible first | exact HB.out | apply below_alloc | apply pw_below_drewN | apply below_drew1) | exact HB.out)⟩⟩
  case rest =>
    clear HC5
    try clear c2
    try clear p2
    try clear c3
    try clear c6
    try clear c6b0
    try clear c6b1
    obtain ⟨kq, x24_4, rfl, HA, HJ4, HB⟩ := hcut
    cases kq with
    | zero => exact absurd HA.out (by simp [laws_FnWindowUntaken.j0])
    | succ kj4 =>
      have H := HA.out
      clear HA
      simp only [laws_FnWindowUntaken.j0] at H
      by_cases c7 : x24_4 = true
      · subst c7
        have H1 : (some true) = some r := by rw [if_pos rfl] at H; exact H
        clear H
        have H := H1
        clear H1
        obtain rfl := Option.some.inj H
        go_wp2
        repeat (go_quiet (fail); try go_wp2)
        go_ret
        exact ⟨by first | rfl | (simp [errW_none, errW_some] <;> rfl) | (simp [*, errW_none, errW_some] <;> rfl), by repeat (first | (with_reducible first | exact HB.out | apply below_alloc | apply pw_below_drewN | apply below_drew1) | exact HB.out)⟩
      · replace c7 := Bool.eq_false_iff.mpr c7
        subst c7
        have H1 : ((laws_windowed.f a0 a1 l2 l3).bind fun t127 => (if t127 = true then (laws_FnWindowUntaken.l0 kj4 a0 a1 l2 l3 ([] : List Int) ([] : List Bool) l2 (l2.length : Int) 0) else (some true))) = some r := by rw [if_neg (show ¬ (false = true) by decide)] at H; exact H
        clear H
        have H := H1
        clear H1
        replace H := Option.bind_eq_some_iff.mp H
        obtain ⟨t127, A80, H⟩ := H
        replace H : (if t127 = true then (laws_FnWindowUntaken.l0 kj4 a0 a1 l2 l3 ([] : List Int) ([] : List Bool) l2 (l2.length : Int) 0) else (some true)) = some r := H
        have A8 := Aside0.mk A80
        clear A80
        by_cases c9 : t127 = true
        · subst c9
          have H1 : (laws_FnWindowUntaken.l0 kj4 a0 a1 l2 l3 ([] : List Int) ([] : List Bool) l2 (l2.length : Int) 0) = some r := by rw [if_pos rfl] at H; exact H
          clear H
          have H := H1
          clear H1
          have H' := Aside0.mk H
          clear H
          go_wp2_with (first | (go_at_call 14; (with_reducible refine (laws_windowed.calls a0 a1 _ _ l2 _ _ l3 true _ ?side1 ?side2 ?side3 ?side4 A8.out).mono ?_); (case side1 => repeat (first | exact (Kd.C_below HR2.out HB.out) | (with_reducible refine Kd.C_alloc ?_ _) | (with_reducible refine Kd.C_drewN ?_ _) | (with_reducible refine Kd.C_drew ?_))); (case side2 => exact HC2.out); (case side3 => repeat (first | exact (Kd.C_below HR3.out HB.out) | (with_reducible refine Kd.C_alloc ?_ _) | (with_reducible refine Kd.C_drewN ?_ _) | (with_reducible refine Kd.C_drew ?_))); (case side4 => exact HC3.out); rintro e w' ⟨rfl, ⟨nd, rfl⟩⟩; (try first | exact ⟨rfl, _, World.drewN_drewN _ _ _⟩ | exact ⟨rfl, _, Eq.trans (World.drewN_drewN _ _ _) (congrArg (World.drewN _) (Nat.add_assoc _ _ _))⟩)))
          repeat (go_quiet (first | (go_at_call 14; (with_reducible refine (laws_windowed.calls a0 a1 _ _ l2 _ _ l3 true _ ?side1 ?side2 ?side3 ?side4 A8.out).mono ?_); (case side1 => repeat (first | exact (Kd.C_below HR2.out HB.out) | (with_reducible refine Kd.C_alloc ?_ _) | (with_reducible refine Kd.C_drewN ?_ _) | (with_reducible refine Kd.C_drew ?_))); (case side2 => exact HC2.out); (case side3 => repeat (first | exact (Kd.C_below HR3.out HB.out) | (with_reducible refine Kd.C_alloc ?_ _) | (with_reducible refine Kd.C_drewN ?_ _) | (with_reducible refine Kd.C_drew ?_))); (case side4 => exact HC3.out); rintro e w' ⟨rfl, ⟨nd, rfl⟩⟩; (try first | exact ⟨rfl, _, World.drewN_drewN _ _ _⟩ | exact ⟨rfl, _, Eq.trans (World.drewN_drewN _ _ _) (congrArg (World.drewN _) (Nat.add_assoc _ _ _))⟩))); try go_wp2_with (first | (go_at_call 14; (with_reducible refine (laws_windowed.calls a0 a1 _ _ l2 _ _ l3 true _ ?side1 ?side2 ?side3 ?side4 A8.out).mono ?_); (case side1 => repeat (first | exact (Kd.C_below HR2.out HB.out) | (with_reducible refine Kd.C_alloc ?_ _) | (with_reducible refine Kd.C_drewN ?_ _) | (with_reducible refine Kd.C_drew ?_))); (case side2 => exact HC2.out); (case side3 => repeat (first | exact (Kd.C_below HR3.out HB.out) | (with_reducible refine Kd.C_alloc ?_ _) | (with_reducible refine Kd.C_drewN ?_ _) | (with_reducible refine Kd.C_drew ?_))); (case side4 => exact HC3.out); rintro e w' ⟨rfl, ⟨nd, rfl⟩⟩; (try first | exact ⟨rfl, _, World.drewN_drewN _ _ _⟩ | exact ⟨rfl, _, Eq.trans (World.drewN_drewN _ _ _) (congrArg (World.drewN _) (Nat.add_assoc _ _ _))⟩))))
          go_loopg [9, 10, 33] kj4 (fun kq v9 v10 v33 w' => ∃ (x9_2 : List Int) (x10_2 : List Bool) (x33_2 : Int), v33 = .int .i64 x33_2 ∧ Aside0 (laws_FnWindowUntaken.l0 kq a0 a1 l2 l3 x9_2 x10_2 l2 (l2.length : Int) x33_2 = some r) ∧ Aside0 (kq ≤ kj4) ∧ Aside0 (Kd.R (Kd.int .u64) 27 w' w.heap.size (fun _ => True) v9 x9_2) ∧ Aside0 (Kd.R Kd.bool 4 w' w.heap.size (fun _ => True) v10 x10_2) ∧ Aside0 (Below w.heap.size w w'))
          case atStart => exact ⟨(([] : List Int)), (([] : List Bool)), (0), (by first | rfl | (simp; done) | (simp [*]; done)), H', ⟨Nat.le_refl _⟩, ⟨by first | exact Kd.R_nil _ _ _ _ _ | exact Kd.N_nil _ _ _ _ _ | exact Kd.V_nil _ _ _ _ _ | exact Kd.Q_nil _ _ _ _ _ | exact Kd.S_nil _ _ _ _ _⟩, ⟨by first | exact Kd.R_nil _ _ _ _ _ | exact Kd.N_nil _ _ _ _ _ | exact Kd.V_nil _ _ _ _ _ | exact Kd.Q_nil _ _ _ _ _ | exact Kd.S_nil _ _ _ _ _⟩, ⟨by repeat (first | (with_reducible first | exact HB.out | apply below_alloc | apply pw_below_drewN | apply below_drew1) | exact HB.out)⟩⟩
          case round =>
            clear H'
            try clear c2
            try clear p2
            try clear c3
            try clear c6
            try clear c6b0
            try clear c6b1
            try clear c7
            try clear c9
            try clear p2
            obtain ⟨x9_2, x10_2, x33_2, rfl, HA, HK2, HO_9, HO_10, HB⟩ := hrel
            cases gk with
            | zero => exact absurd HA.out (by simp [laws_FnWindowUntaken.l0])
            | succ k2 =>
              have H := HA.out
              clear HA
              simp only [laws_FnWindowUntaken.l0] at H
              by_cases c10 : x33_2 < (l2.length : Int)
              · rw [if_pos c10] at H
                have c10b0 : decide (x33_2 < (l2.length : Int)) = true := decide_eq_true c10
                clear c10
                by_cases c11 : 0 ≤ x33_2
                · rw [if_pos c11] at H
                  have c11b0 : decide (0 ≤ x33_2) = true := decide_eq_true c11
                  clear c11
                  by_cases c12 : x33_2 < (l2.length : Int)
                  · rw [if_pos c12] at H
                    have c12b0 : decide (x33_2 < (l2.length : Int)) = true := decide_eq_true c12
                    clear c12
                    by_cases c13 : x33_2 < (l3.length : Int)
                    · rw [if_pos c13] at H
                      have c13b0 : decide (x33_2 < (l3.length : Int)) = true := decide_eq_true c13
                      clear c13
                      obtain ⟨bq14, hbq14⟩ : ∃ b_ : Bool, b_ = (rdOf false l3 x33_2) := ⟨_, rfl⟩
                      replace H : (if bq14 = true then (if x9_2.length < 17592186044416 then (if x10_2.length < 140737488355328 then (laws_FnWindowUntaken.l0 k2 a0 a1 l2 l3 (x9_2 ++ [rd l2 x33_2]) (x10_2 ++ [true]) l2 (l2.length : Int) (wrap64 (x33_2 + 1))) else (none)) else (none)) else (laws_FnWindowUntaken.l0 k2 a0 a1 l2 l3 x9_2 x10_2 l2 (l2.length : Int) (wrap64 (x33_2 + 1)))) = some r := by rw [← hbq14] at H; exact H
                      have Nbq14 := Aside0.mk hbq14
                      clear hbq14
                      by_cases c15 : bq14 = true
                      · subst c15
                        have H1 : (if x9_2.length < 17592186044416 then (if x10_2.length < 140737488355328 then (laws_FnWindowUntaken.l0 k2 a0 a1 l2 l3 (x9_2 ++ [rd l2 x33_2]) (x10_2 ++ [true]) l2 (l2.length : Int) (wrap64 (x33_2 + 1))) else (none)) else (none)) = some r := by rw [if_pos rfl] at H; exact H
                        clear H
                        have H := H1
                        clear H1
                        by_cases c16 : x9_2.length < 17592186044416
                        · rw [if_pos c16] at H
                          have LMc16 := Aside0.mk c16
                          clear c16
                          obtain ⟨y130, hy130⟩ : ∃ y_ : List Int, y_ = (x9_2 ++ [rd l2 x33_2]) := ⟨_, rfl⟩
                          replace H : (if x10_2.length < 140737488355328 then (laws_FnWindowUntaken.l0 k2 a0 a1 l2 l3 y130 (x10_2 ++ [true]) l2 (l2.length : Int) (wrap64 (x33_2 + 1))) else (none)) = some r := by first | (rw [hy130]; with_reducible exact H) | (have H2_ := (Option.bind_some _ _).symm.trans H; rw [hy130]; with_reducible exact H2_) | (have H2_ := (Option.bind_some _ _).symm.trans H; with_reducible exact H2_) | with_reducible exact H | (rw [hy130]; exact H) | exact H
                          have Ny130 := Aside0.mk hy130
                          clear hy130
                          by_cases c17 : x10_2.length < 140737488355328
                          · rw [if_pos c17] at H
                            have LMc17 := Aside0.mk c17
                            clear c17
                            obtain ⟨y133, hy133⟩ : ∃ y_ : List Bool, y_ = (x10_2 ++ [true]) := ⟨_, rfl⟩
                            replace H : (laws_FnWindowUntaken.l0 k2 a0 a1 l2 l3 y130 y133 l2 (l2.length : Int) (wrap64 (x33_2 + 1))) = some r := by first | (rw [hy133]; with_reducible exact H) | (have H2_ := (Option.bind_some _ _).symm.trans H; rw [hy133]; with_reducible exact H2_) | (have H2_ := (Option.bind_some _ _).symm.trans H; with_reducible exact H2_) | with_reducible exact H | (rw [hy133]; exact H) | exact H
                            have Ny133 := Aside0.mk hy133
                            clear hy133
                            have H' := Aside0.mk H
                            clear H
                            have p128 : 0 ≤ (x33_2 : Int) := of_decide_eq_true (by first | (with_reducible assumption) | assumption)
                            have q128 : x33_2 < (l2.length : Int) := of_decide_eq_true (by first | (with_reducible assumption) | assumption)
                            obtain ⟨ad128, e128, hx128_0⟩ := Kd.at_int HR2.out x33_2 p128 q128
                            cases e128
                            replace hx128_0 := (HB.out.cell (World.block_lt_of_cell? w _ hx128_0)).trans hx128_0
                            replace p128 := eq_true p128
                            replace q128 := eq_true q128
                            have p129 : 0 ≤ (x33_2 : Int) := of_decide_eq_true (by first | (with_reducible assumption) | assumption)
                            have q129 : x33_2 < (l3.length : Int) := of_decide_eq_true (by first | (with_reducible assumption) | assumption)
                            obtain ⟨ad129, e129, hx129_0⟩ := Kd.at_bool HR3.out x33_2 p129 q129
                            (try rw [← Nbq14.out] at hx129_0)
                            cases e129
                            replace hx129_0 := (HB.out.cell (World.block_lt_of_cell? w _ hx129_0)).trans hx129_0
                            replace p129 := eq_true p129
                            replace q129 := eq_true q129
                            go_wp2_with (first | ((with_reducible refine gate_builtin (b := .append) (xs := #[.tmp 42, .tmp 44]) rfl ?_); (try (refine gate_guard (by rfl) ?_; dsimp only)); at_builtin; refine Kd.R_append (Kd.int .u64) (w0 := w) w.heap.size rfl (.tmp 42) (.tmp 44) 28 27 (.int .u64 0) 8 rfl Try.underlying28 info27 rfl (by decide) (by omega) u9 x9_2 (rd l2 x33_2) [.int .u64 (rd l2 x33_2)] (fun _ => True) (fun _ => False) rfl rfl ?aP (fun _ hk => hk.elim) ?aF ?aO ?aB ?aS ?aL ?_; (case aP => exact rfl); (case aB => exact (by repeat (first | (with_reducible first | exact HB.out | apply below_alloc | apply pw_below_drewN | apply below_drew1) | exact HB.out))); (case aF => exact (fun _ _ => trivial)); (case aO => exact (by (with_reducible repeat (first | apply Kd.R_alloc | apply Kd.R_drewN | apply Kd.R_drew)); exact HO_9.out)); (case aS => exact (below_size (by repeat (first | (with_reducible first | exact HB.out | apply below_alloc | apply pw_below_drewN | apply below_drew1) | exact HB.out)))); (case aL => have := LMc16.out; omega); intro v131 w18 ho hb hg hat; rw [← Ny130.out] at ho; have n0_ := Aside0.mk (Kd.R_over' (by (with_reducible repeat (first | apply Kd.R_alloc | apply Kd.R_drewN | apply Kd.R_drew)); exact HO_10.out) (Kd.R_typed (by (with_reducible repeat (first | apply Kd.R_alloc | apply Kd.R_drewN | apply Kd.R_drew)); exact HO_9.out)) (by decide) hg); have n1_ := Aside0.mk (hb); have n2_ := Aside0.mk (ho); clear HO_10; clear HB; clear HO_9; have HO_10 := n0_; have HB := n1_; have HO132 := n2_; clear n0_ n1_ n2_; clear ho hb hg hat) | ((with_reducible refine gate_builtin (b := .append) (xs := #[.tmp 46, .tmp 47]) rfl ?_); (try (refine gate_guard (by rfl) ?_; dsimp only)); at_builtin; refine Kd.R_append Kd.bool (w0 := w) w.heap.size rfl (.tmp 46) (.tmp 47) 29 4 (.bool false) 1 rfl Try.underlying29 info4 rfl (by decide) (by omega) u10 x10_2 true [.bool true] (fun _ => True) (fun _ => False) rfl rfl ?aP (fun _ hk => hk.elim) ?aF ?aO ?aB ?aS ?aL ?_; (case aP => exact rfl); (case aB => exact (by repeat (first | (with_reducible first | exact HB.out | apply below_alloc | apply pw_below_drewN | apply below_drew1) | exact HB.out))); (case aF => exact (fun _ _ => trivial)); (case aO => exact (by (with_reducible repeat (first | apply Kd.R_alloc | apply Kd.R_drewN | apply Kd.R_drew)); exact HO_10.out)); (case aS => exact (below_size (by repeat (first | (with_reducible first | exact HB.out | apply below_alloc | apply pw_below_drewN | apply below_drew1) | exact HB.out)))); (case aL => have := LMc17.out; omega); intro v134 w19 ho hb hg hat; rw [← Ny133.out] at ho; have n0_ := Aside0.mk (Kd.R_over' (by (with_reducible repeat (first | apply Kd.R_alloc | apply Kd.R_drewN | apply Kd.R_drew)); exact HO132.out) (Kd.R_typed (by (with_reducible repeat (first | apply Kd.R_alloc | apply Kd.R_drewN | apply Kd.R_drew)); exact HO_10.out)) (by decide) hg); have n1_ := Aside0.mk (hb); have n2_ := Aside0.mk (ho); clear HO132; clear HB; clear HO_10; have HO132 := n0_; have HB := n1_; have HO135 := n2_; clear n0_ n1_ n2_; clear ho hb hg hat))
                            repeat (go_quiet (first | ((with_reducible refine gate_builtin (b := .append) (xs := #[.tmp 42, .tmp 44]) rfl ?_); (try (refine gate_guard (by rfl) ?_; dsimp only)); at_builtin; refine Kd.R_append (Kd.int .u64) (w0 := w) w.heap.size rfl (.tmp 42) (.tmp 44) 28 27 (.int .u64 0) 8 rfl Try.underlying28 info27 rfl (by decide) (by omega) u9 x9_2 (rd l2 x33_2) [.int .u64 (rd l2 x33_2)] (fun _ => True) (fun _ => False) rfl rfl ?aP (fun _ hk => hk.elim) ?aF ?aO ?aB ?aS ?aL ?_; (case aP => exact rfl); (case aB => exact (by repeat (first | (with_reducible first | exact HB.out | apply below_alloc | apply pw_below_drewN | apply below_drew1) | exact HB.out))); (case aF => exact (fun _ _ => trivial)); (case aO => exact (by (with_reducible repeat (first | apply Kd.R_alloc | apply Kd.R_drewN | apply Kd.R_drew)); exact HO_9.out)); (case aS => exact (below_size (by repeat (first | (with_reducible first | exact HB.out | apply below_alloc | apply pw_below_drewN | apply below_drew1) | exact HB.out)))); (case aL => have := LMc16.out; omega); intro v131 w18 ho hb hg hat; rw [← Ny130.out] at ho; have n0_ := Aside0.mk (Kd.R_over' (by (with_reducible repeat (first | apply Kd.R_alloc | apply Kd.R_drewN | apply Kd.R_drew)); exact HO_10.out) (Kd.R_typed (by (with_reducible repeat (first | apply Kd.R_alloc | apply Kd.R_drewN | apply Kd.R_drew)); exact HO_9.out)) (by decide) hg); have n1_ := Aside0.mk (hb); have n2_ := Aside0.mk (ho); clear HO_10; clear HB; clear HO_9; have HO_10 := n0_; have HB := n1_; have HO132 := n2_; clear n0_ n1_ n2_; clear ho hb hg hat) | ((with_reducible refine gate_builtin (b := .append) (xs := #[.tmp 46, .tmp 47]) rfl ?_); (try (refine gate_guard (by rfl) ?_; dsimp only)); at_builtin; refine Kd.R_append Kd.bool (w0 := w) w.heap.size rfl (.tmp 46) (.tmp 47) 29 4 (.bool false) 1 rfl Try.underlying29 info4 rfl (by decide) (by omega) u10 x10_2 true [.bool true] (fun _ => True) (fun _ => False) rfl rfl ?aP (fun _ hk => hk.elim) ?aF ?aO ?aB ?aS ?aL ?_; (case aP => exact rfl); (case aB => exact (by repeat (first | (with_reducible first | exact HB.out | apply below_alloc | apply pw_below_drewN | apply below_drew1) | exact HB.out))); (case aF => exact (fun _ _ => trivial)); (case aO => exact (by (with_reducible repeat (first | apply Kd.R_alloc | apply Kd.R_drewN | apply Kd.R_drew)); exact HO_10.out)); (case aS => exact (below_size (by repeat (first | (with_reducible first | exact HB.out | apply below_alloc | apply pw_below_drewN | apply below_drew1) | exact HB.out)))); (case aL => have := LMc17.out; omega); intro v134 w19 ho hb hg hat; rw [← Ny133.out] at ho; have n0_ := Aside0.mk (Kd.R_over' (by (with_reducible repeat (first | apply Kd.R_alloc | apply Kd.R_drewN | apply Kd.R_drew)); exact HO132.out) (Kd.R_typed (by (with_reducible repeat (first | apply Kd.R_alloc | apply Kd.R_drewN | apply Kd.R_drew)); exact HO_10.out)) (by decide) hg); have n1_ := Aside0.mk (hb); have n2_ := Aside0.mk (ho); clear HO132; clear HB; clear HO_10; have HO132 := n0_; have HB := n1_; have HO135 := n2_; clear n0_ n1_ n2_; clear ho hb hg hat)); try go_wp2_with (first | ((with_reducible refine gate_builtin (b := .append) (xs := #[.tmp 42, .tmp 44]) rfl ?_); (try (refine gate_guard (by rfl) ?_; dsimp only)); at_builtin; refine Kd.R_append (Kd.int .u64) (w0 := w) w.heap.size rfl (.tmp 42) (.tmp 44) 28 27 (.int .u64 0) 8 rfl Try.underlying28 info27 rfl (by decide) (by omega) u9 x9_2 (rd l2 x33_2) [.int .u64 (rd l2 x33_2)] (fun _ => True) (fun _ => False) rfl rfl ?aP (fun _ hk => hk.elim) ?aF ?aO ?aB ?aS ?aL ?_; (case aP => exact rfl); (case aB => exact (by repeat (first | (with_reducible first | exact HB.out | apply below_alloc | apply pw_below_drewN | apply below_drew1) | exact HB.out))); (case aF => exact (fun _ _ => trivial)); (case aO => exact (by (with_reducible repeat (first | apply Kd.R_alloc | apply Kd.R_drewN | apply Kd.R_drew)); exact HO_9.out)); (case aS => exact (below_size (by repeat (first | (with_reducible first | exact HB.out | apply below_alloc | apply pw_below_drewN | apply below_drew1) | exact HB.out)))); (case aL => have := LMc16.out; omega); intro v131 w18 ho hb hg hat; rw [← Ny130.out] at ho; have n0_ := Aside0.mk (Kd.R_over' (by (with_reducible repeat (first | apply Kd.R_alloc | apply Kd.R_drewN | apply Kd.R_drew)); exact HO_10.out) (Kd.R_typed (by (with_reducible repeat (first | apply Kd.R_alloc | apply Kd.R_drewN | apply Kd.R_drew)); exact HO_9.out)) (by decide) hg); have n1_ := Aside0.mk (hb); have n2_ := Aside0.mk (ho); clear HO_10; clear HB; clear HO_9; have HO_10 := n0_; have HB := n1_; have HO132 := n2_; clear n0_ n1_ n2_; clear ho hb hg hat) | ((with_reducible refine gate_builtin (b := .append) (xs := #[.tmp 46, .tmp 47]) rfl ?_); (try (refine gate_guard (by rfl) ?_; dsimp only)); at_builtin; refine Kd.R_append Kd.bool (w0 := w) w.heap.size rfl (.tmp 46) (.tmp 47) 29 4 (.bool false) 1 rfl Try.underlying29 info4 rfl (by decide) (by omega) u10 x10_2 true [.bool true] (fun _ => True) (fun _ => False) rfl rfl ?aP (fun _ hk => hk.elim) ?aF ?aO ?aB ?aS ?aL ?_; (case aP => exact rfl); (case aB => exact (by repeat (first | (with_reducible first | exact HB.out | apply below_alloc | apply pw_below_drewN | apply below_drew1) | exact HB.out))); (case aF => exact (fun _ _ => trivial)); (case aO => exact (by (with_reducible repeat (first | apply Kd.R_alloc | apply Kd.R_drewN | apply Kd.R_drew)); exact HO_10.out)); (case aS => exact (below_size (by repeat (first | (with_reducible first | exact HB.out | apply below_alloc | apply pw_below_drewN | apply below_drew1) | exact HB.out)))); (case aL => have := LMc17.out; omega); intro v134 w19 ho hb hg hat; rw [← Ny133.out] at ho; have n0_ := Aside0.mk (Kd.R_over' (by (with_reducible repeat (first | apply Kd.R_alloc | apply Kd.R_drewN | apply Kd.R_drew)); exact HO132.out) (Kd.R_typed (by (with_reducible repeat (first | apply Kd.R_alloc | apply Kd.R_drewN | apply Kd.R_drew)); exact HO_10.out)) (by decide) hg); have n1_ := Aside0.mk (hb); have n2_ := Aside0.mk (ho); clear HO132; clear HB; clear HO_10; have HO132 := n0_; have HB := n1_; have HO135 := n2_; clear n0_ n1_ n2_; clear ho hb hg hat)))
                            go_roundg k2
                            case measure => have := HJ4.out; have := HK2.out; omega
                            case rel => exact ⟨(y130), (y133), (wrap64 (x33_2 + 1)), (by first | rfl | (simp; done) | (simp [*]; done)), H', ⟨by have := HJ4.out; have := HK2.out; omega⟩, ⟨by (with_reducible repeat (first | apply Kd.R_alloc | apply Kd.R_drewN | apply Kd.R_drew)); exact HO132.out⟩, ⟨by (with_reducible repeat (first | apply Kd.R_alloc | apply Kd.R_drewN | apply Kd.R_drew)); exact HO135.out⟩, ⟨by repeat (first | (with_reducible first | exact HB.out | apply below_alloc | apply pw_below_drewN | apply below_drew1) | exact HB.out)⟩⟩
                          · rw [if_neg c17] at H
                            exact absurd H (by simp)
                        · rw [if_neg c16] at H
                          exact absurd H (by simp)
                      · replace c15 := Bool.eq_false_iff.mpr c15
                        subst c15
                        have H1 : (laws_FnWindowUntaken.l0 k2 a0 a1 l2 l3 x9_2 x10_2 l2 (l2.length : Int) (wrap64 (x33_2 + 1))) = some r := by rw [if_neg (show ¬ (false = true) by decide)] at H; exact H
                        clear H
                        have H := H1
                        clear H1
                        have H' := Aside0.mk H
                        clear H
                        have p128 : 0 ≤ (x33_2 : Int) := of_decide_eq_true (by first | (with_reducible assumption) | assumption)
                        have q128 : x33_2 < (l2.length : Int) := of_decide_eq_true (by first | (with_reducible assumption) | assumption)
                        obtain ⟨ad128, e128, hx128_0⟩ := Kd.at_int HR2.out x33_2 p128 q128
                        cases e128
                        replace hx128_0 := (HB.out.cell (World.block_lt_of_cell? w _ hx128_0)).trans hx128_0
                        replace p128 := eq_true p128
                        replace q128 := eq_true q128
                        have p129 : 0 ≤ (x33_2 : Int) := of_decide_eq_true (by first | (with_reducible assumption) | assumption)
                        have q129 : x33_2 < (l3.length : Int) := of_decide_eq_true (by first | (with_reducible assumption) | assumption)
                        obtain ⟨ad129, e129, hx129_0⟩ := Kd.at_bool HR3.out x33_2 p129 q129
                        (try rw [← Nbq14.out] at hx129_0)
                        cases e129
                        replace hx129_0 := (HB.out.cell (World.block_lt_of_cell? w _ hx129_0)).trans hx129_0
                        replace p129 := eq_true p129
                        replace q129 := eq_true q129
                        go_wp2
                        repeat (go_quiet (fail); try go_wp2)
                        go_roundg k2
                        case measure => have := HJ4.out; have := HK2.out; omega
                        case rel => exact ⟨(x9_2), (x10_2), (wrap64 (x33_2 + 1)), (by first | rfl | (simp; done) | (simp [*]; done)), H', ⟨by have := HJ4.out; have := HK2.out; omega⟩, ⟨by (with_reducible repeat (first | apply Kd.R_alloc | apply Kd.R_drewN | apply Kd.R_drew)); exact HO_9.out⟩, ⟨by (with_reducible repeat (first | apply Kd.R_alloc | apply Kd.R_drewN | apply Kd.R_drew)); exact HO_10.out⟩, ⟨by repeat (first | (with_reducible first | exact HB.out | apply below_alloc | apply pw_below_drewN | apply below_drew1) | exact HB.out)⟩⟩
                    · rw [if_neg c13] at H
                      exact absurd H (by simp)
                  · rw [if_neg c12] at H
                    exact absurd H (by simp)
                · rw [if_neg c11] at H
                  exact absurd H (by simp)
              · rw [if_neg c10] at H
                have c10b0 : decide (x33_2 < (l2.length : Int)) = false := decide_eq_false c10
                clear c10
                replace H := Option.bind_eq_some_iff.mp H
                obtain ⟨t136, A200, H⟩ := H
                replace H : ((impl_Replay.f a0 a1 x9_2 x10_2).bind fun t139 => (if (t136.length : Int) = (l2.length : Int) then (laws_FnWindowUntaken.j2 k2 l3 t136 t139 ((t139.length : Int) != (x9_2.length : Int))) else (laws_FnWindowUntaken.j2 k2 l3 t136 t139 true))) = some r := H
                have A20 := Aside0.mk A200
                clear A200
                replace H := Option.bind_eq_some_iff.mp H
                obtain ⟨t139, A210, H⟩ := H
                replace H : (if (t136.length : Int) = (l2.length : Int) then (laws_FnWindowUntaken.j2 k2 l3 t136 t139 ((t139.length : Int) != (x9_2.length : Int))) else (laws_FnWindowUntaken.j2 k2 l3 t136 t139 true)) = some r := H
                have A21 := Aside0.mk A210
                clear A210
                have HC22 := Aside0.mk H
                clear H
                go_upto_region 14 with (first | (go_at_call 13; (with_reducible refine (impl_Replay.calls a0 a1 _ _ l2 _ _ l3 t136 _ ?side1 ?side2 ?side3 ?side4 A20.out).mono ?_); (case side1 => repeat (first | exact (Kd.C_below HR2.out HB.out) | (with_reducible refine Kd.C_alloc ?_ _) | (with_reducible refine Kd.C_drewN ?_ _) | (with_reducible refine Kd.C_drew ?_))); (case side2 => exact HC2.out); (case side3 => repeat (first | exact (Kd.C_below HR3.out HB.out) | (with_reducible refine Kd.C_alloc ?_ _) | (with_reducible refine Kd.C_drewN ?_ _) | (with_reducible refine Kd.C_drew ?_))); (case side4 => exact HC3.out); rintro e w23 ⟨v137, rfl, ho0, hb⟩; have n0_ := Aside0.mk (Kd.R_below (by (with_reducible repeat (first | apply Kd.R_alloc | apply Kd.R_drewN | apply Kd.R_drew)); exact HO_9.out) hb); have n1_ := Aside0.mk (Kd.R_elder' (by (with_reducible repeat (first | apply Kd.R_alloc | apply Kd.R_drewN | apply Kd.R_drew)); exact HO_10.out) (Kd.R_base ho0) hb); have n2_ := Aside0.mk (Kd.R_lower (Kd.R_new' ho0 (Kd.R_lt (by (with_reducible repeat (first | apply Kd.R_alloc | apply Kd.R_drewN | apply Kd.R_drew)); exact HO_10.out))) (below_size (by repeat (first | (with_reducible first | exact HB.out | apply below_alloc | apply pw_below_drewN | apply below_drew1) | exact HB.out)))); have n3_ := Aside0.mk (below_step (by repeat (first | (with_reducible first | exact HB.out | apply below_alloc | apply pw_below_drewN | apply below_drew1) | exact HB.out)) hb); clear HO_9; clear HO_10; clear HB; have HO_9 := n0_; have HO_10 := n1_; have HO138 := n2_; have HB := n3_; clear n0_ n1_ n2_ n3_; (try clear hb); (try clear hb2); (try clear hk); (try clear hi); (try clear ho0); obtain ⟨Ao24, co24, eo24⟩ := Kd.R_slice HO_9.out; subst eo24; obtain ⟨Ao25, co25, eo25⟩ := Kd.R_slice HO_10.out; subst eo25) | (go_at_call 13; (with_reducible refine (impl_Replay.calls a0 a1 _ _ x9_2 _ _ x10_2 t139 _ ?side1 ?side2 ?side3 ?side4 A21.out).mono ?_); (case side1 => repeat (first | exact (Kd.R_reads' HO_9.out).2.2 | (with_reducible refine Kd.C_alloc ?_ _) | (with_reducible refine Kd.C_drewN ?_ _) | (with_reducible refine Kd.C_drew ?_))); (case side2 => exact (Kd.R_reads' HO_9.out).2.1); (case side3 => repeat (first | exact (Kd.R_reads' HO_10.out).2.2 | (with_reducible refine Kd.C_alloc ?_ _) | (with_reducible refine Kd.C_drewN ?_ _) | (with_reducible refine Kd.C_drew ?_))); (case side4 => exact (Kd.R_reads' HO_10.out).2.1); rintro e w26 ⟨v140, rfl, ho0, hb⟩; have n0_ := Aside0.mk (Kd.R_below (by (with_reducible repeat (first | apply Kd.R_alloc | apply Kd.R_drewN | apply Kd.R_drew)); exact HO_9.out) hb); have n1_ := Aside0.mk (Kd.R_elder' (by (with_reducible repeat (first | apply Kd.R_alloc | apply Kd.R_drewN | apply Kd.R_drew)); exact HO_10.out) (Kd.R_base ho0) hb); have n2_ := Aside0.mk (Kd.R_elder' (by (with_reducible repeat (first | apply Kd.R_alloc | apply Kd.R_drewN | apply Kd.R_drew)); exact HO138.out) (Kd.R_base ho0) hb); have n3_ := Aside0.mk (Kd.R_lower (Kd.R_new' (Kd.R_new' ho0 (Kd.R_lt (by (with_reducible repeat (first | apply Kd.R_alloc | apply Kd.R_drewN | apply Kd.R_drew)); exact HO_10.out))) (Kd.R_lt (by (with_reducible repeat (first | apply Kd.R_alloc | apply Kd.R_drewN | apply Kd.R_drew)); exact HO138.out))) (below_size (by repeat (first | (with_reducible first | exact HB.out | apply below_alloc | apply pw_below_drewN | apply below_drew1) | exact HB.out)))); have n4_ := Aside0.mk (below_step (by repeat (first | (with_reducible first | exact HB.out | apply below_alloc | apply pw_below_drewN | apply below_drew1) | exact HB.out)) hb); clear HO_9; clear HO_10; clear HO138; clear HB; have HO_9 := n0_; have HO_10 := n1_; have HO138 := n2_; have HO141 := n3_; have HB := n4_; clear n0_ n1_ n2_ n3_ n4_; (try clear hb); (try clear hb2); (try clear hk); (try clear hi); (try clear ho0)))
                repeat (go_quiet (first | (go_at_call 13; (with_reducible refine (impl_Replay.calls a0 a1 _ _ l2 _ _ l3 t136 _ ?side1 ?side2 ?side3 ?side4 A20.out).mono ?_); (case side1 => repeat (first | exact (Kd.C_below HR2.out HB.out) | (with_reducible refine Kd.C_alloc ?_ _) | (with_reducible refine Kd.C_drewN ?_ _) | (with_reducible refine Kd.C_drew ?_))); (case side2 => exact HC2.out); (case side3 => repeat (first | exact (Kd.C_below HR3.out HB.out) | (with_reducible refine Kd.C_alloc ?_ _) | (with_reducible refine Kd.C_drewN ?_ _) | (with_reducible refine Kd.C_drew ?_))); (case side4 => exact HC3.out); rintro e w23 ⟨v137, rfl, ho0, hb⟩; have n0_ := Aside0.mk (Kd.R_below (by (with_reducible repeat (first | apply Kd.R_alloc | apply Kd.R_drewN | apply Kd.R_drew)); exact HO_9.out) hb); have n1_ := Aside0.mk (Kd.R_elder' (by (with_reducible repeat (first | apply Kd.R_alloc | apply Kd.R_drewN | apply Kd.R_drew)); exact HO_10.out) (Kd.R_base ho0) hb); have n2_ := Aside0.mk (Kd.R_lower (Kd.R_new' ho0 (Kd.R_lt (by (with_reducible repeat (first | apply Kd.R_alloc | apply Kd.R_drewN | apply Kd.R_drew)); exact HO_10.out))) (below_size (by repeat (first | (with_reducible first | exact HB.out | apply below_alloc | apply pw_below_drewN | apply below_drew1) | exact HB.out)))); have n3_ := Aside0.mk (below_step (by repeat (first | (with_reducible first | exact HB.out | apply below_alloc | apply pw_below_drewN | apply below_drew1) | exact HB.out)) hb); clear HO_9; clear HO_10; clear HB; have HO_9 := n0_; have HO_10 := n1_; have HO138 := n2_; have HB := n3_; clear n0_ n1_ n2_ n3_; (try clear hb); (try clear hb2); (try clear hk); (try clear hi); (try clear ho0); obtain ⟨Ao24, co24, eo24⟩ := Kd.R_slice HO_9.out; subst eo24; obtain ⟨Ao25, co25, eo25⟩ := Kd.R_slice HO_10.out; subst eo25) | (go_at_call 13; (with_reducible refine (impl_Replay.calls a0 a1 _ _ x9_2 _ _ x10_2 t139 _ ?side1 ?side2 ?side3 ?side4 A21.out).mono ?_); (case side1 => repeat (first | exact (Kd.R_reads' HO_9.out).2.2 | (with_reducible refine Kd.C_alloc ?_ _) | (with_reducible refine Kd.C_drewN ?_ _) | (with_reducible refine Kd.C_drew ?_))); (case side2 => exact (Kd.R_reads' HO_9.out).2.1); (case side3 => repeat (first | exact (Kd.R_reads' HO_10.out).2.2 | (with_reducible refine Kd.C_alloc ?_ _) | (with_reducible refine Kd.C_drewN ?_ _) | (with_reducible refine Kd.C_drew ?_))); (case side4 => exact (Kd.R_reads' HO_10.out).2.1); rintro e w26 ⟨v140, rfl, ho0, hb⟩; have n0_ := Aside0.mk (Kd.R_below (by (with_reducible repeat (first | apply Kd.R_alloc | apply Kd.R_drewN | apply Kd.R_drew)); exact HO_9.out) hb); have n1_ := Aside0.mk (Kd.R_elder' (by (with_reducible repeat (first | apply Kd.R_alloc | apply Kd.R_drewN | apply Kd.R_drew)); exact HO_10.out) (Kd.R_base ho0) hb); have n2_ := Aside0.mk (Kd.R_elder' (by (with_reducible repeat (first | apply Kd.R_alloc | apply Kd.R_drewN | apply Kd.R_drew)); exact HO138.out) (Kd.R_base ho0) hb); have n3_ := Aside0.mk (Kd.R_lower (Kd.R_new' (Kd.R_new' ho0 (Kd.R_lt (by (with_reducible repeat (first | apply Kd.R_alloc | apply Kd.R_drewN | apply Kd.R_drew)); exact HO_10.out))) (Kd.R_lt (by (with_reducible repeat (first | apply Kd.R_alloc | apply Kd.R_drewN | apply Kd.R_drew)); exact HO138.out))) (below_size (by repeat (first | (with_reducible first | exact HB.out | apply below_alloc | apply pw_below_drewN | apply below_drew1) | exact HB.out)))); have n4_ := Aside0.mk (below_step (by repeat (first | (with_reducible first | exact HB.out | apply below_alloc | apply pw_below_drewN | apply below_drew1) | exact HB.out)) hb); clear HO_9; clear HO_10; clear HO138; clear HB; have HO_9 := n0_; have HO_10 := n1_; have HO138 := n2_; have HO141 := n3_; have HB := n4_; clear n0_ n1_ n2_ n3_ n4_; (try clear hb); (try clear hb2); (try clear hk); (try clear hi); (try clear ho0))); go_upto_region 14 with (first | (go_at_call 13; (with_reducible refine (impl_Replay.calls a0 a1 _ _ l2 _ _ l3 t136 _ ?side1 ?side2 ?side3 ?side4 A20.out).mono ?_); (case side1 => repeat (first | exact (Kd.C_below HR2.out HB.out) | (with_reducible refine Kd.C_alloc ?_ _) | (with_reducible refine Kd.C_drewN ?_ _) | (with_reducible refine Kd.C_drew ?_))); (case side2 => exact HC2.out); (case side3 => repeat (first | exact (Kd.C_below HR3.out HB.out) | (with_reducible refine Kd.C_alloc ?_ _) | (with_reducible refine Kd.C_drewN ?_ _) | (with_reducible refine Kd.C_drew ?_))); (case side4 => exact HC3.out); rintro e w23 ⟨v137, rfl, ho0, hb⟩; have n0_ := Aside0.mk (Kd.R_below (by (with_reducible repeat (first | apply Kd.R_alloc | apply Kd.R_drewN | apply Kd.R_drew)); exact HO_9.out) hb); have n1_ := Aside0.mk (Kd.R_elder' (by (with_reducible repeat (first | apply Kd.R_alloc | apply Kd.R_drewN | apply Kd.R_drew)); exact HO_10.out) (Kd.R_base ho0) hb); have n2_ := Aside0.mk (Kd.R_lower (Kd.R_new' ho0 (Kd.R_lt (by (with_reducible repeat (first | apply Kd.R_alloc | apply Kd.R_drewN | apply Kd.R_drew)); exact HO_10.out))) (below_size (by repeat (first | (with_reducible first | exact HB.out | apply below_alloc | apply pw_below_drewN | apply below_drew1) | exact HB.out)))); have n3_ := Aside0.mk (below_step (by repeat (first | (with_reducible first | exact HB.out | apply below_alloc | apply pw_below_drewN | apply below_drew1) | exact HB.out)) hb); clear HO_9; clear HO_10; clear HB; have HO_9 := n0_; have HO_10 := n1_; have HO138 := n2_; have HB := n3_; clear n0_ n1_ n2_ n3_; (try clear hb); (try clear hb2); (try clear hk); (try clear hi); (try clear ho0); obtain ⟨Ao24, co24, eo24⟩ := Kd.R_slice HO_9.out; subst eo24; obtain ⟨Ao25, co25, eo25⟩ := Kd.R_slice HO_10.out; subst eo25) | (go_at_call 13; (with_reducible refine (impl_Replay.calls a0 a1 _ _ x9_2 _ _ x10_2 t139 _ ?side1 ?side2 ?side3 ?side4 A21.out).mono ?_); (case side1 => repeat (first | exact (Kd.R_reads' HO_9.out).2.2 | (with_reducible refine Kd.C_alloc ?_ _) | (with_reducible refine Kd.C_drewN ?_ _) | (with_reducible refine Kd.C_drew ?_))); (case side2 => exact (Kd.R_reads' HO_9.out).2.1); (case side3 => repeat (first | exact (Kd.R_reads' HO_10.out).2.2 | (with_reducible refine Kd.C_alloc ?_ _) | (with_reducible refine Kd.C_drewN ?_ _) | (with_reducible refine Kd.C_drew ?_))); (case side4 => exact (Kd.R_reads' HO_10.out).2.1); rintro e w26 ⟨v140, rfl, ho0, hb⟩; have n0_ := Aside0.mk (Kd.R_below (by (with_reducible repeat (first | apply Kd.R_alloc | apply Kd.R_drewN | apply Kd.R_drew)); exact HO_9.out) hb); have n1_ := Aside0.mk (Kd.R_elder' (by (with_reducible repeat (first | apply Kd.R_alloc | apply Kd.R_drewN | apply Kd.R_drew)); exact HO_10.out) (Kd.R_base ho0) hb); have n2_ := Aside0.mk (Kd.R_elder' (by (with_reducible repeat (first | apply Kd.R_alloc | apply Kd.R_drewN | apply Kd.R_drew)); exact HO138.out) (Kd.R_base ho0) hb); have n3_ := Aside0.mk (Kd.R_lower (Kd.R_new' (Kd.R_new' ho0 (Kd.R_lt (by (with_reducible repeat (first | apply Kd.R_alloc | apply Kd.R_drewN | apply Kd.R_drew)); exact HO_10.out))) (Kd.R_lt (by (with_reducible repeat (first | apply Kd.R_alloc | apply Kd.R_drewN | apply Kd.R_drew)); exact HO138.out))) (below_size (by repeat (first | (with_reducible first | exact HB.out | apply below_alloc | apply pw_below_drewN | apply below_drew1) | exact HB.out)))); have n4_ := Aside0.mk (below_step (by repeat (first | (with_reducible first | exact HB.out | apply below_alloc | apply pw_below_drewN | apply below_drew1) | exact HB.out)) hb); clear HO_9; clear HO_10; clear HO138; clear HB; have HO_9 := n0_; have HO_10 := n1_; have HO138 := n2_; have HO141 := n3_; have HB := n4_; clear n0_ n1_ n2_ n3_ n4_; (try clear hb); (try clear hb2); (try clear hk); (try clear hi); (try clear ho0))))
                (try simp only [Act.put, List.setIfInBounds_toArray, List.set_cons_zero, List.set_cons_succ])
                go_cut [71] (fun v71 wc => ∃ (kq : Nat) (x71_21 : Bool), v71 = .bool x71_21 ∧ Aside0 (laws_FnWindowUntaken.j2 kq l3 t136 t139 x71_21 = some r) ∧ Aside0 (kq ≤ k2) ∧ Aside0 (Kd.R Kd.bool 4 wc w.heap.size (fun k_ => some k_ ≠ (v140 : Value).ownBlock) v137 t136) ∧ Aside0 (Kd.R Kd.bool 4 wc w.heap.size (fun k_ => some k_ ≠ (v137 : Value).ownBlock) v140 t139) ∧ Aside0 (Below w.heap.size w wc))
                case first =>
                  have H := HC22.out
                  clear HC22
                  by_cases c27 : (t136.length : Int) = (l2.length : Int)
                  · rw [if_pos c27] at H
                    have c27b0 : ((t136.length : Int) == (l2.length : Int)) = true := beq_iff_eq.mpr c27
                    have c27b1 : ((t136.length : Int) != (l2.length : Int)) = false := bne_eq_false_iff_eq.mpr c27
                    have c27b2 : (t136.length == l2.length) = true := by first | simpa using c27 | (simp at c27 ⊢; omega)
                    clear c27
                    (first | rw [c27b0] | (simp only [i64_w, i32_w]; rw [c27b0]) | skip)
                    have H' := Aside0.mk H
                    clear H
                    obtain ⟨Ao28, co28, eo28⟩ := Kd.R_slice HO138.out
                    subst eo28
                    obtain ⟨Ao29, co29, eo29⟩ := Kd.R_slice HO141.out
                    subst eo29
                    go_wp2
                    repeat (go_quiet (fail); try go_wp2)
                    go_meet
                    case rel => exact ⟨_, (((t139.length : Int) != (x9_2.length : Int))), (by first | rfl | (simp; done) | (simp [*]; done)), H', ⟨by have := HJ4.out; have := HK2.out; first | omega | exact Nat.le_refl _⟩, ⟨by (with_reducible repeat (first | apply Kd.R_alloc | apply Kd.R_drewN | apply Kd.R_drew)); exact Kd.R_mono HO138.out (fun _ hk => hk.2)⟩, ⟨by (with_reducible repeat (first | apply Kd.R_alloc | apply Kd.R_drewN | apply Kd.R_drew)); exact Kd.R_mono HO141.out (fun _ hk => hk.2)⟩, ⟨by repeat (first | (with_reducible first | exact HB.out | apply below_alloc | apply pw_below_drewN | apply below_drew1) | exact HB.out)⟩⟩
                  · rw [if_neg c27] at H
                    have c27b0 : ((t136.length : Int) == (l2.length : Int)) = false := beq_eq_false_iff_ne.mpr c27
                    have c27b1 : ((t136.length : Int) != (l2.length : Int)) = true := bne_iff_ne.mpr c27
                    have c27b2 : (t136.length == l2.length) = false := by first | simpa using c27 | (simp at c27 ⊢; omega)
                    (first | rw [c27b0] | (simp only [i64_w, i32_w]; rw [c27b0]) | skip)
                    have H' := Aside0.mk H
                    clear H
                    obtain ⟨Ao30, co30, eo30⟩ := Kd.R_slice HO138.out
                    subst eo30
                    go_wp2
                    repeat (go_quiet (fail); try go_wp2)
                    go_meet
                    case rel => exact ⟨_, (true), (by first | rfl | (simp; done) | (simp [*]; done)), H', ⟨by have := HJ4.out; have := HK2.out; first | omega | exact Nat.le_refl _⟩, ⟨by (with_reducible repeat (first | apply Kd.R_alloc | apply Kd.R_drewN | apply Kd.R_drew)); exact Kd.R_mono HO138.out (fun _ hk => hk.2)⟩, ⟨by (with_reducible repeat (first | apply Kd.R_alloc | apply Kd.R_drewN | apply Kd.R_drew)); exact Kd.R_mono HO141.out (fun _ hk => hk.2)⟩, ⟨by repeat (first | (with_reducible first | exact HB.out | apply below_alloc | apply pw_below_drewN | apply below_drew1) | exact HB.out)⟩⟩
                case rest =>
                  clear HC22
                  try clear c1
                  try clear p1
                  try clear q1
                  try clear hx1
                  try clear c2
                  try clear p2
                  try clear c3
                  try clear c6
                  try clear c6b0
                  try clear c6b1
                  try clear p6
                  try clear c7
                  try clear c9
                  try clear c10
                  try clear c10b0
                  try clear c11
                  try clear c11b0
                  try clear c12
                  try clear c12b0
                  try clear p12
                  try clear q12
                  try clear hx12
                  try clear c13
                  try clear c13b0
                  try clear q14
                  try clear c15
                  try clear c16
                  try clear c17
                  try clear c27
                  try clear c27b0
                  try clear c27b1
                  try clear c27b2
                  try clear hx128_0
                  try clear hx129_0
                  try clear p128
                  try clear p129
                  try clear p2
                  try clear q128
                  try clear q129
                  obtain ⟨kq, x71_21, rfl, HA, HJ21, HO_13, HO_14, HB⟩ := hcut
                  cases kq with
                  | zero => exact absurd HA.out (by simp [laws_FnWindowUntaken.j2])
                  | succ kj21 =>
                    have H := HA.out
                    clear HA
                    simp only [laws_FnWindowUntaken.j2] at H
                    by_cases c31 : x71_21 = true
                    · subst c31
                      have H1 : (some false) = some r := by rw [if_pos rfl] at H; exact H
                      clear H
                      have H := H1
                      clear H1
                      obtain rfl := Option.some.inj H
                      go_wp2
                      repeat (go_quiet (fail); try go_wp2)
                      go_ret
                      exact ⟨by first | rfl | (simp [errW_none, errW_some] <;> rfl) | (simp [*, errW_none, errW_some] <;> rfl), by repeat (first | (with_reducible first | exact HB.out | apply below_alloc | apply pw_below_drewN | apply below_drew1) | exact HB.out)⟩
                    · replace c31 := Bool.eq_false_iff.mpr c31
                      subst c31
                      have H1 : (laws_FnWindowUntaken.l1 kj21 l3 t136 t139 0 (t136.length : Int) 0) = some r := by rw [if_neg (show ¬ (false = true) by decide)] at H; exact H
                      clear H
                      have H := H1
                      clear H1
                      have H' := Aside0.mk H
                      clear H
                      obtain ⟨Ao32, co32, eo32⟩ := Kd.R_slice HO_13.out
                      subst eo32
                      go_wp2
                      repeat (go_quiet (fail); try go_wp2)
                      go_loopg [15, 74] kj21 (fun kq v15 v74 w' => ∃ (x15_4 : Int) (x74_4 : Int), v15 = .int .i64 x15_4 ∧ v74 = .int .i64 x74_4 ∧ Aside0 (laws_FnWindowUntaken.l1 kq l3 t136 t139 x15_4 (t136.length : Int) x74_4 = some r) ∧ Aside0 (kq ≤ kj21) ∧ Aside0 (Kd.R Kd.bool 4 w' w.heap.size (fun k_ => some k_ ≠ (v140 : Value).ownBlock) (.slice Ao32 t136.length co32) t136) ∧ Aside0 (Kd.R Kd.bool 4 w' w.heap.size (fun k_ => some k_ ≠ ((.slice Ao32 t136.length co32) : Value).ownBlock) v140 t139) ∧ Aside0 (Below w.heap.size w w'))
                      case atStart => exact ⟨(0), (0), (by first | rfl | (simp; done) | (simp [*]; done)), (by first | rfl | (simp; done) | (simp [*]; done)), H', ⟨Nat.le_refl _⟩, ⟨by (with_reducible repeat (first | apply Kd.R_alloc | apply Kd.R_drewN | apply Kd.R_drew)); exact HO_13.out⟩, ⟨by (with_reducible repeat (first | apply Kd.R_alloc | apply Kd.R_drewN | apply Kd.R_drew)); exact HO_14.out⟩, ⟨by repeat (first | (with_reducible first | exact HB.out | apply below_alloc | apply pw_below_drewN | apply below_drew1) | exact HB.out)⟩⟩
                      case round =>
                        clear H'
                        try clear c1
                        try clear p1
                        try clear q1
                        try clear hx1
                        try clear c2
                        try clear p2
                        try clear c3
                        try clear c6
                        try clear c6b0
                        try clear c6b1
                        try clear p6
                        try clear c7
                        try clear c9
                        try clear c10
                        try clear c10b0
                        try clear c11
                        try clear c11b0
                        try clear c12
                        try clear c12b0
                        try clear p12
                        try clear q12
                        try clear hx12
                        try clear c13
                        try clear c13b0
                        try clear q14
                        try clear c15
                        try clear c16
                        try clear c17
                        try clear c27
                        try clear c27b0
                        try clear c27b1
                        try clear c27b2
                        try clear c31
                        try clear hx128_0
                        try clear hx129_0
                        try clear p1
                        try clear p12
                        try clear p128
                        try clear p129
                        try clear p2
                        try clear p6
                        try clear q1
                        try clear q12
                        try clear q128
                        try clear q129
                        try clear q14
                        obtain ⟨x15_4, x74_4, rfl, rfl, HA, HK4, HO_13, HO_14, HB⟩ := hrel
                        cases gk with
                        | zero => exact absurd HA.out (by simp [laws_FnWindowUntaken.l1])
                        | succ k4 =>
                          have H := HA.out
                          clear HA
                          simp only [laws_FnWindowUntaken.l1] at H
                          by_cases c33 : x74_4 < (t136.length : Int)
                          · rw [if_pos c33] at H
                            have c33b0 : decide (x74_4 < (t136.length : Int)) = true := decide_eq_true c33
                            clear c33
                            by_cases c34 : 0 ≤ x74_4
                            · rw [if_pos c34] at H
                              have c34b0 : decide (0 ≤ x74_4) = true := decide_eq_true c34
                              clear c34
                              by_cases c35 : x74_4 < (l3.length : Int)
                              · rw [if_pos c35] at H
                                have c35b0 : decide (x74_4 < (l3.length : Int)) = true := decide_eq_true c35
                                clear c35
                                obtain ⟨bq36, hbq36⟩ : ∃ b_ : Bool, b_ = (rdOf false l3 x74_4) := ⟨_, rfl⟩
                                replace H : (if bq36 = true then (if x74_4 < (t136.length : Int) then (if 0 ≤ x15_4 then (if x15_4 < (t139.length : Int) then (if ((rdOf false t136 x74_4) != (rdOf false t139 x15_4)) = true then (some false) else (laws_FnWindowUntaken.l1 k4 l3 t136 t139 (wrap64 (x15_4 + 1)) (t136.length : Int) (wrap64 (x74_4 + 1)))) else (none)) else (none)) else (none)) else (laws_FnWindowUntaken.l1 k4 l3 t136 t139 x15_4 (t136.length : Int) (wrap64 (x74_4 + 1)))) = some r := by rw [← hbq36] at H; exact H
                                have Nbq36 := Aside0.mk hbq36
                                clear hbq36
                                by_cases c37 : bq36 = true
                                · subst c37
                                  have H1 : (if x74_4 < (t136.length : Int) then (if 0 ≤ x15_4 then (if x15_4 < (t139.length : Int) then (if ((rdOf false t136 x74_4) != (rdOf false t139 x15_4)) = true then (some false) else (laws_FnWindowUntaken.l1 k4 l3 t136 t139 (wrap64 (x15_4 + 1)) (t136.length : Int) (wrap64 (x74_4 + 1)))) else (none)) else (none)) else (none)) = some r := by rw [if_pos rfl] at H; exact H
                                  clear H
                                  have H := H1
                                  clear H1
                                  by_cases c38 : x74_4 < (t136.length : Int)
                                  · rw [if_pos c38] at H
                                    have c38b0 : decide (x74_4 < (t136.length : Int)) = true := decide_eq_true c38
                                    clear c38
                                    by_cases c39 : 0 ≤ x15_4
                                    · rw [if_pos c39] at H
                                      have c39b0 : decide (0 ≤ x15_4) = true := decide_eq_true c39
                                      clear c39
                                      by_cases c40 : x15_4 < (t139.length : Int)
                                      · rw [if_pos c40] at H
                                        have c40b0 : decide (x15_4 < (t139.length : Int)) = true := decide_eq_true c40
                                        clear c40
                                        by_cases c41 : ((rdOf false t136 x74_4) != (rdOf false t139 x15_4)) = true
                                        · rw [if_pos c41] at H
                                          have c41b0 : ((rdOf false t136 x74_4) != (rdOf false t139 x15_4)) = true := c41
                                          (try (have c41b1 : decide ((rdOf false t136 x74_4) = (rdOf false t139 x15_4)) = false := by simpa using c41))
                                          (try (have c41b2 : ((rdOf false t136 x74_4) == (rdOf false t139 x15_4)) = false := by simpa using c41))
                                          (try (have c41b3 : ¬ ((rdOf false t136 x74_4) = (rdOf false t139 x15_4)) := by simpa using c41))
                                          clear c41
                                          obtain rfl := Option.some.inj H
                                          have p142 : 0 ≤ (x74_4 : Int) := of_decide_eq_true (by first | (with_reducible assumption) | assumption)
                                          have q142 : x74_4 < (l3.length : Int) := of_decide_eq_true (by first | (with_reducible assumption) | assumption)
                                          obtain ⟨ad142, e142, hx142_0⟩ := Kd.at_bool HR3.out x74_4 p142 q142
                                          (try rw [← Nbq36.out] at hx142_0)
                                          cases e142
                                          replace hx142_0 := (HB.out.cell (World.block_lt_of_cell? w _ hx142_0)).trans hx142_0
                                          replace p142 := eq_true p142
                                          replace q142 := eq_true q142
                                          have p143 : 0 ≤ (x74_4 : Int) := of_decide_eq_true (by first | (with_reducible assumption) | assumption)
                                          have q143 : x74_4 < (t136.length : Int) := of_decide_eq_true (by first | (with_reducible assumption) | assumption)
                                          obtain ⟨ad143, e143, hx143_0⟩ := Kd.at_bool (Kd.R_reads' HO_13.out).2.2 x74_4 p143 q143
                                          (try rw [← Nbq36.out] at hx143_0)
                                          cases e143
                                          replace p143 := eq_true p143
                                          replace q143 := eq_true q143
                                          obtain ⟨Ao42, co42, eo42⟩ := Kd.R_slice HO_14.out
                                          subst eo42
                                          have p144 : 0 ≤ (x15_4 : Int) := of_decide_eq_true (by first | (with_reducible assumption) | assumption)
                                          have q144 : x15_4 < (t139.length : Int) := of_decide_eq_true (by first | (with_reducible assumption) | assumption)
                                          obtain ⟨ad144, e144, hx144_0⟩ := Kd.at_bool (Kd.R_reads' HO_14.out).2.2 x15_4 p144 q144
                                          (try rw [← Nbq36.out] at hx144_0)
                                          cases e144
                                          replace p144 := eq_true p144
                                          replace q144 := eq_true q144
                                          go_wp2
                                          repeat (go_quiet (fail); try go_wp2)
                                          go_ret
                                          exact ⟨by first | rfl | (simp [errW_none, errW_some] <;> rfl) | (simp [*, errW_none, errW_some] <;> rfl), by repeat (first | (with_reducible first | exact HB.out | apply below_alloc | apply pw_below_drewN | apply below_drew1) | exact HB.out)⟩
                                        · rw [if_neg c41] at H
                                          have c41b0 : ((rdOf false t136 x74_4) != (rdOf false t139 x15_4)) = false := by simpa using c41
                                          (try (have c41b1 : decide ((rdOf false t136 x74_4) = (rdOf false t139 x15_4)) = true := by simpa using c41))
                                          (try (have c41b2 : ((rdOf false t136 x74_4) == (rdOf false t139 x15_4)) = true := by simpa using c41))
                                          clear c41
                                          have H' := Aside0.mk H
                                          clear H
                                          have p142 : 0 ≤ (x74_4 : Int) := of_decide_eq_true (by first | (with_reducible assumption) | assumption)
                                          have q142 : x74_4 < (l3.length : Int) := of_decide_eq_true (by first | (with_reducible assumption) | assumption)
                                          obtain ⟨ad142, e142, hx142_0⟩ := Kd.at_bool HR3.out x74_4 p142 q142
                                          (try rw [← Nbq36.out] at hx142_0)
                                          cases e142
                                          replace hx142_0 := (HB.out.cell (World.block_lt_of_cell? w _ hx142_0)).trans hx142_0
                                          replace p142 := eq_true p142
                                          replace q142 := eq_true q142
                                          have p143 : 0 ≤ (x74_4 : Int) := of_decide_eq_true (by first | (with_reducible assumption) | assumption)
                                          have q143 : x74_4 < (t136.length : Int) := of_decide_eq_true (by first | (with_reducible assumption) | assumption)
                                          obtain ⟨ad143, e143, hx143_0⟩ := Kd.at_bool (Kd.R_reads' HO_13.out).2.2 x74_4 p143 q143
                                          (try rw [← Nbq36.out] at hx143_0)
                                          cases e143
                                          replace p143 := eq_true p143
                                          replace q143 := eq_true q143
                                          obtain ⟨Ao43, co43, eo43⟩ := Kd.R_slice HO_14.out
                                          subst eo43
                                          have p144 : 0 ≤ (x15_4 : Int) := of_decide_eq_true (by first | (with_reducible assumption) | assumption)
                                          have q144 : x15_4 < (t139.length : Int) := of_decide_eq_true (by first | (with_reducible assumption) | assumption)
                                          obtain ⟨ad144, e144, hx144_0⟩ := Kd.at_bool (Kd.R_reads' HO_14.out).2.2 x15_4 p144 q144
                                          (try rw [← Nbq36.out] at hx144_0)
                                          cases e144
                                          replace p144 := eq_true p144
                                          replace q144 := eq_true q144
                                          go_wp2
                                          repeat (go_quiet (fail); try go_wp2)
                                          go_roundg k4
                                          case measure => have := HJ4.out; have := HK2.out; have := HJ21.out; have := HK4.out; omega
                                          case rel => exact ⟨(wrap64 (x15_4 + 1)), (wrap64 (x74_4 + 1)), (by first | rfl | (simp; done) | (simp [*]; done)), (by first | rfl | (simp; done) | (simp [*]; done)), H', ⟨by have := HJ4.out; have := HK2.out; have := HJ21.out; have := HK4.out; omega⟩, ⟨by (with_reducible repeat (first | apply Kd.R_alloc | apply Kd.R_drewN | apply Kd.R_drew)); exact HO_13.out⟩, ⟨by (with_reducible repeat (first | apply Kd.R_alloc | apply Kd.R_drewN | apply Kd.R_drew)); exact HO_14.out⟩, ⟨by repeat (first | (with_reducible first | exact HB.out | apply below_alloc | apply pw_below_drewN | apply below_drew1) | exact HB.out)⟩⟩
                                      · rw [if_neg c40] at H
                                        exact absurd H (by simp)
                                    · rw [if_neg c39] at H
                                      exact absurd H (by simp)
                                  · rw [if_neg c38] at H
                                    exact absurd H (by simp)
                                · replace c37 := Bool.eq_false_iff.mpr c37
                                  subst c37
                                  have H1 : (laws_FnWindowUntaken.l1 k4 l3 t136 t139 x15_4 (t136.length : Int) (wrap64 (x74_4 + 1))) = some r := by rw [if_neg (show ¬ (false = true) by decide)] at H; exact H
                                  clear H
                                  have H := H1
                                  clear H1
                                  have H' := Aside0.mk H
                                  clear H
                                  have p142 : 0 ≤ (x74_4 : Int) := of_decide_eq_true (by first | (with_reducible assumption) | assumption)
                                  have q142 : x74_4 < (l3.length : Int) := of_decide_eq_true (by first | (with_reducible assumption) | assumption)
                                  obtain ⟨ad142, e142, hx142_0⟩ := Kd.at_bool HR3.out x74_4 p142 q142
                                  (try rw [← Nbq36.out] at hx142_0)
                                  cases e142
                                  replace hx142_0 := (HB.out.cell (World.block_lt_of_cell? w _ hx142_0)).trans hx142_0
                                  replace p142 := eq_true p142
                                  replace q142 := eq_true q142
                                  go_wp2
                                  repeat (go_quiet (fail); try go_wp2)
                                  go_roundg k4
                                  case measure => have := HJ4.out; have := HK2.out; have := HJ21.out; have := HK4.out; omega
                                  case rel => exact ⟨(x15_4), (wrap64 (x74_4 + 1)), (by first | rfl | (simp; done) | (simp [*]; done)), (by first | rfl | (simp; done) | (simp [*]; done)), H', ⟨by have := HJ4.out; have := HK2.out; have := HJ21.out; have := HK4.out; omega⟩, ⟨by (with_reducible repeat (first | apply Kd.R_alloc | apply Kd.R_drewN | apply Kd.R_drew)); exact HO_13.out⟩, ⟨by (with_reducible repeat (first | apply Kd.R_alloc | apply Kd.R_drewN | apply Kd.R_drew)); exact HO_14.out⟩, ⟨by repeat (first | (with_reducible first | exact HB.out | apply below_alloc | apply pw_below_drewN | apply below_drew1) | exact HB.out)⟩⟩
                              · rw [if_neg c35] at H
                                exact absurd H (by simp)
                            · rw [if_neg c34] at H
                              exact absurd H (by simp)
                          · rw [if_neg c33] at H
                            have c33b0 : decide (x74_4 < (t136.length : Int)) = false := decide_eq_false c33
                            clear c33
                            obtain rfl := Option.some.inj H
                            go_wp2
                            repeat (go_quiet (fail); try go_wp2)
                            go_ret
                            exact ⟨by first | rfl | (simp [errW_none, errW_some] <;> rfl) | (simp [*, errW_none, errW_some] <;> rfl), by repeat (first | (with_reducible first | exact HB.out | apply below_alloc | apply pw_below_drewN | apply below_drew1) | exact HB.out)⟩
        · replace c9 := Bool.eq_false_iff.mpr c9
          subst c9
          have H1 : (some true) = some r := by rw [if_neg (show ¬ (false = true) by decide)] at H; exact H
          clear H
          have H := H1
          clear H1
          obtain rfl := Option.some.inj H
          go_wp2_with (first | (go_at_call 14; (with_reducible refine (laws_windowed.calls a0 a1 _ _ l2 _ _ l3 false _ ?side1 ?side2 ?side3 ?side4 A8.out).mono ?_); (case side1 => repeat (first | exact (Kd.C_below HR2.out HB.out) | (with_reducible refine Kd.C_alloc ?_ _) | (with_reducible refine Kd.C_drewN ?_ _) | (with_reducible refine Kd.C_drew ?_))); (case side2 => exact HC2.out); (case side3 => repeat (first | exact (Kd.C_below HR3.out HB.out) | (with_reducible refine Kd.C_alloc ?_ _) | (with_reducible refine Kd.C_drewN ?_ _) | (with_reducible refine Kd.C_drew ?_))); (case side4 => exact HC3.out); rintro e w' ⟨rfl, ⟨nd, rfl⟩⟩; (try first | exact ⟨rfl, _, World.drewN_drewN _ _ _⟩ | exact ⟨rfl, _, Eq.trans (World.drewN_drewN _ _ _) (congrArg (World.drewN _) (Nat.add_assoc _ _ _))⟩)))
          repeat (go_quiet (first | (go_at_call 14; (with_reducible refine (laws_windowed.calls a0 a1 _ _ l2 _ _ l3 false _ ?side1 ?side2 ?side3 ?side4 A8.out).mono ?_); (case side1 => repeat (first | exact (Kd.C_below HR2.out HB.out) | (with_reducible refine Kd.C_alloc ?_ _) | (with_reducible refine Kd.C_drewN ?_ _) | (with_reducible refine Kd.C_drew ?_))); (case side2 => exact HC2.out); (case side3 => repeat (first | exact (Kd.C_below HR3.out HB.out) | (with_reducible refine Kd.C_alloc ?_ _) | (with_reducible refine Kd.C_drewN ?_ _) | (with_reducible refine Kd.C_drew ?_))); (case side4 => exact HC3.out); rintro e w' ⟨rfl, ⟨nd, rfl⟩⟩; (try first | exact ⟨rfl, _, World.drewN_drewN _ _ _⟩ | exact ⟨rfl, _, Eq.trans (World.drewN_drewN _ _ _) (congrArg (World.drewN _) (Nat.add_assoc _ _ _))⟩))); try go_wp2_with (first | (go_at_call 14; (with_reducible refine (laws_windowed.calls a0 a1 _ _ l2 _ _ l3 false _ ?side1 ?side2 ?side3 ?side4 A8.out).mono ?_); (case side1 => repeat (first | exact (Kd.C_below HR2.out HB.out) | (with_reducible refine Kd.C_alloc ?_ _) | (with_reducible refine Kd.C_drewN ?_ _) | (with_reducible refine Kd.C_drew ?_))); (case side2 => exact HC2.out); (case side3 => repeat (first | exact (Kd.C_below HR3.out HB.out) | (with_reducible refine Kd.C_alloc ?_ _) | (with_reducible refine Kd.C_drewN ?_ _) | (with_reducible refine Kd.C_drew ?_))); (case side4 => exact HC3.out); rintro e w' ⟨rfl, ⟨nd, rfl⟩⟩; (try first | exact ⟨rfl, _, World.drewN_drewN _ _ _⟩ | exact ⟨rfl, _, Eq.trans (World.drewN_drewN _ _ _) (congrArg (World.drewN _) (Nat.add_assoc _ _ _))⟩))))
          go_ret
          exact ⟨by first | rfl | (simp [errW_none, errW_some] <;> rfl) | (simp [*, errW_none, errW_some] <;> rfl), by repeat (first | (with_reducible first | exact HB.out | apply below_alloc | apply pw_below_drewN | apply below_drew1) | exact HB.out)⟩

end Go.Proofs.Ytaifkiafoebgcaa.V
