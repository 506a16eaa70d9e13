-- Written by a program of this session (wip/tools/gprint.py) over the kit's print: functions as Lean functions, and their contracts. Not trusted: Lean checks it.
import Derived.Test.YtaifkiafoebgcaaV0
import Derived.Test.YtaifkiafoebgcaaReplay
namespace Go.Proofs.Ytaifkiafoebgcaa.V
open Go.RowKit Go.Proofs.YtaifkiafoebgcaaW.PrintWords Go.Proofs.YtaifkiafoebgcaaW.PrintLast Go.Proofs.YtaifkiafoebgcaaW.PrintMore
attribute [local go_sem] max2_int min2_int max_two min_two max_three min_three max_four min_four   -- for this text's walks alone
set_option linter.unusedVariables false
set_option linter.unusedSimpArgs false

/-! ### impl_Replay: function 13: given by hand -/
/-! ### laws_FnWindowRising: function 5 -/
mutual
def laws_FnWindowRising.j0 : Nat → Int → Int → List Int → Bool → Option (Bool)
  | 0, _, _, _, _ => none
  | k + 1, x0, x1, x2, x42 => if x42 = true then (some true) else (laws_FnWindowRising.l0 k x0 x1 ([] : List Int) ([] : List Bool) 0 x2 (x2.length : Int) 0)
def laws_FnWindowRising.l0 : Nat → Int → Int → List Int → List Bool → Int → List Int → Int → Int → Option (Bool)
  | 0, _, _, _, _, _, _, _, _ => none
  | k + 1, x0, x1, x7, x8, x9, x43, x44, x45 => if x45 < x44 then (if 0 ≤ x45 then (if x45 < (x43.length : Int) then (if x7.length < 17592186044416 then (if x8.length < 140737488355328 then (laws_FnWindowRising.l0 k x0 x1 (x7 ++ [IntKind.u64.wrap (x9 + (IntKind.u64.wrap (1 + (Int.tmod (rd x43 x45) 1099511627776))))]) (x8 ++ [true]) (IntKind.u64.wrap (x9 + (IntKind.u64.wrap (1 + (Int.tmod (rd x43 x45) 1099511627776))))) x43 x44 (wrap64 (x45 + 1))) else (none)) else (none)) else (none)) else (none)) else ((impl_Replay.f x0 x1 x7 x8).bind fun t108 => (if (t108.length : Int) = (x7.length : Int) then (laws_FnWindowRising.l1 k x1 x7 t108 (t108.length : Int) 0) else (some false)))
def laws_FnWindowRising.l1 : Nat → Int → List Int → List Bool → Int → Int → Option (Bool)
  | 0, _, _, _, _, _ => none
  | k + 1, x1, x7, x12, x73, x74 => if x74 < x73 then (if 0 ≤ x74 then (if x74 < (x12.length : Int) then (if x74 < (x7.length : Int) then (if ((rdOf false x12 x74) != (decide ((rd x7 x74) ≤ x1))) = true then (some false) else (laws_FnWindowRising.l1 k x1 x7 x12 x73 (wrap64 (x74 + 1)))) else (none)) else (none)) else (none)) else (some true)
end
def laws_FnWindowRising.f (k : Nat) (a0 : Int) (a1 : Int) (l2 : List Int) : Option (Bool) := if (l2.length : Int) > 2147483647 then (some true) else (if a0 < 1 then (laws_FnWindowRising.j0 k a0 a1 l2 true) else (if a0 > 500 then (laws_FnWindowRising.j0 k a0 a1 l2 true) else (if (Int.tmod a0 64) > 32 then (laws_FnWindowRising.j0 k a0 a1 l2 true) else (if a1 < (IntKind.u64.wrap (a0)) then (laws_FnWindowRising.j0 k a0 a1 l2 true) else (if a1 ≥ 281474976710656 then (laws_FnWindowRising.j0 k a0 a1 l2 true) else (laws_FnWindowRising.j0 k a0 a1 l2 (decide ((l2.length : Int) > 300))))))))
theorem laws_FnWindowRising.mono_l : ∀ k, (∀ y0 y1 y2 y3, LeO (laws_FnWindowRising.j0 k y0 y1 y2 y3) (laws_FnWindowRising.j0 (k + 1) y0 y1 y2 y3)) ∧ (∀ y0 y1 y2 y3 y4 y5 y6 y7, LeO (laws_FnWindowRising.l0 k y0 y1 y2 y3 y4 y5 y6 y7) (laws_FnWindowRising.l0 (k + 1) y0 y1 y2 y3 y4 y5 y6 y7)) ∧ (∀ y0 y1 y2 y3 y4, LeO (laws_FnWindowRising.l1 k y0 y1 y2 y3 y4) (laws_FnWindowRising.l1 (k + 1) y0 y1 y2 y3 y4))
  | 0 => ⟨fun _ _ _ _ r h => by simp [laws_FnWindowRising.j0] at h, fun _ _ _ _ _ _ _ _ r h => by simp [laws_FnWindowRising.l0] at h, fun _ _ _ _ _ r h => by simp [laws_FnWindowRising.l1] at h⟩
  | k + 1 => by
    obtain ⟨ih0, ih1, ih2⟩ := laws_FnWindowRising.mono_l k
    refine ⟨?_, ?_, ?_⟩
    · intro y0 y1 y2 y3
      unfold laws_FnWindowRising.j0
      repeat' first
      | (with_reducible exact ih0 _ _ _ _)
      | (with_reducible exact ih1 _ _ _ _ _ _ _ _)
      | (with_reducible exact ih2 _ _ _ _ _)
      | (with_reducible exact LeO.refl _)
      | (with_reducible exact LeO.none _)
      | (with_reducible refine LeO.ite ?_ ?_)
      | (with_reducible refine LeO.bind ?_ (fun _ => ?_))
      | exact ih0 _ _ _ _
      | exact ih1 _ _ _ _ _ _ _ _
      | exact ih2 _ _ _ _ _
      | exact LeO.none _
      | refine LeO.ite ?_ ?_
      | refine LeO.bind ?_ (fun _ => ?_)
    · intro y0 y1 y2 y3 y4 y5 y6 y7
      unfold laws_FnWindowRising.l0
      repeat' first
      | (with_reducible exact ih0 _ _ _ _)
      | (with_reducible exact ih1 _ _ _ _ _ _ _ _)
      | (with_reducible exact ih2 _ _ _ _ _)
      | (with_reducible exact LeO.refl _)
      | (with_reducible exact LeO.none _)
      | (with_reducible refine LeO.ite ?_ ?_)
      | (with_reducible refine LeO.bind ?_ (fun _ => ?_))
      | exact ih0 _ _ _ _
      | exact ih1 _ _ _ _ _ _ _ _
      | exact ih2 _ _ _ _ _
      | exact LeO.none _
      | refine LeO.ite ?_ ?_
      | refine LeO.bind ?_ (fun _ => ?_)
    · intro y0 y1 y2 y3 y4
      unfold laws_FnWindowRising.l1
      repeat' first
      | (with_reducible exact ih0 _ _ _ _)
      | (with_reducible exact ih1 _ _ _ _ _ _ _ _)
      | (with_reducible exact ih2 _ _ _ _ _)
      | (with_reducible exact LeO.refl _)
      | (with_reducible exact LeO.none _)
      | (with_reducible refine LeO.ite ?_ ?_)
      | (with_reducible refine LeO.bind ?_ (fun _ => ?_))
      | exact ih0 _ _ _ _
      | exact ih1 _ _ _ _ _ _ _ _
      | exact ih2 _ _ _ _ _
      | exact LeO.none _
      | refine LeO.ite ?_ ?_
      | refine LeO.bind ?_ (fun _ => ?_)
theorem laws_FnWindowRising.mono : ∀ a0 a1 a2 k, LeO (laws_FnWindowRising.f k a0 a1 a2) (laws_FnWindowRising.f (k + 1) a0 a1 a2) := by
  intro a0 a1 a2 k
  obtain ⟨ih0, ih1, ih2⟩ := laws_FnWindowRising.mono_l k
  unfold laws_FnWindowRising.f
  repeat' first
      | (with_reducible exact ih0 _ _ _ _)
      | (with_reducible exact ih1 _ _ _ _ _ _ _ _)
      | (with_reducible exact ih2 _ _ _ _ _)
      | (with_reducible exact LeO.refl _)
      | (with_reducible exact LeO.none _)
      | (with_reducible refine LeO.ite ?_ ?_)
      | (with_reducible refine LeO.bind ?_ (fun _ => ?_))
      | exact ih0 _ _ _ _
      | exact ih1 _ _ _ _ _ _ _ _
      | exact ih2 _ _ _ _ _
      | exact LeO.none _
      | refine LeO.ite ?_ ?_
      | refine LeO.bind ?_ (fun _ => ?_)
set_option maxHeartbeats 8000000 in
set_option maxRecDepth 100000 in
theorem laws_FnWindowRising.calls (k : Nat) (a0 : Int) (a1 : Int) (A2 : Option Addr) (c2 : Nat) (l2 : List Int) (r : Bool) (w : World) (hr2 : Kd.C (Kd.int .u64) w A2 l2.length l2) (hc2 : l2.length ≤ c2) (h : laws_FnWindowRising.f k a0 a1 l2 = some r) :
    Calls Try.prog 5 #[.int .i64 a0, .int .u64 a1, .slice A2 l2.length c2] w fun e w' => e = .returned (.bool r) ∧ Below w.heap.size w w' := by
  have HR2 := Aside0.mk hr2
  have HC2 := Aside0.mk hc2
  clear hr2 hc2
  have HB := Aside0.mk (Below.refl w.heap.size w)
  have H : (if (l2.length : Int) > 2147483647 then (some true) else (if a0 < 1 then (laws_FnWindowRising.j0 k a0 a1 l2 true) else (if a0 > 500 then (laws_FnWindowRising.j0 k a0 a1 l2 true) else (if (Int.tmod a0 64) > 32 then (laws_FnWindowRising.j0 k a0 a1 l2 true) else (if a1 < (IntKind.u64.wrap (a0)) then (laws_FnWindowRising.j0 k a0 a1 l2 true) else (if a1 ≥ 281474976710656 then (laws_FnWindowRising.j0 k a0 a1 l2 true) else (laws_FnWindowRising.j0 k a0 a1 l2 (decide ((l2.length : Int) > 300))))))))) = some r := h
  clear h
  by_cases c4 : (l2.length : Int) > 2147483647
  · rw [if_pos c4] at H
    have c4b0 : decide (2147483647 < (l2.length : Int)) = true := decide_eq_true c4
    have c4b1 : decide (2147483647 < l2.length) = true := decide_eq_true (by omega)
    clear c4
    obtain rfl := Option.some.inj H
    go_enter Try.func5, Try.ntmps5
    go_wp2
    repeat (go_quiet (fail); try go_wp2)
    go_ret
    exact ⟨by first | rfl | (simp [errW_none, errW_some] <;> rfl) | (simp [*, errW_none, errW_some] <;> rfl), by repeat (first | (with_reducible first | exact HB.out | apply below_alloc | apply pw_below_drewN | apply below_drew1) | exact HB.out)⟩
  · rw [if_neg c4] at H
    have c4b0 : decide (2147483647 < (l2.length : Int)) = false := decide_eq_false c4
    have c4b1 : decide (2147483647 < l2.length) = false := decide_eq_false (by omega)
    clear c4
    have HC5 := Aside0.mk H
    clear H
    go_enter Try.func5, Try.ntmps5
    go_upto_region 3 with (fail)
    repeat (go_quiet (fail); go_upto_region 3 with (fail))
    go_cut [42] (fun v42 wc => ∃ (kq : Nat) (x42_4 : Bool), v42 = .bool x42_4 ∧ Aside0 (laws_FnWindowRising.j0 kq a0 a1 l2 x42_4 = some r) ∧ Aside0 (kq ≤ k) ∧ Aside0 (Below w.heap.size w wc))
    case first =>
      have H := HC5.out
      clear HC5
      by_cases c6 : a0 < 1
      · rw [if_pos c6] at H
        have c6b0 : decide (a0 < 1) = true := decide_eq_true c6
        clear c6
        (first | rw [c6b0] | (simp only [i64_w, i32_w]; rw [c6b0]) | skip)
        have H' := Aside0.mk H
        clear H
        go_wp2
        repeat (go_quiet (fail); try go_wp2)
        go_meet
        case rel => exact ⟨_, (true), (by first | rfl | (simp; done) | (simp [*]; done)), H', ⟨by first | omega | exact Nat.le_refl _⟩, ⟨by repeat (first | (with_reducible first | exact HB.out | apply below_alloc | apply pw_below_drewN | apply below_drew1) | exact HB.out)⟩⟩
      · rw [if_neg c6] at H
        have c6b0 : decide (a0 < 1) = false := decide_eq_false c6
        clear c6
        (first | rw [c6b0] | (simp only [i64_w, i32_w]; rw [c6b0]) | skip)
        by_cases c7 : a0 > 500
        · rw [if_pos c7] at H
          have c7b0 : decide (500 < a0) = true := decide_eq_true c7
          clear c7
          have H' := Aside0.mk H
          clear H
          go_wp2
          repeat (go_quiet (fail); try go_wp2)
          go_meet
          case rel => exact ⟨_, (true), (by first | rfl | (simp; done) | (simp [*]; done)), H', ⟨by first | omega | exact Nat.le_refl _⟩, ⟨by repeat (first | (with_reducible first | exact HB.out | apply below_alloc | apply pw_below_drewN | apply below_drew1) | exact HB.out)⟩⟩
        · rw [if_neg c7] at H
          have c7b0 : decide (500 < a0) = false := decide_eq_false c7
          clear c7
          by_cases c8 : (Int.tmod a0 64) > 32
          · rw [if_pos c8] at H
            have c8b0 : decide (32 < (Int.tmod a0 64)) = true := decide_eq_true c8
            clear c8
            have H' := Aside0.mk H
            clear H
            go_wp2
            repeat (go_quiet (fail); try go_wp2)
            go_meet
            case rel => exact ⟨_, (true), (by first | rfl | (simp; done) | (simp [*]; done)), H', ⟨by first | omega | exact Nat.le_refl _⟩, ⟨by repeat (first | (with_reducible first | exact HB.out | apply below_alloc | apply pw_below_drewN | apply below_drew1) | exact HB.out)⟩⟩
          · rw [if_neg c8] at H
            have c8b0 : decide (32 < (Int.tmod a0 64)) = false := decide_eq_false c8
            clear c8
            by_cases c9 : a1 < (IntKind.u64.wrap (a0))
            · rw [if_pos c9] at H
              have c9b0 : decide (a1 < (IntKind.u64.wrap (a0))) = true := decide_eq_true c9
              clear c9
              have H' := Aside0.mk H
              clear H
              go_wp2
              repeat (go_quiet (fail); try go_wp2)
              go_meet
              case rel => exact ⟨_, (true), (by first | rfl | (simp; done) | (simp [*]; done)), H', ⟨by first | omega | exact Nat.le_refl _⟩, ⟨by repeat (first | (with_reducible first | exact HB.out | apply below_alloc | apply pw_below_drewN | apply below_drew1) | exact HB.out)⟩⟩
            · rw [if_neg c9] at H
              have c9b0 : decide (a1 < (IntKind.u64.wrap (a0))) = false := decide_eq_false c9
              clear c9
              by_cases c10 : a1 ≥ 281474976710656
              · rw [if_pos c10] at H
                have c10b0 : decide (281474976710656 ≤ a1) = true := decide_eq_true c10
                clear c10
                have H' := Aside0.mk H
                clear H
                go_wp2
                repeat (go_quiet (fail); try go_wp2)
                go_meet
                case rel => exact ⟨_, (true), (by first | rfl | (simp; done) | (simp [*]; done)), H', ⟨by first | omega | exact Nat.le_refl _⟩, ⟨by repeat (first | (with_reducible first | exact HB.out | apply below_alloc | apply pw_below_drewN | apply below_drew1) | exact HB.out)⟩⟩
              · rw [if_neg c10] at H
                have c10b0 : decide (281474976710656 ≤ a1) = false := decide_eq_false c10
                clear c10
                have H' := Aside0.mk H
                clear H
                go_wp2
                repeat (go_quiet (fail); try go_wp2)
                go_meet
                case rel => exact ⟨_, (decide ((l2.length : Int) > 300)), (by first | rfl | (simp; done) | (simp [*]; done)), H', ⟨by first | omega | exact Nat.le_refl _⟩, ⟨by repeat (first | (with_reducible first | exact HB.out | apply below_alloc | apply pw_below_drewN | apply below_drew1) | exact HB.out)⟩⟩
    case rest =>
      clear HC5
      try clear c1
      try clear c2
      try clear p2
      try clear c4
      try clear c4b0
      try clear c4b1
      try clear c5
      try clear c6
      try clear c6b0
      try clear c7
      try clear c7b0
      try clear c8
      try clear c8b0
      try clear c9
      try clear c9b0
      try clear c10
      try clear c10b0
      obtain ⟨kq, x42_4, rfl, HA, HJ4, HB⟩ := hcut
      cases kq with
      | zero => exact absurd HA.out (by simp [laws_FnWindowRising.j0])
      | succ kj4 =>
        have H := HA.out
        clear HA
        simp only [laws_FnWindowRising.j0] at H
        by_cases c11 : x42_4 = true
        · subst c11
          have H1 : (some true) = some r := by rw [if_pos rfl] at H; exact H
          clear H
          have H := H1
          clear H1
          obtain rfl := Option.some.inj H
          go_wp2
          repeat (go_quiet (fail); try go_wp2)
          go_ret
          exact ⟨by first | rfl | (simp [errW_none, errW_some] <;> rfl) | (simp [*, errW_none, errW_some] <;> rfl), by repeat (first | (with_reducible first | exact HB.out | apply below_alloc | apply pw_below_drewN | apply below_drew1) | exact HB.out)⟩
        · replace c11 := Bool.eq_false_iff.mpr c11
          subst c11
          have H1 : (laws_FnWindowRising.l0 kj4 a0 a1 ([] : List Int) ([] : List Bool) 0 l2 (l2.length : Int) 0) = some r := by rw [if_neg (show ¬ (false = true) by decide)] at H; exact H
          clear H
          have H := H1
          clear H1
          have H' := Aside0.mk H
          clear H
          go_wp2
          repeat (go_quiet (fail); try go_wp2)
          go_loopg [7, 8, 9, 45] kj4 (fun kq v7 v8 v9 v45 w' => ∃ (x7_2 : List Int) (x8_2 : List Bool) (x9_2 : Int) (x45_2 : Int), v9 = .int .u64 x9_2 ∧ v45 = .int .i64 x45_2 ∧ Aside0 (laws_FnWindowRising.l0 kq a0 a1 x7_2 x8_2 x9_2 l2 (l2.length : Int) x45_2 = some r) ∧ Aside0 (kq ≤ kj4) ∧ Aside0 (Kd.R (Kd.int .u64) 27 w' w.heap.size (fun _ => True) v7 x7_2) ∧ Aside0 (Kd.R Kd.bool 4 w' w.heap.size (fun _ => True) v8 x8_2) ∧ Aside0 (Below w.heap.size w w'))
          case atStart => exact ⟨(([] : List Int)), (([] : List Bool)), (0), (0), (by first | rfl | (simp; done) | (simp [*]; done)), (by first | rfl | (simp; done) | (simp [*]; done)), H', ⟨Nat.le_refl _⟩, ⟨by first | exact Kd.R_nil _ _ _ _ _ | exact Kd.N_nil _ _ _ _ _ | exact Kd.V_nil _ _ _ _ _ | exact Kd.Q_nil _ _ _ _ _ | exact Kd.S_nil _ _ _ _ _⟩, ⟨by first | exact Kd.R_nil _ _ _ _ _ | exact Kd.N_nil _ _ _ _ _ | exact Kd.V_nil _ _ _ _ _ | exact Kd.Q_nil _ _ _ _ _ | exact Kd.S_nil _ _ _ _ _⟩, ⟨by repeat (first | (with_reducible first | exact HB.out | apply below_alloc | apply pw_below_drewN | apply below_drew1) | exact HB.out)⟩⟩
          case round =>
            clear H'
            try clear c1
            try clear c2
            try clear p2
            try clear c4
            try clear c4b0
            try clear c4b1
            try clear c5
            try clear c6
            try clear c6b0
            try clear c7
            try clear c7b0
            try clear c8
            try clear c8b0
            try clear c9
            try clear c9b0
            try clear c10
            try clear c10b0
            try clear c11
            try clear p2
            obtain ⟨x7_2, x8_2, x9_2, x45_2, rfl, rfl, HA, HK2, HO_7, HO_8, HB⟩ := hrel
            cases gk with
            | zero => exact absurd HA.out (by simp [laws_FnWindowRising.l0])
            | succ k2 =>
              have H := HA.out
              clear HA
              simp only [laws_FnWindowRising.l0] at H
              by_cases c12 : x45_2 < (l2.length : Int)
              · rw [if_pos c12] at H
                have c12b0 : decide (x45_2 < (l2.length : Int)) = true := decide_eq_true c12
                clear c12
                by_cases c13 : 0 ≤ x45_2
                · rw [if_pos c13] at H
                  have c13b0 : decide (0 ≤ x45_2) = true := decide_eq_true c13
                  clear c13
                  by_cases c14 : x45_2 < (l2.length : Int)
                  · rw [if_pos c14] at H
                    have c14b0 : decide (x45_2 < (l2.length : Int)) = true := decide_eq_true c14
                    clear c14
                    by_cases c15 : x7_2.length < 17592186044416
                    · rw [if_pos c15] at H
                      have LMc15 := Aside0.mk c15
                      clear c15
                      obtain ⟨y102, hy102⟩ : ∃ y_ : List Int, y_ = (x7_2 ++ [IntKind.u64.wrap (x9_2 + (IntKind.u64.wrap (1 + (Int.tmod (rd l2 x45_2) 1099511627776))))]) := ⟨_, rfl⟩
                      replace H : (if x8_2.length < 140737488355328 then (laws_FnWindowRising.l0 k2 a0 a1 y102 (x8_2 ++ [true]) (IntKind.u64.wrap (x9_2 + (IntKind.u64.wrap (1 + (Int.tmod (rd l2 x45_2) 1099511627776))))) l2 (l2.length : Int) (wrap64 (x45_2 + 1))) else (none)) = some r := by first | (rw [hy102]; with_reducible exact H) | (have H2_ := (Option.bind_some _ _).symm.trans H; rw [hy102]; with_reducible exact H2_) | (have H2_ := (Option.bind_some _ _).symm.trans H; with_reducible exact H2_) | with_reducible exact H | (rw [hy102]; exact H) | exact H
                      have Ny102 := Aside0.mk hy102
                      clear hy102
                      by_cases c16 : x8_2.length < 140737488355328
                      · rw [if_pos c16] at H
                        have LMc16 := Aside0.mk c16
                        clear c16
                        obtain ⟨y105, hy105⟩ : ∃ y_ : List Bool, y_ = (x8_2 ++ [true]) := ⟨_, rfl⟩
                        replace H : (laws_FnWindowRising.l0 k2 a0 a1 y102 y105 (IntKind.u64.wrap (x9_2 + (IntKind.u64.wrap (1 + (Int.tmod (rd l2 x45_2) 1099511627776))))) l2 (l2.length : Int) (wrap64 (x45_2 + 1))) = some r := by first | (rw [hy105]; with_reducible exact H) | (have H2_ := (Option.bind_some _ _).symm.trans H; rw [hy105]; with_reducible exact H2_) | (have H2_ := (Option.bind_some _ _).symm.trans H; with_reducible exact H2_) | with_reducible exact H | (rw [hy105]; exact H) | exact H
                        have Ny105 := Aside0.mk hy105
                        clear hy105
                        have H' := Aside0.mk H
                        clear H
                        have p101 : 0 ≤ (x45_2 : Int) := of_decide_eq_true (by first | (with_reducible assumption) | assumption)
                        have q101 : x45_2 < (l2.length : Int) := of_decide_eq_true (by first | (with_reducible assumption) | assumption)
                        obtain ⟨ad101, e101, hx101_0⟩ := Kd.at_int HR2.out x45_2 p101 q101
                        cases e101
                        replace hx101_0 := (HB.out.cell (World.block_lt_of_cell? w _ hx101_0)).trans hx101_0
                        replace p101 := eq_true p101
                        replace q101 := eq_true q101
                        go_wp2_with (first | ((with_reducible refine gate_builtin (b := .append) (xs := #[.tmp 54, .tmp 56]) rfl ?_); (try (refine gate_guard (by rfl) ?_; dsimp only)); at_builtin; refine Kd.R_append (Kd.int .u64) (w0 := w) w.heap.size rfl (.tmp 54) (.tmp 56) 28 27 (.int .u64 0) 8 rfl Try.underlying28 info27 rfl (by decide) (by omega) u7 x7_2 (IntKind.u64.wrap (x9_2 + (IntKind.u64.wrap (1 + (Int.tmod (rd l2 x45_2) 1099511627776))))) [.int .u64 (IntKind.u64.wrap (x9_2 + (IntKind.u64.wrap (1 + (Int.tmod (rd l2 x45_2) 1099511627776)))))] (fun _ => True) (fun _ => False) rfl rfl ?aP (fun _ hk => hk.elim) ?aF ?aO ?aB ?aS ?aL ?_; (case aP => exact rfl); (case aB => exact (by repeat (first | (with_reducible first | exact HB.out | apply below_alloc | apply pw_below_drewN | apply below_drew1) | exact HB.out))); (case aF => exact (fun _ _ => trivial)); (case aO => exact (by (with_reducible repeat (first | apply Kd.R_alloc | apply Kd.R_drewN | apply Kd.R_drew)); exact HO_7.out)); (case aS => exact (below_size (by repeat (first | (with_reducible first | exact HB.out | apply below_alloc | apply pw_below_drewN | apply below_drew1) | exact HB.out)))); (case aL => have := LMc15.out; omega); intro v103 w17 ho hb hg hat; rw [← Ny102.out] at ho; have n0_ := Aside0.mk (Kd.R_over' (by (with_reducible repeat (first | apply Kd.R_alloc | apply Kd.R_drewN | apply Kd.R_drew)); exact HO_8.out) (Kd.R_typed (by (with_reducible repeat (first | apply Kd.R_alloc | apply Kd.R_drewN | apply Kd.R_drew)); exact HO_7.out)) (by decide) hg); have n1_ := Aside0.mk (hb); have n2_ := Aside0.mk (ho); clear HO_8; clear HB; clear HO_7; have HO_8 := n0_; have HB := n1_; have HO104 := n2_; clear n0_ n1_ n2_; clear ho hb hg hat) | ((with_reducible refine gate_builtin (b := .append) (xs := #[.tmp 58, .tmp 59]) rfl ?_); (try (refine gate_guard (by rfl) ?_; dsimp only)); at_builtin; refine Kd.R_append Kd.bool (w0 := w) w.heap.size rfl (.tmp 58) (.tmp 59) 29 4 (.bool false) 1 rfl Try.underlying29 info4 rfl (by decide) (by omega) u8 x8_2 true [.bool true] (fun _ => True) (fun _ => False) rfl rfl ?aP (fun _ hk => hk.elim) ?aF ?aO ?aB ?aS ?aL ?_; (case aP => exact rfl); (case aB => exact (by repeat (first | (with_reducible first | exact HB.out | apply below_alloc | apply pw_below_drewN | apply below_drew1) | exact HB.out))); (case aF => exact (fun _ _ => trivial)); (case aO => exact (by (with_reducible repeat (first | apply Kd.R_alloc | apply Kd.R_drewN | apply Kd.R_drew)); exact HO_8.out)); (case aS => exact (below_size (by repeat (first | (with_reducible first | exact HB.out | apply below_alloc | apply pw_below_drewN | apply below_drew1) | exact HB.out)))); (case aL => have := LMc16.out; omega); intro v106 w18 ho hb hg hat; rw [← Ny105.out] at ho; have n0_ := Aside0.mk (Kd.R_over' (by (with_reducible repeat (first | apply Kd.R_alloc | apply Kd.R_drewN | apply Kd.R_drew)); exact HO104.out) (Kd.R_typed (by (with_reducible repeat (first | apply Kd.R_alloc | apply Kd.R_drewN | apply Kd.R_drew)); exact HO_8.out)) (by decide) hg); have n1_ := Aside0.mk (hb); have n2_ := Aside0.mk (ho); clear HO104; clear HB; clear HO_8; have HO104 := n0_; have HB := n1_; have HO107 := n2_; clear n0_ n1_ n2_; clear ho hb hg hat))
                        repeat (go_quiet (first | ((with_reducible refine gate_builtin (b := .append) (xs := #[.tmp 54, .tmp 56]) rfl ?_); (try (refine gate_guard (by rfl) ?_; dsimp only)); at_builtin; refine Kd.R_append (Kd.int .u64) (w0 := w) w.heap.size rfl (.tmp 54) (.tmp 56) 28 27 (.int .u64 0) 8 rfl Try.underlying28 info27 rfl (by decide) (by omega) u7 x7_2 (IntKind.u64.wrap (x9_2 + (IntKind.u64.wrap (1 + (Int.tmod (rd l2 x45_2) 1099511627776))))) [.int .u64 (IntKind.u64.wrap (x9_2 + (IntKind.u64.wrap (1 + (Int.tmod (rd l2 x45_2) 1099511627776)))))] (fun _ => True) (fun _ => False) rfl rfl ?aP (fun _ hk => hk.elim) ?aF ?aO ?aB ?aS ?aL ?_; (case aP => exact rfl); (case aB => exact (by repeat (first | (with_reducible first | exact HB.out | apply below_alloc | apply pw_below_drewN | apply below_drew1) | exact HB.out))); (case aF => exact (fun _ _ => trivial)); (case aO => exact (by (with_reducible repeat (first | apply Kd.R_alloc | apply Kd.R_drewN | apply Kd.R_drew)); exact HO_7.out)); (case aS => exact (below_size (by repeat (first | (with_reducible first | exact HB.out | apply below_alloc | apply pw_below_drewN | apply below_drew1) | exact HB.out)))); (case aL => have := LMc15.out; omega); intro v103 w17 ho hb hg hat; rw [← Ny102.out] at ho; have n0_ := Aside0.mk (Kd.R_over' (by (with_reducible repeat (first | apply Kd.R_alloc | apply Kd.R_drewN | apply Kd.R_drew)); exact HO_8.out) (Kd.R_typed (by (with_reducible repeat (first | apply Kd.R_alloc | apply Kd.R_drewN | apply Kd.R_drew)); exact HO_7.out)) (by decide) hg); have n1_ := Aside0.mk (hb); have n2_ := Aside0.mk (ho); clear HO_8; clear HB; clear HO_7; have HO_8 := n0_; have HB := n1_; have HO104 := n2_; clear n0_ n1_ n2_; clear ho hb hg hat) | ((with_reducible refine gate_builtin (b := .append) (xs := #[.tmp 58, .tmp 59]) rfl ?_); (try (refine gate_guard (by rfl) ?_; dsimp only)); at_builtin; refine Kd.R_append Kd.bool (w0 := w) w.heap.size rfl (.tmp 58) (.tmp 59) 29 4 (.bool false) 1 rfl Try.underlying29 info4 rfl (by decide) (by omega) u8 x8_2 true [.bool true] (fun _ => True) (fun _ => False) rfl rfl ?aP (fun _ hk => hk.elim) ?aF ?aO ?aB ?aS ?aL ?_; (case aP => exact rfl); (case aB => exact (by repeat (first | (with_reducible first | exact HB.out | apply below_alloc | apply pw_below_drewN | apply below_drew1) | exact HB.out))); (case aF => exact (fun _ _ => trivial)); (case aO => exact (by (with_reducible repeat (first | apply Kd.R_alloc | apply Kd.R_drewN | apply Kd.R_drew)); exact HO_8.out)); (case aS => exact (below_size (by repeat (first | (with_reducible first | exact HB.out | apply below_alloc | apply pw_below_drewN | apply below_drew1) | exact HB.out)))); (case aL => have := LMc16.out; omega); intro v106 w18 ho hb hg hat; rw [← Ny105.out] at ho; have n0_ := Aside0.mk (Kd.R_over' (by (with_reducible repeat (first | apply Kd.R_alloc | apply Kd.R_drewN | apply Kd.R_drew)); exact HO104.out) (Kd.R_typed (by (with_reducible repeat (first | apply Kd.R_alloc | apply Kd.R_drewN | apply Kd.R_drew)); exact HO_8.out)) (by decide) hg); have n1_ := Aside0.mk (hb); have n2_ := Aside0.mk (ho); clear HO104; clear HB; clear HO_8; have HO104 := n0_; have HB := n1_; have HO107 := n2_; clear n0_ n1_ n2_; clear ho hb hg hat)); try go_wp2_with (first | ((with_reducible refine gate_builtin (b := .append) (xs := #[.tmp 54, .tmp 56]) rfl ?_); (try (refine gate_guard (by rfl) ?_; dsimp only)); at_builtin; refine Kd.R_append (Kd.int .u64) (w0 := w) w.heap.size rfl (.tmp 54) (.tmp 56) 28 27 (.int .u64 0) 8 rfl Try.underlying28 info27 rfl (by decide) (by omega) u7 x7_2 (IntKind.u64.wrap (x9_2 + (IntKind.u64.wrap (1 + (Int.tmod (rd l2 x45_2) 1099511627776))))) [.int .u64 (IntKind.u64.wrap (x9_2 + (IntKind.u64.wrap (1 + (Int.tmod (rd l2 x45_2) 1099511627776)))))] (fun _ => True) (fun _ => False) rfl rfl ?aP (fun _ hk => hk.elim) ?aF ?aO ?aB ?aS ?aL ?_; (case aP => exact rfl); (case aB => exact (by repeat (first | (with_reducible first | exact HB.out | apply below_alloc | apply pw_below_drewN | apply below_drew1) | exact HB.out))); (case aF => exact (fun _ _ => trivial)); (case aO => exact (by (with_reducible repeat (first | apply Kd.R_alloc | apply Kd.R_drewN | apply Kd.R_drew)); exact HO_7.out)); (case aS => exact (below_size (by repeat (first | (with_reducible first | exact HB.out | apply below_alloc | apply pw_below_drewN | apply below_drew1) | exact HB.out)))); (case aL => have := LMc15.out; omega); intro v103 w17 ho hb hg hat; rw [← Ny102.out] at ho; have n0_ := Aside0.mk (Kd.R_over' (by (with_reducible repeat (first | apply Kd.R_alloc | apply Kd.R_drewN | apply Kd.R_drew)); exact HO_8.out) (Kd.R_typed (by (with_reducible repeat (first | apply Kd.R_alloc | apply Kd.R_drewN | apply Kd.R_drew)); exact HO_7.out)) (by decide) hg); have n1_ := Aside0.mk (hb); have n2_ := Aside0.mk (ho); clear HO_8; clear HB; clear HO_7; have HO_8 := n0_; have HB := n1_; have HO104 := n2_; clear n0_ n1_ n2_; clear ho hb hg hat) | ((with_reducible refine gate_builtin (b := .append) (xs := #[.tmp 58, .tmp 59]) rfl ?_); (try (refine gate_guard (by rfl) ?_; dsimp only)); at_builtin; refine Kd.R_append Kd.bool (w0 := w) w.heap.size rfl (.tmp 58) (.tmp 59) 29 4 (.bool false) 1 rfl Try.underlying29 info4 rfl (by decide) (by omega) u8 x8_2 true [.bool true] (fun _ => True) (fun _ => False) rfl rfl ?aP (fun _ hk => hk.elim) ?aF ?aO ?aB ?aS ?aL ?_; (case aP => exact rfl); (case aB => exact (by repeat (first | (with_reducible first | exact HB.out | apply below_alloc | apply pw_below_drewN | apply below_drew1) | exact HB.out))); (case aF => exact (fun _ _ => trivial)); (case aO => exact (by (with_reducible repeat (first | apply Kd.R_alloc | apply Kd.R_drewN | apply Kd.R_drew)); exact HO_8.out)); (case aS => exact (below_size (by repeat (first | (with_reducible first | exact HB.out | apply below_alloc | apply pw_below_drewN | apply below_drew1) | exact HB.out)))); (case aL => have := LMc16.out; omega); intro v106 w18 ho hb hg hat; rw [← Ny105.out] at ho; have n0_ := Aside0.mk (Kd.R_over' (by (with_reducible repeat (first | apply Kd.R_alloc | apply Kd.R_drewN | apply Kd.R_drew)); exact HO104.out) (Kd.R_typed (by (with_reducible repeat (first | apply Kd.R_alloc | apply Kd.R_drewN | apply Kd.R_drew)); exact HO_8.out)) (by decide) hg); have n1_ := Aside0.mk (hb); have n2_ := Aside0.mk (ho); clear HO104; clear HB; clear HO_8; have HO104 := n0_; have HB := n1_; have HO107 := n2_; clear n0_ n1_ n2_; clear ho hb hg hat)))
                        go_roundg k2
                        case measure => have := HJ4.out; have := HK2.out; omega
                        case rel => exact ⟨(y102), (y105), (IntKind.u64.wrap (x9_2 + (IntKind.u64.wrap (1 + (Int.tmod (rd l2 x45_2) 1099511627776))))), (wrap64 (x45_2 + 1)), (by first | rfl | (simp; done) | (simp [*]; done)), (by first | rfl | (simp; done) | (simp [*]; done)), H', ⟨by have := HJ4.out; have := HK2.out; omega⟩, ⟨by (with_reducible repeat (first | apply Kd.R_alloc | apply Kd.R_drewN | apply Kd.R_drew)); exact HO104.out⟩, ⟨by (with_reducible repeat (first | apply Kd.R_alloc | apply Kd.R_drewN | apply Kd.R_drew)); exact HO107.out⟩, ⟨by repeat (first | (with_reducible first | exact HB.out | apply below_alloc | apply pw_below_drewN | apply below_drew1) | exact HB.out)⟩⟩
                      · rw [if_neg c16] at H
                        exact absurd H (by simp)
                    · rw [if_neg c15] at H
                      exact absurd H (by simp)
                  · rw [if_neg c14] at H
                    exact absurd H (by simp)
                · rw [if_neg c13] at H
                  exact absurd H (by simp)
              · rw [if_neg c12] at H
                have c12b0 : decide (x45_2 < (l2.length : Int)) = false := decide_eq_false c12
                clear c12
                replace H := Option.bind_eq_some_iff.mp H
                obtain ⟨t108, A190, H⟩ := H
                replace H : (if (t108.length : Int) = (x7_2.length : Int) then (laws_FnWindowRising.l1 k2 a1 x7_2 t108 (t108.length : Int) 0) else (some false)) = some r := H
                have A19 := Aside0.mk A190
                clear A190
                by_cases c20 : (t108.length : Int) = (x7_2.length : Int)
                · rw [if_pos c20] at H
                  have c20b0 : ((t108.length : Int) == (x7_2.length : Int)) = true := beq_iff_eq.mpr c20
                  have c20b1 : ((t108.length : Int) != (x7_2.length : Int)) = false := bne_eq_false_iff_eq.mpr c20
                  have c20b2 : (t108.length == x7_2.length) = true := by first | simpa using c20 | (simp at c20 ⊢; omega)
                  clear c20
                  have H' := Aside0.mk H
                  clear H
                  obtain ⟨Ao21, co21, eo21⟩ := Kd.R_slice HO_7.out
                  subst eo21
                  obtain ⟨Ao22, co22, eo22⟩ := Kd.R_slice HO_8.out
                  subst eo22
                  go_wp2_with (first | (go_at_call 13; (with_reducible refine (impl_Replay.calls a0 a1 _ _ x7_2 _ _ x8_2 t108 _ ?side1 ?side2 ?side3 ?side4 A19.out).mono ?_); (case side1 => repeat (first | exact (Kd.R_reads' HO_7.out).2.2 | (with_reducible refine Kd.C_alloc ?_ _) | (with_reducible refine Kd.C_drewN ?_ _) | (with_reducible refine Kd.C_drew ?_))); (case side2 => exact (Kd.R_reads' HO_7.out).2.1); (case side3 => repeat (first | exact (Kd.R_reads' HO_8.out).2.2 | (with_reducible refine Kd.C_alloc ?_ _) | (with_reducible refine Kd.C_drewN ?_ _) | (with_reducible refine Kd.C_drew ?_))); (case side4 => exact (Kd.R_reads' HO_8.out).2.1); rintro e w23 ⟨v109, rfl, ho0, hb⟩; have n0_ := Aside0.mk (Kd.R_below (by (with_reducible repeat (first | apply Kd.R_alloc | apply Kd.R_drewN | apply Kd.R_drew)); exact HO_7.out) hb); have n1_ := Aside0.mk (Kd.R_elder' (by (with_reducible repeat (first | apply Kd.R_alloc | apply Kd.R_drewN | apply Kd.R_drew)); exact HO_8.out) (Kd.R_base ho0) hb); have n2_ := Aside0.mk (Kd.R_lower (Kd.R_new' ho0 (Kd.R_lt (by (with_reducible repeat (first | apply Kd.R_alloc | apply Kd.R_drewN | apply Kd.R_drew)); exact HO_8.out))) (below_size (by repeat (first | (with_reducible first | exact HB.out | apply below_alloc | apply pw_below_drewN | apply below_drew1) | exact HB.out)))); have n3_ := Aside0.mk (below_step (by repeat (first | (with_reducible first | exact HB.out | apply below_alloc | apply pw_below_drewN | apply below_drew1) | exact HB.out)) hb); clear HO_7; clear HO_8; clear HB; have HO_7 := n0_; have HO_8 := n1_; have HO110 := n2_; have HB := n3_; clear n0_ n1_ n2_ n3_; (try clear hb); (try clear hb2); (try clear hk); (try clear hi); (try clear ho0); obtain ⟨Ao24, co24, eo24⟩ := Kd.R_slice HO110.out; subst eo24))
                  repeat (go_quiet (first | (go_at_call 13; (with_reducible refine (impl_Replay.calls a0 a1 _ _ x7_2 _ _ x8_2 t108 _ ?side1 ?side2 ?side3 ?side4 A19.out).mono ?_); (case side1 => repeat (first | exact (Kd.R_reads' HO_7.out).2.2 | (with_reducible refine Kd.C_alloc ?_ _) | (with_reducible refine Kd.C_drewN ?_ _) | (with_reducible refine Kd.C_drew ?_))); (case side2 => exact (Kd.R_reads' HO_7.out).2.1); (case side3 => repeat (first | exact (Kd.R_reads' HO_8.out).2.2 | (with_reducible refine Kd.C_alloc ?_ _) | (with_reducible refine Kd.C_drewN ?_ _) | (with_reducible refine Kd.C_drew ?_))); (case side4 => exact (Kd.R_reads' HO_8.out).2.1); rintro e w23 ⟨v109, rfl, ho0, hb⟩; have n0_ := Aside0.mk (Kd.R_below (by (with_reducible repeat (first | apply Kd.R_alloc | apply Kd.R_drewN | apply Kd.R_drew)); exact HO_7.out) hb); have n1_ := Aside0.mk (Kd.R_elder' (by (with_reducible repeat (first | apply Kd.R_alloc | apply Kd.R_drewN | apply Kd.R_drew)); exact HO_8.out) (Kd.R_base ho0) hb); have n2_ := Aside0.mk (Kd.R_lower (Kd.R_new' ho0 (Kd.R_lt (by (with_reducible repeat (first | apply Kd.R_alloc | apply Kd.R_drewN | apply Kd.R_drew)); exact HO_8.out))) (below_size (by repeat (first | (with_reducible first | exact HB.out | apply below_alloc | apply pw_below_drewN | apply below_drew1) | exact HB.out)))); have n3_ := Aside0.mk (below_step (by repeat (first | (with_reducible first | exact HB.out | apply below_alloc | apply pw_below_drewN | apply below_drew1) | exact HB.out)) hb); clear HO_7; clear HO_8; clear HB; have HO_7 := n0_; have HO_8 := n1_; have HO110 := n2_; have HB := n3_; clear n0_ n1_ n2_ n3_; (try clear hb); (try clear hb2); (try clear hk); (try clear hi); (try clear ho0); obtain ⟨Ao24, co24, eo24⟩ := Kd.R_slice HO110.out; subst eo24)); try go_wp2_with (first | (go_at_call 13; (with_reducible refine (impl_Replay.calls a0 a1 _ _ x7_2 _ _ x8_2 t108 _ ?side1 ?side2 ?side3 ?side4 A19.out).mono ?_); (case side1 => repeat (first | exact (Kd.R_reads' HO_7.out).2.2 | (with_reducible refine Kd.C_alloc ?_ _) | (with_reducible refine Kd.C_drewN ?_ _) | (with_reducible refine Kd.C_drew ?_))); (case side2 => exact (Kd.R_reads' HO_7.out).2.1); (case side3 => repeat (first | exact (Kd.R_reads' HO_8.out).2.2 | (with_reducible refine Kd.C_alloc ?_ _) | (with_reducible refine Kd.C_drewN ?_ _) | (with_reducible refine Kd.C_drew ?_))); (case side4 => exact (Kd.R_reads' HO_8.out).2.1); rintro e w23 ⟨v109, rfl, ho0, hb⟩; have n0_ := Aside0.mk (Kd.R_below (by (with_reducible repeat (first | apply Kd.R_alloc | apply Kd.R_drewN | apply Kd.R_drew)); exact HO_7.out) hb); have n1_ := Aside0.mk (Kd.R_elder' (by (with_reducible repeat (first | apply Kd.R_alloc | apply Kd.R_drewN | apply Kd.R_drew)); exact HO_8.out) (Kd.R_base ho0) hb); have n2_ := Aside0.mk (Kd.R_lower (Kd.R_new' ho0 (Kd.R_lt (by (with_reducible repeat (first | apply Kd.R_alloc | apply Kd.R_drewN | apply Kd.R_drew)); exact HO_8.out))) (below_size (by repeat (first | (with_reducible first | exact HB.out | apply below_alloc | apply pw_below_drewN | apply below_drew1) | exact HB.out)))); have n3_ := Aside0.mk (below_step (by repeat (first | (with_reducible first | exact HB.out | apply below_alloc | apply pw_below_drewN | apply below_drew1) | exact HB.out)) hb); clear HO_7; clear HO_8; clear HB; have HO_7 := n0_; have HO_8 := n1_; have HO110 := n2_; have HB := n3_; clear n0_ n1_ n2_ n3_; (try clear hb); (try clear hb2); (try clear hk); (try clear hi); (try clear ho0); obtain ⟨Ao24, co24, eo24⟩ := Kd.R_slice HO110.out; subst eo24)))
                  go_loopg [74] k2 (fun kq v74 w' => ∃ (x74_3 : Int), v74 = .int .i64 x74_3 ∧ Aside0 (laws_FnWindowRising.l1 kq a1 x7_2 t108 (t108.length : Int) x74_3 = some r) ∧ Aside0 (kq ≤ k2) ∧ Aside0 (Kd.R (Kd.int .u64) 27 w' w.heap.size (fun _ => True) (.slice Ao21 x7_2.length co21) x7_2) ∧ Aside0 (Kd.R Kd.bool 4 w' w.heap.size (fun _ => True) (.slice Ao24 t108.length co24) t108) ∧ Aside0 (Below w.heap.size w w'))
                  case atStart => exact ⟨(0), (by first | rfl | (simp; done) | (simp [*]; done)), H', ⟨Nat.le_refl _⟩, ⟨by (with_reducible repeat (first | apply Kd.R_alloc | apply Kd.R_drewN | apply Kd.R_drew)); exact HO_7.out⟩, ⟨by (with_reducible repeat (first | apply Kd.R_alloc | apply Kd.R_drewN | apply Kd.R_drew)); exact Kd.R_mono HO110.out (fun _ hk => trivial)⟩, ⟨by repeat (first | (with_reducible first | exact HB.out | apply below_alloc | apply pw_below_drewN | apply below_drew1) | exact HB.out)⟩⟩
                  case round =>
                    clear H'
                    try clear c1
                    try clear p1
                    try clear q1
                    try clear hx1
                    try clear c2
                    try clear p2
                    try clear c4
                    try clear c4b0
                    try clear c4b1
                    try clear c5
                    try clear c6
                    try clear c6b0
                    try clear p6
                    try clear c7
                    try clear c7b0
                    try clear c8
                    try clear c8b0
                    try clear c9
                    try clear c9b0
                    try clear c10
                    try clear c10b0
                    try clear p10
                    try clear q10
                    try clear hx10
                    try clear c11
                    try clear c12
                    try clear c12b0
                    try clear c13
                    try clear c13b0
                    try clear c14
                    try clear c14b0
                    try clear c15
                    try clear c16
                    try clear c20
                    try clear c20b0
                    try clear c20b1
                    try clear c20b2
                    try clear hx101_0
                    try clear p101
                    try clear p2
                    try clear q101
                    obtain ⟨x74_3, rfl, HA, HK3, HO_7, HO_12, HB⟩ := hrel
                    cases gk with
                    | zero => exact absurd HA.out (by simp [laws_FnWindowRising.l1])
                    | succ k3 =>
                      have H := HA.out
                      clear HA
                      simp only [laws_FnWindowRising.l1] at H
                      by_cases c25 : x74_3 < (t108.length : Int)
                      · rw [if_pos c25] at H
                        have c25b0 : decide (x74_3 < (t108.length : Int)) = true := decide_eq_true c25
                        clear c25
                        by_cases c26 : 0 ≤ x74_3
                        · rw [if_pos c26] at H
                          have c26b0 : decide (0 ≤ x74_3) = true := decide_eq_true c26
                          clear c26
                          by_cases c27 : x74_3 < (t108.length : Int)
                          · rw [if_pos c27] at H
                            have c27b0 : decide (x74_3 < (t108.length : Int)) = true := decide_eq_true c27
                            clear c27
                            by_cases c28 : x74_3 < (x7_2.length : Int)
                            · rw [if_pos c28] at H
                              have c28b0 : decide (x74_3 < (x7_2.length : Int)) = true := decide_eq_true c28
                              clear c28
                              by_cases c29 : ((rdOf false t108 x74_3) != (decide ((rd x7_2 x74_3) ≤ a1))) = true
                              · rw [if_pos c29] at H
                                have c29b0 : ((rdOf false t108 x74_3) != (decide ((rd x7_2 x74_3) ≤ a1))) = true := c29
                                (try (have c29b1 : decide ((rdOf false t108 x74_3) = (decide ((rd x7_2 x74_3) ≤ a1))) = false := by simpa using c29))
                                (try (have c29b2 : ((rdOf false t108 x74_3) == (decide ((rd x7_2 x74_3) ≤ a1))) = false := by simpa using c29))
                                (try (have c29b3 : ¬ ((rdOf false t108 x74_3) = (decide ((rd x7_2 x74_3) ≤ a1))) := by simpa using c29))
                                clear c29
                                obtain rfl := Option.some.inj H
                                have p111 : 0 ≤ (x74_3 : Int) := of_decide_eq_true (by first | (with_reducible assumption) | assumption)
                                have q111 : x74_3 < (t108.length : Int) := of_decide_eq_true (by first | (with_reducible assumption) | assumption)
                                obtain ⟨ad111, e111, hx111_0⟩ := Kd.at_bool (Kd.R_reads' HO_12.out).2.2 x74_3 p111 q111
                                cases e111
                                replace p111 := eq_true p111
                                replace q111 := eq_true q111
                                have p112 : 0 ≤ (x74_3 : Int) := of_decide_eq_true (by first | (with_reducible assumption) | assumption)
                                have q112 : x74_3 < (x7_2.length : Int) := of_decide_eq_true (by first | (with_reducible assumption) | assumption)
                                obtain ⟨ad112, e112, hx112_0⟩ := Kd.at_int (Kd.R_reads' HO_7.out).2.2 x74_3 p112 q112
                                cases e112
                                replace p112 := eq_true p112
                                replace q112 := eq_true q112
                                go_wp2
                                repeat (go_quiet (fail); try go_wp2)
                                go_ret
                                exact ⟨by first | rfl | (simp [errW_none, errW_some] <;> rfl) | (simp [*, errW_none, errW_some] <;> rfl), by repeat (first | (with_reducible first | exact HB.out | apply below_alloc | apply pw_below_drewN | apply below_drew1) | exact HB.out)⟩
                              · rw [if_neg c29] at H
                                have c29b0 : ((rdOf false t108 x74_3) != (decide ((rd x7_2 x74_3) ≤ a1))) = false := by simpa using c29
                                (try (have c29b1 : decide ((rdOf false t108 x74_3) = (decide ((rd x7_2 x74_3) ≤ a1))) = true := by simpa using c29))
                                (try (have c29b2 : ((rdOf false t108 x74_3) == (decide ((rd x7_2 x74_3) ≤ a1))) = true := by simpa using c29))
                                clear c29
                                have H' := Aside0.mk H
                                clear H
                                have p111 : 0 ≤ (x74_3 : Int) := of_decide_eq_true (by first | (with_reducible assumption) | assumption)
                                have q111 : x74_3 < (t108.length : Int) := of_decide_eq_true (by first | (with_reducible assumption) | assumption)
                                obtain ⟨ad111, e111, hx111_0⟩ := Kd.at_bool (Kd.R_reads' HO_12.out).2.2 x74_3 p111 q111
                                cases e111
                                replace p111 := eq_true p111
                                replace q111 := eq_true q111
                                have p112 : 0 ≤ (x74_3 : Int) := of_decide_eq_true (by first | (with_reducible assumption) | assumption)
                                have q112 : x74_3 < (x7_2.length : Int) := of_decide_eq_true (by first | (with_reducible assumption) | assumption)
                                obtain ⟨ad112, e112, hx112_0⟩ := Kd.at_int (Kd.R_reads' HO_7.out).2.2 x74_3 p112 q112
                                cases e112
                                replace p112 := eq_true p112
                                replace q112 := eq_true q112
                                go_wp2
                                repeat (go_quiet (fail); try go_wp2)
                                go_roundg k3
                                case measure => have := HJ4.out; have := HK2.out; have := HK3.out; omega
                                case rel => exact ⟨(wrap64 (x74_3 + 1)), (by first | rfl | (simp; done) | (simp [*]; done)), H', ⟨by have := HJ4.out; have := HK2.out; have := HK3.out; omega⟩, ⟨by (with_reducible repeat (first | apply Kd.R_alloc | apply Kd.R_drewN | apply Kd.R_drew)); exact HO_7.out⟩, ⟨by (with_reducible repeat (first | apply Kd.R_alloc | apply Kd.R_drewN | apply Kd.R_drew)); exact HO_12.out⟩, ⟨by repeat (first | (with_reducible first | exact HB.out | apply below_alloc | apply pw_below_drewN | apply below_drew1) | exact HB.out)⟩⟩
                            · rw [if_neg c28] at H
                              exact absurd H (by simp)
                          · rw [if_neg c27] at H
                            exact absurd H (by simp)
                        · rw [if_neg c26] at H
                          exact absurd H (by simp)
                      · rw [if_neg c25] at H
                        have c25b0 : decide (x74_3 < (t108.length : Int)) = false := decide_eq_false c25
                        clear c25
                        obtain rfl := Option.some.inj H
                        go_wp2
                        repeat (go_quiet (fail); try go_wp2)
                        go_ret
                        exact ⟨by first | rfl | (simp [errW_none, errW_some] <;> rfl) | (simp [*, errW_none, errW_some] <;> rfl), by repeat (first | (with_reducible first | exact HB.out | apply below_alloc | apply pw_below_drewN | apply below_drew1) | exact HB.out)⟩
                · rw [if_neg c20] at H
                  have c20b0 : ((t108.length : Int) == (x7_2.length : Int)) = false := beq_eq_false_iff_ne.mpr c20
                  have c20b1 : ((t108.length : Int) != (x7_2.length : Int)) = true := bne_iff_ne.mpr c20
                  have c20b2 : (t108.length == x7_2.length) = false := by first | simpa using c20 | (simp at c20 ⊢; omega)
                  obtain rfl := Option.some.inj H
                  obtain ⟨Ao30, co30, eo30⟩ := Kd.R_slice HO_7.out
                  subst eo30
                  obtain ⟨Ao31, co31, eo31⟩ := Kd.R_slice HO_8.out
                  subst eo31
                  go_wp2_with (first | (go_at_call 13; (with_reducible refine (impl_Replay.calls a0 a1 _ _ x7_2 _ _ x8_2 t108 _ ?side1 ?side2 ?side3 ?side4 A19.out).mono ?_); (case side1 => repeat (first | exact (Kd.R_reads' HO_7.out).2.2 | (with_reducible refine Kd.C_alloc ?_ _) | (with_reducible refine Kd.C_drewN ?_ _) | (with_reducible refine Kd.C_drew ?_))); (case side2 => exact (Kd.R_reads' HO_7.out).2.1); (case side3 => repeat (first | exact (Kd.R_reads' HO_8.out).2.2 | (with_reducible refine Kd.C_alloc ?_ _) | (with_reducible refine Kd.C_drewN ?_ _) | (with_reducible refine Kd.C_drew ?_))); (case side4 => exact (Kd.R_reads' HO_8.out).2.1); rintro e w32 ⟨v109, rfl, ho0, hb⟩; have n0_ := Aside0.mk (Kd.R_below (by (with_reducible repeat (first | apply Kd.R_alloc | apply Kd.R_drewN | apply Kd.R_drew)); exact HO_7.out) hb); have n1_ := Aside0.mk (Kd.R_elder' (by (with_reducible repeat (first | apply Kd.R_alloc | apply Kd.R_drewN | apply Kd.R_drew)); exact HO_8.out) (Kd.R_base ho0) hb); have n2_ := Aside0.mk (Kd.R_lower (Kd.R_new' ho0 (Kd.R_lt (by (with_reducible repeat (first | apply Kd.R_alloc | apply Kd.R_drewN | apply Kd.R_drew)); exact HO_8.out))) (below_size (by repeat (first | (with_reducible first | exact HB.out | apply below_alloc | apply pw_below_drewN | apply below_drew1) | exact HB.out)))); have n3_ := Aside0.mk (below_step (by repeat (first | (with_reducible first | exact HB.out | apply below_alloc | apply pw_below_drewN | apply below_drew1) | exact HB.out)) hb); clear HO_7; clear HO_8; clear HB; have HO_7 := n0_; have HO_8 := n1_; have HO110 := n2_; have HB := n3_; clear n0_ n1_ n2_ n3_; (try clear hb); (try clear hb2); (try clear hk); (try clear hi); (try clear ho0); obtain ⟨Ao33, co33, eo33⟩ := Kd.R_slice HO110.out; subst eo33))
                  repeat (go_quiet (first | (go_at_call 13; (with_reducible refine (impl_Replay.calls a0 a1 _ _ x7_2 _ _ x8_2 t108 _ ?side1 ?side2 ?side3 ?side4 A19.out).mono ?_); (case side1 => repeat (first | exact (Kd.R_reads' HO_7.out).2.2 | (with_reducible refine Kd.C_alloc ?_ _) | (with_reducible refine Kd.C_drewN ?_ _) | (with_reducible refine Kd.C_drew ?_))); (case side2 => exact (Kd.R_reads' HO_7.out).2.1); (case side3 => repeat (first | exact (Kd.R_reads' HO_8.out).2.2 | (with_reducible refine Kd.C_alloc ?_ _) | (with_reducible refine Kd.C_drewN ?_ _) | (with_reducible refine Kd.C_drew ?_))); (case side4 => exact (Kd.R_reads' HO_8.out).2.1); rintro e w32 ⟨v109, rfl, ho0, hb⟩; have n0_ := Aside0.mk (Kd.R_below (by (with_reducible repeat (first | apply Kd.R_alloc | apply Kd.R_drewN | apply Kd.R_drew)); exact HO_7.out) hb); have n1_ := Aside0.mk (Kd.R_elder' (by (with_reducible repeat (first | apply Kd.R_alloc | apply Kd.R_drewN | apply Kd.R_drew)); exact HO_8.out) (Kd.R_base ho0) hb); have n2_ := Aside0.mk (Kd.R_lower (Kd.R_new' ho0 (Kd.R_lt (by (with_reducible repeat (first | apply Kd.R_alloc | apply Kd.R_drewN | apply Kd.R_drew)); exact HO_8.out))) (below_size (by repeat (first | (with_reducible first | exact HB.out | apply below_alloc | apply pw_below_drewN | apply below_drew1) | exact HB.out)))); have n3_ := Aside0.mk (below_step (by repeat (first | (with_reducible first | exact HB.out | apply below_alloc | apply pw_below_drewN | apply below_drew1) | exact HB.out)) hb); clear HO_7; clear HO_8; clear HB; have HO_7 := n0_; have HO_8 := n1_; have HO110 := n2_; have HB := n3_; clear n0_ n1_ n2_ n3_; (try clear hb); (try clear hb2); (try clear hk); (try clear hi); (try clear ho0); obtain ⟨Ao33, co33, eo33⟩ := Kd.R_slice HO110.out; subst eo33)); try go_wp2_with (first | (go_at_call 13; (with_reducible refine (impl_Replay.calls a0 a1 _ _ x7_2 _ _ x8_2 t108 _ ?side1 ?side2 ?side3 ?side4 A19.out).mono ?_); (case side1 => repeat (first | exact (Kd.R_reads' HO_7.out).2.2 | (with_reducible refine Kd.C_alloc ?_ _) | (with_reducible refine Kd.C_drewN ?_ _) | (with_reducible refine Kd.C_drew ?_))); (case side2 => exact (Kd.R_reads' HO_7.out).2.1); (case side3 => repeat (first | exact (Kd.R_reads' HO_8.out).2.2 | (with_reducible refine Kd.C_alloc ?_ _) | (with_reducible refine Kd.C_drewN ?_ _) | (with_reducible refine Kd.C_drew ?_))); (case side4 => exact (Kd.R_reads' HO_8.out).2.1); rintro e w32 ⟨v109, rfl, ho0, hb⟩; have n0_ := Aside0.mk (Kd.R_below (by (with_reducible repeat (first | apply Kd.R_alloc | apply Kd.R_drewN | apply Kd.R_drew)); exact HO_7.out) hb); have n1_ := Aside0.mk (Kd.R_elder' (by (with_reducible repeat (first | apply Kd.R_alloc | apply Kd.R_drewN | apply Kd.R_drew)); exact HO_8.out) (Kd.R_base ho0) hb); have n2_ := Aside0.mk (Kd.R_lower (Kd.R_new' ho0 (Kd.R_lt (by (with_reducible repeat (first | apply Kd.R_alloc | apply Kd.R_drewN | apply Kd.R_drew)); exact HO_8.out))) (below_size (by repeat (first | (with_reducible first | exact HB.out | apply below_alloc | apply pw_below_drewN | apply below_drew1) | exact HB.out)))); have n3_ := Aside0.mk (below_step (by repeat (first | (with_reducible first | exact HB.out | apply below_alloc | apply pw_below_drewN | apply below_drew1) | exact HB.out)) hb); clear HO_7; clear HO_8; clear HB; have HO_7 := n0_; have HO_8 := n1_; have HO110 := n2_; have HB := n3_; clear n0_ n1_ n2_ n3_; (try clear hb); (try clear hb2); (try clear hk); (try clear hi); (try clear ho0); obtain ⟨Ao33, co33, eo33⟩ := Kd.R_slice HO110.out; subst eo33)))
                  go_ret
                  exact ⟨by first | rfl | (simp [errW_none, errW_some] <;> rfl) | (simp [*, errW_none, errW_some] <;> rfl), by repeat (first | (with_reducible first | exact HB.out | apply below_alloc | apply pw_below_drewN | apply below_drew1) | exact HB.out)⟩

/-- THE ONE PURE STATEMENT of laws_FnWindowRising: yours. -/
def laws_FnWindowRising.Pure : Prop := ∀ (a0 : Int) (a1 : Int) (l2 : List Int), (Lit.int .i64 a0).wf = true → (Lit.int .u64 a1).wf = true → l2.length ≤ maxLen → l2.length * 8 ≤ 140737488351232 → (∀ x ∈ l2, (Lit.int .u64 x).wf = true) → ∃ k, laws_FnWindowRising.f k a0 a1 l2 = some true
theorem laws_FnWindowRising.walk (P : laws_FnWindowRising.Pure) (a0 : Int) (a1 : Int) (a2 : Option Addr) (len2 cap2 : Nat) (z2 : List Int) (w : World) (w0 : (Lit.int .i64 a0).wf = true) (w1 : (Lit.int .u64 a1).wf = true) (w2 : (a2 = none ∧ len2 = 0 ∧ cap2 = 0 ∧ z2 = []) ∨ ∃ x, a2 = some x ∧ len2 ≤ cap2 ∧ cap2 ≤ maxLen ∧ z2.length = cap2 ∧ (∀ i, i < z2.length → w.cell? (x.add i) = some (.int .u64 (z2.getD i 0))) ∧ ∀ n ∈ z2, (Lit.int .u64 n).wf = true) (y2 : len2 * 8 ≤ 140737488351232) :
    Calls Try.prog 5 #[.int .i64 a0, .int .u64 a1, .slice a2 len2 cap2] w fun e w' => e = .returned (.bool true) ∧ Below w.heap.size w w' := by
  obtain ⟨l2, rfl, hr2, hm2, hw2, hc2⟩ := ReadsInt.ofRowC w2
  obtain ⟨k, h⟩ := P a0 a1 l2 w0 w1 hm2 y2 hw2
  refine (laws_FnWindowRising.calls k a0 a1 _ _ l2 true w (Kd.C_of_reads (d := (0 : Int)) (h1 := fun _ => rfl) hr2) hc2 h).mono ?_
  rintro e w' ⟨rfl, hd⟩
  exact ⟨rfl, hd⟩

/-! ### laws_windowed: function 14 -/
def laws_windowed.f (a0 : Int) (a1 : Int) (l2 : List Int) (l3 : List Bool) : Option (Bool) := if a0 ≥ 1 then (if a0 ≤ 500 then (if (Int.tmod a0 64) ≤ 32 then (if a1 ≥ (IntKind.u64.wrap (a0)) then (if a1 < 281474976710656 then (if (l2.length : Int) = (l3.length : Int) then (some (decide ((l2.length : Int) ≤ 300))) else (some false)) else (some false)) else (some false)) else (some false)) else (some false)) else (some false)
set_option maxHeartbeats 8000000 in
set_option maxRecDepth 100000 in
theorem laws_windowed.calls (a0 : Int) (a1 : Int) (A2 : Option Addr) (c2 : Nat) (l2 : List Int) (A3 : Option Addr) (c3 : Nat) (l3 : List Bool) (r : Bool) (w : World) (hr2 : Kd.C (Kd.int .u64) w A2 l2.length l2) (hc2 : l2.length ≤ c2) (hr3 : Kd.C Kd.bool w A3 l3.length l3) (hc3 : l3.length ≤ c3) (h : laws_windowed.f a0 a1 l2 l3 = some r) :
    Calls Try.prog 14 #[.int .i64 a0, .int .u64 a1, .slice A2 l2.length c2, .slice A3 l3.length c3] w fun e w' => e = .returned (.bool r) ∧ Drawn0 w w' := by
  have HR2 := Aside0.mk hr2
  have HC2 := Aside0.mk hc2
  clear hr2 hc2
  have HR3 := Aside0.mk hr3
  have HC3 := Aside0.mk hc3
  clear hr3 hc3
  have H : (if a0 ≥ 1 then (if a0 ≤ 500 then (if (Int.tmod a0 64) ≤ 32 then (if a1 ≥ (IntKind.u64.wrap (a0)) then (if a1 < 281474976710656 then (if (l2.length : Int) = (l3.length : Int) then (some (decide ((l2.length : Int) ≤ 300))) else (some false)) else (some false)) else (some false)) else (some false)) else (some false)) else (some false)) = some r := h
  clear h
  by_cases c5 : a0 ≥ 1
  · rw [if_pos c5] at H
    have c5b0 : decide (1 ≤ a0) = true := decide_eq_true c5
    clear c5
    by_cases c6 : a0 ≤ 500
    · rw [if_pos c6] at H
      have c6b0 : decide (a0 ≤ 500) = true := decide_eq_true c6
      clear c6
      by_cases c7 : (Int.tmod a0 64) ≤ 32
      · rw [if_pos c7] at H
        have c7b0 : decide ((Int.tmod a0 64) ≤ 32) = true := decide_eq_true c7
        clear c7
        by_cases c8 : a1 ≥ (IntKind.u64.wrap (a0))
        · rw [if_pos c8] at H
          have c8b0 : decide ((IntKind.u64.wrap (a0)) ≤ a1) = true := decide_eq_true c8
          clear c8
          by_cases c9 : a1 < 281474976710656
          · rw [if_pos c9] at H
            have c9b0 : decide (a1 < 281474976710656) = true := decide_eq_true c9
            clear c9
            by_cases c10 : (l2.length : Int) = (l3.length : Int)
            · rw [if_pos c10] at H
              have c10b0 : ((l2.length : Int) == (l3.length : Int)) = true := beq_iff_eq.mpr c10
              have c10b1 : ((l2.length : Int) != (l3.length : Int)) = false := bne_eq_false_iff_eq.mpr c10
              have c10b2 : (l2.length == l3.length) = true := by first | simpa using c10 | (simp at c10 ⊢; omega)
              clear c10
              obtain rfl := Option.some.inj H
              go_enter Try.func14, Try.ntmps14
              go_wp2
              go_ret
              exact ⟨by first | rfl | (simp; done) | (simp [*]; done), by repeat (first | exact Drawn0.refl _ | apply Drawn0.step)⟩
            · rw [if_neg c10] at H
              have c10b0 : ((l2.length : Int) == (l3.length : Int)) = false := beq_eq_false_iff_ne.mpr c10
              have c10b1 : ((l2.length : Int) != (l3.length : Int)) = true := bne_iff_ne.mpr c10
              have c10b2 : (l2.length == l3.length) = false := by first | simpa using c10 | (simp at c10 ⊢; omega)
              obtain rfl := Option.some.inj H
              go_enter Try.func14, Try.ntmps14
              go_wp2
              go_ret
              exact ⟨by first | rfl | (simp; done) | (simp [*]; done), by repeat (first | exact Drawn0.refl _ | apply Drawn0.step)⟩
          · rw [if_neg c9] at H
            have c9b0 : decide (a1 < 281474976710656) = false := decide_eq_false c9
            clear c9
            obtain rfl := Option.some.inj H
            go_enter Try.func14, Try.ntmps14
            go_wp2
            go_ret
            exact ⟨by first | rfl | (simp; done) | (simp [*]; done), by repeat (first | exact Drawn0.refl _ | apply Drawn0.step)⟩
        · rw [if_neg c8] at H
          have c8b0 : decide ((IntKind.u64.wrap (a0)) ≤ a1) = false := decide_eq_false c8
          clear c8
          obtain rfl := Option.some.inj H
          go_enter Try.func14, Try.ntmps14
          go_wp2
          go_ret
          exact ⟨by first | rfl | (simp; done) | (simp [*]; done), by repeat (first | exact Drawn0.refl _ | apply Drawn0.step)⟩
      · rw [if_neg c7] at H
        have c7b0 : decide ((Int.tmod a0 64) ≤ 32) = false := decide_eq_false c7
        clear c7
        obtain rfl := Option.some.inj H
        go_enter Try.func14, Try.ntmps14
        go_wp2
        go_ret
        exact ⟨by first | rfl | (simp; done) | (simp [*]; done), by repeat (first | exact Drawn0.refl _ | apply Drawn0.step)⟩
    · rw [if_neg c6] at H
      have c6b0 : decide (a0 ≤ 500) = false := decide_eq_false c6
      clear c6
      obtain rfl := Option.some.inj H
      go_enter Try.func14, Try.ntmps14
      go_wp2
      go_ret
      exact ⟨by first | rfl | (simp; done) | (simp [*]; done), by repeat (first | exact Drawn0.refl _ | apply Drawn0.step)⟩
  · rw [if_neg c5] at H
    have c5b0 : decide (1 ≤ a0) = false := decide_eq_false c5
    clear c5
    obtain rfl := Option.some.inj H
    go_enter Try.func14, Try.ntmps14
    go_wp2
    go_ret
    exact ⟨by first | rfl | (simp; done) | (simp [*]; done), by repeat (first | exact Drawn0.refl _ | apply Drawn0.step)⟩

end Go.Proofs.Ytaifkiafoebgcaa.V
