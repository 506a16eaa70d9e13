/- What is proved: Go functions answer as the Lean functions of this text (written by a program of this session over the print of the kit). Conditions: those in the hypotheses. -/
import Derived.Test.YtjflijebcpcbmaaDoorWTab
import Derived.Test.YtjflijebcpcbmaaDoorG0
namespace Go.Proofs.YtjflijebcpcbmaaDoor.G
open Go.RowKit Go.Proofs.YtjflijebcpcbmaaDoorW.PrintWords Go.Proofs.YtjflijebcpcbmaaDoorW.PrintLast Go.Proofs.YtjflijebcpcbmaaDoorW.PrintMore
attribute [local go_sem] max2_int min2_int max_two min_two max_three min_three max_four min_four   -- for this text's walks alone
set_option linter.unusedVariables false
set_option linter.unusedSimpArgs false

/-! ### laws_light: function 8 -/
def laws_light.l0 : Nat → List ByteArray → Int → Int → List ByteArray → Int → Int → Option (Bool)
  | 0, _, _, _, _, _, _ => none
  | k + 1, x0, x1, x5, x8, x9, x10 => if x10 < x9 then (if 0 ≤ x10 then (if x10 < (x8.length : Int) then (laws_light.l0 k x0 x1 (wrap64 (x5 + ((rdOf ByteArray.empty x8 x10).size : Int))) x8 x9 (wrap64 (x10 + 1))) else (none)) else (none)) else (if (x0.length : Int) > 0 then (if (x0.length : Int) < 8 then (if x5 < 600 then (if x1 ≥ 1 then (if x1 ≤ 1000 then (if x1 ≥ 8 then (some true) else (some (decide (x5 < 100)))) else (some false)) else (some false)) else (some false)) else (some false)) else (some false))
def laws_light.f (k : Nat) (l0 : List ByteArray) (a1 : Int) : Option (Bool) := laws_light.l0 k l0 a1 0 l0 (l0.length : Int) 0
theorem laws_light.mono_l : ∀ k, (∀ y0 y1 y2 y3 y4 y5, LeO (laws_light.l0 k y0 y1 y2 y3 y4 y5) (laws_light.l0 (k + 1) y0 y1 y2 y3 y4 y5))
  | 0 => fun _ _ _ _ _ _ r h => by simp [laws_light.l0] at h
  | k + 1 => by
    have ih0 := laws_light.mono_l k
    · intro y0 y1 y2 y3 y4 y5
      unfold laws_light.l0
      repeat' first
      | (with_reducible exact ih0 _ _ _ _ _ _)
      | (with_reducible exact LeO.refl _)
      | (with_reducible exact LeO.none _)
      | (with_reducible refine LeO.ite ?_ ?_)
      | (with_reducible refine LeO.bind ?_ (fun _ => ?_))
      | exact ih0 _ _ _ _ _ _
      | exact LeO.none _
      | refine LeO.ite ?_ ?_
      | refine LeO.bind ?_ (fun _ => ?_)
theorem laws_light.mono : ∀ a0 a1 k, LeO (laws_light.f k a0 a1) (laws_light.f (k + 1) a0 a1) := by
  intro a0 a1 k
  have ih0 := laws_light.mono_l k
  unfold laws_light.f
  repeat' first
      | (with_reducible exact ih0 _ _ _ _ _ _)
      | (with_reducible exact LeO.refl _)
      | (with_reducible exact LeO.none _)
      | (with_reducible refine LeO.ite ?_ ?_)
      | (with_reducible refine LeO.bind ?_ (fun _ => ?_))
      | exact ih0 _ _ _ _ _ _
      | exact LeO.none _
      | refine LeO.ite ?_ ?_
      | refine LeO.bind ?_ (fun _ => ?_)
set_option maxHeartbeats 8000000 in
set_option maxRecDepth 100000 in
theorem laws_light.calls (k : Nat) (A0 : Option Addr) (c0 : Nat) (l0 : List ByteArray) (a1 : Int) (r : Bool) (w : World) (hr0 : Kd.C Kd.string w A0 l0.length l0) (hc0 : l0.length ≤ c0) (h : laws_light.f k l0 a1 = some r) :
    Calls Tryd.prog 8 #[.slice A0 l0.length c0, .int .i64 a1] w fun e w' => e = .returned (.bool r) ∧ Drawn0 w w' := by
  have HR0 := Aside0.mk hr0
  have HC0 := Aside0.mk hc0
  clear hr0 hc0
  have H : (laws_light.l0 k l0 a1 0 l0 (l0.length : Int) 0) = some r := h
  clear h
  have H' := Aside0.mk H
  clear H
  go_enter Tryd.func8, Tryd.ntmps8
  go_wp2
  go_loopg [5, 10] k (fun kq v5 v10 w' => ∃ (x5_1 : Int) (x10_1 : Int), v5 = .int .i64 x5_1 ∧ v10 = .int .i64 x10_1 ∧ Aside0 (laws_light.l0 kq l0 a1 x5_1 l0 (l0.length : Int) x10_1 = some r) ∧ Aside0 (kq ≤ k) ∧ Drawn0 w w')
  case atStart => exact ⟨(0), (0), (by first | rfl | (simp; done) | (simp [*]; done)), (by first | rfl | (simp; done) | (simp [*]; done)), H', ⟨Nat.le_refl _⟩, by repeat (first | exact Drawn0.refl _ | apply Drawn0.step)⟩
  case round =>
    clear H'
    try clear p2
    obtain ⟨x5_1, x10_1, rfl, rfl, HA, HK1, ⟨m1, rfl⟩⟩ := hrel
    cases gk with
    | zero => exact absurd HA.out (by simp [laws_light.l0])
    | succ k1 =>
      have H := HA.out
      clear HA
      simp only [laws_light.l0] at H
      by_cases c3 : x10_1 < (l0.length : Int)
      · rw [if_pos c3] at H
        have c3b0 : decide (x10_1 < (l0.length : Int)) = true := decide_eq_true c3
        clear c3
        by_cases c4 : 0 ≤ x10_1
        · rw [if_pos c4] at H
          have c4b0 : decide (0 ≤ x10_1) = true := decide_eq_true c4
          clear c4
          by_cases c5 : x10_1 < (l0.length : Int)
          · rw [if_pos c5] at H
            have c5b0 : decide (x10_1 < (l0.length : Int)) = true := decide_eq_true c5
            clear c5
            have H' := Aside0.mk H
            clear H
            have p101 : 0 ≤ (x10_1 : Int) := of_decide_eq_true (by first | (with_reducible assumption) | assumption)
            have q101 : x10_1 < (l0.length : Int) := of_decide_eq_true (by first | (with_reducible assumption) | assumption)
            obtain ⟨ad101, e101, hx101_0⟩ := Kd.at_string HR0.out x10_1 p101 q101
            cases e101
            replace p101 := eq_true p101
            replace q101 := eq_true q101
            go_wp2
            go_roundg k1
            case measure => have := HK1.out; omega
            case rel => exact ⟨(wrap64 (x5_1 + ((rdOf ByteArray.empty l0 x10_1).size : Int))), (wrap64 (x10_1 + 1)), (by first | rfl | (simp; done) | (simp [*]; done)), (by first | rfl | (simp; done) | (simp [*]; done)), H', ⟨by have := HK1.out; omega⟩, by repeat (first | exact Drawn0.refl _ | apply Drawn0.step)⟩
          · rw [if_neg c5] at H
            exact absurd H (by simp)
        · rw [if_neg c4] at H
          exact absurd H (by simp)
      · rw [if_neg c3] at H
        have c3b0 : decide (x10_1 < (l0.length : Int)) = false := decide_eq_false c3
        clear c3
        by_cases c6 : (l0.length : Int) > 0
        · rw [if_pos c6] at H
          have c6b0 : decide (0 < (l0.length : Int)) = true := decide_eq_true c6
          have c6b1 : decide (0 < l0.length) = true := decide_eq_true (by omega)
          clear c6
          by_cases c7 : (l0.length : Int) < 8
          · rw [if_pos c7] at H
            have c7b0 : decide ((l0.length : Int) < 8) = true := decide_eq_true c7
            have c7b1 : decide (l0.length < 8) = true := decide_eq_true (by omega)
            clear c7
            by_cases c8 : x5_1 < 600
            · rw [if_pos c8] at H
              have c8b0 : decide (x5_1 < 600) = true := decide_eq_true c8
              clear c8
              by_cases c9 : a1 ≥ 1
              · rw [if_pos c9] at H
                have c9b0 : decide (1 ≤ a1) = true := decide_eq_true c9
                clear c9
                by_cases c10 : a1 ≤ 1000
                · rw [if_pos c10] at H
                  have c10b0 : decide (a1 ≤ 1000) = true := decide_eq_true c10
                  clear c10
                  by_cases c11 : a1 ≥ 8
                  · rw [if_pos c11] at H
                    have c11b0 : decide (8 ≤ a1) = true := decide_eq_true c11
                    clear c11
                    obtain rfl := Option.some.inj H
                    go_wp2
                    go_ret
                    exact ⟨by first | rfl | (simp; done) | (simp [*]; done), by repeat (first | exact Drawn0.refl _ | apply Drawn0.step)⟩
                  · rw [if_neg c11] at H
                    have c11b0 : decide (8 ≤ a1) = false := decide_eq_false c11
                    clear c11
                    obtain rfl := Option.some.inj H
                    go_wp2
                    go_ret
                    exact ⟨by first | rfl | (simp; done) | (simp [*]; done), by repeat (first | exact Drawn0.refl _ | apply Drawn0.step)⟩
                · rw [if_neg c10] at H
                  have c10b0 : decide (a1 ≤ 1000) = false := decide_eq_false c10
                  clear c10
                  obtain rfl := Option.some.inj H
                  go_wp2
                  go_ret
                  exact ⟨by first | rfl | (simp; done) | (simp [*]; done), by repeat (first | exact Drawn0.refl _ | apply Drawn0.step)⟩
              · rw [if_neg c9] at H
                have c9b0 : decide (1 ≤ a1) = false := decide_eq_false c9
                clear c9
                obtain rfl := Option.some.inj H
                go_wp2
                go_ret
                exact ⟨by first | rfl | (simp; done) | (simp [*]; done), by repeat (first | exact Drawn0.refl _ | apply Drawn0.step)⟩
            · rw [if_neg c8] at H
              have c8b0 : decide (x5_1 < 600) = false := decide_eq_false c8
              clear c8
              obtain rfl := Option.some.inj H
              go_wp2
              go_ret
              exact ⟨by first | rfl | (simp; done) | (simp [*]; done), by repeat (first | exact Drawn0.refl _ | apply Drawn0.step)⟩
          · rw [if_neg c7] at H
            have c7b0 : decide ((l0.length : Int) < 8) = false := decide_eq_false c7
            have c7b1 : decide (l0.length < 8) = false := decide_eq_false (by omega)
            clear c7
            obtain rfl := Option.some.inj H
            go_wp2
            go_ret
            exact ⟨by first | rfl | (simp; done) | (simp [*]; done), by repeat (first | exact Drawn0.refl _ | apply Drawn0.step)⟩
        · rw [if_neg c6] at H
          have c6b0 : decide (0 < (l0.length : Int)) = false := decide_eq_false c6
          have c6b1 : decide (0 < l0.length) = false := decide_eq_false (by omega)
          clear c6
          obtain rfl := Option.some.inj H
          go_wp2
          go_ret
          exact ⟨by first | rfl | (simp; done) | (simp [*]; done), by repeat (first | exact Drawn0.refl _ | apply Drawn0.step)⟩

/-! ### laws_within: function 22 -/
def laws_within.f (a0 : Int) (a1 : Int) : Option (Int) := if a1 = 0 then (none) else (if (Int.tmod a0 a1) < 0 then (some (wrap64 ((Int.tmod a0 a1) + a1))) else (some (Int.tmod a0 a1)))
set_option maxHeartbeats 8000000 in
set_option maxRecDepth 100000 in
theorem laws_within.calls (a0 : Int) (a1 : Int) (r : Int) (w : World) (h : laws_within.f a0 a1 = some r) :
    Calls Tryd.prog 22 #[.int .i64 a0, .int .i64 a1] w fun e w' => e = .returned (.int .i64 r) ∧ Drawn0 w w' := by
  have H : (if a1 = 0 then (none) else (if (Int.tmod a0 a1) < 0 then (some (wrap64 ((Int.tmod a0 a1) + a1))) else (some (Int.tmod a0 a1)))) = some r := h
  clear h
  by_cases c3 : a1 = 0
  · rw [if_pos c3] at H
    exact absurd H (by simp)
  · rw [if_neg c3] at H
    have c3b0 : (a1 == 0) = false := beq_eq_false_iff_ne.mpr c3
    have c3b1 : (a1 != 0) = true := bne_iff_ne.mpr c3
    by_cases c4 : (Int.tmod a0 a1) < 0
    · rw [if_pos c4] at H
      have c4b0 : decide ((Int.tmod a0 a1) < 0) = true := decide_eq_true c4
      clear c4
      obtain rfl := Option.some.inj H
      go_enter Tryd.func22, Tryd.ntmps22
      go_wp2
      go_ret
      exact ⟨by first | rfl | (simp; done) | (simp [*]; done), by repeat (first | exact Drawn0.refl _ | apply Drawn0.step)⟩
    · rw [if_neg c4] at H
      have c4b0 : decide ((Int.tmod a0 a1) < 0) = false := decide_eq_false c4
      clear c4
      obtain rfl := Option.some.inj H
      go_enter Tryd.func22, Tryd.ntmps22
      go_wp2
      go_ret
      exact ⟨by first | rfl | (simp; done) | (simp [*]; done), by repeat (first | exact Drawn0.refl _ | apply Drawn0.step)⟩

/-! ### laws_shuffle: function 9 -/
def laws_shuffle.l0 : Nat → List Int → List ByteArray → Int → Option (List ByteArray)
  | 0, _, _, _ => none
  | k + 1, x1, x5, x6 => if x6 > 0 then (if x6 < (x1.length : Int) then (if 0 ≤ x6 then ((laws_within.f (rd x1 x6) (wrap64 (x6 + 1))).bind fun t109 => (if 0 ≤ t109 then (if t109 < (x5.length : Int) then (if x6 < (x5.length : Int) then (laws_shuffle.l0 k x1 ((x5.set (x6 : Int).toNat (rdOf ByteArray.empty x5 t109)).set (t109 : Int).toNat (rdOf ByteArray.empty x5 x6)) (wrap64 (x6 - 1))) else (none)) else (none)) else (none))) else (none)) else (if 0 ≤ x6 then (if x6 < (x5.length : Int) then (laws_shuffle.l0 k x1 ((x5.set (x6 : Int).toNat (rdOf ByteArray.empty x5 x6)).set (x6 : Int).toNat (rdOf ByteArray.empty x5 x6)) (wrap64 (x6 - 1))) else (none)) else (none))) else (some x5)
def laws_shuffle.f (k : Nat) (l0 : List ByteArray) (l1 : List Int) : Option (List ByteArray) := (some (([] : List ByteArray) : List ByteArray)).bind fun y102 => (if y102.length + l0.length < 8796093022208 then ((some (y102 ++ l0 : List ByteArray)).bind fun y105 => (laws_shuffle.l0 k l1 y105 (wrap64 ((y105.length : Int) - 1)))) else (none))
theorem laws_shuffle.mono_l : ∀ k, (∀ y0 y1 y2, LeO (laws_shuffle.l0 k y0 y1 y2) (laws_shuffle.l0 (k + 1) y0 y1 y2))
  | 0 => fun _ _ _ r h => by simp [laws_shuffle.l0] at h
  | k + 1 => by
    have ih0 := laws_shuffle.mono_l k
    · intro y0 y1 y2
      unfold laws_shuffle.l0
      repeat' first
      | (with_reducible exact ih0 _ _ _)
      | (with_reducible exact LeO.refl _)
      | (with_reducible exact LeO.none _)
      | (with_reducible refine LeO.ite ?_ ?_)
      | (with_reducible refine LeO.bind ?_ (fun _ => ?_))
      | exact ih0 _ _ _
      | exact LeO.none _
      | refine LeO.ite ?_ ?_
      | refine LeO.bind ?_ (fun _ => ?_)
theorem laws_shuffle.mono : ∀ a0 a1 k, LeO (laws_shuffle.f k a0 a1) (laws_shuffle.f (k + 1) a0 a1) := by
  intro a0 a1 k
  have ih0 := laws_shuffle.mono_l k
  unfold laws_shuffle.f
  repeat' first
      | (with_reducible exact ih0 _ _ _)
      | (with_reducible exact LeO.refl _)
      | (with_reducible exact LeO.none _)
      | (with_reducible refine LeO.ite ?_ ?_)
      | (with_reducible refine LeO.bind ?_ (fun _ => ?_))
      | exact ih0 _ _ _
      | exact LeO.none _
      | refine LeO.ite ?_ ?_
      | refine LeO.bind ?_ (fun _ => ?_)
def laws_shuffle.T8 : Bool × List (List Nat × List Nat) := (true, [([], []), ([], []), ([], []), ([], []), ([], []), ([], []), ([4, 5], [4, 5]), ([6], [6]), ([], []), ([], []), ([8, 9], [8, 9]), ([10], [10]), ([0, 1, 0, 1, 4, 5, 6, 7, 11], [0, 1]), ([12, 7, 0, 1, 4, 5, 6, 7, 11], [7, 12]), ([2, 3, 0, 1, 2, 3, 4, 5, 6, 7, 8, 9, 10, 11, 12, 13], [2, 3]), ([14, 11, 13, 0, 1, 2, 3, 4, 5, 6, 7, 8, 9, 10, 11, 12, 13], [11, 14])])
def laws_shuffle.B8 : List Nat := [0, 0, 0, 0, 0, 0, 48, 112, 0, 0, 768, 1792, 4083, 8179, 16383, 32767]
theorem laws_shuffle.tab8 : rtab .any (opsOf Tryd.f9 8) = laws_shuffle.T8 := by kernel_rfl
theorem laws_shuffle.bits8 : waitsOk laws_shuffle.T8.2 laws_shuffle.B8 = true := by kernel_rfl
set_option maxHeartbeats 8000000 in
set_option maxRecDepth 100000 in
theorem laws_shuffle.calls (k : Nat) (A0 : Option Addr) (c0 : Nat) (l0 : List ByteArray) (A1 : Option Addr) (c1 : Nat) (l1 : List Int) (r : List ByteArray) (w : World) (hr0 : Kd.C Kd.string w A0 l0.length l0) (hc0 : l0.length ≤ c0) (hr1 : Kd.C (Kd.int .i64) w A1 l1.length l1) (hc1 : l1.length ≤ c1) (h : laws_shuffle.f k l0 l1 = some r) :
    Calls Tryd.prog 9 #[.slice A0 l0.length c0, .slice A1 l1.length c1] w fun e w' => ∃ v0_ : Value, e = .returned (v0_) ∧ Kd.R Kd.string 9 w' w.heap.size (fun _ => True) v0_ r ∧ Below w.heap.size w w' := by
  have HR0 := Aside0.mk hr0
  have HC0 := Aside0.mk hc0
  clear hr0 hc0
  have HR1 := Aside0.mk hr1
  have HC1 := Aside0.mk hc1
  clear hr1 hc1
  have HB := Aside0.mk (Below.refl w.heap.size w)
  have H : ((some (([] : List ByteArray) : List ByteArray)).bind fun y102 => (if y102.length + l0.length < 8796093022208 then ((some (y102 ++ l0 : List ByteArray)).bind fun y105 => (laws_shuffle.l0 k l1 y105 (wrap64 ((y105.length : Int) - 1)))) else (none))) = some r := h
  clear h
  obtain ⟨y102, hy102⟩ : ∃ y_ : List ByteArray, y_ = (([] : List ByteArray)) := ⟨_, rfl⟩
  replace H : (if y102.length + l0.length < 8796093022208 then ((some (y102 ++ l0 : List ByteArray)).bind fun y105 => (laws_shuffle.l0 k l1 y105 (wrap64 ((y105.length : Int) - 1)))) else (none)) = some r := by first | (rw [hy102]; with_reducible exact H) | (have H2_ := (Option.bind_some _ _).symm.trans H; rw [hy102]; with_reducible exact H2_) | (have H2_ := (Option.bind_some _ _).symm.trans H; with_reducible exact H2_) | with_reducible exact H | (rw [hy102]; exact H) | exact H
  have Ny102 := Aside0.mk hy102
  clear hy102
  by_cases c3 : y102.length + l0.length < 8796093022208
  · rw [if_pos c3] at H
    have LMc3 := Aside0.mk c3
    clear c3
    obtain ⟨y105, hy105⟩ : ∃ y_ : List ByteArray, y_ = (y102 ++ l0) := ⟨_, rfl⟩
    replace H : (laws_shuffle.l0 k l1 y105 (wrap64 ((y105.length : Int) - 1))) = some r := by first | (rw [hy105]; with_reducible exact H) | (have H2_ := (Option.bind_some _ _).symm.trans H; rw [hy105]; with_reducible exact H2_) | (have H2_ := (Option.bind_some _ _).symm.trans H; with_reducible exact H2_) | with_reducible exact H | (rw [hy105]; exact H) | exact H
    have Ny105 := Aside0.mk hy105
    clear hy105
    have H' := Aside0.mk H
    clear H
    go_enter Tryd.func9, Tryd.ntmps9
    go_wp2_with (first | ((with_reducible refine gate_dst (N := 8) rfl ?_); refine Kd.R_lit Kd.string _ 9 ?hg (N := 8) ?hd (xs := ([] : List ByteArray)) (inner := []) (ok := fun _ => True) (okp := fun _ => True) ?hr ?hp (fun _ hk => hk) trivial (Below.refl _ _) (Nat.le_refl _) (by simp) ?_; (case hd => rfl); (case hg => rfl); (case hr => first | (go_simp; done) | (go_simp; rfl)); (case hp => exact (Reps.none _ _)); intro v103 w4 ho5 hb hg_ hnew_; clear hg_ hnew_; (first | rw [← Ny102.out] at ho5 | (simp only [Int.reduceToNat] at ho5; rw [← Ny102.out] at ho5)); have n0_ := Aside0.mk (Kd.R_lower ho5 (below_size (by repeat (first | (with_reducible first | exact HB.out | apply below_alloc | apply pw_below_drewN | apply below_drew1) | exact HB.out)))); have n1_ := Aside0.mk (below_step (by repeat (first | (with_reducible first | exact HB.out | apply below_alloc | apply pw_below_drewN | apply below_drew1) | exact HB.out)) hb); clear HB; have HO104 := n0_; have HB := n1_; clear n0_ n1_; clear hb ho5) | ((with_reducible refine gate_builtin (b := .append) (xs := #[.tmp 8, .tmp 9]) rfl ?_); at_builtin; refine Kd.R_append_rows Kd.string (w0 := w) w.heap.size rfl (.tmp 8) (.tmp 9) 24 9 (.string ⟨#[]⟩) 16 rfl Tryd.underlying24 info9 rfl (by decide) (by omega) v103 y102 l0 _ _ _ (fun _ => True) (fun _ => False) rfl rfl ?aO ?aR (fun _ _ h => h) (fun _ h => h.elim) ?aF ?aB ?aS ?aL ?_; (case aR => repeat (first | exact (Kd.C_below HR0.out HB.out) | (with_reducible refine Kd.C_alloc ?_ _) | (with_reducible refine Kd.C_drewN ?_ _) | (with_reducible refine Kd.C_drew ?_))); (case aB => exact (by repeat (first | (with_reducible first | exact HB.out | apply below_alloc | apply pw_below_drewN | apply below_drew1) | exact HB.out))); (case aF => exact (fun _ _ => trivial)); (case aO => exact (by (with_reducible repeat (first | apply Kd.R_alloc | apply Kd.R_drewN | apply Kd.R_drew)); exact HO104.out)); (case aS => exact (below_size (by repeat (first | (with_reducible first | exact HB.out | apply below_alloc | apply pw_below_drewN | apply below_drew1) | exact HB.out)))); (case aL => have := LMc3.out; omega); intro v106 w6 ho hb hg hat; rw [← Ny105.out] at ho; have n0_ := Aside0.mk (hb); have n1_ := Aside0.mk (ho); clear HB; clear HO104; have HB := n0_; have HO107 := n1_; clear n0_ n1_; clear ho hb hg hat; obtain ⟨Ao7, co7, eo7⟩ := Kd.R_slice HO107.out; subst eo7))
    go_loopg [6] k (fun kq v6 w' => ∃ (x5_1 : List ByteArray) (x6_1 : Int), v6 = .int .i64 x6_1 ∧ Aside0 (laws_shuffle.l0 kq l1 x5_1 x6_1 = some r) ∧ Aside0 (kq ≤ k) ∧ Aside0 (Kd.R Kd.string 9 w' w.heap.size (fun _ => True) (.slice Ao7 y105.length co7) x5_1) ∧ Aside0 (Below w.heap.size w w'))
    case atStart => exact ⟨(y105), (wrap64 ((y105.length : Int) - 1)), (by first | rfl | (simp; done) | (simp [*]; done)), H', ⟨Nat.le_refl _⟩, ⟨by (with_reducible repeat (first | apply Kd.R_alloc | apply Kd.R_drewN | apply Kd.R_drew)); exact HO107.out⟩, ⟨by repeat (first | (with_reducible first | exact HB.out | apply below_alloc | apply pw_below_drewN | apply below_drew1) | exact HB.out)⟩⟩
    case round =>
      clear H'
      try clear c1
      try clear p2
      try clear c3
      try clear p6
      obtain ⟨x5_1, x6_1, rfl, HA, HK1, HO_5, HB⟩ := hrel
      have hl5_1 := (Kd.R_reads' HO_5.out).1
      rw [hl5_1] at HO_5
      (try simp only [hl5_1])
      cases gk with
      | zero => exact absurd HA.out (by simp [laws_shuffle.l0])
      | succ k1 =>
        have H := HA.out
        clear HA
        simp only [laws_shuffle.l0] at H
        by_cases c8 : x6_1 > 0
        · rw [if_pos c8] at H
          have c8b0 : decide (0 < x6_1) = true := decide_eq_true c8
          clear c8
          by_cases c9 : x6_1 < (l1.length : Int)
          · rw [if_pos c9] at H
            have c9b0 : decide (x6_1 < (l1.length : Int)) = true := decide_eq_true c9
            clear c9
            by_cases c10 : 0 ≤ x6_1
            · rw [if_pos c10] at H
              have c10b0 : decide (0 ≤ x6_1) = true := decide_eq_true c10
              clear c10
              replace H := Option.bind_eq_some_iff.mp H
              obtain ⟨t109, A110, H⟩ := H
              replace H : (if 0 ≤ t109 then (if t109 < (x5_1.length : Int) then (if x6_1 < (x5_1.length : Int) then (laws_shuffle.l0 k1 l1 ((x5_1.set (x6_1 : Int).toNat (rdOf ByteArray.empty x5_1 t109)).set (t109 : Int).toNat (rdOf ByteArray.empty x5_1 x6_1)) (wrap64 (x6_1 - 1))) else (none)) else (none)) else (none)) = some r := H
              have A11 := Aside0.mk A110
              clear A110
              by_cases c12 : 0 ≤ t109
              · rw [if_pos c12] at H
                have c12b0 : decide (0 ≤ t109) = true := decide_eq_true c12
                clear c12
                by_cases c13 : t109 < (x5_1.length : Int)
                · rw [if_pos c13] at H
                  have c13b0 : decide (t109 < (x5_1.length : Int)) = true := decide_eq_true c13
                  clear c13
                  by_cases c14 : x6_1 < (x5_1.length : Int)
                  · rw [if_pos c14] at H
                    have c14b0 : decide (x6_1 < (x5_1.length : Int)) = true := decide_eq_true c14
                    clear c14
                    obtain ⟨y112, hy112⟩ : ∃ y_ : List ByteArray, y_ = (x5_1.set (x6_1 : Int).toNat (rdOf ByteArray.empty x5_1 t109)) := ⟨_, rfl⟩
                    replace H : (laws_shuffle.l0 k1 l1 (y112.set (t109 : Int).toNat (rdOf ByteArray.empty x5_1 x6_1)) (wrap64 (x6_1 - 1))) = some r := by first | (rw [hy112]; with_reducible exact H) | (have H2_ := (Option.bind_some _ _).symm.trans H; rw [hy112]; with_reducible exact H2_) | (have H2_ := (Option.bind_some _ _).symm.trans H; with_reducible exact H2_) | with_reducible exact H | (rw [hy112]; exact H) | exact H
                    have Ny112 := Aside0.mk hy112
                    clear hy112
                    obtain ⟨y113, hy113⟩ : ∃ y_ : List ByteArray, y_ = (y112.set (t109 : Int).toNat (rdOf ByteArray.empty x5_1 x6_1)) := ⟨_, rfl⟩
                    replace H : (laws_shuffle.l0 k1 l1 y113 (wrap64 (x6_1 - 1))) = some r := by first | (rw [hy113]; with_reducible exact H) | (have H2_ := (Option.bind_some _ _).symm.trans H; rw [hy113]; with_reducible exact H2_) | (have H2_ := (Option.bind_some _ _).symm.trans H; with_reducible exact H2_) | with_reducible exact H | (rw [hy113]; exact H) | exact H
                    have Ny113 := Aside0.mk hy113
                    clear hy113
                    have H' := Aside0.mk H
                    clear H
                    have p108 : 0 ≤ (x6_1 : Int) := of_decide_eq_true (by first | (with_reducible assumption) | assumption)
                    have q108 : x6_1 < (l1.length : Int) := of_decide_eq_true (by first | (with_reducible assumption) | assumption)
                    obtain ⟨ad108, e108, hx108_0⟩ := Kd.at_int HR1.out x6_1 p108 q108
                    cases e108
                    replace hx108_0 := (HB.out.cell (World.block_lt_of_cell? w _ hx108_0)).trans hx108_0
                    replace p108 := eq_true p108
                    replace q108 := eq_true q108
                    try go_wp2_with (first | ((with_reducible refine gate_callee (f := 22) rfl ?_); refine goesL_ (some 29) rfl rfl Tryd.func22 (by kernel_rfl) rfl #[.int .i64 (rd l1 x6_1), .int .i64 (wrap64 (x6_1 + 1))] rfl (by (try simp only [List.map_toArray, List.map_cons, List.map_nil]); first | done | rfl | (simp only [List.length_drop, List.length_take]; rfl)) ?_; (with_reducible refine (laws_within.calls (rd l1 x6_1) (wrap64 (x6_1 + 1)) t109 _ A11.out).mono ?_); rintro e w' ⟨rfl, ⟨nd, rfl⟩⟩; refine ⟨_, rfl, ?_⟩; (try (rw [drewN_self wr]; generalize hq_ : World.drewN wr _ = wr; have n0_ : Aside0 (Kd.R Kd.string 9 wr w.heap.size (fun _ => True) (.slice Ao7 x5_1.length co7) x5_1) := ⟨by rw [← hq_]; exact (by (with_reducible repeat (first | apply Kd.R_alloc | apply Kd.R_drewN | apply Kd.R_drew)); exact HO_5.out)⟩; have n1_ : Aside0 (Below w.heap.size w wr) := ⟨by rw [← hq_]; exact (by repeat (first | (with_reducible first | exact HB.out | apply below_alloc | apply pw_below_drewN | apply below_drew1) | exact HB.out))⟩; clear HO_5 HB hq_; have HO_5 := n0_; have HB := n1_; clear n0_ n1_))))
                    have n0_ := Aside0.mk (Kd.R_drew HO_5.out)
                    have n1_ := Aside0.mk (below_drew1 HB.out)
                    clear HO_5
                    clear HB
                    have HO_5 := n0_
                    have HB := n1_
                    clear n0_ n1_
                    have p110 : 0 ≤ (t109 : Int) := of_decide_eq_true (by first | (with_reducible assumption) | assumption)
                    have q110 : t109 < (x5_1.length : Int) := of_decide_eq_true (by first | (with_reducible assumption) | assumption)
                    obtain ⟨ad110, e110, hx110_0⟩ := Kd.at_string (Kd.R_reads' HO_5.out).2.2 t109 p110 q110
                    cases e110
                    replace p110 := eq_true p110
                    replace q110 := eq_true q110
                    have p111 : 0 ≤ (x6_1 : Int) := of_decide_eq_true (by first | (with_reducible assumption) | assumption)
                    have q111 : x6_1 < (x5_1.length : Int) := of_decide_eq_true (by first | (with_reducible assumption) | assumption)
                    obtain ⟨ad111, e111, hx111_0⟩ := Kd.at_string (Kd.R_reads' HO_5.out).2.2 x6_1 p111 q111
                    obtain rfl : ad110 = ad111 := (by injection e111)
                    replace p111 := eq_true p111
                    replace q111 := eq_true q111
                    have p15 : 0 ≤ (x6_1 : Int) := of_decide_eq_true (by first | (with_reducible assumption) | assumption)
                    have q15 : (x6_1 : Int) < ((x5_1.length : Int) : Int) := of_decide_eq_true (by first | (with_reducible assumption) | assumption)
                    obtain ⟨go15, co15, eo15, gb15, gl15, cl15, HG15⟩ := Kd.R_form HO_5.out (by omega)
                    (first | cases eo15 | (injection eo15 with ea_ en_ ec_; (first | subst ea_ | (injection ea_ with ea_; subst ea_)); subst ec_; clear en_))
                    have GB15 := Aside0.mk gb15
                    have GG15 := Aside0.mk HG15
                    clear gb15 gl15 HG15
                    (first | simp only [add_plain] at hx110_0 | skip)
                    (first | simp only [add_plain] at hx111_0 | skip)
                    obtain ⟨hx15_0, hf15_0⟩ := Kd.R_celln (⟨#[]⟩ : ByteArray) HO_5.out (x6_1 : Int) p15 q15
                    replace p15 := eq_true p15
                    replace q15 := eq_true q15
                    have HP18 := Kd.R_putn HO_5.out (x6_1 : Int) (rdOf ByteArray.empty x5_1 t109)
                    rw [← Ny112.out] at HP18
                    have HQ18 := Aside0.mk HP18
                    clear HP18
                    have p16 : 0 ≤ (t109 : Int) := of_decide_eq_true (by first | (with_reducible assumption) | assumption)
                    have q16 : (t109 : Int) < ((x5_1.length : Int) : Int) := of_decide_eq_true (by first | (with_reducible assumption) | assumption)
                    obtain ⟨hx16_0, hf16_0⟩ := Kd.R_celln (⟨#[]⟩ : ByteArray) HQ18.out (t109 : Int) p16 q16
                    replace p16 := eq_true p16
                    replace q16 := eq_true q16
                    have HP19 := Kd.R_putn HQ18.out (t109 : Int) (rdOf ByteArray.empty x5_1 x6_1)
                    rw [← Ny113.out] at HP19
                    have HQ19 := Aside0.mk HP19
                    clear HP19
                    refine start_ (n := 16) (S := fun w' => w'.cell? ⟨go15, (t109).toNat, none⟩ = some (.string (rdOf ByteArray.empty x5_1 t109)) ∧ w'.cell? ⟨go15, (x6_1).toNat, none⟩ = some (.string (rdOf ByteArray.empty x5_1 x6_1))) (ds := [13, 15]) #[false, false, false, false, false, false, false, false, false, false, false, false, false, false, false, false] (by kernel_rfl) rfl rfl ⟨hx110_0, hx111_0⟩ (fun hHeld => ?_); refine with_tabW laws_shuffle.tab8 laws_shuffle.bits8 (fun HT_ HW_ => ?_)
                    generalize wr.drew = w17 at HO_5 HB GG15 HQ18 HQ19 hf15_0 hf16_0 hx110_0 hx111_0 hx15_0 hx16_0 hHeld ⊢
                    refine pure_ (i := 0) (N := some 30) (v := ?_) (a' := ?_) #[true, false, false, false, false, false, false, false, false, false, false, false, false, false, false, false] rfl rfl (any_of HT_.out (by kernel_rfl)) (fun _ _ _ h => h) (Or.inl ⟨by rfl, ?_⟩) ?_ ?_
                    rotate_left
                    · intro w'
                      go_simp
                      with_reducible rfl
                    rotate_left
                    · simp only [Act.put, List.setIfInBounds_toArray, List.set_cons_zero, List.set_cons_succ, i64_w, i32_w]
                      rfl
                    refine pure_ (i := 1) (N := some 31) (v := ?_) (a' := ?_) #[true, true, false, false, false, false, false, false, false, false, false, false, false, false, false, false] rfl rfl (any_of HT_.out (by kernel_rfl)) (fun _ _ _ h => h) (Or.inl ⟨by rfl, ?_⟩) ?_ ?_
                    rotate_left
                    · intro w'
                      go_simp
                      with_reducible rfl
                    rotate_left
                    · simp only [Act.put, List.setIfInBounds_toArray, List.set_cons_zero, List.set_cons_succ, i64_w, i32_w]
                      rfl
                    refine pure_ (i := 2) (N := some 32) (v := ?_) (a' := ?_) #[true, true, true, false, false, false, false, false, false, false, false, false, false, false, false, false] rfl rfl (any_of HT_.out (by kernel_rfl)) (fun _ _ _ h => h) (Or.inl ⟨by rfl, ?_⟩) ?_ ?_
                    rotate_left
                    · intro w'
                      go_simp
                      with_reducible rfl
                    rotate_left
                    · simp only [Act.put, List.setIfInBounds_toArray, List.set_cons_zero, List.set_cons_succ, i64_w, i32_w]
                      rfl
                    refine pure_ (i := 3) (N := some 33) (v := ?_) (a' := ?_) #[true, true, true, true, false, false, false, false, false, false, false, false, false, false, false, false] rfl rfl (any_of HT_.out (by kernel_rfl)) (fun _ _ _ h => h) (Or.inl ⟨by rfl, ?_⟩) ?_ ?_
                    rotate_left
                    · intro w'
                      go_simp
                      with_reducible rfl
                    rotate_left
                    · simp only [Act.put, List.setIfInBounds_toArray, List.set_cons_zero, List.set_cons_succ, i64_w, i32_w]
                      rfl
                    refine pure_ (i := 4) (N := some 34) (v := ?_) (a' := ?_) #[true, true, true, true, true, false, false, false, false, false, false, false, false, false, false, false] rfl rfl (any_of HT_.out (by kernel_rfl)) (fun _ _ _ h => h) (Or.inl ⟨by rfl, ?_⟩) ?_ ?_
                    rotate_left
                    · intro w'
                      go_simp
                      with_reducible rfl
                    rotate_left
                    · simp only [Act.put, List.setIfInBounds_toArray, List.set_cons_zero, List.set_cons_succ, i64_w, i32_w]
                      rfl
                    refine pure_ (i := 5) (N := some 35) (v := ?_) (a' := ?_) #[true, true, true, true, true, true, false, false, false, false, false, false, false, false, false, false] rfl rfl (any_of HT_.out (by kernel_rfl)) (fun _ _ _ h => h) (Or.inl ⟨by rfl, ?_⟩) ?_ ?_
                    rotate_left
                    · intro w'
                      go_simp
                      with_reducible rfl
                    rotate_left
                    · simp only [Act.put, List.setIfInBounds_toArray, List.set_cons_zero, List.set_cons_succ, i64_w, i32_w]
                      rfl
                    refine pure_ (i := 6) (N := some 36) (v := ?_) (a' := ?_) #[true, true, true, true, true, true, true, false, false, false, false, false, false, false, false, false] rfl rfl (any_of HT_.out (by kernel_rfl)) (fun _ _ _ h => h) (Or.inl ⟨by rfl, ?_⟩) ?_ ?_
                    rotate_left
                    · intro w'
                      go_simp
                      with_reducible rfl
                    rotate_left
                    · simp only [Act.put, List.setIfInBounds_toArray, List.set_cons_zero, List.set_cons_succ, i64_w, i32_w]
                      rfl
                    refine pure_ (i := 8) (N := some 38) (v := ?_) (a' := ?_) #[true, true, true, true, true, true, true, false, true, false, false, false, false, false, false, false] rfl rfl (any_of HT_.out (by kernel_rfl)) (fun _ _ _ h => h) (Or.inl ⟨by rfl, ?_⟩) ?_ ?_
                    rotate_left
                    · intro w'
                      go_simp
                      with_reducible rfl
                    rotate_left
                    · simp only [Act.put, List.setIfInBounds_toArray, List.set_cons_zero, List.set_cons_succ, i64_w, i32_w]
                      rfl
                    refine pure_ (i := 9) (N := some 39) (v := ?_) (a' := ?_) #[true, true, true, true, true, true, true, false, true, true, false, false, false, false, false, false] rfl rfl (any_of HT_.out (by kernel_rfl)) (fun _ _ _ h => h) (Or.inl ⟨by rfl, ?_⟩) ?_ ?_
                    rotate_left
                    · intro w'
                      go_simp
                      with_reducible rfl
                    rotate_left
                    · simp only [Act.put, List.setIfInBounds_toArray, List.set_cons_zero, List.set_cons_succ, i64_w, i32_w]
                      rfl
                    refine pure_ (i := 10) (N := some 40) (v := ?_) (a' := ?_) #[true, true, true, true, true, true, true, false, true, true, true, false, false, false, false, false] rfl rfl (any_of HT_.out (by kernel_rfl)) (fun _ _ _ h => h) (Or.inl ⟨by rfl, ?_⟩) ?_ ?_
                    rotate_left
                    · intro w'
                      go_simp
                      with_reducible rfl
                    rotate_left
                    · simp only [Act.put, List.setIfInBounds_toArray, List.set_cons_zero, List.set_cons_succ, i64_w, i32_w]
                      rfl
                    refine take_ (i := 7) (N := some 37) (v := ?_) (a' := ?_) #[true, true, true, true, true, true, true, true, true, true, true, false, false, false, false, false] rfl rfl (take_ofW HT_.out HW_.out (by kernel_rfl)) (fun _ _ _ h => h) (Or.inl ⟨by rfl, ?_⟩) hHeld ?_ ?_
                    rotate_left
                    · rintro w' ⟨s0, s1⟩
                      go_simp
                      with_reducible rfl
                    rotate_left
                    · simp only [Act.put, List.setIfInBounds_toArray, List.set_cons_zero, List.set_cons_succ, i64_w, i32_w]
                      rfl
                    refine take_ (i := 11) (N := some 41) (v := ?_) (a' := ?_) #[true, true, true, true, true, true, true, true, true, true, true, true, false, false, false, false] rfl rfl (take_ofW HT_.out HW_.out (by kernel_rfl)) (fun _ _ _ h => h) (Or.inl ⟨by rfl, ?_⟩) hHeld ?_ ?_
                    rotate_left
                    · rintro w' ⟨s0, s1⟩
                      go_simp
                      with_reducible rfl
                    rotate_left
                    · simp only [Act.put, List.setIfInBounds_toArray, List.set_cons_zero, List.set_cons_succ, i64_w, i32_w]
                      rfl
                    refine pure_ (i := 12) (N := some 42) (v := ?_) (a' := ?_) #[true, true, true, true, true, true, true, true, true, true, true, true, true, false, false, false] rfl rfl (any_of HT_.out (by kernel_rfl)) (fun _ _ _ h => h) (Or.inl ⟨by rfl, ?_⟩) ?_ ?_
                    rotate_left
                    · intro w'
                      go_simp
                      with_reducible rfl
                    rotate_left
                    · simp only [Act.put, List.setIfInBounds_toArray, List.set_cons_zero, List.set_cons_succ, i64_w, i32_w]
                      rfl
                    refine last_ (i := 13) (N := none) #[true, true, true, true, true, true, true, true, true, true, true, true, true, true, false, false] rfl rfl (one_of HT_.out (by kernel_rfl)) (by decide) (fun K hK => ?_)
                    refine skip_ (w1 := ?_) (by rfl) rfl ?_ ?_
                    rotate_left
                    · go_simp
                      rfl
                    refine hK.out _ _ ?_
                    clear hK K
                    refine pure_ (i := 14) (N := some 43) (v := ?_) (a' := ?_) #[true, true, true, true, true, true, true, true, true, true, true, true, true, true, true, false] rfl rfl (any_of HT_.out (by kernel_rfl)) (fun _ _ _ h => h) (Or.inl ⟨by rfl, ?_⟩) ?_ ?_
                    rotate_left
                    · intro w'
                      go_simp
                      with_reducible rfl
                    rotate_left
                    · simp only [Act.put, List.setIfInBounds_toArray, List.set_cons_zero, List.set_cons_succ, i64_w, i32_w]
                      rfl
                    refine last_ (i := 15) (N := none) #[true, true, true, true, true, true, true, true, true, true, true, true, true, true, true, true] rfl rfl (one_of HT_.out (by kernel_rfl)) (by decide) (fun K hK => ?_)
                    refine skip_ (w1 := ?_) (by rfl) rfl ?_ ?_
                    rotate_left
                    · go_simp
                      rfl
                    refine hK.out _ _ ?_
                    clear hK K
                    refine done_ (done_of HT_.out (by kernel_rfl)) ?_
                    try go_wp2
                    (try simp only [← hl5_1])
                    go_roundg k1
                    case measure => have := HK1.out; omega
                    case rel => exact ⟨(y113), (wrap64 (x6_1 - 1)), (by first | rfl | (simp; done) | (simp [*]; done)), H', ⟨by have := HK1.out; omega⟩, ⟨by (try simp only [hl5_1]); (with_reducible repeat (first | apply Kd.R_alloc | apply Kd.R_drewN | apply Kd.R_drew)); exact HQ19.out⟩, ⟨by repeat (first | (with_reducible first | exact HB.out | apply below_alloc | apply pw_below_drewN | apply below_drew1 | refine below_set ?_ GB15.out | refine below_set ?_ GB15.out) | exact HB.out)⟩⟩
                  · rw [if_neg c14] at H
                    exact absurd H (by simp)
                · rw [if_neg c13] at H
                  exact absurd H (by simp)
              · rw [if_neg c12] at H
                exact absurd H (by simp)
            · rw [if_neg c10] at H
              exact absurd H (by simp)
          · rw [if_neg c9] at H
            have c9b0 : decide (x6_1 < (l1.length : Int)) = false := decide_eq_false c9
            clear c9
            by_cases c20 : 0 ≤ x6_1
            · rw [if_pos c20] at H
              have c20b0 : decide (0 ≤ x6_1) = true := decide_eq_true c20
              clear c20
              by_cases c21 : x6_1 < (x5_1.length : Int)
              · rw [if_pos c21] at H
                have c21b0 : decide (x6_1 < (x5_1.length : Int)) = true := decide_eq_true c21
                clear c21
                obtain ⟨y116, hy116⟩ : ∃ y_ : List ByteArray, y_ = (x5_1.set (x6_1 : Int).toNat (rdOf ByteArray.empty x5_1 x6_1)) := ⟨_, rfl⟩
                replace H : (laws_shuffle.l0 k1 l1 (y116.set (x6_1 : Int).toNat (rdOf ByteArray.empty x5_1 x6_1)) (wrap64 (x6_1 - 1))) = some r := by first | (rw [hy116]; with_reducible exact H) | (have H2_ := (Option.bind_some _ _).symm.trans H; rw [hy116]; with_reducible exact H2_) | (have H2_ := (Option.bind_some _ _).symm.trans H; with_reducible exact H2_) | with_reducible exact H | (rw [hy116]; exact H) | exact H
                have Ny116 := Aside0.mk hy116
                clear hy116
                obtain ⟨y117, hy117⟩ : ∃ y_ : List ByteArray, y_ = (y116.set (x6_1 : Int).toNat (rdOf ByteArray.empty x5_1 x6_1)) := ⟨_, rfl⟩
                replace H : (laws_shuffle.l0 k1 l1 y117 (wrap64 (x6_1 - 1))) = some r := by first | (rw [hy117]; with_reducible exact H) | (have H2_ := (Option.bind_some _ _).symm.trans H; rw [hy117]; with_reducible exact H2_) | (have H2_ := (Option.bind_some _ _).symm.trans H; with_reducible exact H2_) | with_reducible exact H | (rw [hy117]; exact H) | exact H
                have Ny117 := Aside0.mk hy117
                clear hy117
                have H' := Aside0.mk H
                clear H
                try go_wp2
                have n0_ := Aside0.mk (Kd.R_drew HO_5.out)
                have n1_ := Aside0.mk (below_drew1 HB.out)
                clear HO_5
                clear HB
                have HO_5 := n0_
                have HB := n1_
                clear n0_ n1_
                have p114 : 0 ≤ (x6_1 : Int) := of_decide_eq_true (by first | (with_reducible assumption) | assumption)
                have q114 : x6_1 < (x5_1.length : Int) := of_decide_eq_true (by first | (with_reducible assumption) | assumption)
                obtain ⟨ad114, e114, hx114_0⟩ := Kd.at_string (Kd.R_reads' HO_5.out).2.2 x6_1 p114 q114
                cases e114
                replace p114 := eq_true p114
                replace q114 := eq_true q114
                have p115 : 0 ≤ (x6_1 : Int) := of_decide_eq_true (by first | (with_reducible assumption) | assumption)
                have q115 : x6_1 < (x5_1.length : Int) := of_decide_eq_true (by first | (with_reducible assumption) | assumption)
                obtain ⟨ad115, e115, hx115_0⟩ := Kd.at_string (Kd.R_reads' HO_5.out).2.2 x6_1 p115 q115
                obtain rfl : ad114 = ad115 := (by injection e115)
                replace p115 := eq_true p115
                replace q115 := eq_true q115
                have p22 : 0 ≤ (x6_1 : Int) := of_decide_eq_true (by first | (with_reducible assumption) | assumption)
                have q22 : (x6_1 : Int) < ((x5_1.length : Int) : Int) := of_decide_eq_true (by first | (with_reducible assumption) | assumption)
                obtain ⟨go22, co22, eo22, gb22, gl22, cl22, HG22⟩ := Kd.R_form HO_5.out (by omega)
                (first | cases eo22 | (injection eo22 with ea_ en_ ec_; (first | subst ea_ | (injection ea_ with ea_; subst ea_)); subst ec_; clear en_))
                have GB22 := Aside0.mk gb22
                have GG22 := Aside0.mk HG22
                clear gb22 gl22 HG22
                (first | simp only [add_plain] at hx114_0 | skip)
                (first | simp only [add_plain] at hx115_0 | skip)
                obtain ⟨hx22_0, hf22_0⟩ := Kd.R_celln (⟨#[]⟩ : ByteArray) HO_5.out (x6_1 : Int) p22 q22
                replace p22 := eq_true p22
                replace q22 := eq_true q22
                have HP25 := Kd.R_putn HO_5.out (x6_1 : Int) (rdOf ByteArray.empty x5_1 x6_1)
                rw [← Ny116.out] at HP25
                have HQ25 := Aside0.mk HP25
                clear HP25
                have p23 : 0 ≤ (x6_1 : Int) := of_decide_eq_true (by first | (with_reducible assumption) | assumption)
                have q23 : (x6_1 : Int) < ((x5_1.length : Int) : Int) := of_decide_eq_true (by first | (with_reducible assumption) | assumption)
                replace p23 := eq_true p23
                replace q23 := eq_true q23
                have HP26 := Kd.R_putn HQ25.out (x6_1 : Int) (rdOf ByteArray.empty x5_1 x6_1)
                rw [← Ny117.out] at HP26
                have HQ26 := Aside0.mk HP26
                clear HP26
                refine start_ (n := 16) (S := fun w' => w'.cell? ⟨go22, (x6_1).toNat, none⟩ = some (.string (rdOf ByteArray.empty x5_1 x6_1)) ∧ w'.cell? ⟨go22, (x6_1).toNat, none⟩ = some (.string (rdOf ByteArray.empty x5_1 x6_1))) (ds := [13, 15]) #[false, false, false, false, false, false, false, false, false, false, false, false, false, false, false, false] (by kernel_rfl) rfl rfl ⟨hx114_0, hx115_0⟩ (fun hHeld => ?_); refine with_tabW laws_shuffle.tab8 laws_shuffle.bits8 (fun HT_ HW_ => ?_)
                generalize wr.drew = w24 at HO_5 HB GG22 HQ25 HQ26 hf22_0 hx114_0 hx115_0 hx22_0 hHeld ⊢
                refine pure_ (i := 0) (N := some 30) (v := ?_) (a' := ?_) #[true, false, false, false, false, false, false, false, false, false, false, false, false, false, false, false] rfl rfl (any_of HT_.out (by kernel_rfl)) (fun _ _ _ h => h) (Or.inl ⟨by rfl, ?_⟩) ?_ ?_
                rotate_left
                · intro w'
                  go_simp
                  with_reducible rfl
                rotate_left
                · simp only [Act.put, List.setIfInBounds_toArray, List.set_cons_zero, List.set_cons_succ, i64_w, i32_w]
                  rfl
                refine pure_ (i := 1) (N := some 31) (v := ?_) (a' := ?_) #[true, true, false, false, false, false, false, false, false, false, false, false, false, false, false, false] rfl rfl (any_of HT_.out (by kernel_rfl)) (fun _ _ _ h => h) (Or.inl ⟨by rfl, ?_⟩) ?_ ?_
                rotate_left
                · intro w'
                  go_simp
                  with_reducible rfl
                rotate_left
                · simp only [Act.put, List.setIfInBounds_toArray, List.set_cons_zero, List.set_cons_succ, i64_w, i32_w]
                  rfl
                refine pure_ (i := 2) (N := some 32) (v := ?_) (a' := ?_) #[true, true, true, false, false, false, false, false, false, false, false, false, false, false, false, false] rfl rfl (any_of HT_.out (by kernel_rfl)) (fun _ _ _ h => h) (Or.inl ⟨by rfl, ?_⟩) ?_ ?_
                rotate_left
                · intro w'
                  go_simp
                  with_reducible rfl
                rotate_left
                · simp only [Act.put, List.setIfInBounds_toArray, List.set_cons_zero, List.set_cons_succ, i64_w, i32_w]
                  rfl
                refine pure_ (i := 3) (N := some 33) (v := ?_) (a' := ?_) #[true, true, true, true, false, false, false, false, false, false, false, false, false, false, false, false] rfl rfl (any_of HT_.out (by kernel_rfl)) (fun _ _ _ h => h) (Or.inl ⟨by rfl, ?_⟩) ?_ ?_
                rotate_left
                · intro w'
                  go_simp
                  with_reducible rfl
                rotate_left
                · simp only [Act.put, List.setIfInBounds_toArray, List.set_cons_zero, List.set_cons_succ, i64_w, i32_w]
                  rfl
                refine pure_ (i := 4) (N := some 34) (v := ?_) (a' := ?_) #[true, true, true, true, true, false, false, false, false, false, false, false, false, false, false, false] rfl rfl (any_of HT_.out (by kernel_rfl)) (fun _ _ _ h => h) (Or.inl ⟨by rfl, ?_⟩) ?_ ?_
                rotate_left
                · intro w'
                  go_simp
                  with_reducible rfl
                rotate_left
                · simp only [Act.put, List.setIfInBounds_toArray, List.set_cons_zero, List.set_cons_succ, i64_w, i32_w]
                  rfl
                refine pure_ (i := 5) (N := some 35) (v := ?_) (a' := ?_) #[true, true, true, true, true, true, false, false, false, false, false, false, false, false, false, false] rfl rfl (any_of HT_.out (by kernel_rfl)) (fun _ _ _ h => h) (Or.inl ⟨by rfl, ?_⟩) ?_ ?_
                rotate_left
                · intro w'
                  go_simp
                  with_reducible rfl
                rotate_left
                · simp only [Act.put, List.setIfInBounds_toArray, List.set_cons_zero, List.set_cons_succ, i64_w, i32_w]
                  rfl
                refine pure_ (i := 6) (N := some 36) (v := ?_) (a' := ?_) #[true, true, true, true, true, true, true, false, false, false, false, false, false, false, false, false] rfl rfl (any_of HT_.out (by kernel_rfl)) (fun _ _ _ h => h) (Or.inl ⟨by rfl, ?_⟩) ?_ ?_
                rotate_left
                · intro w'
                  go_simp
                  with_reducible rfl
                rotate_left
                · simp only [Act.put, List.setIfInBounds_toArray, List.set_cons_zero, List.set_cons_succ, i64_w, i32_w]
                  rfl
                refine pure_ (i := 8) (N := some 38) (v := ?_) (a' := ?_) #[true, true, true, true, true, true, true, false, true, false, false, false, false, false, false, false] rfl rfl (any_of HT_.out (by kernel_rfl)) (fun _ _ _ h => h) (Or.inl ⟨by rfl, ?_⟩) ?_ ?_
                rotate_left
                · intro w'
                  go_simp
                  with_reducible rfl
                rotate_left
                · simp only [Act.put, List.setIfInBounds_toArray, List.set_cons_zero, List.set_cons_succ, i64_w, i32_w]
                  rfl
                refine pure_ (i := 9) (N := some 39) (v := ?_) (a' := ?_) #[true, true, true, true, true, true, true, false, true, true, false, false, false, false, false, false] rfl rfl (any_of HT_.out (by kernel_rfl)) (fun _ _ _ h => h) (Or.inl ⟨by rfl, ?_⟩) ?_ ?_
                rotate_left
                · intro w'
                  go_simp
                  with_reducible rfl
                rotate_left
                · simp only [Act.put, List.setIfInBounds_toArray, List.set_cons_zero, List.set_cons_succ, i64_w, i32_w]
                  rfl
                refine pure_ (i := 10) (N := some 40) (v := ?_) (a' := ?_) #[true, true, true, true, true, true, true, false, true, true, true, false, false, false, false, false] rfl rfl (any_of HT_.out (by kernel_rfl)) (fun _ _ _ h => h) (Or.inl ⟨by rfl, ?_⟩) ?_ ?_
                rotate_left
                · intro w'
                  go_simp
                  with_reducible rfl
                rotate_left
                · simp only [Act.put, List.setIfInBounds_toArray, List.set_cons_zero, List.set_cons_succ, i64_w, i32_w]
                  rfl
                refine take_ (i := 7) (N := some 37) (v := ?_) (a' := ?_) #[true, true, true, true, true, true, true, true, true, true, true, false, false, false, false, false] rfl rfl (take_ofW HT_.out HW_.out (by kernel_rfl)) (fun _ _ _ h => h) (Or.inl ⟨by rfl, ?_⟩) hHeld ?_ ?_
                rotate_left
                · rintro w' ⟨s0, s1⟩
                  go_simp
                  with_reducible rfl
                rotate_left
                · simp only [Act.put, List.setIfInBounds_toArray, List.set_cons_zero, List.set_cons_succ, i64_w, i32_w]
                  rfl
                refine take_ (i := 11) (N := some 41) (v := ?_) (a' := ?_) #[true, true, true, true, true, true, true, true, true, true, true, true, false, false, false, false] rfl rfl (take_ofW HT_.out HW_.out (by kernel_rfl)) (fun _ _ _ h => h) (Or.inl ⟨by rfl, ?_⟩) hHeld ?_ ?_
                rotate_left
                · rintro w' ⟨s0, s1⟩
                  go_simp
                  with_reducible rfl
                rotate_left
                · simp only [Act.put, List.setIfInBounds_toArray, List.set_cons_zero, List.set_cons_succ, i64_w, i32_w]
                  rfl
                refine pure_ (i := 12) (N := some 42) (v := ?_) (a' := ?_) #[true, true, true, true, true, true, true, true, true, true, true, true, true, false, false, false] rfl rfl (any_of HT_.out (by kernel_rfl)) (fun _ _ _ h => h) (Or.inl ⟨by rfl, ?_⟩) ?_ ?_
                rotate_left
                · intro w'
                  go_simp
                  with_reducible rfl
                rotate_left
                · simp only [Act.put, List.setIfInBounds_toArray, List.set_cons_zero, List.set_cons_succ, i64_w, i32_w]
                  rfl
                refine last_ (i := 13) (N := none) #[true, true, true, true, true, true, true, true, true, true, true, true, true, true, false, false] rfl rfl (one_of HT_.out (by kernel_rfl)) (by decide) (fun K hK => ?_)
                refine skip_ (w1 := ?_) (by rfl) rfl ?_ ?_
                rotate_left
                · go_simp
                  rfl
                refine hK.out _ _ ?_
                clear hK K
                refine pure_ (i := 14) (N := some 43) (v := ?_) (a' := ?_) #[true, true, true, true, true, true, true, true, true, true, true, true, true, true, true, false] rfl rfl (any_of HT_.out (by kernel_rfl)) (fun _ _ _ h => h) (Or.inl ⟨by rfl, ?_⟩) ?_ ?_
                rotate_left
                · intro w'
                  go_simp
                  with_reducible rfl
                rotate_left
                · simp only [Act.put, List.setIfInBounds_toArray, List.set_cons_zero, List.set_cons_succ, i64_w, i32_w]
                  rfl
                refine last_ (i := 15) (N := none) #[true, true, true, true, true, true, true, true, true, true, true, true, true, true, true, true] rfl rfl (one_of HT_.out (by kernel_rfl)) (by decide) (fun K hK => ?_)
                refine skip_ (w1 := ?_) (by rfl) rfl ?_ ?_
                rotate_left
                · go_simp
                  rfl
                refine hK.out _ _ ?_
                clear hK K
                refine done_ (done_of HT_.out (by kernel_rfl)) ?_
                try go_wp2
                (try simp only [← hl5_1])
                go_roundg k1
                case measure => have := HK1.out; omega
                case rel => exact ⟨(y117), (wrap64 (x6_1 - 1)), (by first | rfl | (simp; done) | (simp [*]; done)), H', ⟨by have := HK1.out; omega⟩, ⟨by (try simp only [hl5_1]); (with_reducible repeat (first | apply Kd.R_alloc | apply Kd.R_drewN | apply Kd.R_drew)); exact HQ26.out⟩, ⟨by repeat (first | (with_reducible first | exact HB.out | apply below_alloc | apply pw_below_drewN | apply below_drew1 | refine below_set ?_ GB22.out | refine below_set ?_ GB22.out) | exact HB.out)⟩⟩
              · rw [if_neg c21] at H
                exact absurd H (by simp)
            · rw [if_neg c20] at H
              exact absurd H (by simp)
        · rw [if_neg c8] at H
          have c8b0 : decide (0 < x6_1) = false := decide_eq_false c8
          clear c8
          obtain rfl := Option.some.inj H
          go_wp2
          go_ret
          exact ⟨_, by first | rfl | (simp [errW_none, errW_some] <;> rfl) | (simp [*, errW_none, errW_some] <;> rfl), by (with_reducible repeat (first | apply Kd.R_alloc | apply Kd.R_drewN | apply Kd.R_drew)); exact HO_5.out, by repeat (first | (with_reducible first | exact HB.out | apply below_alloc | apply pw_below_drewN | apply below_drew1) | exact HB.out)⟩
  · rw [if_neg c3] at H
    exact absurd H (by simp)

/-! ### laws_big: function 24 -/
def laws_big.l0 : Nat → Int → Int → List Int → Int → Int → Option (ByteArray)
  | 0, _, _, _, _, _ => none
  | k + 1, x0, x1, x5, x10, x11 => if x11 < x10 then (if 0 ≤ (wrap64 (8 * x11)) then (if 0 ≤ (wrap64 ((wrap64 (x1 - 1)) - x11)) then (if (wrap64 ((wrap64 (x1 - 1)) - x11)) < (x5.length : Int) then (laws_big.l0 k x0 x1 (x5.set ((wrap64 ((wrap64 (x1 - 1)) - x11)) : Int).toNat ((shr .u64 x0 (wrap64 (8 * x11))) % 256)) x10 (wrap64 (x11 + 1))) else (none)) else (none)) else (none)) else (some (strOfNums x5))
def laws_big.f (k : Nat) (a0 : Int) (a1 : Int) : Option (ByteArray) := if 0 ≤ a1 then (if (a1 : Int).toNat ≤ 281474976710656 then ((some (List.replicate (a1 : Int).toNat 0 : List Int)).bind fun y118 => (laws_big.l0 k a0 a1 y118 (y118.length : Int) 0)) else (none)) else (none)
theorem laws_big.mono_l : ∀ k, (∀ y0 y1 y2 y3 y4, LeO (laws_big.l0 k y0 y1 y2 y3 y4) (laws_big.l0 (k + 1) y0 y1 y2 y3 y4))
  | 0 => fun _ _ _ _ _ r h => by simp [laws_big.l0] at h
  | k + 1 => by
    have ih0 := laws_big.mono_l k
    · intro y0 y1 y2 y3 y4
      unfold laws_big.l0
      repeat' first
      | (with_reducible exact ih0 _ _ _ _ _)
      | (with_reducible exact LeO.refl _)
      | (with_reducible exact LeO.none _)
      | (with_reducible refine LeO.ite ?_ ?_)
      | (with_reducible refine LeO.bind ?_ (fun _ => ?_))
      | exact ih0 _ _ _ _ _
      | exact LeO.none _
      | refine LeO.ite ?_ ?_
      | refine LeO.bind ?_ (fun _ => ?_)
theorem laws_big.mono : ∀ a0 a1 k, LeO (laws_big.f k a0 a1) (laws_big.f (k + 1) a0 a1) := by
  intro a0 a1 k
  have ih0 := laws_big.mono_l k
  unfold laws_big.f
  repeat' first
      | (with_reducible exact ih0 _ _ _ _ _)
      | (with_reducible exact LeO.refl _)
      | (with_reducible exact LeO.none _)
      | (with_reducible refine LeO.ite ?_ ?_)
      | (with_reducible refine LeO.bind ?_ (fun _ => ?_))
      | exact ih0 _ _ _ _ _
      | exact LeO.none _
      | refine LeO.ite ?_ ?_
      | refine LeO.bind ?_ (fun _ => ?_)
set_option maxHeartbeats 8000000 in
set_option maxRecDepth 100000 in
theorem laws_big.calls (k : Nat) (a0 : Int) (a1 : Int) (r : ByteArray) (w : World) (h : laws_big.f k a0 a1 = some r) :
    Calls Tryd.prog 24 #[.int .u64 a0, .int .i64 a1] w fun e w' => e = .returned (.string r) ∧ Below w.heap.size w w' := by
  have HB := Aside0.mk (Below.refl w.heap.size w)
  have H : (if 0 ≤ a1 then (if (a1 : Int).toNat ≤ 281474976710656 then ((some (List.replicate (a1 : Int).toNat 0 : List Int)).bind fun y118 => (laws_big.l0 k a0 a1 y118 (y118.length : Int) 0)) else (none)) else (none)) = some r := h
  clear h
  by_cases c3 : 0 ≤ a1
  · rw [if_pos c3] at H
    have c3b0 := eq_true c3
    have c3b1 : decide (0 ≤ a1) = true := decide_eq_true c3
    clear c3
    by_cases c4 : (a1 : Int).toNat ≤ 281474976710656
    · rw [if_pos c4] at H
      have c4b0 := eq_true c4
      have c4b1 : decide ((a1 : Int).toNat ≤ 281474976710656) = true := decide_eq_true c4
      clear c4
      obtain ⟨y118, hy118⟩ : ∃ y_ : List Int, y_ = (List.replicate (a1 : Int).toNat 0) := ⟨_, rfl⟩
      replace H : (laws_big.l0 k a0 a1 y118 (y118.length : Int) 0) = some r := by first | (rw [hy118]; with_reducible exact H) | (have H2_ := (Option.bind_some _ _).symm.trans H; rw [hy118]; with_reducible exact H2_) | (have H2_ := (Option.bind_some _ _).symm.trans H; with_reducible exact H2_) | with_reducible exact H | (rw [hy118]; exact H) | exact H
      have Ny118 := Aside0.mk hy118
      clear hy118
      have H' := Aside0.mk H
      clear H
      go_enter Tryd.func24, Tryd.ntmps24
      go_wp2_with (first | ((with_reducible refine gate_dst (N := 8) rfl ?_); refine Kd.R_make (Kd.int .u8) _ 5 rfl (N := 8) rfl 59 _ _ rfl a1 rfl rfl Tryd.underlying59 (.int .u8 0) 1 info5 rfl (by decide) (by omega) 0 (ok := fun _ => True) (okp := fun _ => True) rfl (fun _ hk => hk) trivial (of_decide_eq_true (by first | (with_reducible assumption) | assumption)) (Nat.le_trans (Nat.mul_le_mul_right _ (of_decide_eq_true (by first | (with_reducible assumption) | assumption) : a1.toNat ≤ 281474976710656)) (by omega)) (Below.refl _ _) (Nat.le_refl _) ?_; intro v119 w5 ho6 hb hg_ hnew_; clear hg_ hnew_; (first | rw [← Ny118.out] at ho6 | (simp only [Int.reduceToNat] at ho6; rw [← Ny118.out] at ho6)); have n0_ := Aside0.mk (Kd.R_lower ho6 (below_size (by repeat (first | (with_reducible first | exact HB.out | apply below_alloc | apply pw_below_drewN | apply below_drew1) | exact HB.out)))); have n1_ := Aside0.mk (below_step (by repeat (first | (with_reducible first | exact HB.out | apply below_alloc | apply pw_below_drewN | apply below_drew1) | exact HB.out)) hb); clear HB; have HO120 := n0_; have HB := n1_; clear n0_ n1_; clear hb ho6; obtain ⟨Ao7, co7, eo7⟩ := Kd.R_slice HO120.out; subst eo7))
      go_loopg [11] k (fun kq v11 w' => ∃ (x5_1 : List Int) (x11_1 : Int), v11 = .int .i64 x11_1 ∧ Aside0 (laws_big.l0 kq a0 a1 x5_1 (y118.length : Int) x11_1 = some r) ∧ Aside0 (kq ≤ k) ∧ Aside0 (Kd.R (Kd.int .u8) 5 w' w.heap.size (fun _ => True) (.slice Ao7 y118.length co7) x5_1) ∧ Aside0 (Below w.heap.size w w'))
      case atStart => exact ⟨(y118), (0), (by first | rfl | (simp; done) | (simp [*]; done)), H', ⟨Nat.le_refl _⟩, ⟨by (with_reducible repeat (first | apply Kd.R_alloc | apply Kd.R_drewN | apply Kd.R_drew)); exact HO120.out⟩, ⟨by repeat (first | (with_reducible first | exact HB.out | apply below_alloc | apply pw_below_drewN | apply below_drew1) | exact HB.out)⟩⟩
      case round =>
        clear H'
        try clear c2
        try clear p2
        try clear c3
        try clear c3b0
        try clear c3b1
        try clear c4
        try clear c4b0
        try clear c4b1
        obtain ⟨x5_1, x11_1, rfl, HA, HK1, HO_5, HB⟩ := hrel
        have hl5_1 := (Kd.R_reads' HO_5.out).1
        rw [hl5_1] at HO_5
        (try simp only [hl5_1])
        cases gk with
        | zero => exact absurd HA.out (by simp [laws_big.l0])
        | succ k1 =>
          have H := HA.out
          clear HA
          simp only [laws_big.l0] at H
          by_cases c8 : x11_1 < (y118.length : Int)
          · rw [if_pos c8] at H
            have c8b0 : decide (x11_1 < (y118.length : Int)) = true := decide_eq_true c8
            have c8b1_ := c8b0
            (try rw [hl5_1] at c8b1_)
            clear c8
            obtain ⟨ji9, hji9⟩ : ∃ j_ : Int, (wrap64 (8 * x11_1)) = j_ := ⟨_, rfl⟩
            replace H : (if 0 ≤ (ji9) then (if 0 ≤ (wrap64 ((wrap64 (a1 - 1)) - x11_1)) then (if (wrap64 ((wrap64 (a1 - 1)) - x11_1)) < (x5_1.length : Int) then (laws_big.l0 k1 a0 a1 (x5_1.set ((wrap64 ((wrap64 (a1 - 1)) - x11_1)) : Int).toNat ((shr .u64 a0 (ji9)) % 256)) (y118.length : Int) (wrap64 (x11_1 + 1))) else (none)) else (none)) else (none)) = some r := by first | (rw [hji9] at H; exact H) | (simp only [hji9] at H ⊢; exact H)
            have hji9w : (IntKind.i64.wrap (8 * x11_1)) = ji9 := (i64_w _).trans hji9
            by_cases c10 : 0 ≤ (ji9)
            · rw [if_pos c10] at H
              have c10b0 := eq_true c10
              have c10b1 : decide (0 ≤ (ji9)) = true := decide_eq_true c10
              clear c10
              obtain ⟨ji11, hji11⟩ : ∃ j_ : Int, (shr .u64 a0 (ji9)) = j_ := ⟨_, rfl⟩
              replace H : (if 0 ≤ (wrap64 ((wrap64 (a1 - 1)) - x11_1)) then (if (wrap64 ((wrap64 (a1 - 1)) - x11_1)) < (x5_1.length : Int) then (laws_big.l0 k1 a0 a1 (x5_1.set ((wrap64 ((wrap64 (a1 - 1)) - x11_1)) : Int).toNat ((ji11) % 256)) (y118.length : Int) (wrap64 (x11_1 + 1))) else (none)) else (none)) = some r := by first | (rw [hji11] at H; exact H) | (simp only [hji11] at H ⊢; exact H)
              have hji11_ : (a0 / 2 ^ min (ji9).toNat 64) = ji11 := hji11
              have hji11z : (ji9) ≤ 64 → (a0 / 2 ^ (ji9).toNat) = ji11 := shr_small hji11
              obtain ⟨ji12, hji12⟩ : ∃ j_ : Int, (wrap64 ((wrap64 (a1 - 1)) - x11_1)) = j_ := ⟨_, rfl⟩
              replace H : (if 0 ≤ (ji12) then (if (ji12) < (x5_1.length : Int) then (laws_big.l0 k1 a0 a1 (x5_1.set ((ji12) : Int).toNat ((ji11) % 256)) (y118.length : Int) (wrap64 (x11_1 + 1))) else (none)) else (none)) = some r := by first | (rw [hji12] at H; exact H) | (simp only [hji12] at H ⊢; exact H)
              have hji12w : (IntKind.i64.wrap ((wrap64 (a1 - 1)) - x11_1)) = ji12 := (i64_w _).trans hji12
              by_cases c13 : 0 ≤ (ji12)
              · rw [if_pos c13] at H
                have c13b0 : decide (0 ≤ (ji12)) = true := decide_eq_true c13
                clear c13
                by_cases c14 : (ji12) < (x5_1.length : Int)
                · rw [if_pos c14] at H
                  have c14b0 : decide ((ji12) < (x5_1.length : Int)) = true := decide_eq_true c14
                  clear c14
                  obtain ⟨y121, hy121⟩ : ∃ y_ : List Int, y_ = (x5_1.set ((ji12) : Int).toNat ((ji11) % 256)) := ⟨_, rfl⟩
                  replace H : (laws_big.l0 k1 a0 a1 y121 (y118.length : Int) (wrap64 (x11_1 + 1))) = some r := by first | (rw [hy121]; with_reducible exact H) | (have H2_ := (Option.bind_some _ _).symm.trans H; rw [hy121]; with_reducible exact H2_) | (have H2_ := (Option.bind_some _ _).symm.trans H; with_reducible exact H2_) | with_reducible exact H | (rw [hy121]; exact H) | exact H
                  have Ny121 := Aside0.mk hy121
                  clear hy121
                  have H' := Aside0.mk H
                  clear H
                  have p15 : 0 ≤ ((ji12) : Int) := of_decide_eq_true (by first | (with_reducible assumption) | assumption)
                  have q15 : ((ji12) : Int) < ((x5_1.length : Int) : Int) := of_decide_eq_true (by first | (with_reducible assumption) | assumption)
                  obtain ⟨go15, co15, eo15, gb15, gl15, cl15, HG15⟩ := Kd.R_form HO_5.out (by omega)
                  (first | cases eo15 | (injection eo15 with ea_ en_ ec_; (first | subst ea_ | (injection ea_ with ea_; subst ea_)); subst ec_; clear en_))
                  have GB15 := Aside0.mk gb15
                  have GG15 := Aside0.mk HG15
                  clear gb15 gl15 HG15
                  obtain ⟨hx15_0, hf15_0⟩ := Kd.R_celln 0 HO_5.out ((ji12) : Int) p15 q15
                  replace p15 := eq_true p15
                  replace q15 := eq_true q15
                  have HP16 := Kd.R_putg HO_5.out ((ji12) : Int) ((ji11) % 256)
                  go_wp2_with (first | ((with_reducible refine gate_store (t := 5) (p := 24) rfl ?_); refine store_event (t := 5) (p := 24) (v := ?vo_w17) (w1 := (wr.setCell ⟨go15, ((ji12) : Int).toNat, none⟩ (.int .u8 ((ji11) % 256)))) ?hg ?ho ?hn ?hr ?_; (case ho => rfl); (case hg => rfl); (case hn => rfl); (case hr => first | (go_simp; done) | (go_simp; rfl)); intro w17 hw; have hg : wr.grownBy w17 (some go15) := (by rw [hw]; exact HP16.2); have hp_ : Kd.R (Kd.int .u8) 5 w17 w.heap.size (fun _ => True) (.slice (some ⟨go15, 0, none⟩) x5_1.length co7) y121 := (by rw [hw, Ny121.out]; exact HP16.1); clear HP16; have n0_ := Aside0.mk (hp_); have n1_ := Aside0.mk ((by rw [hw]; exact below_set (HB.out) GB15.out : Below w.heap.size w w17)); clear HO_5; clear HB; have HO_5 := n0_; have HB := n1_; clear n0_ n1_; clear hg hw hp_))
                  (try simp only [← hl5_1])
                  go_roundg k1
                  case measure => have := HK1.out; omega
                  case rel => exact ⟨(y121), (wrap64 (x11_1 + 1)), (by first | rfl | (simp; done) | (simp [*]; done)), H', ⟨by have := HK1.out; omega⟩, ⟨by (try simp only [hl5_1]); (with_reducible repeat (first | apply Kd.R_alloc | apply Kd.R_drewN | apply Kd.R_drew)); exact HO_5.out⟩, ⟨by repeat (first | (with_reducible first | exact HB.out | apply below_alloc | apply pw_below_drewN | apply below_drew1) | exact HB.out)⟩⟩
                · rw [if_neg c14] at H
                  exact absurd H (by simp)
              · rw [if_neg c13] at H
                exact absurd H (by simp)
            · rw [if_neg c10] at H
              exact absurd H (by simp)
          · rw [if_neg c8] at H
            have c8b0 : decide (x11_1 < (y118.length : Int)) = false := decide_eq_false c8
            have c8b1_ := c8b0
            (try rw [hl5_1] at c8b1_)
            clear c8
            obtain rfl := Option.some.inj H
            have hcv18 := own_string (P := Tryd.prog) Tryd.underlying59 Tryd.underlying5 Tryd.underlying9 (Kd.own_of_R HO_5.out)
            go_wp2
            go_ret
            exact ⟨by first | rfl | (simp [errW_none, errW_some] <;> rfl) | (simp [*, errW_none, errW_some] <;> rfl), by repeat (first | (with_reducible first | exact HB.out | apply below_alloc | apply pw_below_drewN | apply below_drew1) | exact HB.out)⟩
    · rw [if_neg c4] at H
      exact absurd H (by simp)
  · rw [if_neg c3] at H
    exact absurd H (by simp)

end Go.Proofs.YtjflijebcpcbmaaDoor.G
