/- What is proved: Go functions answer as the Lean functions of this text (written by a program of this session over the print of the kit). Conditions: those in the hypotheses. -/
import Derived.Test.YtaifkiafoebgcaaP0
import Derived.Test.YtaifkiafoebgcaaCompact
namespace Go.Proofs.Ytaifkiafoebgcaa.P
open Go.RowKit Go.Proofs.YtaifkiafoebgcaaW.PrintWords Go.Proofs.YtaifkiafoebgcaaW.PrintLast Go.Proofs.YtaifkiafoebgcaaW.PrintMore
attribute [local go_sem] max2_int min2_int max_two min_two max_three min_three max_four min_four   -- for this text's walks alone
set_option linter.unusedVariables false
set_option linter.unusedSimpArgs false

/-! ### laws_zzFits2: function 8 -/
def laws_zzFits2.l0 : Nat → List ByteArray → Int → Int → Option (Bool)
  | 0, _, _, _ => none
  | k + 1, x8, x9, x10 => if x10 < x9 then (if 0 ≤ x10 then (if x10 < (x8.length : Int) then (if ((rdOf ByteArray.empty x8 x10).size : Int) > 2147483647 then (some false) else (laws_zzFits2.l0 k x8 x9 (wrap64 (x10 + 1)))) else (none)) else (none)) else (some true)
def laws_zzFits2.f (k : Nat) (l0 : List ByteArray) : Option (Bool) := if (l0.length : Int) > 2147483647 then (some false) else (laws_zzFits2.l0 k l0 (l0.length : Int) 0)
theorem laws_zzFits2.mono_l : ∀ k, (∀ y0 y1 y2, LeO (laws_zzFits2.l0 k y0 y1 y2) (laws_zzFits2.l0 (k + 1) y0 y1 y2))
  | 0 => fun _ _ _ r h => by simp [laws_zzFits2.l0] at h
  | k + 1 => by
    have ih0 := laws_zzFits2.mono_l k
    · intro y0 y1 y2
      unfold laws_zzFits2.l0
      repeat' first
      | (with_reducible exact ih0 _ _ _)
      | (with_reducible exact LeO.refl _)
      | (with_reducible exact LeO.none _)
      | (with_reducible refine LeO.ite ?_ ?_)
      | (with_reducible refine LeO.bind ?_ (fun _ => ?_))
      | exact ih0 _ _ _
      | exact LeO.none _
      | refine LeO.ite ?_ ?_
      | refine LeO.bind ?_ (fun _ => ?_)
theorem laws_zzFits2.mono : ∀ a0 k, LeO (laws_zzFits2.f k a0) (laws_zzFits2.f (k + 1) a0) := by
  intro a0 k
  have ih0 := laws_zzFits2.mono_l k
  unfold laws_zzFits2.f
  repeat' first
      | (with_reducible exact ih0 _ _ _)
      | (with_reducible exact LeO.refl _)
      | (with_reducible exact LeO.none _)
      | (with_reducible refine LeO.ite ?_ ?_)
      | (with_reducible refine LeO.bind ?_ (fun _ => ?_))
      | exact ih0 _ _ _
      | exact LeO.none _
      | refine LeO.ite ?_ ?_
      | refine LeO.bind ?_ (fun _ => ?_)
set_option maxHeartbeats 8000000 in
set_option maxRecDepth 100000 in
theorem laws_zzFits2.calls (k : Nat) (A0 : Option Addr) (c0 : Nat) (l0 : List ByteArray) (r : Bool) (w : World) (hr0 : Kd.C Kd.string w A0 l0.length l0) (hc0 : l0.length ≤ c0) (h : laws_zzFits2.f k l0 = some r) :
    Calls Try.prog 8 #[.slice A0 l0.length c0] w fun e w' => e = .returned (.bool r) ∧ Drawn0 w w' := by
  have HR0 := Aside0.mk hr0
  have HC0 := Aside0.mk hc0
  clear hr0 hc0
  have H : (if (l0.length : Int) > 2147483647 then (some false) else (laws_zzFits2.l0 k l0 (l0.length : Int) 0)) = some r := h
  clear h
  by_cases c2 : (l0.length : Int) > 2147483647
  · rw [if_pos c2] at H
    have c2b0 : decide (2147483647 < (l0.length : Int)) = true := decide_eq_true c2
    have c2b1 : decide (2147483647 < l0.length) = true := decide_eq_true (by omega)
    clear c2
    obtain rfl := Option.some.inj H
    go_enter Try.func8, Try.ntmps8
    go_wp2
    go_ret
    exact ⟨by first | rfl | (simp; done) | (simp [*]; done), by repeat (first | exact Drawn0.refl _ | apply Drawn0.step)⟩
  · rw [if_neg c2] at H
    have c2b0 : decide (2147483647 < (l0.length : Int)) = false := decide_eq_false c2
    have c2b1 : decide (2147483647 < l0.length) = false := decide_eq_false (by omega)
    clear c2
    have H' := Aside0.mk H
    clear H
    go_enter Try.func8, Try.ntmps8
    go_wp2
    go_loopg [10] k (fun kq v10 w' => ∃ (x10_1 : Int), v10 = .int .i64 x10_1 ∧ Aside0 (laws_zzFits2.l0 kq l0 (l0.length : Int) x10_1 = some r) ∧ Aside0 (kq ≤ k) ∧ Drawn0 w w')
    case atStart => exact ⟨(0), (by first | rfl | (simp; done) | (simp [*]; done)), H', ⟨Nat.le_refl _⟩, by repeat (first | exact Drawn0.refl _ | apply Drawn0.step)⟩
    case round =>
      clear H'
      try clear c2
      try clear c2b0
      try clear c2b1
      try clear p2
      obtain ⟨x10_1, rfl, HA, HK1, ⟨m1, rfl⟩⟩ := hrel
      cases gk with
      | zero => exact absurd HA.out (by simp [laws_zzFits2.l0])
      | succ k1 =>
        have H := HA.out
        clear HA
        simp only [laws_zzFits2.l0] at H
        by_cases c3 : x10_1 < (l0.length : Int)
        · rw [if_pos c3] at H
          have c3b0 : decide (x10_1 < (l0.length : Int)) = true := decide_eq_true c3
          clear c3
          by_cases c4 : 0 ≤ x10_1
          · rw [if_pos c4] at H
            have c4b0 : decide (0 ≤ x10_1) = true := decide_eq_true c4
            clear c4
            by_cases c5 : x10_1 < (l0.length : Int)
            · rw [if_pos c5] at H
              have c5b0 : decide (x10_1 < (l0.length : Int)) = true := decide_eq_true c5
              clear c5
              by_cases c6 : ((rdOf ByteArray.empty l0 x10_1).size : Int) > 2147483647
              · rw [if_pos c6] at H
                have c6b0 : decide (2147483647 < ((rdOf ByteArray.empty l0 x10_1).size : Int)) = true := decide_eq_true c6
                have c6b1 : decide (2147483647 < (rdOf ByteArray.empty l0 x10_1).size) = true := decide_eq_true (by omega)
                clear c6
                obtain rfl := Option.some.inj H
                have p101 : 0 ≤ (x10_1 : Int) := of_decide_eq_true (by first | (with_reducible assumption) | assumption)
                have q101 : x10_1 < (l0.length : Int) := of_decide_eq_true (by first | (with_reducible assumption) | assumption)
                obtain ⟨ad101, e101, hx101_0⟩ := Kd.at_string HR0.out x10_1 p101 q101
                cases e101
                replace p101 := eq_true p101
                replace q101 := eq_true q101
                go_wp2
                go_ret
                exact ⟨by first | rfl | (simp; done) | (simp [*]; done), by repeat (first | exact Drawn0.refl _ | apply Drawn0.step)⟩
              · rw [if_neg c6] at H
                have c6b0 : decide (2147483647 < ((rdOf ByteArray.empty l0 x10_1).size : Int)) = false := decide_eq_false c6
                have c6b1 : decide (2147483647 < (rdOf ByteArray.empty l0 x10_1).size) = false := decide_eq_false (by omega)
                clear c6
                have H' := Aside0.mk H
                clear H
                have p101 : 0 ≤ (x10_1 : Int) := of_decide_eq_true (by first | (with_reducible assumption) | assumption)
                have q101 : x10_1 < (l0.length : Int) := of_decide_eq_true (by first | (with_reducible assumption) | assumption)
                obtain ⟨ad101, e101, hx101_0⟩ := Kd.at_string HR0.out x10_1 p101 q101
                cases e101
                replace p101 := eq_true p101
                replace q101 := eq_true q101
                go_wp2
                go_roundg k1
                case measure => have := HK1.out; omega
                case rel => exact ⟨(wrap64 (x10_1 + 1)), (by first | rfl | (simp; done) | (simp [*]; done)), H', ⟨by have := HK1.out; omega⟩, by repeat (first | exact Drawn0.refl _ | apply Drawn0.step)⟩
            · rw [if_neg c5] at H
              exact absurd H (by simp)
          · rw [if_neg c4] at H
            exact absurd H (by simp)
        · rw [if_neg c3] at H
          have c3b0 : decide (x10_1 < (l0.length : Int)) = false := decide_eq_false c3
          clear c3
          obtain rfl := Option.some.inj H
          go_wp2
          go_ret
          exact ⟨by first | rfl | (simp; done) | (simp [*]; done), by repeat (first | exact Drawn0.refl _ | apply Drawn0.step)⟩

/-! ### laws_few: function 9 -/
def laws_few.l0 : Nat → Int → List ByteArray → Int → Int → Option (Bool)
  | 0, _, _, _, _ => none
  | k + 1, x3, x8, x9, x10 => if x10 < x9 then (if 0 ≤ x10 then (if x10 < (x8.length : Int) then (laws_few.l0 k (wrap64 (x3 + ((rdOf ByteArray.empty x8 x10).size : Int))) x8 x9 (wrap64 (x10 + 1))) else (none)) else (none)) else (some (decide (x3 < 2000)))
def laws_few.f (k : Nat) (l0 : List ByteArray) : Option (Bool) := laws_few.l0 k (l0.length : Int) l0 (l0.length : Int) 0
theorem laws_few.mono_l : ∀ k, (∀ y0 y1 y2 y3, LeO (laws_few.l0 k y0 y1 y2 y3) (laws_few.l0 (k + 1) y0 y1 y2 y3))
  | 0 => fun _ _ _ _ r h => by simp [laws_few.l0] at h
  | k + 1 => by
    have ih0 := laws_few.mono_l k
    · intro y0 y1 y2 y3
      unfold laws_few.l0
      repeat' first
      | (with_reducible exact ih0 _ _ _ _)
      | (with_reducible exact LeO.refl _)
      | (with_reducible exact LeO.none _)
      | (with_reducible refine LeO.ite ?_ ?_)
      | (with_reducible refine LeO.bind ?_ (fun _ => ?_))
      | exact ih0 _ _ _ _
      | exact LeO.none _
      | refine LeO.ite ?_ ?_
      | refine LeO.bind ?_ (fun _ => ?_)
theorem laws_few.mono : ∀ a0 k, LeO (laws_few.f k a0) (laws_few.f (k + 1) a0) := by
  intro a0 k
  have ih0 := laws_few.mono_l k
  unfold laws_few.f
  repeat' first
      | (with_reducible exact ih0 _ _ _ _)
      | (with_reducible exact LeO.refl _)
      | (with_reducible exact LeO.none _)
      | (with_reducible refine LeO.ite ?_ ?_)
      | (with_reducible refine LeO.bind ?_ (fun _ => ?_))
      | exact ih0 _ _ _ _
      | exact LeO.none _
      | refine LeO.ite ?_ ?_
      | refine LeO.bind ?_ (fun _ => ?_)
set_option maxHeartbeats 8000000 in
set_option maxRecDepth 100000 in
theorem laws_few.calls (k : Nat) (A0 : Option Addr) (c0 : Nat) (l0 : List ByteArray) (r : Bool) (w : World) (hr0 : Kd.C Kd.string w A0 l0.length l0) (hc0 : l0.length ≤ c0) (h : laws_few.f k l0 = some r) :
    Calls Try.prog 9 #[.slice A0 l0.length c0] w fun e w' => e = .returned (.bool r) ∧ Drawn0 w w' := by
  have HR0 := Aside0.mk hr0
  have HC0 := Aside0.mk hc0
  clear hr0 hc0
  have H : (laws_few.l0 k (l0.length : Int) l0 (l0.length : Int) 0) = some r := h
  clear h
  have H' := Aside0.mk H
  clear H
  go_enter Try.func9, Try.ntmps9
  go_wp2
  go_loopg [3, 10] k (fun kq v3 v10 w' => ∃ (x3_1 : Int) (x10_1 : Int), v3 = .int .i64 x3_1 ∧ v10 = .int .i64 x10_1 ∧ Aside0 (laws_few.l0 kq x3_1 l0 (l0.length : Int) x10_1 = some r) ∧ Aside0 (kq ≤ k) ∧ Drawn0 w w')
  case atStart => exact ⟨((l0.length : Int)), (0), (by first | rfl | (simp; done) | (simp [*]; done)), (by first | rfl | (simp; done) | (simp [*]; done)), H', ⟨Nat.le_refl _⟩, by repeat (first | exact Drawn0.refl _ | apply Drawn0.step)⟩
  case round =>
    clear H'
    obtain ⟨x3_1, x10_1, rfl, rfl, HA, HK1, ⟨m1, rfl⟩⟩ := hrel
    cases gk with
    | zero => exact absurd HA.out (by simp [laws_few.l0])
    | succ k1 =>
      have H := HA.out
      clear HA
      simp only [laws_few.l0] at H
      by_cases c2 : x10_1 < (l0.length : Int)
      · rw [if_pos c2] at H
        have c2b0 : decide (x10_1 < (l0.length : Int)) = true := decide_eq_true c2
        clear c2
        by_cases c3 : 0 ≤ x10_1
        · rw [if_pos c3] at H
          have c3b0 : decide (0 ≤ x10_1) = true := decide_eq_true c3
          clear c3
          by_cases c4 : x10_1 < (l0.length : Int)
          · rw [if_pos c4] at H
            have c4b0 : decide (x10_1 < (l0.length : Int)) = true := decide_eq_true c4
            clear c4
            have H' := Aside0.mk H
            clear H
            have p102 : 0 ≤ (x10_1 : Int) := of_decide_eq_true (by first | (with_reducible assumption) | assumption)
            have q102 : x10_1 < (l0.length : Int) := of_decide_eq_true (by first | (with_reducible assumption) | assumption)
            obtain ⟨ad102, e102, hx102_0⟩ := Kd.at_string HR0.out x10_1 p102 q102
            cases e102
            replace p102 := eq_true p102
            replace q102 := eq_true q102
            go_wp2
            go_roundg k1
            case measure => have := HK1.out; omega
            case rel => exact ⟨(wrap64 (x3_1 + ((rdOf ByteArray.empty l0 x10_1).size : Int))), (wrap64 (x10_1 + 1)), (by first | rfl | (simp; done) | (simp [*]; done)), (by first | rfl | (simp; done) | (simp [*]; done)), H', ⟨by have := HK1.out; omega⟩, by repeat (first | exact Drawn0.refl _ | apply Drawn0.step)⟩
          · rw [if_neg c4] at H
            exact absurd H (by simp)
        · rw [if_neg c3] at H
          exact absurd H (by simp)
      · rw [if_neg c2] at H
        have c2b0 : decide (x10_1 < (l0.length : Int)) = false := decide_eq_false c2
        clear c2
        obtain rfl := Option.some.inj H
        go_wp2
        go_ret
        exact ⟨by first | rfl | (simp; done) | (simp [*]; done), by repeat (first | exact Drawn0.refl _ | apply Drawn0.step)⟩

/-! ### impl_Compact: function 10: given by hand -/
/-! ### spec_Compact: function 11 -/
def spec_Compact.l0 : Nat → List ByteArray → Int → List ByteArray → Int → Option (List ByteArray)
  | 0, _, _, _, _ => none
  | k + 1, x0, x1, x5, x6 => if x6 < (x0.length : Int) then (if 0 ≤ (wrap64 ((x5.length : Int) - 1)) then (if (wrap64 ((x5.length : Int) - 1)) < (x5.length : Int) then (if (rdOf ByteArray.empty x5 (wrap64 ((x5.length : Int) - 1))).toList = ([] : List UInt8) then (if 0 ≤ x6 then (if (rdOf ByteArray.empty x5 (wrap64 ((x5.length : Int) - 1))).size + (rdOf ByteArray.empty x0 x6).size ≤ 9223372036854775807 then (spec_Compact.l0 k x0 x1 (x5.set ((wrap64 ((x5.length : Int) - 1)) : Int).toNat ((rdOf ByteArray.empty x5 (wrap64 ((x5.length : Int) - 1))) ++ (rdOf ByteArray.empty x0 x6))) (wrap64 (x6 + 1))) else (none)) else (none)) else (if 0 ≤ x6 then (if (wrap64 (((rdOf ByteArray.empty x5 (wrap64 ((x5.length : Int) - 1))).size : Int) + ((rdOf ByteArray.empty x0 x6).size : Int))) ≥ x1 then (if x5.length < 8796093022208 then (spec_Compact.l0 k x0 x1 (x5 ++ [rdOf ByteArray.empty x0 x6]) (wrap64 (x6 + 1))) else (none)) else (if (rdOf ByteArray.empty x5 (wrap64 ((x5.length : Int) - 1))).size + (rdOf ByteArray.empty x0 x6).size ≤ 9223372036854775807 then (spec_Compact.l0 k x0 x1 (x5.set ((wrap64 ((x5.length : Int) - 1)) : Int).toNat ((rdOf ByteArray.empty x5 (wrap64 ((x5.length : Int) - 1))) ++ (rdOf ByteArray.empty x0 x6))) (wrap64 (x6 + 1))) else (none))) else (none))) else (none)) else (none)) else (some x5)
def spec_Compact.f (k : Nat) (l0 : List ByteArray) (a1 : Int) : Option (List ByteArray) := if 0 < (l0.length : Int) then (spec_Compact.l0 k l0 a1 (([rdOf ByteArray.empty l0 0] : List ByteArray)) 1) else (none)
theorem spec_Compact.mono_l : ∀ k, (∀ y0 y1 y2 y3, LeO (spec_Compact.l0 k y0 y1 y2 y3) (spec_Compact.l0 (k + 1) y0 y1 y2 y3))
  | 0 => fun _ _ _ _ r h => by simp [spec_Compact.l0] at h
  | k + 1 => by
    have ih0 := spec_Compact.mono_l k
    · intro y0 y1 y2 y3
      unfold spec_Compact.l0
      repeat' first
      | (with_reducible exact ih0 _ _ _ _)
      | (with_reducible exact LeO.refl _)
      | (with_reducible exact LeO.none _)
      | (with_reducible refine LeO.ite ?_ ?_)
      | (with_reducible refine LeO.bind ?_ (fun _ => ?_))
      | exact ih0 _ _ _ _
      | exact LeO.none _
      | refine LeO.ite ?_ ?_
      | refine LeO.bind ?_ (fun _ => ?_)
theorem spec_Compact.mono : ∀ a0 a1 k, LeO (spec_Compact.f k a0 a1) (spec_Compact.f (k + 1) a0 a1) := by
  intro a0 a1 k
  have ih0 := spec_Compact.mono_l k
  unfold spec_Compact.f
  repeat' first
      | (with_reducible exact ih0 _ _ _ _)
      | (with_reducible exact LeO.refl _)
      | (with_reducible exact LeO.none _)
      | (with_reducible refine LeO.ite ?_ ?_)
      | (with_reducible refine LeO.bind ?_ (fun _ => ?_))
      | exact ih0 _ _ _ _
      | exact LeO.none _
      | refine LeO.ite ?_ ?_
      | refine LeO.bind ?_ (fun _ => ?_)
set_option maxHeartbeats 8000000 in
set_option maxRecDepth 100000 in
theorem spec_Compact.calls (k : Nat) (A0 : Option Addr) (c0 : Nat) (l0 : List ByteArray) (a1 : Int) (r : List ByteArray) (w : World) (hr0 : Kd.C Kd.string w A0 l0.length l0) (hc0 : l0.length ≤ c0) (h : spec_Compact.f k l0 a1 = some r) :
    Calls Try.prog 11 #[.slice A0 l0.length c0, .int .i64 a1] w fun e w' => ∃ v0_ : Value, e = .returned (v0_) ∧ Kd.R Kd.string 9 w' w.heap.size (fun _ => True) v0_ r ∧ Below w.heap.size w w' := by
  have HR0 := Aside0.mk hr0
  have HC0 := Aside0.mk hc0
  clear hr0 hc0
  have HB := Aside0.mk (Below.refl w.heap.size w)
  have H : (if 0 < (l0.length : Int) then (spec_Compact.l0 k l0 a1 (([rdOf ByteArray.empty l0 0] : List ByteArray)) 1) else (none)) = some r := h
  clear h
  by_cases c3 : 0 < (l0.length : Int)
  · rw [if_pos c3] at H
    have c3b0 : decide (0 < (l0.length : Int)) = true := decide_eq_true c3
    have c3b1 : decide (0 < l0.length) = true := decide_eq_true (by omega)
    clear c3
    obtain ⟨y104, hy104⟩ : ∃ y_ : List ByteArray, y_ = (([rdOf ByteArray.empty l0 0] : List ByteArray)) := ⟨_, rfl⟩
    replace H : (spec_Compact.l0 k l0 a1 y104 1) = some r := by first | (rw [hy104]; with_reducible exact H) | (have H2_ := (Option.bind_some _ _).symm.trans H; rw [hy104]; with_reducible exact H2_) | (have H2_ := (Option.bind_some _ _).symm.trans H; with_reducible exact H2_) | with_reducible exact H | (rw [hy104]; exact H) | exact H
    have Ny104 := Aside0.mk hy104
    clear hy104
    have H' := Aside0.mk H
    clear H
    have p103 : 0 ≤ (0 : Int) := (by omega)
    have q103 : 0 < (l0.length : Int) := of_decide_eq_true (by first | (with_reducible assumption) | assumption)
    obtain ⟨ad103, e103, hx103_0⟩ := Kd.at_string HR0.out 0 p103 q103
    cases e103
    have qi103 : (0 < l0.length) = True := eq_true (by omega)
    (try rw [show ((0 : Int)).toNat = 0 from rfl] at hx103_0)
    (try rw [Addr.add_zero'] at hx103_0)
    replace p103 := eq_true p103
    replace q103 := eq_true q103
    go_enter Try.func11, Try.ntmps11
    go_wp2_with (first | ((with_reducible refine gate_dst (N := 11) rfl ?_); (try (refine gate_guard (by rfl) ?_; dsimp only)); refine Kd.R_lit Kd.string _ 9 ?hg (N := 11) ?hd (xs := ([rdOf ByteArray.empty l0 0] : List ByteArray)) (inner := [.string (rdOf ByteArray.empty l0 0)]) (ok := fun _ => True) (okp := fun _ => True) ?hr ?hp (fun _ hk => hk) trivial (Below.refl _ _) (Nat.le_refl _) (by simp) ?_; (case hd => rfl); (case hg => rfl); (case hr => first | (go_simp; done) | (go_simp; rfl)); (case hp => exact (Reps.one (show Kd.M Kd.string _ _ _ (rdOf ByteArray.empty l0 0) [.string (rdOf ByteArray.empty l0 0)] from rfl) (Reps.none _ _))); intro v105 w4 ho5 hb hg_ hnew_; clear hg_ hnew_; (first | rw [← Ny104.out] at ho5 | (simp only [Int.reduceToNat] at ho5; rw [← Ny104.out] at ho5)); have n0_ := Aside0.mk (Kd.R_lower ho5 (below_size (by repeat (first | (with_reducible first | exact HB.out | apply below_alloc | apply pw_below_drewN | apply below_drew1) | exact HB.out)))); have n1_ := Aside0.mk (below_step (by repeat (first | (with_reducible first | exact HB.out | apply below_alloc | apply pw_below_drewN | apply below_drew1) | exact HB.out)) hb); clear HB; have HO106 := n0_; have HB := n1_; clear n0_ n1_; clear hb ho5))
    go_loopg [5, 6] k (fun kq v5 v6 w' => ∃ (x5_1 : List ByteArray) (x6_1 : Int), v6 = .int .i64 x6_1 ∧ Aside0 (spec_Compact.l0 kq l0 a1 x5_1 x6_1 = some r) ∧ Aside0 (kq ≤ k) ∧ Aside0 (Kd.R Kd.string 9 w' w.heap.size (fun _ => True) v5 x5_1) ∧ Aside0 (Below w.heap.size w w'))
    case atStart => exact ⟨(y104), (1), (by first | rfl | (simp; done) | (simp [*]; done)), H', ⟨Nat.le_refl _⟩, ⟨by (with_reducible repeat (first | apply Kd.R_alloc | apply Kd.R_drewN | apply Kd.R_drew)); exact HO106.out⟩, ⟨by repeat (first | (with_reducible first | exact HB.out | apply below_alloc | apply pw_below_drewN | apply below_drew1) | exact HB.out)⟩⟩
    case round =>
      clear H'
      try clear c1
      try clear p1
      try clear q1
      try clear hx1
      try clear qi1
      try clear p2
      try clear c3
      try clear c3b0
      try clear c3b1
      try clear hx103_0
      try clear p103
      try clear q103
      obtain ⟨x5_1, x6_1, rfl, HA, HK1, HO_5, HB⟩ := hrel
      cases gk with
      | zero => exact absurd HA.out (by simp [spec_Compact.l0])
      | succ k1 =>
        have H := HA.out
        clear HA
        simp only [spec_Compact.l0] at H
        by_cases c6 : x6_1 < (l0.length : Int)
        · rw [if_pos c6] at H
          have c6b0 : decide (x6_1 < (l0.length : Int)) = true := decide_eq_true c6
          clear c6
          obtain ⟨ji7, hji7⟩ : ∃ j_ : Int, (wrap64 ((x5_1.length : Int) - 1)) = j_ := ⟨_, rfl⟩
          replace H : (if 0 ≤ (ji7) then (if (ji7) < (x5_1.length : Int) then (if (rdOf ByteArray.empty x5_1 (ji7)).toList = ([] : List UInt8) then (if 0 ≤ x6_1 then (if (rdOf ByteArray.empty x5_1 (ji7)).size + (rdOf ByteArray.empty l0 x6_1).size ≤ 9223372036854775807 then (spec_Compact.l0 k1 l0 a1 (x5_1.set ((ji7) : Int).toNat ((rdOf ByteArray.empty x5_1 (ji7)) ++ (rdOf ByteArray.empty l0 x6_1))) (wrap64 (x6_1 + 1))) else (none)) else (none)) else (if 0 ≤ x6_1 then (if (wrap64 (((rdOf ByteArray.empty x5_1 (ji7)).size : Int) + ((rdOf ByteArray.empty l0 x6_1).size : Int))) ≥ a1 then (if x5_1.length < 8796093022208 then (spec_Compact.l0 k1 l0 a1 (x5_1 ++ [rdOf ByteArray.empty l0 x6_1]) (wrap64 (x6_1 + 1))) else (none)) else (if (rdOf ByteArray.empty x5_1 (ji7)).size + (rdOf ByteArray.empty l0 x6_1).size ≤ 9223372036854775807 then (spec_Compact.l0 k1 l0 a1 (x5_1.set ((ji7) : Int).toNat ((rdOf ByteArray.empty x5_1 (ji7)) ++ (rdOf ByteArray.empty l0 x6_1))) (wrap64 (x6_1 + 1))) else (none))) else (none))) else (none)) else (none)) = some r := by first | (rw [hji7] at H; exact H) | (simp only [hji7] at H ⊢; exact H)
          have hji7w : (IntKind.i64.wrap ((x5_1.length : Int) - 1)) = ji7 := (i64_w _).trans hji7
          by_cases c8 : 0 ≤ (ji7)
          · rw [if_pos c8] at H
            have c8b0 : decide (0 ≤ (ji7)) = true := decide_eq_true c8
            clear c8
            by_cases c9 : (ji7) < (x5_1.length : Int)
            · rw [if_pos c9] at H
              have c9b0 : decide ((ji7) < (x5_1.length : Int)) = true := decide_eq_true c9
              clear c9
              by_cases c10 : (rdOf ByteArray.empty x5_1 (ji7)).toList = ([] : List UInt8)
              · rw [if_pos c10] at H
                have c10b0 : ((rdOf ByteArray.empty x5_1 (ji7)).toList == ([] : List UInt8)) = true := beq_iff_eq.mpr c10
                have c10b1 : ((rdOf ByteArray.empty x5_1 (ji7)).toList != ([] : List UInt8)) = false := bne_eq_false_iff_eq.mpr c10
                clear c10
                by_cases c11 : 0 ≤ x6_1
                · rw [if_pos c11] at H
                  have c11b0 : decide (0 ≤ x6_1) = true := decide_eq_true c11
                  clear c11
                  by_cases c12 : (rdOf ByteArray.empty x5_1 (ji7)).size + (rdOf ByteArray.empty l0 x6_1).size ≤ 9223372036854775807
                  · rw [if_pos c12] at H
                    have c12b0 := eq_true c12
                    have c12b1 : decide ((rdOf ByteArray.empty x5_1 (ji7)).size + (rdOf ByteArray.empty l0 x6_1).size ≤ 9223372036854775807) = true := decide_eq_true c12
                    try have c12b2 : (9223372036854775807 < (rdOf ByteArray.empty x5_1 (ji7)).size + (rdOf ByteArray.empty l0 x6_1).size) = False := eq_false (Nat.not_lt.2 c12)
                    obtain ⟨y109, hy109⟩ : ∃ y_ : List ByteArray, y_ = (x5_1.set ((ji7) : Int).toNat ((rdOf ByteArray.empty x5_1 (ji7)) ++ (rdOf ByteArray.empty l0 x6_1))) := ⟨_, rfl⟩
                    replace H : (spec_Compact.l0 k1 l0 a1 y109 (wrap64 (x6_1 + 1))) = some r := by first | (rw [hy109]; with_reducible exact H) | (have H2_ := (Option.bind_some _ _).symm.trans H; rw [hy109]; with_reducible exact H2_) | (have H2_ := (Option.bind_some _ _).symm.trans H; with_reducible exact H2_) | with_reducible exact H | (rw [hy109]; exact H) | exact H
                    have Ny109 := Aside0.mk hy109
                    clear hy109
                    have H' := Aside0.mk H
                    clear H
                    obtain ⟨Ao14, co14, eo14⟩ := Kd.R_slice HO_5.out
                    subst eo14
                    have p107 : 0 ≤ ((ji7) : Int) := of_decide_eq_true (by first | (with_reducible assumption) | assumption)
                    have q107 : (ji7) < (x5_1.length : Int) := of_decide_eq_true (by first | (with_reducible assumption) | assumption)
                    obtain ⟨ad107, e107, hx107_0⟩ := Kd.at_string (Kd.R_reads' HO_5.out).2.2 (ji7) p107 q107
                    cases e107
                    replace p107 := eq_true p107
                    replace q107 := eq_true q107
                    have p108 : 0 ≤ (x6_1 : Int) := of_decide_eq_true (by first | (with_reducible assumption) | assumption)
                    have q108 : x6_1 < (l0.length : Int) := of_decide_eq_true (by first | (with_reducible assumption) | assumption)
                    obtain ⟨ad108, e108, hx108_0⟩ := Kd.at_string HR0.out x6_1 p108 q108
                    obtain rfl : ad103 = ad108 := (by injection e108)
                    replace hx108_0 := (HB.out.cell (World.block_lt_of_cell? w _ hx108_0)).trans hx108_0
                    replace p108 := eq_true p108
                    replace q108 := eq_true q108
                    have p13 : 0 ≤ ((ji7) : Int) := of_decide_eq_true (by first | (with_reducible assumption) | assumption)
                    have q13 : ((ji7) : Int) < ((x5_1.length : Int) : Int) := of_decide_eq_true (by first | (with_reducible assumption) | assumption)
                    obtain ⟨go13, co13, eo13, gb13, gl13, cl13, HG13⟩ := Kd.R_form HO_5.out (by omega)
                    (first | cases eo13 | (injection eo13 with ea_ en_ ec_; (first | subst ea_ | (injection ea_ with ea_; subst ea_)); subst ec_; clear en_))
                    have GB13 := Aside0.mk gb13
                    have GG13 := Aside0.mk HG13
                    clear gb13 gl13 HG13
                    (first | simp only [add_plain] at hx107_0 | skip)
                    obtain ⟨hx13_0, hf13_0⟩ := Kd.R_celln (⟨#[]⟩ : ByteArray) HO_5.out ((ji7) : Int) p13 q13
                    replace p13 := eq_true p13
                    replace q13 := eq_true q13
                    have HP15 := Kd.R_putg HO_5.out ((ji7) : Int) ((rdOf ByteArray.empty x5_1 (ji7)) ++ (rdOf ByteArray.empty l0 x6_1))
                    go_wp2_with (first | ((with_reducible refine gate_store (t := 9) (p := 55) rfl ?_); refine store_event (t := 9) (p := 55) (v := ?vo_w16) (w1 := (wr.setCell ⟨go13, ((ji7) : Int).toNat, none⟩ (.string ((rdOf ByteArray.empty x5_1 (ji7)) ++ (rdOf ByteArray.empty l0 x6_1))))) ?hg ?ho ?hn ?hr ?_; (case ho => rfl); (case hg => rfl); (case hn => rfl); (case hr => first | (go_simp; done) | (go_simp; rfl)); intro w16 hw; have hg : wr.grownBy w16 (some go13) := (by rw [hw]; exact HP15.2); have hp_ : Kd.R Kd.string 9 w16 w.heap.size (fun _ => True) (.slice (some ⟨go13, 0, none⟩) x5_1.length co14) y109 := (by rw [hw, Ny109.out]; exact HP15.1); clear HP15; have n0_ := Aside0.mk (hp_); have n1_ := Aside0.mk ((by rw [hw]; exact below_set (HB.out) GB13.out : Below w.heap.size w w16)); clear HO_5; clear HB; have HO_5 := n0_; have HB := n1_; clear n0_ n1_; clear hg hw hp_))
                    go_roundg k1
                    case measure => have := HK1.out; omega
                    case rel => exact ⟨(y109), (wrap64 (x6_1 + 1)), (by first | rfl | (simp; done) | (simp [*]; done)), H', ⟨by have := HK1.out; omega⟩, ⟨by (with_reducible repeat (first | apply Kd.R_alloc | apply Kd.R_drewN | apply Kd.R_drew)); exact HO_5.out⟩, ⟨by repeat (first | (with_reducible first | exact HB.out | apply below_alloc | apply pw_below_drewN | apply below_drew1) | exact HB.out)⟩⟩
                  · rw [if_neg c12] at H
                    exact absurd H (by simp)
                · rw [if_neg c11] at H
                  exact absurd H (by simp)
              · rw [if_neg c10] at H
                have c10b0 : ((rdOf ByteArray.empty x5_1 (ji7)).toList == ([] : List UInt8)) = false := beq_eq_false_iff_ne.mpr c10
                have c10b1 : ((rdOf ByteArray.empty x5_1 (ji7)).toList != ([] : List UInt8)) = true := bne_iff_ne.mpr c10
                by_cases c17 : 0 ≤ x6_1
                · rw [if_pos c17] at H
                  have c17b0 : decide (0 ≤ x6_1) = true := decide_eq_true c17
                  clear c17
                  by_cases c18 : (wrap64 (((rdOf ByteArray.empty x5_1 (ji7)).size : Int) + ((rdOf ByteArray.empty l0 x6_1).size : Int))) ≥ a1
                  · rw [if_pos c18] at H
                    have c18b0 : decide (a1 ≤ (wrap64 (((rdOf ByteArray.empty x5_1 (ji7)).size : Int) + ((rdOf ByteArray.empty l0 x6_1).size : Int)))) = true := decide_eq_true c18
                    clear c18
                    by_cases c19 : x5_1.length < 8796093022208
                    · rw [if_pos c19] at H
                      have LMc19 := Aside0.mk c19
                      clear c19
                      obtain ⟨y112, hy112⟩ : ∃ y_ : List ByteArray, y_ = (x5_1 ++ [rdOf ByteArray.empty l0 x6_1]) := ⟨_, rfl⟩
                      replace H : (spec_Compact.l0 k1 l0 a1 y112 (wrap64 (x6_1 + 1))) = some r := by first | (rw [hy112]; with_reducible exact H) | (have H2_ := (Option.bind_some _ _).symm.trans H; rw [hy112]; with_reducible exact H2_) | (have H2_ := (Option.bind_some _ _).symm.trans H; with_reducible exact H2_) | with_reducible exact H | (rw [hy112]; exact H) | exact H
                      have Ny112 := Aside0.mk hy112
                      clear hy112
                      have H' := Aside0.mk H
                      clear H
                      obtain ⟨Ao20, co20, eo20⟩ := Kd.R_slice HO_5.out
                      subst eo20
                      have p107 : 0 ≤ ((ji7) : Int) := of_decide_eq_true (by first | (with_reducible assumption) | assumption)
                      have q107 : (ji7) < (x5_1.length : Int) := of_decide_eq_true (by first | (with_reducible assumption) | assumption)
                      obtain ⟨ad107, e107, hx107_0⟩ := Kd.at_string (Kd.R_reads' HO_5.out).2.2 (ji7) p107 q107
                      cases e107
                      replace p107 := eq_true p107
                      replace q107 := eq_true q107
                      have p110 : 0 ≤ (x6_1 : Int) := of_decide_eq_true (by first | (with_reducible assumption) | assumption)
                      have q110 : x6_1 < (l0.length : Int) := of_decide_eq_true (by first | (with_reducible assumption) | assumption)
                      obtain ⟨ad110, e110, hx110_0⟩ := Kd.at_string HR0.out x6_1 p110 q110
                      obtain rfl : ad103 = ad110 := (by injection e110)
                      replace hx110_0 := (HB.out.cell (World.block_lt_of_cell? w _ hx110_0)).trans hx110_0
                      replace p110 := eq_true p110
                      replace q110 := eq_true q110
                      have p111 : 0 ≤ (x6_1 : Int) := of_decide_eq_true (by first | (with_reducible assumption) | assumption)
                      have q111 : x6_1 < (l0.length : Int) := of_decide_eq_true (by first | (with_reducible assumption) | assumption)
                      obtain ⟨ad111, e111, hx111_0⟩ := Kd.at_string HR0.out x6_1 p111 q111
                      obtain rfl : ad103 = ad111 := (by injection e111)
                      replace hx111_0 := (HB.out.cell (World.block_lt_of_cell? w _ hx111_0)).trans hx111_0
                      replace p111 := eq_true p111
                      replace q111 := eq_true q111
                      go_wp2_with (first | ((with_reducible refine gate_builtin (b := .append) (xs := #[.tmp 38, .tmp 43]) rfl ?_); (try (refine gate_guard (by rfl) ?_; dsimp only)); at_builtin; refine Kd.R_append Kd.string (w0 := w) w.heap.size rfl (.tmp 38) (.tmp 43) 22 9 (.string ⟨#[]⟩) 16 rfl Try.underlying22 info9 rfl (by decide) (by omega) (.slice (some ad107) x5_1.length co20) x5_1 (rdOf ByteArray.empty l0 x6_1) [.string (rdOf ByteArray.empty l0 x6_1)] (fun _ => True) (fun _ => False) rfl rfl ?aP (fun _ hk => hk.elim) ?aF ?aO ?aB ?aS ?aL ?_; (case aP => exact rfl); (case aB => exact (by repeat (first | (with_reducible first | exact HB.out | apply below_alloc | apply pw_below_drewN | apply below_drew1) | exact HB.out))); (case aF => exact (fun _ _ => trivial)); (case aO => exact (by (with_reducible repeat (first | apply Kd.R_alloc | apply Kd.R_drewN | apply Kd.R_drew)); exact HO_5.out)); (case aS => exact (below_size (by repeat (first | (with_reducible first | exact HB.out | apply below_alloc | apply pw_below_drewN | apply below_drew1) | exact HB.out)))); (case aL => have := LMc19.out; omega); intro v113 w21 ho hb hg hat; rw [← Ny112.out] at ho; have n0_ := Aside0.mk (hb); have n1_ := Aside0.mk (ho); clear HB; clear HO_5; have HB := n0_; have HO114 := n1_; clear n0_ n1_; clear ho hb hg hat))
                      go_roundg k1
                      case measure => have := HK1.out; omega
                      case rel => exact ⟨(y112), (wrap64 (x6_1 + 1)), (by first | rfl | (simp; done) | (simp [*]; done)), H', ⟨by have := HK1.out; omega⟩, ⟨by (with_reducible repeat (first | apply Kd.R_alloc | apply Kd.R_drewN | apply Kd.R_drew)); exact HO114.out⟩, ⟨by repeat (first | (with_reducible first | exact HB.out | apply below_alloc | apply pw_below_drewN | apply below_drew1) | exact HB.out)⟩⟩
                    · rw [if_neg c19] at H
                      exact absurd H (by simp)
                  · rw [if_neg c18] at H
                    have c18b0 : decide (a1 ≤ (wrap64 (((rdOf ByteArray.empty x5_1 (ji7)).size : Int) + ((rdOf ByteArray.empty l0 x6_1).size : Int)))) = false := decide_eq_false c18
                    clear c18
                    by_cases c22 : (rdOf ByteArray.empty x5_1 (ji7)).size + (rdOf ByteArray.empty l0 x6_1).size ≤ 9223372036854775807
                    · rw [if_pos c22] at H
                      have c22b0 := eq_true c22
                      have c22b1 : decide ((rdOf ByteArray.empty x5_1 (ji7)).size + (rdOf ByteArray.empty l0 x6_1).size ≤ 9223372036854775807) = true := decide_eq_true c22
                      try have c22b2 : (9223372036854775807 < (rdOf ByteArray.empty x5_1 (ji7)).size + (rdOf ByteArray.empty l0 x6_1).size) = False := eq_false (Nat.not_lt.2 c22)
                      obtain ⟨y116, hy116⟩ : ∃ y_ : List ByteArray, y_ = (x5_1.set ((ji7) : Int).toNat ((rdOf ByteArray.empty x5_1 (ji7)) ++ (rdOf ByteArray.empty l0 x6_1))) := ⟨_, rfl⟩
                      replace H : (spec_Compact.l0 k1 l0 a1 y116 (wrap64 (x6_1 + 1))) = some r := by first | (rw [hy116]; with_reducible exact H) | (have H2_ := (Option.bind_some _ _).symm.trans H; rw [hy116]; with_reducible exact H2_) | (have H2_ := (Option.bind_some _ _).symm.trans H; with_reducible exact H2_) | with_reducible exact H | (rw [hy116]; exact H) | exact H
                      have Ny116 := Aside0.mk hy116
                      clear hy116
                      have H' := Aside0.mk H
                      clear H
                      obtain ⟨Ao24, co24, eo24⟩ := Kd.R_slice HO_5.out
                      subst eo24
                      have p107 : 0 ≤ ((ji7) : Int) := of_decide_eq_true (by first | (with_reducible assumption) | assumption)
                      have q107 : (ji7) < (x5_1.length : Int) := of_decide_eq_true (by first | (with_reducible assumption) | assumption)
                      obtain ⟨ad107, e107, hx107_0⟩ := Kd.at_string (Kd.R_reads' HO_5.out).2.2 (ji7) p107 q107
                      cases e107
                      replace p107 := eq_true p107
                      replace q107 := eq_true q107
                      have p110 : 0 ≤ (x6_1 : Int) := of_decide_eq_true (by first | (with_reducible assumption) | assumption)
                      have q110 : x6_1 < (l0.length : Int) := of_decide_eq_true (by first | (with_reducible assumption) | assumption)
                      obtain ⟨ad110, e110, hx110_0⟩ := Kd.at_string HR0.out x6_1 p110 q110
                      obtain rfl : ad103 = ad110 := (by injection e110)
                      replace hx110_0 := (HB.out.cell (World.block_lt_of_cell? w _ hx110_0)).trans hx110_0
                      replace p110 := eq_true p110
                      replace q110 := eq_true q110
                      have p115 : 0 ≤ (x6_1 : Int) := of_decide_eq_true (by first | (with_reducible assumption) | assumption)
                      have q115 : x6_1 < (l0.length : Int) := of_decide_eq_true (by first | (with_reducible assumption) | assumption)
                      obtain ⟨ad115, e115, hx115_0⟩ := Kd.at_string HR0.out x6_1 p115 q115
                      obtain rfl : ad103 = ad115 := (by injection e115)
                      replace hx115_0 := (HB.out.cell (World.block_lt_of_cell? w _ hx115_0)).trans hx115_0
                      replace p115 := eq_true p115
                      replace q115 := eq_true q115
                      have p23 : 0 ≤ ((ji7) : Int) := of_decide_eq_true (by first | (with_reducible assumption) | assumption)
                      have q23 : ((ji7) : Int) < ((x5_1.length : Int) : Int) := of_decide_eq_true (by first | (with_reducible assumption) | assumption)
                      obtain ⟨go23, co23, eo23, gb23, gl23, cl23, HG23⟩ := Kd.R_form HO_5.out (by omega)
                      (first | cases eo23 | (injection eo23 with ea_ en_ ec_; (first | subst ea_ | (injection ea_ with ea_; subst ea_)); subst ec_; clear en_))
                      have GB23 := Aside0.mk gb23
                      have GG23 := Aside0.mk HG23
                      clear gb23 gl23 HG23
                      (first | simp only [add_plain] at hx107_0 | skip)
                      obtain ⟨hx23_0, hf23_0⟩ := Kd.R_celln (⟨#[]⟩ : ByteArray) HO_5.out ((ji7) : Int) p23 q23
                      replace p23 := eq_true p23
                      replace q23 := eq_true q23
                      have HP25 := Kd.R_putg HO_5.out ((ji7) : Int) ((rdOf ByteArray.empty x5_1 (ji7)) ++ (rdOf ByteArray.empty l0 x6_1))
                      have zz_ : decide (a1 ≤ ((rdOf ByteArray.empty x5_1 ji7).size : Int) + ((rdOf ByteArray.empty l0 x6_1).size : Int)) = false := by have h1 := of_decide_eq_false c18b0; have h2 := of_decide_eq_true c22b1; unfold wrap64 at h1; apply decide_eq_false; omega
                      go_wp2_with (first | ((with_reducible refine gate_store (t := 9) (p := 55) rfl ?_); refine store_event (t := 9) (p := 55) (v := ?vo_w26) (w1 := (wr.setCell ⟨go23, ((ji7) : Int).toNat, none⟩ (.string ((rdOf ByteArray.empty x5_1 (ji7)) ++ (rdOf ByteArray.empty l0 x6_1))))) ?hg ?ho ?hn ?hr ?_; (case ho => rfl); (case hg => rfl); (case hn => rfl); (case hr => first | (go_simp; done) | (go_simp; rfl)); intro w26 hw; have hg : wr.grownBy w26 (some go23) := (by rw [hw]; exact HP25.2); have hp_ : Kd.R Kd.string 9 w26 w.heap.size (fun _ => True) (.slice (some ⟨go23, 0, none⟩) x5_1.length co24) y116 := (by rw [hw, Ny116.out]; exact HP25.1); clear HP25; have n0_ := Aside0.mk (hp_); have n1_ := Aside0.mk ((by rw [hw]; exact below_set (HB.out) GB23.out : Below w.heap.size w w26)); clear HO_5; clear HB; have HO_5 := n0_; have HB := n1_; clear n0_ n1_; clear hg hw hp_))
                      go_roundg k1
                      case measure => have := HK1.out; omega
                      case rel => exact ⟨(y116), (wrap64 (x6_1 + 1)), (by first | rfl | (simp; done) | (simp [*]; done)), H', ⟨by have := HK1.out; omega⟩, ⟨by (with_reducible repeat (first | apply Kd.R_alloc | apply Kd.R_drewN | apply Kd.R_drew)); exact HO_5.out⟩, ⟨by repeat (first | (with_reducible first | exact HB.out | apply below_alloc | apply pw_below_drewN | apply below_drew1) | exact HB.out)⟩⟩
                    · rw [if_neg c22] at H
                      exact absurd H (by simp)
                · rw [if_neg c17] at H
                  exact absurd H (by simp)
            · rw [if_neg c9] at H
              exact absurd H (by simp)
          · rw [if_neg c8] at H
            exact absurd H (by simp)
        · rw [if_neg c6] at H
          have c6b0 : decide (x6_1 < (l0.length : Int)) = false := decide_eq_false c6
          clear c6
          obtain rfl := Option.some.inj H
          go_wp2
          go_ret
          exact ⟨_, by first | rfl | (simp [errW_none, errW_some] <;> rfl) | (simp [*, errW_none, errW_some] <;> rfl), by (with_reducible repeat (first | apply Kd.R_alloc | apply Kd.R_drewN | apply Kd.R_drew)); exact HO_5.out, by repeat (first | (with_reducible first | exact HB.out | apply below_alloc | apply pw_below_drewN | apply below_drew1) | exact HB.out)⟩
  · rw [if_neg c3] at H
    exact absurd H (by simp)

/-! ### laws_texts: function 12 -/
def laws_texts.l0 : Nat → List ByteArray → List ByteArray → Int → Int → Option (Bool)
  | 0, _, _, _, _ => none
  | k + 1, x0, x1, x12, x13 => if x13 < x12 then (if 0 ≤ x13 then (if x13 < (x0.length : Int) then (if x13 < (x1.length : Int) then (if (rdOf ByteArray.empty x0 x13).toList = (rdOf ByteArray.empty x1 x13).toList then (laws_texts.l0 k x0 x1 x12 (wrap64 (x13 + 1))) else (some false)) else (none)) else (none)) else (none)) else (some true)
def laws_texts.f (k : Nat) (l0 : List ByteArray) (l1 : List ByteArray) : Option (Bool) := if (l0.length : Int) = (l1.length : Int) then (laws_texts.l0 k l0 l1 (l0.length : Int) 0) else (some false)
theorem laws_texts.mono_l : ∀ k, (∀ y0 y1 y2 y3, LeO (laws_texts.l0 k y0 y1 y2 y3) (laws_texts.l0 (k + 1) y0 y1 y2 y3))
  | 0 => fun _ _ _ _ r h => by simp [laws_texts.l0] at h
  | k + 1 => by
    have ih0 := laws_texts.mono_l k
    · intro y0 y1 y2 y3
      unfold laws_texts.l0
      repeat' first
      | (with_reducible exact ih0 _ _ _ _)
      | (with_reducible exact LeO.refl _)
      | (with_reducible exact LeO.none _)
      | (with_reducible refine LeO.ite ?_ ?_)
      | (with_reducible refine LeO.bind ?_ (fun _ => ?_))
      | exact ih0 _ _ _ _
      | exact LeO.none _
      | refine LeO.ite ?_ ?_
      | refine LeO.bind ?_ (fun _ => ?_)
theorem laws_texts.mono : ∀ a0 a1 k, LeO (laws_texts.f k a0 a1) (laws_texts.f (k + 1) a0 a1) := by
  intro a0 a1 k
  have ih0 := laws_texts.mono_l k
  unfold laws_texts.f
  repeat' first
      | (with_reducible exact ih0 _ _ _ _)
      | (with_reducible exact LeO.refl _)
      | (with_reducible exact LeO.none _)
      | (with_reducible refine LeO.ite ?_ ?_)
      | (with_reducible refine LeO.bind ?_ (fun _ => ?_))
      | exact ih0 _ _ _ _
      | exact LeO.none _
      | refine LeO.ite ?_ ?_
      | refine LeO.bind ?_ (fun _ => ?_)
set_option maxHeartbeats 8000000 in
set_option maxRecDepth 100000 in
theorem laws_texts.calls (k : Nat) (A0 : Option Addr) (c0 : Nat) (l0 : List ByteArray) (A1 : Option Addr) (c1 : Nat) (l1 : List ByteArray) (r : Bool) (w : World) (hr0 : Kd.C Kd.string w A0 l0.length l0) (hc0 : l0.length ≤ c0) (hr1 : Kd.C Kd.string w A1 l1.length l1) (hc1 : l1.length ≤ c1) (h : laws_texts.f k l0 l1 = some r) :
    Calls Try.prog 12 #[.slice A0 l0.length c0, .slice A1 l1.length c1] w fun e w' => e = .returned (.bool r) ∧ Drawn0 w w' := by
  have HR0 := Aside0.mk hr0
  have HC0 := Aside0.mk hc0
  clear hr0 hc0
  have HR1 := Aside0.mk hr1
  have HC1 := Aside0.mk hc1
  clear hr1 hc1
  have H : (if (l0.length : Int) = (l1.length : Int) then (laws_texts.l0 k l0 l1 (l0.length : Int) 0) else (some false)) = some r := h
  clear h
  by_cases c3 : (l0.length : Int) = (l1.length : Int)
  · rw [if_pos c3] at H
    have c3b0 : ((l0.length : Int) == (l1.length : Int)) = true := beq_iff_eq.mpr c3
    have c3b1 : ((l0.length : Int) != (l1.length : Int)) = false := bne_eq_false_iff_eq.mpr c3
    have c3b2 : (l0.length == l1.length) = true := by first | simpa using c3 | (simp at c3 ⊢; omega)
    clear c3
    have H' := Aside0.mk H
    clear H
    go_enter Try.func12, Try.ntmps12
    go_wp2
    repeat (go_quiet (fail); try go_wp2)
    go_loopg [13] k (fun kq v13 w' => ∃ (x13_1 : Int), v13 = .int .i64 x13_1 ∧ Aside0 (laws_texts.l0 kq l0 l1 (l0.length : Int) x13_1 = some r) ∧ Aside0 (kq ≤ k) ∧ Drawn0 w w')
    case atStart => exact ⟨(0), (by first | rfl | (simp; done) | (simp [*]; done)), H', ⟨Nat.le_refl _⟩, by repeat (first | exact Drawn0.refl _ | apply Drawn0.step)⟩
    case round =>
      clear H'
      try clear c1
      try clear p2
      try clear c3
      try clear c3b0
      try clear c3b1
      try clear c3b2
      obtain ⟨x13_1, rfl, HA, HK1, ⟨m1, rfl⟩⟩ := hrel
      cases gk with
      | zero => exact absurd HA.out (by simp [laws_texts.l0])
      | succ k1 =>
        have H := HA.out
        clear HA
        simp only [laws_texts.l0] at H
        by_cases c4 : x13_1 < (l0.length : Int)
        · rw [if_pos c4] at H
          have c4b0 : decide (x13_1 < (l0.length : Int)) = true := decide_eq_true c4
          clear c4
          by_cases c5 : 0 ≤ x13_1
          · rw [if_pos c5] at H
            have c5b0 : decide (0 ≤ x13_1) = true := decide_eq_true c5
            clear c5
            by_cases c6 : x13_1 < (l0.length : Int)
            · rw [if_pos c6] at H
              have c6b0 : decide (x13_1 < (l0.length : Int)) = true := decide_eq_true c6
              clear c6
              by_cases c7 : x13_1 < (l1.length : Int)
              · rw [if_pos c7] at H
                have c7b0 : decide (x13_1 < (l1.length : Int)) = true := decide_eq_true c7
                clear c7
                by_cases c8 : (rdOf ByteArray.empty l0 x13_1).toList = (rdOf ByteArray.empty l1 x13_1).toList
                · rw [if_pos c8] at H
                  have c8b0 : ((rdOf ByteArray.empty l0 x13_1).toList == (rdOf ByteArray.empty l1 x13_1).toList) = true := beq_iff_eq.mpr c8
                  have c8b1 : ((rdOf ByteArray.empty l0 x13_1).toList != (rdOf ByteArray.empty l1 x13_1).toList) = false := bne_eq_false_iff_eq.mpr c8
                  clear c8
                  have H' := Aside0.mk H
                  clear H
                  have p117 : 0 ≤ (x13_1 : Int) := of_decide_eq_true (by first | (with_reducible assumption) | assumption)
                  have q117 : x13_1 < (l0.length : Int) := of_decide_eq_true (by first | (with_reducible assumption) | assumption)
                  obtain ⟨ad117, e117, hx117_0⟩ := Kd.at_string HR0.out x13_1 p117 q117
                  cases e117
                  replace p117 := eq_true p117
                  replace q117 := eq_true q117
                  have p118 : 0 ≤ (x13_1 : Int) := of_decide_eq_true (by first | (with_reducible assumption) | assumption)
                  have q118 : x13_1 < (l1.length : Int) := of_decide_eq_true (by first | (with_reducible assumption) | assumption)
                  obtain ⟨ad118, e118, hx118_0⟩ := Kd.at_string HR1.out x13_1 p118 q118
                  cases e118
                  replace p118 := eq_true p118
                  replace q118 := eq_true q118
                  go_wp2
                  repeat (go_quiet (fail); try go_wp2)
                  go_roundg k1
                  case measure => have := HK1.out; omega
                  case rel => exact ⟨(wrap64 (x13_1 + 1)), (by first | rfl | (simp; done) | (simp [*]; done)), H', ⟨by have := HK1.out; omega⟩, by repeat (first | exact Drawn0.refl _ | apply Drawn0.step)⟩
                · rw [if_neg c8] at H
                  have c8b0 : ((rdOf ByteArray.empty l0 x13_1).toList == (rdOf ByteArray.empty l1 x13_1).toList) = false := beq_eq_false_iff_ne.mpr c8
                  have c8b1 : ((rdOf ByteArray.empty l0 x13_1).toList != (rdOf ByteArray.empty l1 x13_1).toList) = true := bne_iff_ne.mpr c8
                  obtain rfl := Option.some.inj H
                  have p117 : 0 ≤ (x13_1 : Int) := of_decide_eq_true (by first | (with_reducible assumption) | assumption)
                  have q117 : x13_1 < (l0.length : Int) := of_decide_eq_true (by first | (with_reducible assumption) | assumption)
                  obtain ⟨ad117, e117, hx117_0⟩ := Kd.at_string HR0.out x13_1 p117 q117
                  cases e117
                  replace p117 := eq_true p117
                  replace q117 := eq_true q117
                  have p118 : 0 ≤ (x13_1 : Int) := of_decide_eq_true (by first | (with_reducible assumption) | assumption)
                  have q118 : x13_1 < (l1.length : Int) := of_decide_eq_true (by first | (with_reducible assumption) | assumption)
                  obtain ⟨ad118, e118, hx118_0⟩ := Kd.at_string HR1.out x13_1 p118 q118
                  cases e118
                  replace p118 := eq_true p118
                  replace q118 := eq_true q118
                  go_wp2
                  repeat (go_quiet (fail); try go_wp2)
                  go_ret
                  exact ⟨by first | rfl | (simp; done) | (simp [*]; done), by repeat (first | exact Drawn0.refl _ | apply Drawn0.step)⟩
              · rw [if_neg c7] at H
                exact absurd H (by simp)
            · rw [if_neg c6] at H
              exact absurd H (by simp)
          · rw [if_neg c5] at H
            exact absurd H (by simp)
        · rw [if_neg c4] at H
          have c4b0 : decide (x13_1 < (l0.length : Int)) = false := decide_eq_false c4
          clear c4
          obtain rfl := Option.some.inj H
          go_wp2
          repeat (go_quiet (fail); try go_wp2)
          go_ret
          exact ⟨by first | rfl | (simp; done) | (simp [*]; done), by repeat (first | exact Drawn0.refl _ | apply Drawn0.step)⟩
  · rw [if_neg c3] at H
    have c3b0 : ((l0.length : Int) == (l1.length : Int)) = false := beq_eq_false_iff_ne.mpr c3
    have c3b1 : ((l0.length : Int) != (l1.length : Int)) = true := bne_iff_ne.mpr c3
    have c3b2 : (l0.length == l1.length) = false := by first | simpa using c3 | (simp at c3 ⊢; omega)
    obtain rfl := Option.some.inj H
    go_enter Try.func12, Try.ntmps12
    go_wp2
    repeat (go_quiet (fail); try go_wp2)
    go_ret
    exact ⟨by first | rfl | (simp; done) | (simp [*]; done), by repeat (first | exact Drawn0.refl _ | apply Drawn0.step)⟩

/-! ### laws_FnCompactAgainst: function 3 -/
def laws_FnCompactAgainst.j0 : Nat → List ByteArray → Int → Bool → Option (Bool)
  | 0, _, _, _ => none
  | k + 1, x0, x1, x25 => if x25 = true then (some true) else ((impl_Compact.f x0 x1).bind fun t121 => ((spec_Compact.f k x0 x1).bind fun t124 => (if (t121.length : Int) > 0 then ((laws_texts.f k t121 t124).bind fun t127 => (some t127)) else (some false))))
def laws_FnCompactAgainst.f (k : Nat) (l0 : List ByteArray) (a1 : Int) : Option (Bool) := (laws_zzFits2.f k l0).bind fun t119 => (if t119 = true then ((laws_few.f k l0).bind fun t120 => (if t120 = true then (if a1 < 0 then (laws_FnCompactAgainst.j0 k l0 a1 true) else (if a1 > 3000 then (laws_FnCompactAgainst.j0 k l0 a1 true) else (laws_FnCompactAgainst.j0 k l0 a1 ((l0.length : Int) == 0)))) else (laws_FnCompactAgainst.j0 k l0 a1 true))) else (some true))
theorem laws_FnCompactAgainst.mono_l : ∀ k, (∀ y0 y1 y2, LeO (laws_FnCompactAgainst.j0 k y0 y1 y2) (laws_FnCompactAgainst.j0 (k + 1) y0 y1 y2))
  | 0 => fun _ _ _ r h => by simp [laws_FnCompactAgainst.j0] at h
  | k + 1 => by
    have ih0 := laws_FnCompactAgainst.mono_l k
    · intro y0 y1 y2
      unfold laws_FnCompactAgainst.j0
      repeat' first
      | (with_reducible exact ih0 _ _ _)
      | (with_reducible exact laws_few.mono _ _)
      | (with_reducible exact laws_texts.mono _ _ _)
      | (with_reducible exact laws_zzFits2.mono _ _)
      | (with_reducible exact spec_Compact.mono _ _ _)
      | (with_reducible exact LeO.refl _)
      | (with_reducible exact LeO.none _)
      | (with_reducible refine LeO.ite ?_ ?_)
      | (with_reducible refine LeO.bind ?_ (fun _ => ?_))
      | exact ih0 _ _ _
      | exact laws_few.mono _ _
      | exact laws_texts.mono _ _ _
      | exact laws_zzFits2.mono _ _
      | exact spec_Compact.mono _ _ _
      | exact LeO.none _
      | refine LeO.ite ?_ ?_
      | refine LeO.bind ?_ (fun _ => ?_)
theorem laws_FnCompactAgainst.mono : ∀ a0 a1 k, LeO (laws_FnCompactAgainst.f k a0 a1) (laws_FnCompactAgainst.f (k + 1) a0 a1) := by
  intro a0 a1 k
  have ih0 := laws_FnCompactAgainst.mono_l k
  unfold laws_FnCompactAgainst.f
  repeat' first
      | (with_reducible exact ih0 _ _ _)
      | (with_reducible exact laws_few.mono _ _)
      | (with_reducible exact laws_texts.mono _ _ _)
      | (with_reducible exact laws_zzFits2.mono _ _)
      | (with_reducible exact spec_Compact.mono _ _ _)
      | (with_reducible exact LeO.refl _)
      | (with_reducible exact LeO.none _)
      | (with_reducible refine LeO.ite ?_ ?_)
      | (with_reducible refine LeO.bind ?_ (fun _ => ?_))
      | exact ih0 _ _ _
      | exact laws_few.mono _ _
      | exact laws_texts.mono _ _ _
      | exact laws_zzFits2.mono _ _
      | exact spec_Compact.mono _ _ _
      | exact LeO.none _
      | refine LeO.ite ?_ ?_
      | refine LeO.bind ?_ (fun _ => ?_)
set_option maxHeartbeats 8000000 in
set_option maxRecDepth 100000 in
theorem laws_FnCompactAgainst.calls (k : Nat) (A0 : Option Addr) (c0 : Nat) (l0 : List ByteArray) (a1 : Int) (r : Bool) (w : World) (hr0 : Kd.C Kd.string w A0 l0.length l0) (hc0 : l0.length ≤ c0) (h : laws_FnCompactAgainst.f k l0 a1 = some r) :
    Calls Try.prog 3 #[.slice A0 l0.length c0, .int .i64 a1] w fun e w' => e = .returned (.bool r) ∧ Below w.heap.size w w' := by
  have HR0 := Aside0.mk hr0
  have HC0 := Aside0.mk hc0
  clear hr0 hc0
  have HB := Aside0.mk (Below.refl w.heap.size w)
  have H : ((laws_zzFits2.f k l0).bind fun t119 => (if t119 = true then ((laws_few.f k l0).bind fun t120 => (if t120 = true then (if a1 < 0 then (laws_FnCompactAgainst.j0 k l0 a1 true) else (if a1 > 3000 then (laws_FnCompactAgainst.j0 k l0 a1 true) else (laws_FnCompactAgainst.j0 k l0 a1 ((l0.length : Int) == 0)))) else (laws_FnCompactAgainst.j0 k l0 a1 true))) else (some true))) = some r := h
  clear h
  replace H := Option.bind_eq_some_iff.mp H
  obtain ⟨t119, A30, H⟩ := H
  replace H : (if t119 = true then ((laws_few.f k l0).bind fun t120 => (if t120 = true then (if a1 < 0 then (laws_FnCompactAgainst.j0 k l0 a1 true) else (if a1 > 3000 then (laws_FnCompactAgainst.j0 k l0 a1 true) else (laws_FnCompactAgainst.j0 k l0 a1 ((l0.length : Int) == 0)))) else (laws_FnCompactAgainst.j0 k l0 a1 true))) else (some true)) = some r := H
  have A3 := Aside0.mk A30
  clear A30
  by_cases c4 : t119 = true
  · subst c4
    have H1 : ((laws_few.f k l0).bind fun t120 => (if t120 = true then (if a1 < 0 then (laws_FnCompactAgainst.j0 k l0 a1 true) else (if a1 > 3000 then (laws_FnCompactAgainst.j0 k l0 a1 true) else (laws_FnCompactAgainst.j0 k l0 a1 ((l0.length : Int) == 0)))) else (laws_FnCompactAgainst.j0 k l0 a1 true))) = some r := by rw [if_pos rfl] at H; exact H
    clear H
    have H := H1
    clear H1
    have HC5 := Aside0.mk H
    clear H
    go_enter Try.func3, Try.ntmps3
    go_upto_region 3 with (first | ((with_reducible refine gate_callee (f := 8) rfl ?_); refine goesL_ (some 8) rfl rfl Try.func8 (by kernel_rfl) rfl #[.slice A0 l0.length c0] rfl (by (try simp only [List.map_toArray, List.map_cons, List.map_nil]); first | done | rfl | (simp only [List.length_drop, List.length_take]; rfl)) ?_; (with_reducible refine (laws_zzFits2.calls k _ _ l0 true _ ?side1 ?side2 A3.out).mono ?_); (case side1 => repeat (first | exact HR0.out | (with_reducible refine Kd.C_alloc ?_ _) | (with_reducible refine Kd.C_drewN ?_ _) | (with_reducible refine Kd.C_drew ?_))); (case side2 => exact HC0.out); rintro e w' ⟨rfl, ⟨nd, rfl⟩⟩; refine ⟨_, rfl, ?_⟩))
    (try simp only [Act.put, List.setIfInBounds_toArray, List.set_cons_zero, List.set_cons_succ])
    go_cut [25] (fun v25 wc => ∃ (kq : Nat) (x25_4 : Bool), v25 = .bool x25_4 ∧ Aside0 (laws_FnCompactAgainst.j0 kq l0 a1 x25_4 = some r) ∧ Aside0 (kq ≤ k) ∧ Aside0 (Below w.heap.size w wc))
    case first =>
      have H := HC5.out
      clear HC5
      replace H := Option.bind_eq_some_iff.mp H
      obtain ⟨t120, A60, H⟩ := H
      replace H : (if t120 = true then (if a1 < 0 then (laws_FnCompactAgainst.j0 k l0 a1 true) else (if a1 > 3000 then (laws_FnCompactAgainst.j0 k l0 a1 true) else (laws_FnCompactAgainst.j0 k l0 a1 ((l0.length : Int) == 0)))) else (laws_FnCompactAgainst.j0 k l0 a1 true)) = some r := H
      have A6 := Aside0.mk A60
      clear A60
      by_cases c7 : t120 = true
      · subst c7
        have H1 : (if a1 < 0 then (laws_FnCompactAgainst.j0 k l0 a1 true) else (if a1 > 3000 then (laws_FnCompactAgainst.j0 k l0 a1 true) else (laws_FnCompactAgainst.j0 k l0 a1 ((l0.length : Int) == 0)))) = some r := by rw [if_pos rfl] at H; exact H
        clear H
        have H := H1
        clear H1
        by_cases c8 : a1 < 0
        · rw [if_pos c8] at H
          have c8b0 : decide (a1 < 0) = true := decide_eq_true c8
          clear c8
          (first | rw [c8b0] | (simp only [i64_w, i32_w]; rw [c8b0]) | skip)
          have H' := Aside0.mk H
          clear H
          go_wp2_with (first | ((with_reducible refine gate_callee (f := 9) rfl ?_); refine goesL_ (some 11) rfl rfl Try.func9 (by kernel_rfl) rfl #[.slice A0 l0.length c0] rfl (by (try simp only [List.map_toArray, List.map_cons, List.map_nil]); first | done | rfl | (simp only [List.length_drop, List.length_take]; rfl)) ?_; (with_reducible refine (laws_few.calls k _ _ l0 true _ ?side1 ?side2 A6.out).mono ?_); (case side1 => repeat (first | exact (Kd.C_below HR0.out HB.out) | (with_reducible refine Kd.C_alloc ?_ _) | (with_reducible refine Kd.C_drewN ?_ _) | (with_reducible refine Kd.C_drew ?_))); (case side2 => exact HC0.out); rintro e w' ⟨rfl, ⟨nd, rfl⟩⟩; refine ⟨_, rfl, ?_⟩))
          go_meet
          case rel => exact ⟨_, (true), (by first | rfl | (simp; done) | (simp [*]; done)), H', ⟨by first | omega | exact Nat.le_refl _⟩, ⟨by repeat (first | (with_reducible first | exact HB.out | apply below_alloc | apply pw_below_drewN | apply below_drew1) | exact HB.out)⟩⟩
        · rw [if_neg c8] at H
          have c8b0 : decide (a1 < 0) = false := decide_eq_false c8
          clear c8
          (first | rw [c8b0] | (simp only [i64_w, i32_w]; rw [c8b0]) | skip)
          by_cases c9 : a1 > 3000
          · rw [if_pos c9] at H
            have c9b0 : decide (3000 < a1) = true := decide_eq_true c9
            clear c9
            have H' := Aside0.mk H
            clear H
            go_wp2_with (first | ((with_reducible refine gate_callee (f := 9) rfl ?_); refine goesL_ (some 11) rfl rfl Try.func9 (by kernel_rfl) rfl #[.slice A0 l0.length c0] rfl (by (try simp only [List.map_toArray, List.map_cons, List.map_nil]); first | done | rfl | (simp only [List.length_drop, List.length_take]; rfl)) ?_; (with_reducible refine (laws_few.calls k _ _ l0 true _ ?side1 ?side2 A6.out).mono ?_); (case side1 => repeat (first | exact (Kd.C_below HR0.out HB.out) | (with_reducible refine Kd.C_alloc ?_ _) | (with_reducible refine Kd.C_drewN ?_ _) | (with_reducible refine Kd.C_drew ?_))); (case side2 => exact HC0.out); rintro e w' ⟨rfl, ⟨nd, rfl⟩⟩; refine ⟨_, rfl, ?_⟩))
            go_meet
            case rel => exact ⟨_, (true), (by first | rfl | (simp; done) | (simp [*]; done)), H', ⟨by first | omega | exact Nat.le_refl _⟩, ⟨by repeat (first | (with_reducible first | exact HB.out | apply below_alloc | apply pw_below_drewN | apply below_drew1) | exact HB.out)⟩⟩
          · rw [if_neg c9] at H
            have c9b0 : decide (3000 < a1) = false := decide_eq_false c9
            clear c9
            have H' := Aside0.mk H
            clear H
            go_wp2_with (first | ((with_reducible refine gate_callee (f := 9) rfl ?_); refine goesL_ (some 11) rfl rfl Try.func9 (by kernel_rfl) rfl #[.slice A0 l0.length c0] rfl (by (try simp only [List.map_toArray, List.map_cons, List.map_nil]); first | done | rfl | (simp only [List.length_drop, List.length_take]; rfl)) ?_; (with_reducible refine (laws_few.calls k _ _ l0 true _ ?side1 ?side2 A6.out).mono ?_); (case side1 => repeat (first | exact (Kd.C_below HR0.out HB.out) | (with_reducible refine Kd.C_alloc ?_ _) | (with_reducible refine Kd.C_drewN ?_ _) | (with_reducible refine Kd.C_drew ?_))); (case side2 => exact HC0.out); rintro e w' ⟨rfl, ⟨nd, rfl⟩⟩; refine ⟨_, rfl, ?_⟩))
            go_meet
            case rel => exact ⟨_, (((l0.length : Int) == 0)), (by first | rfl | (simp; done) | (simp [*]; done)), H', ⟨by first | omega | exact Nat.le_refl _⟩, ⟨by repeat (first | (with_reducible first | exact HB.out | apply below_alloc | apply pw_below_drewN | apply below_drew1) | exact HB.out)⟩⟩
      · replace c7 := Bool.eq_false_iff.mpr c7
        subst c7
        have H1 : (laws_FnCompactAgainst.j0 k l0 a1 true) = some r := by rw [if_neg (show ¬ (false = true) by decide)] at H; exact H
        clear H
        have H := H1
        clear H1
        have H' := Aside0.mk H
        clear H
        go_wp2_with (first | ((with_reducible refine gate_callee (f := 9) rfl ?_); refine goesL_ (some 11) rfl rfl Try.func9 (by kernel_rfl) rfl #[.slice A0 l0.length c0] rfl (by (try simp only [List.map_toArray, List.map_cons, List.map_nil]); first | done | rfl | (simp only [List.length_drop, List.length_take]; rfl)) ?_; (with_reducible refine (laws_few.calls k _ _ l0 false _ ?side1 ?side2 A6.out).mono ?_); (case side1 => repeat (first | exact (Kd.C_below HR0.out HB.out) | (with_reducible refine Kd.C_alloc ?_ _) | (with_reducible refine Kd.C_drewN ?_ _) | (with_reducible refine Kd.C_drew ?_))); (case side2 => exact HC0.out); rintro e w' ⟨rfl, ⟨nd, rfl⟩⟩; refine ⟨_, rfl, ?_⟩))
        go_meet
        case rel => exact ⟨_, (true), (by first | rfl | (simp; done) | (simp [*]; done)), H', ⟨by first | omega | exact Nat.le_refl _⟩, ⟨by repeat (first | (with_reducible first | exact HB.out | apply below_alloc | apply pw_below_drewN | apply below_drew1) | exact HB.out)⟩⟩
    case rest =>
      clear HC5
      try clear p2
      try clear c3
      try clear c4
      try clear c7
      try clear c8
      try clear c8b0
      try clear c9
      try clear c9b0
      obtain ⟨kq, x25_4, rfl, HA, HJ4, HB⟩ := hcut
      cases kq with
      | zero => exact absurd HA.out (by simp [laws_FnCompactAgainst.j0])
      | succ kj4 =>
        have H := HA.out
        clear HA
        simp only [laws_FnCompactAgainst.j0] at H
        by_cases c10 : x25_4 = true
        · subst c10
          have H1 : (some true) = some r := by rw [if_pos rfl] at H; exact H
          clear H
          have H := H1
          clear H1
          obtain rfl := Option.some.inj H
          go_wp2
          go_ret
          exact ⟨by first | rfl | (simp [errW_none, errW_some] <;> rfl) | (simp [*, errW_none, errW_some] <;> rfl), by repeat (first | (with_reducible first | exact HB.out | apply below_alloc | apply pw_below_drewN | apply below_drew1) | exact HB.out)⟩
        · replace c10 := Bool.eq_false_iff.mpr c10
          subst c10
          have H1 : ((impl_Compact.f l0 a1).bind fun t121 => ((spec_Compact.f kj4 l0 a1).bind fun t124 => (if (t121.length : Int) > 0 then ((laws_texts.f kj4 t121 t124).bind fun t127 => (some t127)) else (some false)))) = some r := by rw [if_neg (show ¬ (false = true) by decide)] at H; exact H
          clear H
          have H := H1
          clear H1
          replace H := Option.bind_eq_some_iff.mp H
          obtain ⟨t121, A110, H⟩ := H
          replace H : ((spec_Compact.f kj4 l0 a1).bind fun t124 => (if (t121.length : Int) > 0 then ((laws_texts.f kj4 t121 t124).bind fun t127 => (some t127)) else (some false))) = some r := H
          have A11 := Aside0.mk A110
          clear A110
          replace H := Option.bind_eq_some_iff.mp H
          obtain ⟨t124, A120, H⟩ := H
          replace H : (if (t121.length : Int) > 0 then ((laws_texts.f kj4 t121 t124).bind fun t127 => (some t127)) else (some false)) = some r := H
          have A12 := Aside0.mk A120
          clear A120
          by_cases c13 : (t121.length : Int) > 0
          · rw [if_pos c13] at H
            have c13b0 : decide (0 < (t121.length : Int)) = true := decide_eq_true c13
            have c13b1 : decide (0 < t121.length) = true := decide_eq_true (by omega)
            clear c13
            replace H := Option.bind_eq_some_iff.mp H
            obtain ⟨t127, A140, H⟩ := H
            replace H : (some t127) = some r := H
            have A14 := Aside0.mk A140
            clear A140
            obtain rfl := Option.some.inj H
            go_wp2_with (first | ((with_reducible refine gate_callee (f := 10) rfl ?_); refine goesL_ (some 28) rfl rfl Try.func10 (by kernel_rfl) rfl #[.slice A0 l0.length c0, .int .i64 a1] rfl (by (try simp only [List.map_toArray, List.map_cons, List.map_nil]); first | done | rfl | (simp only [List.length_drop, List.length_take]; rfl)) ?_; (with_reducible refine (impl_Compact.calls _ _ l0 a1 t121 _ ?side1 ?side2 A11.out).mono ?_); (case side1 => repeat (first | exact (Kd.C_below HR0.out HB.out) | (with_reducible refine Kd.C_alloc ?_ _) | (with_reducible refine Kd.C_drewN ?_ _) | (with_reducible refine Kd.C_drew ?_))); (case side2 => exact HC0.out); rintro e w15 ⟨v122, rfl, ho0, hb⟩; refine ⟨_, rfl, ?_⟩; have n0_ := Aside0.mk (Kd.R_lower ho0 (below_size (by repeat (first | (with_reducible first | exact HB.out | apply below_alloc | apply pw_below_drewN | apply below_drew1) | exact HB.out)))); have n1_ := Aside0.mk (below_step (by repeat (first | (with_reducible first | exact HB.out | apply below_alloc | apply pw_below_drewN | apply below_drew1) | exact HB.out)) hb); clear HB; have HO123 := n0_; have HB := n1_; clear n0_ n1_; (try clear hb); (try clear hb2); (try clear hk); (try clear hi); (try clear ho0)) | ((with_reducible refine gate_callee (f := 11) rfl ?_); refine goesL_ (some 31) rfl rfl Try.func11 (by kernel_rfl) rfl #[.slice A0 l0.length c0, .int .i64 a1] rfl (by (try simp only [List.map_toArray, List.map_cons, List.map_nil]); first | done | rfl | (simp only [List.length_drop, List.length_take]; rfl)) ?_; (with_reducible refine (spec_Compact.calls kj4 _ _ l0 a1 t124 _ ?side1 ?side2 A12.out).mono ?_); (case side1 => repeat (first | exact (Kd.C_below HR0.out HB.out) | (with_reducible refine Kd.C_alloc ?_ _) | (with_reducible refine Kd.C_drewN ?_ _) | (with_reducible refine Kd.C_drew ?_))); (case side2 => exact HC0.out); rintro e w16 ⟨v125, rfl, ho0, hb⟩; refine ⟨_, rfl, ?_⟩; have n0_ := Aside0.mk (Kd.R_elder' (by (with_reducible repeat (first | apply Kd.R_alloc | apply Kd.R_drewN | apply Kd.R_drew)); exact HO123.out) (Kd.R_base ho0) hb); have n1_ := Aside0.mk (Kd.R_lower (Kd.R_new' ho0 (Kd.R_lt (by (with_reducible repeat (first | apply Kd.R_alloc | apply Kd.R_drewN | apply Kd.R_drew)); exact HO123.out))) (below_size (by repeat (first | (with_reducible first | exact HB.out | apply below_alloc | apply pw_below_drewN | apply below_drew1) | exact HB.out)))); have n2_ := Aside0.mk (below_step (by repeat (first | (with_reducible first | exact HB.out | apply below_alloc | apply pw_below_drewN | apply below_drew1) | exact HB.out)) hb); clear HO123; clear HB; have HO123 := n0_; have HO126 := n1_; have HB := n2_; clear n0_ n1_ n2_; (try clear hb); (try clear hb2); (try clear hk); (try clear hi); (try clear ho0); obtain ⟨Ao17, co17, eo17⟩ := Kd.R_slice HO123.out; subst eo17; obtain ⟨Ao18, co18, eo18⟩ := Kd.R_slice HO126.out; subst eo18) | (go_at_call 12; (with_reducible refine (laws_texts.calls kj4 _ _ t121 _ _ t124 t127 _ ?side1 ?side2 ?side3 ?side4 A14.out).mono ?_); (case side1 => repeat (first | exact (Kd.R_reads' HO123.out).2.2 | (with_reducible refine Kd.C_alloc ?_ _) | (with_reducible refine Kd.C_drewN ?_ _) | (with_reducible refine Kd.C_drew ?_))); (case side2 => exact (Kd.R_reads' HO123.out).2.1); (case side3 => repeat (first | exact (Kd.R_reads' HO126.out).2.2 | (with_reducible refine Kd.C_alloc ?_ _) | (with_reducible refine Kd.C_drewN ?_ _) | (with_reducible refine Kd.C_drew ?_))); (case side4 => exact (Kd.R_reads' HO126.out).2.1); rintro e w' ⟨rfl, ⟨nd, rfl⟩⟩))
            go_ret
            exact ⟨by first | rfl | (simp [errW_none, errW_some] <;> rfl) | (simp [*, errW_none, errW_some] <;> rfl), by repeat (first | (with_reducible first | exact HB.out | apply below_alloc | apply pw_below_drewN | apply below_drew1) | exact HB.out)⟩
          · rw [if_neg c13] at H
            have c13b0 : decide (0 < (t121.length : Int)) = false := decide_eq_false c13
            have c13b1 : decide (0 < t121.length) = false := decide_eq_false (by omega)
            clear c13
            obtain rfl := Option.some.inj H
            go_wp2_with (first | ((with_reducible refine gate_callee (f := 10) rfl ?_); refine goesL_ (some 28) rfl rfl Try.func10 (by kernel_rfl) rfl #[.slice A0 l0.length c0, .int .i64 a1] rfl (by (try simp only [List.map_toArray, List.map_cons, List.map_nil]); first | done | rfl | (simp only [List.length_drop, List.length_take]; rfl)) ?_; (with_reducible refine (impl_Compact.calls _ _ l0 a1 t121 _ ?side1 ?side2 A11.out).mono ?_); (case side1 => repeat (first | exact (Kd.C_below HR0.out HB.out) | (with_reducible refine Kd.C_alloc ?_ _) | (with_reducible refine Kd.C_drewN ?_ _) | (with_reducible refine Kd.C_drew ?_))); (case side2 => exact HC0.out); rintro e w19 ⟨v122, rfl, ho0, hb⟩; refine ⟨_, rfl, ?_⟩; have n0_ := Aside0.mk (Kd.R_lower ho0 (below_size (by repeat (first | (with_reducible first | exact HB.out | apply below_alloc | apply pw_below_drewN | apply below_drew1) | exact HB.out)))); have n1_ := Aside0.mk (below_step (by repeat (first | (with_reducible first | exact HB.out | apply below_alloc | apply pw_below_drewN | apply below_drew1) | exact HB.out)) hb); clear HB; have HO123 := n0_; have HB := n1_; clear n0_ n1_; (try clear hb); (try clear hb2); (try clear hk); (try clear hi); (try clear ho0)) | ((with_reducible refine gate_callee (f := 11) rfl ?_); refine goesL_ (some 31) rfl rfl Try.func11 (by kernel_rfl) rfl #[.slice A0 l0.length c0, .int .i64 a1] rfl (by (try simp only [List.map_toArray, List.map_cons, List.map_nil]); first | done | rfl | (simp only [List.length_drop, List.length_take]; rfl)) ?_; (with_reducible refine (spec_Compact.calls kj4 _ _ l0 a1 t124 _ ?side1 ?side2 A12.out).mono ?_); (case side1 => repeat (first | exact (Kd.C_below HR0.out HB.out) | (with_reducible refine Kd.C_alloc ?_ _) | (with_reducible refine Kd.C_drewN ?_ _) | (with_reducible refine Kd.C_drew ?_))); (case side2 => exact HC0.out); rintro e w20 ⟨v125, rfl, ho0, hb⟩; refine ⟨_, rfl, ?_⟩; have n0_ := Aside0.mk (Kd.R_elder' (by (with_reducible repeat (first | apply Kd.R_alloc | apply Kd.R_drewN | apply Kd.R_drew)); exact HO123.out) (Kd.R_base ho0) hb); have n1_ := Aside0.mk (Kd.R_lower (Kd.R_new' ho0 (Kd.R_lt (by (with_reducible repeat (first | apply Kd.R_alloc | apply Kd.R_drewN | apply Kd.R_drew)); exact HO123.out))) (below_size (by repeat (first | (with_reducible first | exact HB.out | apply below_alloc | apply pw_below_drewN | apply below_drew1) | exact HB.out)))); have n2_ := Aside0.mk (below_step (by repeat (first | (with_reducible first | exact HB.out | apply below_alloc | apply pw_below_drewN | apply below_drew1) | exact HB.out)) hb); clear HO123; clear HB; have HO123 := n0_; have HO126 := n1_; have HB := n2_; clear n0_ n1_ n2_; (try clear hb); (try clear hb2); (try clear hk); (try clear hi); (try clear ho0); obtain ⟨Ao21, co21, eo21⟩ := Kd.R_slice HO123.out; subst eo21))
            go_ret
            exact ⟨by first | rfl | (simp [errW_none, errW_some] <;> rfl) | (simp [*, errW_none, errW_some] <;> rfl), by repeat (first | (with_reducible first | exact HB.out | apply below_alloc | apply pw_below_drewN | apply below_drew1) | exact HB.out)⟩
  · replace c4 := Bool.eq_false_iff.mpr c4
    subst c4
    have H1 : (some true) = some r := by rw [if_neg (show ¬ (false = true) by decide)] at H; exact H
    clear H
    have H := H1
    clear H1
    obtain rfl := Option.some.inj H
    go_enter Try.func3, Try.ntmps3
    go_wp2_with (first | ((with_reducible refine gate_callee (f := 8) rfl ?_); refine goesL_ (some 8) rfl rfl Try.func8 (by kernel_rfl) rfl #[.slice A0 l0.length c0] rfl (by (try simp only [List.map_toArray, List.map_cons, List.map_nil]); first | done | rfl | (simp only [List.length_drop, List.length_take]; rfl)) ?_; (with_reducible refine (laws_zzFits2.calls k _ _ l0 false _ ?side1 ?side2 A3.out).mono ?_); (case side1 => repeat (first | exact HR0.out | (with_reducible refine Kd.C_alloc ?_ _) | (with_reducible refine Kd.C_drewN ?_ _) | (with_reducible refine Kd.C_drew ?_))); (case side2 => exact HC0.out); rintro e w' ⟨rfl, ⟨nd, rfl⟩⟩; refine ⟨_, rfl, ?_⟩))
    go_ret
    exact ⟨by first | rfl | (simp [errW_none, errW_some] <;> rfl) | (simp [*, errW_none, errW_some] <;> rfl), by repeat (first | (with_reducible first | exact HB.out | apply below_alloc | apply pw_below_drewN | apply below_drew1) | exact HB.out)⟩

end Go.Proofs.Ytaifkiafoebgcaa.P
