/- What is proved: Go functions answer as the Lean functions of this text (written by a program of this session over the print of the kit). Conditions: those in the hypotheses. -/
import Derived.Test.YtjflijebcpcbmaaDoorG0
import Derived.Test.YtjflijebcpcbmaaDoorG1
import Derived.Test.YtjflijebcpcbmaaDoorG3
namespace Go.Proofs.YtjflijebcpcbmaaDoor.G
open Go.RowKit Go.Proofs.YtjflijebcpcbmaaDoorW.PrintWords Go.Proofs.YtjflijebcpcbmaaDoorW.PrintLast Go.Proofs.YtjflijebcpcbmaaDoorW.PrintMore
attribute [local go_sem] max2_int min2_int max_two min_two max_three min_three max_four min_four   -- for this text's walks alone
set_option linter.unusedVariables false
set_option linter.unusedSimpArgs false

/-! ### laws_later: function 21 -/
def laws_later.f (k : Nat) (a0 : Int) (a1 : Int) (a2 : ByteArray) : Option (ByteArray) := (laws_big.f k (IntKind.u64.wrap (a0)) 2).bind fun t229 => (if 3 + t229.size ≤ 9223372036854775807 then ((laws_big.f k (IntKind.u64.wrap (a1)) 6).bind fun t230 => (if ((⟨#[22, 254, 253]⟩ : ByteArray) ++ t229).size + t230.size ≤ 9223372036854775807 then ((laws_big.f k (IntKind.u64.wrap ((a2.size : Int))) 2).bind fun t231 => (if (((⟨#[22, 254, 253]⟩ : ByteArray) ++ t229) ++ t230).size + t231.size ≤ 9223372036854775807 then (if ((((⟨#[22, 254, 253]⟩ : ByteArray) ++ t229) ++ t230) ++ t231).size + a2.size ≤ 9223372036854775807 then (some (((((⟨#[22, 254, 253]⟩ : ByteArray) ++ t229) ++ t230) ++ t231) ++ a2)) else (none)) else (none))) else (none))) else (none))
theorem laws_later.mono : ∀ a0 a1 a2 k, LeO (laws_later.f k a0 a1 a2) (laws_later.f (k + 1) a0 a1 a2) := by
  intro a0 a1 a2 k
  unfold laws_later.f
  repeat' first
      | (with_reducible exact laws_big.mono _ _ _)
      | (with_reducible exact LeO.refl _)
      | (with_reducible exact LeO.none _)
      | (with_reducible refine LeO.ite ?_ ?_)
      | (with_reducible refine LeO.bind ?_ (fun _ => ?_))
      | exact laws_big.mono _ _ _
      | exact LeO.none _
      | refine LeO.ite ?_ ?_
      | refine LeO.bind ?_ (fun _ => ?_)
set_option maxHeartbeats 8000000 in
set_option maxRecDepth 100000 in
theorem laws_later.calls (k : Nat) (a0 : Int) (a1 : Int) (a2 : ByteArray) (r : ByteArray) (w : World) (h : laws_later.f k a0 a1 a2 = some r) :
    Calls Tryd.prog 21 #[.int .u16 a0, .int .i64 a1, .string a2] w fun e w' => e = .returned (.string r) ∧ Below w.heap.size w w' := by
  have HB := Aside0.mk (Below.refl w.heap.size w)
  have H : ((laws_big.f k (IntKind.u64.wrap (a0)) 2).bind fun t229 => (if 3 + t229.size ≤ 9223372036854775807 then ((laws_big.f k (IntKind.u64.wrap (a1)) 6).bind fun t230 => (if ((⟨#[22, 254, 253]⟩ : ByteArray) ++ t229).size + t230.size ≤ 9223372036854775807 then ((laws_big.f k (IntKind.u64.wrap ((a2.size : Int))) 2).bind fun t231 => (if (((⟨#[22, 254, 253]⟩ : ByteArray) ++ t229) ++ t230).size + t231.size ≤ 9223372036854775807 then (if ((((⟨#[22, 254, 253]⟩ : ByteArray) ++ t229) ++ t230) ++ t231).size + a2.size ≤ 9223372036854775807 then (some (((((⟨#[22, 254, 253]⟩ : ByteArray) ++ t229) ++ t230) ++ t231) ++ a2)) else (none)) else (none))) else (none))) else (none))) = some r := h
  clear h
  replace H := Option.bind_eq_some_iff.mp H
  obtain ⟨t229, A40, H⟩ := H
  replace H : (if 3 + t229.size ≤ 9223372036854775807 then ((laws_big.f k (IntKind.u64.wrap (a1)) 6).bind fun t230 => (if ((⟨#[22, 254, 253]⟩ : ByteArray) ++ t229).size + t230.size ≤ 9223372036854775807 then ((laws_big.f k (IntKind.u64.wrap ((a2.size : Int))) 2).bind fun t231 => (if (((⟨#[22, 254, 253]⟩ : ByteArray) ++ t229) ++ t230).size + t231.size ≤ 9223372036854775807 then (if ((((⟨#[22, 254, 253]⟩ : ByteArray) ++ t229) ++ t230) ++ t231).size + a2.size ≤ 9223372036854775807 then (some (((((⟨#[22, 254, 253]⟩ : ByteArray) ++ t229) ++ t230) ++ t231) ++ a2)) else (none)) else (none))) else (none))) else (none)) = some r := H
  have A4 := Aside0.mk A40
  clear A40
  by_cases c5 : 3 + t229.size ≤ 9223372036854775807
  · rw [if_pos c5] at H
    have c5b0 := eq_true c5
    have c5b1 : decide (3 + t229.size ≤ 9223372036854775807) = true := decide_eq_true c5
    try have c5b2 : (9223372036854775807 < 3 + t229.size) = False := eq_false (Nat.not_lt.2 c5)
    replace H := Option.bind_eq_some_iff.mp H
    obtain ⟨t230, A60, H⟩ := H
    replace H : (if ((⟨#[22, 254, 253]⟩ : ByteArray) ++ t229).size + t230.size ≤ 9223372036854775807 then ((laws_big.f k (IntKind.u64.wrap ((a2.size : Int))) 2).bind fun t231 => (if (((⟨#[22, 254, 253]⟩ : ByteArray) ++ t229) ++ t230).size + t231.size ≤ 9223372036854775807 then (if ((((⟨#[22, 254, 253]⟩ : ByteArray) ++ t229) ++ t230) ++ t231).size + a2.size ≤ 9223372036854775807 then (some (((((⟨#[22, 254, 253]⟩ : ByteArray) ++ t229) ++ t230) ++ t231) ++ a2)) else (none)) else (none))) else (none)) = some r := H
    have A6 := Aside0.mk A60
    clear A60
    by_cases c7 : ((⟨#[22, 254, 253]⟩ : ByteArray) ++ t229).size + t230.size ≤ 9223372036854775807
    · rw [if_pos c7] at H
      have c7b0 := eq_true c7
      have c7b1 : decide (((⟨#[22, 254, 253]⟩ : ByteArray) ++ t229).size + t230.size ≤ 9223372036854775807) = true := decide_eq_true c7
      try have c7b2 : (9223372036854775807 < ((⟨#[22, 254, 253]⟩ : ByteArray) ++ t229).size + t230.size) = False := eq_false (Nat.not_lt.2 c7)
      have c7b3 := c7b2
      (try simp only [ByteArray.size_append] at c7b3)
      have c7b4 := c7b3
      (try rw [show (⟨#[22, 254, 253]⟩ : ByteArray).size = 3 from rfl] at c7b4)
      replace H := Option.bind_eq_some_iff.mp H
      obtain ⟨t231, A80, H⟩ := H
      replace H : (if (((⟨#[22, 254, 253]⟩ : ByteArray) ++ t229) ++ t230).size + t231.size ≤ 9223372036854775807 then (if ((((⟨#[22, 254, 253]⟩ : ByteArray) ++ t229) ++ t230) ++ t231).size + a2.size ≤ 9223372036854775807 then (some (((((⟨#[22, 254, 253]⟩ : ByteArray) ++ t229) ++ t230) ++ t231) ++ a2)) else (none)) else (none)) = some r := H
      have A8 := Aside0.mk A80
      clear A80
      by_cases c9 : (((⟨#[22, 254, 253]⟩ : ByteArray) ++ t229) ++ t230).size + t231.size ≤ 9223372036854775807
      · rw [if_pos c9] at H
        have c9b0 := eq_true c9
        have c9b1 : decide ((((⟨#[22, 254, 253]⟩ : ByteArray) ++ t229) ++ t230).size + t231.size ≤ 9223372036854775807) = true := decide_eq_true c9
        try have c9b2 : (9223372036854775807 < (((⟨#[22, 254, 253]⟩ : ByteArray) ++ t229) ++ t230).size + t231.size) = False := eq_false (Nat.not_lt.2 c9)
        have c9b3 := c9b2
        (try simp only [ByteArray.size_append] at c9b3)
        have c9b4 := c9b3
        (try rw [show (⟨#[22, 254, 253]⟩ : ByteArray).size = 3 from rfl] at c9b4)
        by_cases c10 : ((((⟨#[22, 254, 253]⟩ : ByteArray) ++ t229) ++ t230) ++ t231).size + a2.size ≤ 9223372036854775807
        · rw [if_pos c10] at H
          have c10b0 := eq_true c10
          have c10b1 : decide (((((⟨#[22, 254, 253]⟩ : ByteArray) ++ t229) ++ t230) ++ t231).size + a2.size ≤ 9223372036854775807) = true := decide_eq_true c10
          try have c10b2 : (9223372036854775807 < ((((⟨#[22, 254, 253]⟩ : ByteArray) ++ t229) ++ t230) ++ t231).size + a2.size) = False := eq_false (Nat.not_lt.2 c10)
          have c10b3 := c10b2
          (try simp only [ByteArray.size_append] at c10b3)
          have c10b4 := c10b3
          (try rw [show (⟨#[22, 254, 253]⟩ : ByteArray).size = 3 from rfl] at c10b4)
          obtain rfl := Option.some.inj H
          go_enter Tryd.func21, Tryd.ntmps21
          have hwz : (a2.size : Int) = IntKind.u64.wrap (a2.size : Int) := by
            have h9_ := of_decide_eq_true c10b1
            simp only [ByteArray.size_append] at h9_
            exact (Int.emod_eq_of_lt (by omega) (by show (a2.size : Int) < 18446744073709551616; omega)).symm
          replace hwz := Aside0.mk hwz
          go_wp2_with (first | ((with_reducible refine gate_callee (f := 24) rfl ?_); refine goesL_ (some 9) rfl rfl Tryd.func24 (by kernel_rfl) rfl #[.int .u64 (IntKind.u64.wrap (a0)), .int .i64 2] rfl (by (try simp only [List.map_toArray, List.map_cons, List.map_nil]); first | done | rfl | (simp only [List.length_drop, List.length_take]; rfl)) ?_; (with_reducible refine (laws_big.calls k (IntKind.u64.wrap (a0)) 2 t229 _ A4.out).mono ?_); rintro e w11 ⟨rfl, hb⟩; refine ⟨_, rfl, ?_⟩; have n0_ := Aside0.mk (below_step (by repeat (first | (with_reducible first | exact HB.out | apply below_alloc | apply pw_below_drewN | apply below_drew1) | exact HB.out)) hb); clear HB; have HB := n0_; clear n0_; (try clear hb); (try clear hb2); (try clear hk); (try clear hi)) | ((with_reducible refine gate_callee (f := 24) rfl ?_); refine goesL_ (some 13) rfl rfl Tryd.func24 (by kernel_rfl) rfl #[.int .u64 (IntKind.u64.wrap (a1)), .int .i64 6] rfl (by (try simp only [List.map_toArray, List.map_cons, List.map_nil]); first | done | rfl | (simp only [List.length_drop, List.length_take]; rfl)) ?_; (with_reducible refine (laws_big.calls k (IntKind.u64.wrap (a1)) 6 t230 _ A6.out).mono ?_); rintro e w12 ⟨rfl, hb⟩; refine ⟨_, rfl, ?_⟩; have n0_ := Aside0.mk (below_step (by repeat (first | (with_reducible first | exact HB.out | apply below_alloc | apply pw_below_drewN | apply below_drew1) | exact HB.out)) hb); clear HB; have HB := n0_; clear n0_; (try clear hb); (try clear hb2); (try clear hk); (try clear hi)) | ((with_reducible refine gate_callee (f := 24) rfl ?_); refine goesL_ (some 18) rfl rfl Tryd.func24 (by kernel_rfl) rfl #[.int .u64 (a2.size : Int), .int .i64 2] rfl (by (try simp only [List.map_toArray, List.map_cons, List.map_nil]); first | done | rfl | (simp only [List.length_drop, List.length_take]; rfl)) ?_; (with_reducible refine (laws_big.calls k (a2.size : Int) 2 t231 _ (by rw [hwz.out]; exact A8.out)).mono ?_); rintro e w13 ⟨rfl, hb⟩; refine ⟨_, rfl, ?_⟩; have n0_ := Aside0.mk (below_step (by repeat (first | (with_reducible first | exact HB.out | apply below_alloc | apply pw_below_drewN | apply below_drew1) | exact HB.out)) hb); clear HB; have HB := n0_; clear n0_; (try clear hb); (try clear hb2); (try clear hk); (try clear hi)))
          go_ret
          exact ⟨by first | rfl | (simp [errW_none, errW_some] <;> rfl) | (simp [*, errW_none, errW_some] <;> rfl), by repeat (first | (with_reducible first | exact HB.out | apply below_alloc | apply pw_below_drewN | apply below_drew1) | exact HB.out)⟩
        · rw [if_neg c10] at H
          exact absurd H (by simp)
      · rw [if_neg c9] at H
        exact absurd H (by simp)
    · rw [if_neg c7] at H
      exact absurd H (by simp)
  · rw [if_neg c5] at H
    exact absurd H (by simp)

end Go.Proofs.YtjflijebcpcbmaaDoor.G
