/- What is proved: Go functions answer as the Lean functions of this text (written by a program of this session over the print of the kit). Conditions: those in the hypotheses. -/
import Derived.Test.YtjflijebcpcbmaaDoorG0
import Derived.Test.YtjflijebcpcbmaaDoorG1
import Derived.Test.YtjflijebcpcbmaaDoorG2
namespace Go.Proofs.YtjflijebcpcbmaaDoor.G
open Go.RowKit Go.Proofs.YtjflijebcpcbmaaDoorW.PrintWords Go.Proofs.YtjflijebcpcbmaaDoorW.PrintLast Go.Proofs.YtjflijebcpcbmaaDoorW.PrintMore
attribute [local go_sem] max2_int min2_int max_two min_two max_three min_three max_four min_four   -- for this text's walks alone
set_option linter.unusedVariables false
set_option linter.unusedSimpArgs false

/-! ### laws_cutting: function 10 -/
def laws_cutting.l0 : Nat → Int → Int → ByteArray → Int → List ByteArray → Int → Option (List ByteArray)
  | 0, _, _, _, _, _, _ => none
  | k + 1, x0, x1, x2, x3, x9, x10 => if x10 < (x2.size : Int) then ((laws_piece.f k x0 x1 x2 x10 x3).bind fun t132 => (if x9.length < 8796093022208 then (laws_cutting.l0 k x0 x1 x2 x3 (x9 ++ [t132]) (wrap64 (x10 + x3))) else (none))) else (if x10 = 0 then ((laws_piece.f k x0 x1 x2 x10 x3).bind fun t136 => (if x9.length < 8796093022208 then (laws_cutting.l0 k x0 x1 x2 x3 (x9 ++ [t136]) (wrap64 (x10 + x3))) else (none))) else (some x9))
def laws_cutting.f (k : Nat) (a0 : Int) (a1 : Int) (a2 : ByteArray) (a3 : Int) : Option (List ByteArray) := laws_cutting.l0 k a0 a1 a2 a3 (([] : List ByteArray)) 0
theorem laws_cutting.mono_l : ∀ k, (∀ y0 y1 y2 y3 y4 y5, LeO (laws_cutting.l0 k y0 y1 y2 y3 y4 y5) (laws_cutting.l0 (k + 1) y0 y1 y2 y3 y4 y5))
  | 0 => fun _ _ _ _ _ _ r h => by simp [laws_cutting.l0] at h
  | k + 1 => by
    have ih0 := laws_cutting.mono_l k
    · intro y0 y1 y2 y3 y4 y5
      unfold laws_cutting.l0
      repeat' first
      | (with_reducible exact ih0 _ _ _ _ _ _)
      | (with_reducible exact laws_piece.mono _ _ _ _ _ _)
      | (with_reducible exact LeO.refl _)
      | (with_reducible exact LeO.none _)
      | (with_reducible refine LeO.ite ?_ ?_)
      | (with_reducible refine LeO.bind ?_ (fun _ => ?_))
      | exact ih0 _ _ _ _ _ _
      | exact laws_piece.mono _ _ _ _ _ _
      | exact LeO.none _
      | refine LeO.ite ?_ ?_
      | refine LeO.bind ?_ (fun _ => ?_)
theorem laws_cutting.mono : ∀ a0 a1 a2 a3 k, LeO (laws_cutting.f k a0 a1 a2 a3) (laws_cutting.f (k + 1) a0 a1 a2 a3) := by
  intro a0 a1 a2 a3 k
  have ih0 := laws_cutting.mono_l k
  unfold laws_cutting.f
  repeat' first
      | (with_reducible exact ih0 _ _ _ _ _ _)
      | (with_reducible exact laws_piece.mono _ _ _ _ _ _)
      | (with_reducible exact LeO.refl _)
      | (with_reducible exact LeO.none _)
      | (with_reducible refine LeO.ite ?_ ?_)
      | (with_reducible refine LeO.bind ?_ (fun _ => ?_))
      | exact ih0 _ _ _ _ _ _
      | exact laws_piece.mono _ _ _ _ _ _
      | exact LeO.none _
      | refine LeO.ite ?_ ?_
      | refine LeO.bind ?_ (fun _ => ?_)
set_option maxHeartbeats 8000000 in
set_option maxRecDepth 100000 in
theorem laws_cutting.calls (k : Nat) (a0 : Int) (a1 : Int) (a2 : ByteArray) (a3 : Int) (r : List ByteArray) (w : World) (h : laws_cutting.f k a0 a1 a2 a3 = some r) :
    Calls Tryd.prog 10 #[.int .u8 a0, .int .i64 a1, .string a2, .int .i64 a3] w fun e w' => ∃ v0_ : Value, e = .returned (v0_) ∧ Kd.R Kd.string 9 w' w.heap.size (fun _ => True) v0_ r ∧ Below w.heap.size w w' := by
  have HB := Aside0.mk (Below.refl w.heap.size w)
  have H : (laws_cutting.l0 k a0 a1 a2 a3 (([] : List ByteArray)) 0) = some r := h
  clear h
  obtain ⟨y129, hy129⟩ : ∃ y_ : List ByteArray, y_ = (([] : List ByteArray)) := ⟨_, rfl⟩
  replace H : (laws_cutting.l0 k a0 a1 a2 a3 y129 0) = some r := by first | (rw [hy129]; with_reducible exact H) | (have H2_ := (Option.bind_some _ _).symm.trans H; rw [hy129]; with_reducible exact H2_) | (have H2_ := (Option.bind_some _ _).symm.trans H; with_reducible exact H2_) | with_reducible exact H | (rw [hy129]; exact H) | exact H
  have Ny129 := Aside0.mk hy129
  clear hy129
  have H' := Aside0.mk H
  clear H
  go_enter Tryd.func10, Tryd.ntmps10
  go_wp2_with (first | ((with_reducible refine gate_dst (N := 11) rfl ?_); refine Kd.R_lit Kd.string _ 9 ?hg (N := 11) ?hd (xs := ([] : List ByteArray)) (inner := []) (ok := fun _ => True) (okp := fun _ => True) ?hr ?hp (fun _ hk => hk) trivial (Below.refl _ _) (Nat.le_refl _) (by simp) ?_; (case hd => rfl); (case hg => rfl); (case hr => first | (go_simp; done) | (go_simp; rfl)); (case hp => exact (Reps.none _ _)); intro v130 w5 ho6 hb hg_ hnew_; clear hg_ hnew_; (first | rw [← Ny129.out] at ho6 | (simp only [Int.reduceToNat] at ho6; rw [← Ny129.out] at ho6)); have n0_ := Aside0.mk (Kd.R_lower ho6 (below_size (by repeat (first | (with_reducible first | exact HB.out | apply below_alloc | apply pw_below_drewN | apply below_drew1) | exact HB.out)))); have n1_ := Aside0.mk (below_step (by repeat (first | (with_reducible first | exact HB.out | apply below_alloc | apply pw_below_drewN | apply below_drew1) | exact HB.out)) hb); clear HB; have HO131 := n0_; have HB := n1_; clear n0_ n1_; clear hb ho6))
  go_loopg [9, 10] k (fun kq v9 v10 w' => ∃ (x9_1 : List ByteArray) (x10_1 : Int), v10 = .int .i64 x10_1 ∧ Aside0 (laws_cutting.l0 kq a0 a1 a2 a3 x9_1 x10_1 = some r) ∧ Aside0 (kq ≤ k) ∧ Aside0 (Kd.R Kd.string 9 w' w.heap.size (fun _ => True) v9 x9_1) ∧ Aside0 (Below w.heap.size w w'))
  case atStart => exact ⟨(y129), (0), (by first | rfl | (simp; done) | (simp [*]; done)), H', ⟨Nat.le_refl _⟩, ⟨by (with_reducible repeat (first | apply Kd.R_alloc | apply Kd.R_drewN | apply Kd.R_drew)); exact HO131.out⟩, ⟨by repeat (first | (with_reducible first | exact HB.out | apply below_alloc | apply pw_below_drewN | apply below_drew1) | exact HB.out)⟩⟩
  case round =>
    clear H'
    try clear c1
    try clear p2
    obtain ⟨x9_1, x10_1, rfl, HA, HK1, HO_9, HB⟩ := hrel
    cases gk with
    | zero => exact absurd HA.out (by simp [laws_cutting.l0])
    | succ k1 =>
      have H := HA.out
      clear HA
      simp only [laws_cutting.l0] at H
      by_cases c7 : x10_1 < (a2.size : Int)
      · rw [if_pos c7] at H
        have c7b0 : decide (x10_1 < (a2.size : Int)) = true := decide_eq_true c7
        clear c7
        replace H := Option.bind_eq_some_iff.mp H
        obtain ⟨t132, A80, H⟩ := H
        replace H : (if x9_1.length < 8796093022208 then (laws_cutting.l0 k1 a0 a1 a2 a3 (x9_1 ++ [t132]) (wrap64 (x10_1 + a3))) else (none)) = some r := H
        have A8 := Aside0.mk A80
        clear A80
        by_cases c9 : x9_1.length < 8796093022208
        · rw [if_pos c9] at H
          have LMc9 := Aside0.mk c9
          clear c9
          obtain ⟨y133, hy133⟩ : ∃ y_ : List ByteArray, y_ = (x9_1 ++ [t132]) := ⟨_, rfl⟩
          replace H : (laws_cutting.l0 k1 a0 a1 a2 a3 y133 (wrap64 (x10_1 + a3))) = some r := by first | (rw [hy133]; with_reducible exact H) | (have H2_ := (Option.bind_some _ _).symm.trans H; rw [hy133]; with_reducible exact H2_) | (have H2_ := (Option.bind_some _ _).symm.trans H; with_reducible exact H2_) | with_reducible exact H | (rw [hy133]; exact H) | exact H
          have Ny133 := Aside0.mk hy133
          clear hy133
          have H' := Aside0.mk H
          clear H
          go_wp2_with (first | ((with_reducible refine gate_callee (f := 23) rfl ?_); refine goesL_ (some 29) rfl rfl Tryd.func23 (by kernel_rfl) rfl #[.int .u8 a0, .int .i64 a1, .string a2, .int .i64 x10_1, .int .i64 a3] rfl (by (try simp only [List.map_toArray, List.map_cons, List.map_nil]); first | done | rfl | (simp only [List.length_drop, List.length_take]; rfl)) ?_; (with_reducible refine (laws_piece.calls k1 a0 a1 a2 x10_1 a3 t132 _ A8.out).mono ?_); rintro e w10 ⟨rfl, hb⟩; refine ⟨_, rfl, ?_⟩; have n0_ := Aside0.mk (Kd.R_below (by (with_reducible repeat (first | apply Kd.R_alloc | apply Kd.R_drewN | apply Kd.R_drew)); exact HO_9.out) hb); have n1_ := Aside0.mk (below_step (by repeat (first | (with_reducible first | exact HB.out | apply below_alloc | apply pw_below_drewN | apply below_drew1) | exact HB.out)) hb); clear HO_9; clear HB; have HO_9 := n0_; have HB := n1_; clear n0_ n1_; (try clear hb); (try clear hb2); (try clear hk); (try clear hi)) | ((with_reducible refine gate_builtin (b := .append) (xs := #[.tmp 23, .tmp 30]) rfl ?_); at_builtin; refine Kd.R_append Kd.string (w0 := w) w.heap.size rfl (.tmp 23) (.tmp 30) 24 9 (.string ⟨#[]⟩) 16 rfl Tryd.underlying24 info9 rfl (by decide) (by omega) u9 x9_1 t132 [.string t132] (fun _ => True) (fun _ => False) rfl rfl ?aP (fun _ hk => hk.elim) ?aF ?aO ?aB ?aS ?aL ?_; (case aP => exact rfl); (case aB => exact (by repeat (first | (with_reducible first | exact HB.out | apply below_alloc | apply pw_below_drewN | apply below_drew1) | exact HB.out))); (case aF => exact (fun _ _ => trivial)); (case aO => exact (by (with_reducible repeat (first | apply Kd.R_alloc | apply Kd.R_drewN | apply Kd.R_drew)); exact HO_9.out)); (case aS => exact (below_size (by repeat (first | (with_reducible first | exact HB.out | apply below_alloc | apply pw_below_drewN | apply below_drew1) | exact HB.out)))); (case aL => have := LMc9.out; omega); intro v134 w11 ho hb hg hat; rw [← Ny133.out] at ho; have n0_ := Aside0.mk (hb); have n1_ := Aside0.mk (ho); clear HB; clear HO_9; have HB := n0_; have HO135 := n1_; clear n0_ n1_; clear ho hb hg hat))
          go_roundg k1
          case measure => have := HK1.out; omega
          case rel => exact ⟨(y133), (wrap64 (x10_1 + a3)), (by first | rfl | (simp; done) | (simp [*]; done)), H', ⟨by have := HK1.out; omega⟩, ⟨by (with_reducible repeat (first | apply Kd.R_alloc | apply Kd.R_drewN | apply Kd.R_drew)); exact HO135.out⟩, ⟨by repeat (first | (with_reducible first | exact HB.out | apply below_alloc | apply pw_below_drewN | apply below_drew1) | exact HB.out)⟩⟩
        · rw [if_neg c9] at H
          exact absurd H (by simp)
      · rw [if_neg c7] at H
        have c7b0 : decide (x10_1 < (a2.size : Int)) = false := decide_eq_false c7
        clear c7
        by_cases c12 : x10_1 = 0
        · rw [if_pos c12] at H
          have c12b0 : (x10_1 == 0) = true := beq_iff_eq.mpr c12
          have c12b1 : (x10_1 != 0) = false := bne_eq_false_iff_eq.mpr c12
          clear c12
          replace H := Option.bind_eq_some_iff.mp H
          obtain ⟨t136, A130, H⟩ := H
          replace H : (if x9_1.length < 8796093022208 then (laws_cutting.l0 k1 a0 a1 a2 a3 (x9_1 ++ [t136]) (wrap64 (x10_1 + a3))) else (none)) = some r := H
          have A13 := Aside0.mk A130
          clear A130
          by_cases c14 : x9_1.length < 8796093022208
          · rw [if_pos c14] at H
            have LMc14 := Aside0.mk c14
            clear c14
            obtain ⟨y137, hy137⟩ : ∃ y_ : List ByteArray, y_ = (x9_1 ++ [t136]) := ⟨_, rfl⟩
            replace H : (laws_cutting.l0 k1 a0 a1 a2 a3 y137 (wrap64 (x10_1 + a3))) = some r := by first | (rw [hy137]; with_reducible exact H) | (have H2_ := (Option.bind_some _ _).symm.trans H; rw [hy137]; with_reducible exact H2_) | (have H2_ := (Option.bind_some _ _).symm.trans H; with_reducible exact H2_) | with_reducible exact H | (rw [hy137]; exact H) | exact H
            have Ny137 := Aside0.mk hy137
            clear hy137
            have H' := Aside0.mk H
            clear H
            go_wp2_with (first | ((with_reducible refine gate_callee (f := 23) rfl ?_); refine goesL_ (some 29) rfl rfl Tryd.func23 (by kernel_rfl) rfl #[.int .u8 a0, .int .i64 a1, .string a2, .int .i64 x10_1, .int .i64 a3] rfl (by (try simp only [List.map_toArray, List.map_cons, List.map_nil]); first | done | rfl | (simp only [List.length_drop, List.length_take]; rfl)) ?_; (with_reducible refine (laws_piece.calls k1 a0 a1 a2 x10_1 a3 t136 _ A13.out).mono ?_); rintro e w15 ⟨rfl, hb⟩; refine ⟨_, rfl, ?_⟩; have n0_ := Aside0.mk (Kd.R_below (by (with_reducible repeat (first | apply Kd.R_alloc | apply Kd.R_drewN | apply Kd.R_drew)); exact HO_9.out) hb); have n1_ := Aside0.mk (below_step (by repeat (first | (with_reducible first | exact HB.out | apply below_alloc | apply pw_below_drewN | apply below_drew1) | exact HB.out)) hb); clear HO_9; clear HB; have HO_9 := n0_; have HB := n1_; clear n0_ n1_; (try clear hb); (try clear hb2); (try clear hk); (try clear hi)) | ((with_reducible refine gate_builtin (b := .append) (xs := #[.tmp 23, .tmp 30]) rfl ?_); at_builtin; refine Kd.R_append Kd.string (w0 := w) w.heap.size rfl (.tmp 23) (.tmp 30) 24 9 (.string ⟨#[]⟩) 16 rfl Tryd.underlying24 info9 rfl (by decide) (by omega) u9 x9_1 t136 [.string t136] (fun _ => True) (fun _ => False) rfl rfl ?aP (fun _ hk => hk.elim) ?aF ?aO ?aB ?aS ?aL ?_; (case aP => exact rfl); (case aB => exact (by repeat (first | (with_reducible first | exact HB.out | apply below_alloc | apply pw_below_drewN | apply below_drew1) | exact HB.out))); (case aF => exact (fun _ _ => trivial)); (case aO => exact (by (with_reducible repeat (first | apply Kd.R_alloc | apply Kd.R_drewN | apply Kd.R_drew)); exact HO_9.out)); (case aS => exact (below_size (by repeat (first | (with_reducible first | exact HB.out | apply below_alloc | apply pw_below_drewN | apply below_drew1) | exact HB.out)))); (case aL => have := LMc14.out; omega); intro v138 w16 ho hb hg hat; rw [← Ny137.out] at ho; have n0_ := Aside0.mk (hb); have n1_ := Aside0.mk (ho); clear HB; clear HO_9; have HB := n0_; have HO139 := n1_; clear n0_ n1_; clear ho hb hg hat))
            go_roundg k1
            case measure => have := HK1.out; omega
            case rel => exact ⟨(y137), (wrap64 (x10_1 + a3)), (by first | rfl | (simp; done) | (simp [*]; done)), H', ⟨by have := HK1.out; omega⟩, ⟨by (with_reducible repeat (first | apply Kd.R_alloc | apply Kd.R_drewN | apply Kd.R_drew)); exact HO139.out⟩, ⟨by repeat (first | (with_reducible first | exact HB.out | apply below_alloc | apply pw_below_drewN | apply below_drew1) | exact HB.out)⟩⟩
          · rw [if_neg c14] at H
            exact absurd H (by simp)
        · rw [if_neg c12] at H
          have c12b0 : (x10_1 == 0) = false := beq_eq_false_iff_ne.mpr c12
          have c12b1 : (x10_1 != 0) = true := bne_iff_ne.mpr c12
          obtain rfl := Option.some.inj H
          go_wp2
          go_ret
          exact ⟨_, by first | rfl | (simp [errW_none, errW_some] <;> rfl) | (simp [*, errW_none, errW_some] <;> rfl), by (with_reducible repeat (first | apply Kd.R_alloc | apply Kd.R_drewN | apply Kd.R_drew)); exact HO_9.out, by repeat (first | (with_reducible first | exact HB.out | apply below_alloc | apply pw_below_drewN | apply below_drew1) | exact HB.out)⟩

/-! ### laws_record: function 11 -/
def laws_record.f (k : Nat) (a0 : Int) (a1 : ByteArray) : Option (ByteArray) := (laws_big.f k (IntKind.u64.wrap (a0)) 6).bind fun t140 => (if 5 + t140.size ≤ 9223372036854775807 then ((laws_big.f k (IntKind.u64.wrap ((a1.size : Int))) 2).bind fun t141 => (if ((⟨#[22, 254, 253, 0, 0]⟩ : ByteArray) ++ t140).size + t141.size ≤ 9223372036854775807 then (if (((⟨#[22, 254, 253, 0, 0]⟩ : ByteArray) ++ t140) ++ t141).size + a1.size ≤ 9223372036854775807 then (some ((((⟨#[22, 254, 253, 0, 0]⟩ : ByteArray) ++ t140) ++ t141) ++ a1)) else (none)) else (none))) else (none))
theorem laws_record.mono : ∀ a0 a1 k, LeO (laws_record.f k a0 a1) (laws_record.f (k + 1) a0 a1) := by
  intro a0 a1 k
  unfold laws_record.f
  repeat' first
      | (with_reducible exact laws_big.mono _ _ _)
      | (with_reducible exact LeO.refl _)
      | (with_reducible exact LeO.none _)
      | (with_reducible refine LeO.ite ?_ ?_)
      | (with_reducible refine LeO.bind ?_ (fun _ => ?_))
      | exact laws_big.mono _ _ _
      | exact LeO.none _
      | refine LeO.ite ?_ ?_
      | refine LeO.bind ?_ (fun _ => ?_)
set_option maxHeartbeats 8000000 in
set_option maxRecDepth 100000 in
theorem laws_record.calls (k : Nat) (a0 : Int) (a1 : ByteArray) (r : ByteArray) (w : World) (h : laws_record.f k a0 a1 = some r) :
    Calls Tryd.prog 11 #[.int .i64 a0, .string a1] w fun e w' => e = .returned (.string r) ∧ Below w.heap.size w w' := by
  have HB := Aside0.mk (Below.refl w.heap.size w)
  have H : ((laws_big.f k (IntKind.u64.wrap (a0)) 6).bind fun t140 => (if 5 + t140.size ≤ 9223372036854775807 then ((laws_big.f k (IntKind.u64.wrap ((a1.size : Int))) 2).bind fun t141 => (if ((⟨#[22, 254, 253, 0, 0]⟩ : ByteArray) ++ t140).size + t141.size ≤ 9223372036854775807 then (if (((⟨#[22, 254, 253, 0, 0]⟩ : ByteArray) ++ t140) ++ t141).size + a1.size ≤ 9223372036854775807 then (some ((((⟨#[22, 254, 253, 0, 0]⟩ : ByteArray) ++ t140) ++ t141) ++ a1)) else (none)) else (none))) else (none))) = some r := h
  clear h
  replace H := Option.bind_eq_some_iff.mp H
  obtain ⟨t140, A30, H⟩ := H
  replace H : (if 5 + t140.size ≤ 9223372036854775807 then ((laws_big.f k (IntKind.u64.wrap ((a1.size : Int))) 2).bind fun t141 => (if ((⟨#[22, 254, 253, 0, 0]⟩ : ByteArray) ++ t140).size + t141.size ≤ 9223372036854775807 then (if (((⟨#[22, 254, 253, 0, 0]⟩ : ByteArray) ++ t140) ++ t141).size + a1.size ≤ 9223372036854775807 then (some ((((⟨#[22, 254, 253, 0, 0]⟩ : ByteArray) ++ t140) ++ t141) ++ a1)) else (none)) else (none))) else (none)) = some r := H
  have A3 := Aside0.mk A30
  clear A30
  by_cases c4 : 5 + t140.size ≤ 9223372036854775807
  · rw [if_pos c4] at H
    have c4b0 := eq_true c4
    have c4b1 : decide (5 + t140.size ≤ 9223372036854775807) = true := decide_eq_true c4
    try have c4b2 : (9223372036854775807 < 5 + t140.size) = False := eq_false (Nat.not_lt.2 c4)
    replace H := Option.bind_eq_some_iff.mp H
    obtain ⟨t141, A50, H⟩ := H
    replace H : (if ((⟨#[22, 254, 253, 0, 0]⟩ : ByteArray) ++ t140).size + t141.size ≤ 9223372036854775807 then (if (((⟨#[22, 254, 253, 0, 0]⟩ : ByteArray) ++ t140) ++ t141).size + a1.size ≤ 9223372036854775807 then (some ((((⟨#[22, 254, 253, 0, 0]⟩ : ByteArray) ++ t140) ++ t141) ++ a1)) else (none)) else (none)) = some r := H
    have A5 := Aside0.mk A50
    clear A50
    by_cases c6 : ((⟨#[22, 254, 253, 0, 0]⟩ : ByteArray) ++ t140).size + t141.size ≤ 9223372036854775807
    · rw [if_pos c6] at H
      have c6b0 := eq_true c6
      have c6b1 : decide (((⟨#[22, 254, 253, 0, 0]⟩ : ByteArray) ++ t140).size + t141.size ≤ 9223372036854775807) = true := decide_eq_true c6
      try have c6b2 : (9223372036854775807 < ((⟨#[22, 254, 253, 0, 0]⟩ : ByteArray) ++ t140).size + t141.size) = False := eq_false (Nat.not_lt.2 c6)
      have c6b3 := c6b2
      (try simp only [ByteArray.size_append] at c6b3)
      have c6b4 := c6b3
      (try rw [show (⟨#[22, 254, 253, 0, 0]⟩ : ByteArray).size = 5 from rfl] at c6b4)
      have c6b3 := c6b2
      (try simp only [ByteArray.size_append] at c6b3)
      have c6b4 := c6b3
      (try rw [show (⟨#[22, 254, 253, 0, 0]⟩ : ByteArray).size = 5 from rfl] at c6b4)
      by_cases c7 : (((⟨#[22, 254, 253, 0, 0]⟩ : ByteArray) ++ t140) ++ t141).size + a1.size ≤ 9223372036854775807
      · rw [if_pos c7] at H
        have c7b0 := eq_true c7
        have c7b1 : decide ((((⟨#[22, 254, 253, 0, 0]⟩ : ByteArray) ++ t140) ++ t141).size + a1.size ≤ 9223372036854775807) = true := decide_eq_true c7
        try have c7b2 : (9223372036854775807 < (((⟨#[22, 254, 253, 0, 0]⟩ : ByteArray) ++ t140) ++ t141).size + a1.size) = False := eq_false (Nat.not_lt.2 c7)
        have c7b3 := c7b2
        (try simp only [ByteArray.size_append] at c7b3)
        have c7b4 := c7b3
        (try rw [show (⟨#[22, 254, 253, 0, 0]⟩ : ByteArray).size = 5 from rfl] at c7b4)
        have c7b3 := c7b2
        (try simp only [ByteArray.size_append] at c7b3)
        have c7b4 := c7b3
        (try rw [show (⟨#[22, 254, 253, 0, 0]⟩ : ByteArray).size = 5 from rfl] at c7b4)
        obtain rfl := Option.some.inj H
        go_enter Tryd.func11, Tryd.ntmps11
        have hwz : (a1.size : Int) = IntKind.u64.wrap (a1.size : Int) := by
          have h9_ := of_decide_eq_true c7b1
          simp only [ByteArray.size_append] at h9_
          exact (Int.emod_eq_of_lt (by omega) (by show (a1.size : Int) < 18446744073709551616; omega)).symm
        replace hwz := Aside0.mk hwz
        go_wp2_with (first | ((with_reducible refine gate_callee (f := 24) rfl ?_); refine goesL_ (some 7) rfl rfl Tryd.func24 (by kernel_rfl) rfl #[.int .u64 (IntKind.u64.wrap (a0)), .int .i64 6] rfl (by (try simp only [List.map_toArray, List.map_cons, List.map_nil]); first | done | rfl | (simp only [List.length_drop, List.length_take]; rfl)) ?_; (with_reducible refine (laws_big.calls k (IntKind.u64.wrap (a0)) 6 t140 _ A3.out).mono ?_); rintro e w8 ⟨rfl, hb⟩; refine ⟨_, rfl, ?_⟩; have n0_ := Aside0.mk (below_step (by repeat (first | (with_reducible first | exact HB.out | apply below_alloc | apply pw_below_drewN | apply below_drew1) | exact HB.out)) hb); clear HB; have HB := n0_; clear n0_; (try clear hb); (try clear hb2); (try clear hk); (try clear hi)) | ((with_reducible refine gate_callee (f := 24) rfl ?_); refine goesL_ (some 12) rfl rfl Tryd.func24 (by kernel_rfl) rfl #[.int .u64 (a1.size : Int), .int .i64 2] rfl (by (try simp only [List.map_toArray, List.map_cons, List.map_nil]); first | done | rfl | (simp only [List.length_drop, List.length_take]; rfl)) ?_; (with_reducible refine (laws_big.calls k (a1.size : Int) 2 t141 _ (by rw [hwz.out]; exact A5.out)).mono ?_); rintro e w9 ⟨rfl, hb⟩; refine ⟨_, rfl, ?_⟩; have n0_ := Aside0.mk (below_step (by repeat (first | (with_reducible first | exact HB.out | apply below_alloc | apply pw_below_drewN | apply below_drew1) | exact HB.out)) hb); clear HB; have HB := n0_; clear n0_; (try clear hb); (try clear hb2); (try clear hk); (try clear hi)))
        go_ret
        exact ⟨by first | rfl | (simp [errW_none, errW_some] <;> rfl) | (simp [*, errW_none, errW_some] <;> rfl), by repeat (first | (with_reducible first | exact HB.out | apply below_alloc | apply pw_below_drewN | apply below_drew1) | exact HB.out)⟩
      · rw [if_neg c7] at H
        exact absurd H (by simp)
    · rw [if_neg c6] at H
      exact absurd H (by simp)
  · rw [if_neg c4] at H
    exact absurd H (by simp)

/-! ### laws_pops: function 12 -/
mutual
def laws_pops.l0 : Nat → Int → List (S45) → List ByteArray → Int → Int → Option ((List (S45)))
  | 0, _, _, _, _, _ => none
  | k + 1, x1, x5, x8, x9, x10 => if x10 < x9 then (if 0 ≤ x10 then (if x10 < (x8.length : Int) then (if x5.length < 5864062014805 then (laws_pops.l0 k x1 (x5 ++ [(⟨true, rdOf ByteArray.empty x8 x10⟩ : S45)]) x8 x9 (wrap64 (x10 + 1))) else (none)) else (none)) else (none)) else (laws_pops.l1 k x5 x1 0)
def laws_pops.l1 : Nat → List (S45) → Int → Int → Option ((List (S45)))
  | 0, _, _, _ => none
  | k + 1, x5, x20, x21 => if x21 < x20 then (if x5.length < 5864062014805 then (laws_pops.l1 k (x5 ++ [(⟨false, (⟨#[]⟩ : ByteArray)⟩ : S45)]) x20 (wrap64 (x21 + 1))) else (none)) else (some x5)
end
def laws_pops.f (k : Nat) (l0 : List ByteArray) (a1 : Int) : Option ((List (S45))) := laws_pops.l0 k a1 ([] : List (S45)) l0 (l0.length : Int) 0
theorem laws_pops.mono_l : ∀ k, (∀ y0 y1 y2 y3 y4, LeO (laws_pops.l0 k y0 y1 y2 y3 y4) (laws_pops.l0 (k + 1) y0 y1 y2 y3 y4)) ∧ (∀ y0 y1 y2, LeO (laws_pops.l1 k y0 y1 y2) (laws_pops.l1 (k + 1) y0 y1 y2))
  | 0 => ⟨fun _ _ _ _ _ r h => by simp [laws_pops.l0] at h, fun _ _ _ r h => by simp [laws_pops.l1] at h⟩
  | k + 1 => by
    obtain ⟨ih0, ih1⟩ := laws_pops.mono_l k
    refine ⟨?_, ?_⟩
    · intro y0 y1 y2 y3 y4
      unfold laws_pops.l0
      repeat' first
      | (with_reducible exact ih0 _ _ _ _ _)
      | (with_reducible exact ih1 _ _ _)
      | (with_reducible exact LeO.refl _)
      | (with_reducible exact LeO.none _)
      | (with_reducible refine LeO.ite ?_ ?_)
      | (with_reducible refine LeO.bind ?_ (fun _ => ?_))
      | exact ih0 _ _ _ _ _
      | exact ih1 _ _ _
      | exact LeO.none _
      | refine LeO.ite ?_ ?_
      | refine LeO.bind ?_ (fun _ => ?_)
    · intro y0 y1 y2
      unfold laws_pops.l1
      repeat' first
      | (with_reducible exact ih0 _ _ _ _ _)
      | (with_reducible exact ih1 _ _ _)
      | (with_reducible exact LeO.refl _)
      | (with_reducible exact LeO.none _)
      | (with_reducible refine LeO.ite ?_ ?_)
      | (with_reducible refine LeO.bind ?_ (fun _ => ?_))
      | exact ih0 _ _ _ _ _
      | exact ih1 _ _ _
      | exact LeO.none _
      | refine LeO.ite ?_ ?_
      | refine LeO.bind ?_ (fun _ => ?_)
theorem laws_pops.mono : ∀ a0 a1 k, LeO (laws_pops.f k a0 a1) (laws_pops.f (k + 1) a0 a1) := by
  intro a0 a1 k
  obtain ⟨ih0, ih1⟩ := laws_pops.mono_l k
  unfold laws_pops.f
  repeat' first
      | (with_reducible exact ih0 _ _ _ _ _)
      | (with_reducible exact ih1 _ _ _)
      | (with_reducible exact LeO.refl _)
      | (with_reducible exact LeO.none _)
      | (with_reducible refine LeO.ite ?_ ?_)
      | (with_reducible refine LeO.bind ?_ (fun _ => ?_))
      | exact ih0 _ _ _ _ _
      | exact ih1 _ _ _
      | exact LeO.none _
      | refine LeO.ite ?_ ?_
      | refine LeO.bind ?_ (fun _ => ?_)
set_option maxHeartbeats 8000000 in
set_option maxRecDepth 100000 in
theorem laws_pops.calls (k : Nat) (A0 : Option Addr) (c0 : Nat) (l0 : List ByteArray) (a1 : Int) (r : List (S45)) (w : World) (hr0 : Kd.C Kd.string w A0 l0.length l0) (hc0 : l0.length ≤ c0) (h : laws_pops.f k l0 a1 = some r) :
    Calls Tryd.prog 12 #[.slice A0 l0.length c0, .int .i64 a1] w fun e w' => ∃ v0_ : Value, e = .returned (v0_) ∧ Kd.R k45 45 w' w.heap.size (fun _ => True) v0_ r ∧ Below w.heap.size w w' := by
  have hu45 := Tryd.underlying45
  have HR0 := Aside0.mk hr0
  have HC0 := Aside0.mk hc0
  clear hr0 hc0
  have HB := Aside0.mk (Below.refl w.heap.size w)
  have H : (laws_pops.l0 k a1 ([] : List (S45)) l0 (l0.length : Int) 0) = some r := h
  clear h
  have H' := Aside0.mk H
  clear H
  go_enter Tryd.func12, Tryd.ntmps12
  go_wp2
  go_loopg [5, 10] k (fun kq v5 v10 w' => ∃ (x5_1 : List (S45)) (x10_1 : Int), v10 = .int .i64 x10_1 ∧ Aside0 (laws_pops.l0 kq a1 x5_1 l0 (l0.length : Int) x10_1 = some r) ∧ Aside0 (kq ≤ k) ∧ Aside0 (Kd.R k45 45 w' w.heap.size (fun _ => True) v5 x5_1) ∧ Aside0 (Below w.heap.size w w'))
  case atStart => exact ⟨(([] : List (S45))), (0), (by first | rfl | (simp; done) | (simp [*]; done)), H', ⟨Nat.le_refl _⟩, ⟨by first | exact Kd.R_nil _ _ _ _ _ | exact Kd.N_nil _ _ _ _ _ | exact Kd.V_nil _ _ _ _ _ | exact Kd.Q_nil _ _ _ _ _ | exact Kd.S_nil _ _ _ _ _⟩, ⟨by repeat (first | (with_reducible first | exact HB.out | apply below_alloc | apply pw_below_drewN | apply below_drew1) | exact HB.out)⟩⟩
  case round =>
    clear H'
    try clear c1
    try clear p2
    obtain ⟨x5_1, x10_1, rfl, HA, HK1, HO_5, HB⟩ := hrel
    cases gk with
    | zero => exact absurd HA.out (by simp [laws_pops.l0])
    | succ k1 =>
      have H := HA.out
      clear HA
      simp only [laws_pops.l0] at H
      by_cases c3 : x10_1 < (l0.length : Int)
      · rw [if_pos c3] at H
        have c3b0 : decide (x10_1 < (l0.length : Int)) = true := decide_eq_true c3
        clear c3
        by_cases c4 : 0 ≤ x10_1
        · rw [if_pos c4] at H
          have c4b0 : decide (0 ≤ x10_1) = true := decide_eq_true c4
          clear c4
          by_cases c5 : x10_1 < (l0.length : Int)
          · rw [if_pos c5] at H
            have c5b0 : decide (x10_1 < (l0.length : Int)) = true := decide_eq_true c5
            clear c5
            by_cases c6 : x5_1.length < 5864062014805
            · rw [if_pos c6] at H
              have LMc6 := Aside0.mk c6
              clear c6
              obtain ⟨y143, hy143⟩ : ∃ y_ : List (S45), y_ = (x5_1 ++ [(⟨true, rdOf ByteArray.empty l0 x10_1⟩ : S45)]) := ⟨_, rfl⟩
              replace H : (laws_pops.l0 k1 a1 y143 l0 (l0.length : Int) (wrap64 (x10_1 + 1))) = some r := by first | (rw [hy143]; with_reducible exact H) | (have H2_ := (Option.bind_some _ _).symm.trans H; rw [hy143]; with_reducible exact H2_) | (have H2_ := (Option.bind_some _ _).symm.trans H; with_reducible exact H2_) | with_reducible exact H | (rw [hy143]; exact H) | exact H
              have Ny143 := Aside0.mk hy143
              clear hy143
              have H' := Aside0.mk H
              clear H
              have p142 : 0 ≤ (x10_1 : Int) := of_decide_eq_true (by first | (with_reducible assumption) | assumption)
              have q142 : x10_1 < (l0.length : Int) := of_decide_eq_true (by first | (with_reducible assumption) | assumption)
              obtain ⟨ad142, e142, hx142_0⟩ := Kd.at_string HR0.out x10_1 p142 q142
              cases e142
              replace hx142_0 := (HB.out.cell (World.block_lt_of_cell? w _ hx142_0)).trans hx142_0
              replace p142 := eq_true p142
              replace q142 := eq_true q142
              go_wp2_with (first | ((with_reducible refine gate_builtin (b := .append) (xs := #[.tmp 14, .tmp 17]) rfl ?_); at_builtin; refine Kd.R_append k45 (w0 := w) w.heap.size rfl (.tmp 14) (.tmp 17) 28 45 (.agg #[(.bool false), (.string ⟨#[]⟩)]) 24 rfl Tryd.underlying28 info45 rfl (by decide) (by omega) u5 x5_1 (⟨true, rdOf ByteArray.empty l0 x10_1⟩ : S45) [.bool true, .string (rdOf ByteArray.empty l0 x10_1)] (fun _ => True) (fun _ => False) rfl rfl ?aP (fun _ hk => hk.elim) ?aF ?aO ?aB ?aS ?aL ?_; (case aP => exact k45_mkM _ _ _ (⟨true, rdOf ByteArray.empty l0 x10_1⟩ : S45)); (case aB => exact (by repeat (first | (with_reducible first | exact HB.out | apply below_alloc | apply pw_below_drewN | apply below_drew1) | exact HB.out))); (case aF => exact (fun _ _ => trivial)); (case aO => exact (by (with_reducible repeat (first | apply Kd.R_alloc | apply Kd.R_drewN | apply Kd.R_drew)); exact HO_5.out)); (case aS => exact (below_size (by repeat (first | (with_reducible first | exact HB.out | apply below_alloc | apply pw_below_drewN | apply below_drew1) | exact HB.out)))); (case aL => have := LMc6.out; omega); intro v144 w7 ho hb hg hat; rw [← Ny143.out] at ho; have n0_ := Aside0.mk (hb); have n1_ := Aside0.mk (ho); clear HB; clear HO_5; have HB := n0_; have HO145 := n1_; clear n0_ n1_; clear ho hb hg hat))
              go_roundg k1
              case measure => have := HK1.out; omega
              case rel => exact ⟨(y143), (wrap64 (x10_1 + 1)), (by first | rfl | (simp; done) | (simp [*]; done)), H', ⟨by have := HK1.out; omega⟩, ⟨by (with_reducible repeat (first | apply Kd.R_alloc | apply Kd.R_drewN | apply Kd.R_drew)); exact HO145.out⟩, ⟨by repeat (first | (with_reducible first | exact HB.out | apply below_alloc | apply pw_below_drewN | apply below_drew1) | exact HB.out)⟩⟩
            · rw [if_neg c6] at H
              exact absurd H (by simp)
          · rw [if_neg c5] at H
            exact absurd H (by simp)
        · rw [if_neg c4] at H
          exact absurd H (by simp)
      · rw [if_neg c3] at H
        have c3b0 : decide (x10_1 < (l0.length : Int)) = false := decide_eq_false c3
        clear c3
        have H' := Aside0.mk H
        clear H
        go_wp2
        go_loopg [5, 21] k1 (fun kq v5 v21 w' => ∃ (x5_2 : List (S45)) (x21_2 : Int), v21 = .int .i64 x21_2 ∧ Aside0 (laws_pops.l1 kq x5_2 a1 x21_2 = some r) ∧ Aside0 (kq ≤ k1) ∧ Aside0 (Kd.R k45 45 w' w.heap.size (fun _ => True) v5 x5_2) ∧ Aside0 (Below w.heap.size w w'))
        case atStart => exact ⟨(x5_1), (0), (by first | rfl | (simp; done) | (simp [*]; done)), H', ⟨Nat.le_refl _⟩, ⟨by (with_reducible repeat (first | apply Kd.R_alloc | apply Kd.R_drewN | apply Kd.R_drew)); exact HO_5.out⟩, ⟨by repeat (first | (with_reducible first | exact HB.out | apply below_alloc | apply pw_below_drewN | apply below_drew1) | exact HB.out)⟩⟩
        case round =>
          clear H'
          try clear c1
          try clear p1
          try clear q1
          try clear hx1
          try clear p2
          try clear c3
          try clear c3b0
          try clear c4
          try clear c4b0
          try clear c5
          try clear c5b0
          try clear c6
          try clear p6
          try clear hx142_0
          try clear p142
          try clear p2
          try clear q142
          obtain ⟨x5_2, x21_2, rfl, HA, HK2, HO_5, HB⟩ := hrel
          cases gk with
          | zero => exact absurd HA.out (by simp [laws_pops.l1])
          | succ k2 =>
            have H := HA.out
            clear HA
            simp only [laws_pops.l1] at H
            by_cases c8 : x21_2 < a1
            · rw [if_pos c8] at H
              have c8b0 : decide (x21_2 < a1) = true := decide_eq_true c8
              clear c8
              by_cases c9 : x5_2.length < 5864062014805
              · rw [if_pos c9] at H
                have LMc9 := Aside0.mk c9
                clear c9
                obtain ⟨y146, hy146⟩ : ∃ y_ : List (S45), y_ = (x5_2 ++ [(⟨false, (⟨#[]⟩ : ByteArray)⟩ : S45)]) := ⟨_, rfl⟩
                replace H : (laws_pops.l1 k2 y146 a1 (wrap64 (x21_2 + 1))) = some r := by first | (rw [hy146]; with_reducible exact H) | (have H2_ := (Option.bind_some _ _).symm.trans H; rw [hy146]; with_reducible exact H2_) | (have H2_ := (Option.bind_some _ _).symm.trans H; with_reducible exact H2_) | with_reducible exact H | (rw [hy146]; exact H) | exact H
                have Ny146 := Aside0.mk hy146
                clear hy146
                have H' := Aside0.mk H
                clear H
                go_wp2_with (first | ((with_reducible refine gate_builtin (b := .append) (xs := #[.tmp 23, .tmp 25]) rfl ?_); at_builtin; refine Kd.R_append k45 (w0 := w) w.heap.size rfl (.tmp 23) (.tmp 25) 28 45 (.agg #[(.bool false), (.string ⟨#[]⟩)]) 24 rfl Tryd.underlying28 info45 rfl (by decide) (by omega) u5 x5_2 (⟨false, (⟨#[]⟩ : ByteArray)⟩ : S45) [.bool false, .string (⟨#[]⟩ : ByteArray)] (fun _ => True) (fun _ => False) rfl rfl ?aP (fun _ hk => hk.elim) ?aF ?aO ?aB ?aS ?aL ?_; (case aP => exact k45_mkM _ _ _ (⟨false, (⟨#[]⟩ : ByteArray)⟩ : S45)); (case aB => exact (by repeat (first | (with_reducible first | exact HB.out | apply below_alloc | apply pw_below_drewN | apply below_drew1) | exact HB.out))); (case aF => exact (fun _ _ => trivial)); (case aO => exact (by (with_reducible repeat (first | apply Kd.R_alloc | apply Kd.R_drewN | apply Kd.R_drew)); exact HO_5.out)); (case aS => exact (below_size (by repeat (first | (with_reducible first | exact HB.out | apply below_alloc | apply pw_below_drewN | apply below_drew1) | exact HB.out)))); (case aL => have := LMc9.out; omega); intro v147 w10 ho hb hg hat; rw [← Ny146.out] at ho; have n0_ := Aside0.mk (hb); have n1_ := Aside0.mk (ho); clear HB; clear HO_5; have HB := n0_; have HO148 := n1_; clear n0_ n1_; clear ho hb hg hat))
                go_roundg k2
                case measure => have := HK1.out; have := HK2.out; omega
                case rel => exact ⟨(y146), (wrap64 (x21_2 + 1)), (by first | rfl | (simp; done) | (simp [*]; done)), H', ⟨by have := HK1.out; have := HK2.out; omega⟩, ⟨by (with_reducible repeat (first | apply Kd.R_alloc | apply Kd.R_drewN | apply Kd.R_drew)); exact HO148.out⟩, ⟨by repeat (first | (with_reducible first | exact HB.out | apply below_alloc | apply pw_below_drewN | apply below_drew1) | exact HB.out)⟩⟩
              · rw [if_neg c9] at H
                exact absurd H (by simp)
            · rw [if_neg c8] at H
              have c8b0 : decide (x21_2 < a1) = false := decide_eq_false c8
              clear c8
              obtain rfl := Option.some.inj H
              go_wp2
              go_ret
              exact ⟨_, by first | rfl | (simp [errW_none, errW_some] <;> rfl) | (simp [*, errW_none, errW_some] <;> rfl), by (with_reducible repeat (first | apply Kd.R_alloc | apply Kd.R_drewN | apply Kd.R_drew)); exact HO_5.out, by repeat (first | (with_reducible first | exact HB.out | apply below_alloc | apply pw_below_drewN | apply below_drew1) | exact HB.out)⟩

end Go.Proofs.YtjflijebcpcbmaaDoor.G
