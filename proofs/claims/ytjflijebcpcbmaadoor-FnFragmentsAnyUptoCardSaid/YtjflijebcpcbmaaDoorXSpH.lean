/- What is proved: Go functions answer as the Lean functions of this text (written by a program of this session over the print of the kit). Conditions: those in the hypotheses. -/
import Derived.Test.YtjflijebcpcbmaaDoorXS0
import Derived.Test.YtjflijebcpcbmaaDoorXSpT
namespace Go.Proofs.YtjflijebcpcbmaaDoor.G
open Go.RowKit Go.Proofs.YtjflijebcpcbmaaDoorW.PrintWords Go.Proofs.YtjflijebcpcbmaaDoorW.PrintLast Go.Proofs.YtjflijebcpcbmaaDoorW.PrintMore
attribute [local go_sem] max2_int min2_int max_two min_two max_three min_three max_four min_four   -- for this text's walks alone
set_option linter.unusedVariables false
set_option linter.unusedSimpArgs false

/-! ### spec_Head: function 42 -/
def spec_Head.f (a0 : Int) (a1 : Int) (a2 : Int) (a3 : Int) (a4 : Int) : Option (ByteArray) := (some (([a0] : List Int) : List Int)).bind fun y107 => ((spec_three.f a1).bind fun t110 => (if (strOfNums y107).size + t110.size ≤ 9223372036854775807 then ((spec_two.f a2).bind fun t111 => (if ((strOfNums y107) ++ t110).size + t111.size ≤ 9223372036854775807 then ((spec_three.f a3).bind fun t112 => (if (((strOfNums y107) ++ t110) ++ t111).size + t112.size ≤ 9223372036854775807 then ((spec_three.f a4).bind fun t113 => (if ((((strOfNums y107) ++ t110) ++ t111) ++ t112).size + t113.size ≤ 9223372036854775807 then (some (((((strOfNums y107) ++ t110) ++ t111) ++ t112) ++ t113)) else (none))) else (none))) else (none))) else (none)))
def spec_Head.T1 : Bool × List (List Nat × List Nat) := (true, [([], []), ([0], [0]), ([1], [1]), ([], []), ([3], [3]), ([2, 4], [2, 4]), ([], []), ([6, 4], [6]), ([5, 7], [5, 7]), ([], []), ([9, 7], [9]), ([8, 10], [8, 10]), ([], []), ([12, 10], [12]), ([11, 13], [11, 13]), ([14, 13, 0, 1, 2, 3, 4, 5, 6, 7, 8, 9, 10, 11, 12, 13, 14], [14])])
def spec_Head.B1 : List Nat := [0, 1, 3, 0, 8, 31, 0, 88, 255, 0, 728, 2047, 0, 5848, 16383, 32767]
theorem spec_Head.tab1 : rtab .any (opsOf Tryd.f42 1) = spec_Head.T1 := by kernel_rfl
theorem spec_Head.bits1 : waitsOk spec_Head.T1.2 spec_Head.B1 = true := by kernel_rfl
set_option maxHeartbeats 8000000 in
set_option maxRecDepth 100000 in
theorem spec_Head.calls (a0 : Int) (a1 : Int) (a2 : Int) (a3 : Int) (a4 : Int) (r : ByteArray) (w : World) (h : spec_Head.f a0 a1 a2 a3 a4 = some r) :
 Calls Tryd.prog 42 #[.int .u8 a0, .int .i64 a1, .int .i64 a2, .int .i64 a3, .int .i64 a4] w fun e w' => e = .returned (.string r) ∧ Below w.heap.size w w' := by
 have HB := Aside0.mk (Below.refl w.heap.size w)
 have H : ((some (([a0] : List Int) : List Int)).bind fun y107 => ((spec_three.f a1).bind fun t110 => (if (strOfNums y107).size + t110.size ≤ 9223372036854775807 then ((spec_two.f a2).bind fun t111 => (if ((strOfNums y107) ++ t110).size + t111.size ≤ 9223372036854775807 then ((spec_three.f a3).bind fun t112 => (if (((strOfNums y107) ++ t110) ++ t111).size + t112.size ≤ 9223372036854775807 then ((spec_three.f a4).bind fun t113 => (if ((((strOfNums y107) ++ t110) ++ t111) ++ t112).size + t113.size ≤ 9223372036854775807 then (some (((((strOfNums y107) ++ t110) ++ t111) ++ t112) ++ t113)) else (none))) else (none))) else (none))) else (none)))) = some r := h
 clear h
 obtain ⟨y107, hy107⟩ : ∃ y_ : List Int, y_ = (([a0] : List Int)) := ⟨_, rfl⟩
 replace H : ((spec_three.f a1).bind fun t110 => (if (strOfNums y107).size + t110.size ≤ 9223372036854775807 then ((spec_two.f a2).bind fun t111 => (if ((strOfNums y107) ++ t110).size + t111.size ≤ 9223372036854775807 then ((spec_three.f a3).bind fun t112 => (if (((strOfNums y107) ++ t110) ++ t111).size + t112.size ≤ 9223372036854775807 then ((spec_three.f a4).bind fun t113 => (if ((((strOfNums y107) ++ t110) ++ t111) ++ t112).size + t113.size ≤ 9223372036854775807 then (some (((((strOfNums y107) ++ t110) ++ t111) ++ t112) ++ t113)) else (none))) else (none))) else (none))) else (none))) = some r := by first | (rw [hy107]; with_reducible exact H) | (have H2_ := (Option.bind_some _ _).symm.trans H; rw [hy107]; with_reducible exact H2_) | (have H2_ := (Option.bind_some _ _).symm.trans H; with_reducible exact H2_) | with_reducible exact H | (rw [hy107]; exact H) | exact H
 have Ny107 := Aside0.mk hy107
 clear hy107
 replace H := Option.bind_eq_some_iff.mp H
 obtain ⟨t110, A60, H⟩ := H
 replace H : (if (strOfNums y107).size + t110.size ≤ 9223372036854775807 then ((spec_two.f a2).bind fun t111 => (if ((strOfNums y107) ++ t110).size + t111.size ≤ 9223372036854775807 then ((spec_three.f a3).bind fun t112 => (if (((strOfNums y107) ++ t110) ++ t111).size + t112.size ≤ 9223372036854775807 then ((spec_three.f a4).bind fun t113 => (if ((((strOfNums y107) ++ t110) ++ t111) ++ t112).size + t113.size ≤ 9223372036854775807 then (some (((((strOfNums y107) ++ t110) ++ t111) ++ t112) ++ t113)) else (none))) else (none))) else (none))) else (none)) = some r := H
 have A6 := Aside0.mk A60
 clear A60
 by_cases c7 : (strOfNums y107).size + t110.size ≤ 9223372036854775807
 ·rw [if_pos c7] at H
  have c7b0 := eq_true c7
  have c7b1 : decide ((strOfNums y107).size + t110.size ≤ 9223372036854775807) = true := decide_eq_true c7
  try have c7b2 : (9223372036854775807 < (strOfNums y107).size + t110.size) = False := eq_false (Nat.not_lt.2 c7)
  replace H := Option.bind_eq_some_iff.mp H
  obtain ⟨t111, A80, H⟩ := H
  replace H : (if ((strOfNums y107) ++ t110).size + t111.size ≤ 9223372036854775807 then ((spec_three.f a3).bind fun t112 => (if (((strOfNums y107) ++ t110) ++ t111).size + t112.size ≤ 9223372036854775807 then ((spec_three.f a4).bind fun t113 => (if ((((strOfNums y107) ++ t110) ++ t111) ++ t112).size + t113.size ≤ 9223372036854775807 then (some (((((strOfNums y107) ++ t110) ++ t111) ++ t112) ++ t113)) else (none))) else (none))) else (none)) = some r := H
  have A8 := Aside0.mk A80
  clear A80
  by_cases c9 : ((strOfNums y107) ++ t110).size + t111.size ≤ 9223372036854775807
  ·rw [if_pos c9] at H
   have c9b0 := eq_true c9
   have c9b1 : decide (((strOfNums y107) ++ t110).size + t111.size ≤ 9223372036854775807) = true := decide_eq_true c9
   try have c9b2 : (9223372036854775807 < ((strOfNums y107) ++ t110).size + t111.size) = False := eq_false (Nat.not_lt.2 c9)
   have c9b3 := c9b2
   (try simp only [ByteArray.size_append] at c9b3)
   replace H := Option.bind_eq_some_iff.mp H
   obtain ⟨t112, A100, H⟩ := H
   replace H : (if (((strOfNums y107) ++ t110) ++ t111).size + t112.size ≤ 9223372036854775807 then ((spec_three.f a4).bind fun t113 => (if ((((strOfNums y107) ++ t110) ++ t111) ++ t112).size + t113.size ≤ 9223372036854775807 then (some (((((strOfNums y107) ++ t110) ++ t111) ++ t112) ++ t113)) else (none))) else (none)) = some r := H
   have A10 := Aside0.mk A100
   clear A100
   by_cases c11 : (((strOfNums y107) ++ t110) ++ t111).size + t112.size ≤ 9223372036854775807
   ·rw [if_pos c11] at H
    have c11b0 := eq_true c11
    have c11b1 : decide ((((strOfNums y107) ++ t110) ++ t111).size + t112.size ≤ 9223372036854775807) = true := decide_eq_true c11
    try have c11b2 : (9223372036854775807 < (((strOfNums y107) ++ t110) ++ t111).size + t112.size) = False := eq_false (Nat.not_lt.2 c11)
    have c11b3 := c11b2
    (try simp only [ByteArray.size_append] at c11b3)
    replace H := Option.bind_eq_some_iff.mp H
    obtain ⟨t113, A120, H⟩ := H
    replace H : (if ((((strOfNums y107) ++ t110) ++ t111) ++ t112).size + t113.size ≤ 9223372036854775807 then (some (((((strOfNums y107) ++ t110) ++ t111) ++ t112) ++ t113)) else (none)) = some r := H
    have A12 := Aside0.mk A120
    clear A120
    by_cases c13 : ((((strOfNums y107) ++ t110) ++ t111) ++ t112).size + t113.size ≤ 9223372036854775807
    ·rw [if_pos c13] at H
     have c13b0 := eq_true c13
     have c13b1 : decide (((((strOfNums y107) ++ t110) ++ t111) ++ t112).size + t113.size ≤ 9223372036854775807) = true := decide_eq_true c13
     try have c13b2 : (9223372036854775807 < ((((strOfNums y107) ++ t110) ++ t111) ++ t112).size + t113.size) = False := eq_false (Nat.not_lt.2 c13)
     have c13b3 := c13b2
     (try simp only [ByteArray.size_append] at c13b3)
     obtain rfl := Option.some.inj H
     go_enter Tryd.func42, Tryd.ntmps42
     try go_wp2
     have n0_ := Aside0.mk (below_drew1 HB.out)
     clear HB
     have HB := n0_
     clear n0_
     refine start_ (n := 16) (S := fun w' => True) (ds := []) #[false, false, false, false, false, false, false, false, false, false, false, false, false, false, false, false] (by kernel_rfl) rfl rfl trivial (fun hHeld => ?_); refine with_tabW spec_Head.tab1 spec_Head.bits1 (fun HT_ HW_ => ?_)
     generalize w.drew = w14 at HB hHeld ⊢
     refine pure_ (i := 0) (N := some 11) (v := ?_) (a' := ?_) #[true, false, false, false, false, false, false, false, false, false, false, false, false, false, false, false] rfl rfl (any_of HT_.out (by kernel_rfl)) (fun _ _ _ h => h) (Or.inl ⟨by rfl, ?_⟩) ?_ ?_
     rotate_left
     ·intro w'
      go_simp
      with_reducible rfl
     rotate_left
     ·simp only [Act.put, List.setIfInBounds_toArray, List.set_cons_zero, List.set_cons_succ, i64_w, i32_w]
      rfl
     refine pure_ (i := 3) (N := some 14) (v := ?_) (a' := ?_) #[true, false, false, true, false, false, false, false, false, false, false, false, false, false, false, false] rfl rfl (any_of HT_.out (by kernel_rfl)) (fun _ _ _ h => h) (Or.inl ⟨by rfl, ?_⟩) ?_ ?_
     rotate_left
     ·intro w'
      go_simp
      with_reducible rfl
     rotate_left
     ·simp only [Act.put, List.setIfInBounds_toArray, List.set_cons_zero, List.set_cons_succ, i64_w, i32_w]
      rfl
     refine pure_ (i := 6) (N := some 17) (v := ?_) (a' := ?_) #[true, false, false, true, false, false, true, false, false, false, false, false, false, false, false, false] rfl rfl (any_of HT_.out (by kernel_rfl)) (fun _ _ _ h => h) (Or.inl ⟨by rfl, ?_⟩) ?_ ?_
     rotate_left
     ·intro w'
      go_simp
      with_reducible rfl
     rotate_left
     ·simp only [Act.put, List.setIfInBounds_toArray, List.set_cons_zero, List.set_cons_succ, i64_w, i32_w]
      rfl
     refine pure_ (i := 9) (N := some 20) (v := ?_) (a' := ?_) #[true, false, false, true, false, false, true, false, false, true, false, false, false, false, false, false] rfl rfl (any_of HT_.out (by kernel_rfl)) (fun _ _ _ h => h) (Or.inl ⟨by rfl, ?_⟩) ?_ ?_
     rotate_left
     ·intro w'
      go_simp
      with_reducible rfl
     rotate_left
     ·simp only [Act.put, List.setIfInBounds_toArray, List.set_cons_zero, List.set_cons_succ, i64_w, i32_w]
      rfl
     refine pure_ (i := 12) (N := some 23) (v := ?_) (a' := ?_) #[true, false, false, true, false, false, true, false, false, true, false, false, true, false, false, false] rfl rfl (any_of HT_.out (by kernel_rfl)) (fun _ _ _ h => h) (Or.inl ⟨by rfl, ?_⟩) ?_ ?_
     rotate_left
     ·intro w'
      go_simp
      with_reducible rfl
     rotate_left
     ·simp only [Act.put, List.setIfInBounds_toArray, List.set_cons_zero, List.set_cons_succ, i64_w, i32_w]
      rfl
     refine join_ (σ := Value) 2 #[true, true, true, true, true, true, true, true, true, true, true, true, true, true, false, false] (fun s_ => [(12, s_), (13, .string (strOfNums y107)), (15, .string t110), (18, .string t111), (21, .string t112), (24, .string t113), (16, .string ((strOfNums y107) ++ t110)), (19, .string (((strOfNums y107) ++ t110) ++ t111)), (22, .string ((((strOfNums y107) ++ t110) ++ t111) ++ t112))]) (fun s_ w' => (Kd.R (Kd.int .u8) 5 w' w.heap.size (fun _ => True) s_ y107) ∧ (Below w.heap.size w w')) ?_ ?_
     rotate_left
     ·intro hJ1_2_4_7_10_13
      refine join_ (σ := Value) 3 #[true, true, true, true, true, true, true, true, true, true, true, true, true, false, false, false] (fun s_ => [(12, s_), (13, .string (strOfNums y107)), (15, .string t110), (18, .string t111), (21, .string t112), (16, .string ((strOfNums y107) ++ t110)), (19, .string (((strOfNums y107) ++ t110) ++ t111)), (22, .string ((((strOfNums y107) ++ t110) ++ t111) ++ t112))]) (fun s_ w' => (Kd.R (Kd.int .u8) 5 w' w.heap.size (fun _ => True) s_ y107) ∧ (Below w.heap.size w w')) ?_ ?_
      rotate_left
      ·intro hJ1_2_4_7_10
       refine join_ (σ := Value) 6 #[true, true, false, true, true, false, true, true, false, true, true, false, true, true, false, false] (fun s_ => [(12, s_), (15, .string t110), (18, .string t111), (21, .string t112), (24, .string t113)]) (fun s_ w' => (Kd.R (Kd.int .u8) 5 w' w.heap.size (fun _ => True) s_ y107) ∧ (Below w.heap.size w w')) ?_ ?_
       rotate_left
       ·intro hJ1_4_7_10_13
        refine join_ (σ := Value) 5 #[true, true, true, true, true, true, true, true, true, true, false, false, true, false, false, false] (fun s_ => [(12, s_), (13, .string (strOfNums y107)), (15, .string t110), (18, .string t111), (16, .string ((strOfNums y107) ++ t110)), (19, .string (((strOfNums y107) ++ t110) ++ t111))]) (fun s_ w' => (Kd.R (Kd.int .u8) 5 w' w.heap.size (fun _ => True) s_ y107) ∧ (Below w.heap.size w w')) ?_ ?_
        rotate_left
        ·intro hJ1_2_4_7
         refine join_ (σ := Value) 7 #[true, true, false, true, true, false, true, true, false, true, true, false, true, false, false, false] (fun s_ => [(12, s_), (15, .string t110), (18, .string t111), (21, .string t112)]) (fun s_ w' => (Kd.R (Kd.int .u8) 5 w' w.heap.size (fun _ => True) s_ y107) ∧ (Below w.heap.size w w')) ?_ ?_
         rotate_left
         ·intro hJ1_4_7_10
          refine join_ (σ := Unit) 7 #[true, false, false, true, true, false, true, true, false, true, true, false, true, true, false, false] (fun s_ => [(15, .string t110), (18, .string t111), (21, .string t112), (24, .string t113)]) (fun s_ w' => (Below w.heap.size w w')) ?_ ?_
          rotate_left
          ·intro hJ4_7_10_13
           refine join_ (σ := Value) 7 #[true, true, true, true, true, true, true, false, false, true, false, false, true, false, false, false] (fun s_ => [(12, s_), (13, .string (strOfNums y107)), (15, .string t110), (16, .string ((strOfNums y107) ++ t110))]) (fun s_ w' => (Kd.R (Kd.int .u8) 5 w' w.heap.size (fun _ => True) s_ y107) ∧ (Below w.heap.size w w')) ?_ ?_
           rotate_left
           ·intro hJ1_2_4
            refine join_ (σ := Value) 8 #[true, true, false, true, true, false, true, true, false, true, false, false, true, false, false, false] (fun s_ => [(12, s_), (15, .string t110), (18, .string t111)]) (fun s_ w' => (Kd.R (Kd.int .u8) 5 w' w.heap.size (fun _ => True) s_ y107) ∧ (Below w.heap.size w w')) ?_ ?_
            rotate_left
            ·intro hJ1_4_7
             refine join_ (σ := Unit) 8 #[true, false, false, true, true, false, true, true, false, true, true, false, true, false, false, false] (fun s_ => [(15, .string t110), (18, .string t111), (21, .string t112)]) (fun s_ w' => (Below w.heap.size w w')) ?_ ?_
             rotate_left
             ·intro hJ4_7_10
              refine join_ (σ := Value) 9 #[true, true, true, true, false, false, true, false, false, true, false, false, true, false, false, false] (fun s_ => [(12, s_), (13, .string (strOfNums y107))]) (fun s_ w' => (Kd.R (Kd.int .u8) 5 w' w.heap.size (fun _ => True) s_ y107) ∧ (Below w.heap.size w w')) ?_ ?_
              rotate_left
              ·intro hJ1_2
               refine join_ (σ := Value) 9 #[true, true, false, true, true, false, true, false, false, true, false, false, true, false, false, false] (fun s_ => [(12, s_), (15, .string t110)]) (fun s_ w' => (Kd.R (Kd.int .u8) 5 w' w.heap.size (fun _ => True) s_ y107) ∧ (Below w.heap.size w w')) ?_ ?_
               rotate_left
               ·intro hJ1_4
                refine join_ (σ := Unit) 9 #[true, false, false, true, true, false, true, true, false, true, false, false, true, false, false, false] (fun s_ => [(15, .string t110), (18, .string t111)]) (fun s_ w' => (Below w.heap.size w w')) ?_ ?_
                rotate_left
                ·intro hJ4_7
                 refine join_ (σ := Value) 10 #[true, true, false, true, false, false, true, false, false, true, false, false, true, false, false, false] (fun s_ => [(12, s_)]) (fun s_ w' => (Kd.R (Kd.int .u8) 5 w' w.heap.size (fun _ => True) s_ y107) ∧ (Below w.heap.size w w')) ?_ ?_
                 rotate_left
                 ·intro hJ1
                  refine join_ (σ := Unit) 10 #[true, false, false, true, true, false, true, false, false, true, false, false, true, false, false, false] (fun s_ => [(15, .string t110)]) (fun s_ w' => (Below w.heap.size w w')) ?_ ?_
                  rotate_left
                  ·intro hJ4
                   refine two_ (i := 1) (j := 4) (Ni := some 12) (Nj := some 15) #[true, true, false, true, false, false, true, false, false, true, false, false, true, false, false, false] #[true, false, false, true, true, false, true, false, false, true, false, false, true, false, false, false] rfl rfl rfl rfl (two_of HT_.out (by kernel_rfl)) (by decide) (by decide) (fun K hK => ?_) (fun K hK => ?_)
                   ·skip
                    refine Kd.R_lit_step (Kd.int .u8) _ 5 ?hg (N := 12) ?hd (xs := ([a0] : List Int)) (inner := [.int .u8 a0]) (ok := fun _ => True) (okp := fun _ => True) ?hr ?hp (fun _ hk => hk) trivial (Below.refl _ _) (Nat.le_refl _) (by simp) ?_; (case hd => rfl); (case hg => rfl); (case hr => first | (go_simp; done) | (go_simp; rfl)); (case hp => exact (Reps.one (show Kd.M (Kd.int .u8) _ _ _ a0 [.int .u8 a0] from rfl) (Reps.none _ _)))
                    intro v108 w15 ho16 hb hg_ hnew_
                    clear hg_ hnew_
                    (first | rw [← Ny107.out] at ho16 | (simp only [Int.reduceToNat] at ho16; rw [← Ny107.out] at ho16))
                    have n0_ := Aside0.mk (Kd.R_lower ho16 (below_size (by repeat (first | (with_reducible first | exact HB.out | apply below_alloc | apply pw_below_drewN | apply below_drew1) | exact HB.out))))
                    have n1_ := Aside0.mk (below_step (by repeat (first | (with_reducible first | exact HB.out | apply below_alloc | apply pw_below_drewN | apply below_drew1) | exact HB.out)) hb)
                    clear HB
                    have HO109 := n0_
                    have HB := n1_
                    clear n0_ n1_
                    clear hb ho16
                    refine hK.out _ _ trivial (fun hHeld => ?_)
                    clear hK K
                    refine norm_ (a' := ?_) ?_ ?_
                    rotate_left
                    ·show Act.put _ (some 12) _ = _
                     simp only [Act.put, List.setIfInBounds_toArray, List.set_cons_zero, List.set_cons_succ, i64_w, i32_w]
                     rfl
                    exact norm_ (by first | (simp only [putAll, Act.put, List.setIfInBounds_toArray, List.set_cons_zero, List.set_cons_succ]; done) | (simp only [putAll, Act.put, List.setIfInBounds_toArray, List.set_cons_zero, List.set_cons_succ]; rfl)) (hJ1 (v108) _ ⟨(by (with_reducible repeat (first | apply Kd.R_alloc | apply Kd.R_drewN | apply Kd.R_drew)); exact HO109.out), (by repeat (first | (with_reducible first | exact HB.out | apply below_alloc | apply pw_below_drewN | apply below_drew1) | exact HB.out))⟩)
                   ·skip
                    refine goes_ Tryd.func48 (by kernel_rfl) rfl #[.int .i64 a1] (by rfl) rfl rfl (by (try simp only [List.map_toArray, List.map_cons, List.map_nil]); first | done | rfl | (simp only [List.length_drop, List.length_take]; rfl)) ?_
                    with_reducible refine (spec_three.calls a1 t110 _ A6.out).mono ?_
                    rintro e w15 ⟨rfl, hb⟩
                    refine ⟨_, rfl, ?_⟩
                    have n0_ := Aside0.mk (below_step (by repeat (first | (with_reducible first | exact HB.out | apply below_alloc | apply pw_below_drewN | apply below_drew1) | exact HB.out)) hb)
                    clear HB
                    have HB := n0_
                    clear n0_
                    (try clear hb)
                    (try clear hb2)
                    (try clear hk)
                    (try clear hi)
                    refine hK.out _ _ trivial (fun hHeld => ?_)
                    clear hK K
                    refine norm_ (a' := ?_) ?_ ?_
                    rotate_left
                    ·show Act.put _ (some 15) _ = _
                     simp only [Act.put, List.setIfInBounds_toArray, List.set_cons_zero, List.set_cons_succ, i64_w, i32_w]
                     rfl
                    exact norm_ (by first | (simp only [putAll, Act.put, List.setIfInBounds_toArray, List.set_cons_zero, List.set_cons_succ]; done) | (simp only [putAll, Act.put, List.setIfInBounds_toArray, List.set_cons_zero, List.set_cons_succ]; rfl)) (hJ4 () _ (by repeat (first | (with_reducible first | exact HB.out | apply below_alloc | apply pw_below_drewN | apply below_drew1) | exact HB.out)))
                  ·skip
                   rintro _ w16 h0_
                   have n0_ : Aside0 (Below w.heap.size w w16) := ⟨h0_⟩
                   clear HB
                   clear h0_
                   have HB := n0_
                   clear n0_
                   have hHeld := trivial
                   refine norm_ (a' := ?_) ?_ ?_
                   rotate_left
                   ·simp only [putAll, Act.put, List.setIfInBounds_toArray, List.set_cons_zero, List.set_cons_succ]
                    rfl
                   refine two_ (i := 1) (j := 7) (Ni := some 12) (Nj := some 18) #[true, true, false, true, true, false, true, false, false, true, false, false, true, false, false, false] #[true, false, false, true, true, false, true, true, false, true, false, false, true, false, false, false] rfl rfl rfl rfl (two_of HT_.out (by kernel_rfl)) (by decide) (by decide) (fun K hK => ?_) (fun K hK => ?_)
                   ·skip
                    refine Kd.R_lit_step (Kd.int .u8) _ 5 ?hg (N := 12) ?hd (xs := ([a0] : List Int)) (inner := [.int .u8 a0]) (ok := fun _ => True) (okp := fun _ => True) ?hr ?hp (fun _ hk => hk) trivial (Below.refl _ _) (Nat.le_refl _) (by simp) ?_; (case hd => rfl); (case hg => rfl); (case hr => first | (go_simp; done) | (go_simp; rfl)); (case hp => exact (Reps.one (show Kd.M (Kd.int .u8) _ _ _ a0 [.int .u8 a0] from rfl) (Reps.none _ _)))
                    intro v108 w17 ho18 hb hg_ hnew_
                    clear hg_ hnew_
                    (first | rw [← Ny107.out] at ho18 | (simp only [Int.reduceToNat] at ho18; rw [← Ny107.out] at ho18))
                    have n0_ := Aside0.mk (Kd.R_lower ho18 (below_size (by repeat (first | (with_reducible first | exact HB.out | apply below_alloc | apply pw_below_drewN | apply below_drew1) | exact HB.out))))
                    have n1_ := Aside0.mk (below_step (by repeat (first | (with_reducible first | exact HB.out | apply below_alloc | apply pw_below_drewN | apply below_drew1) | exact HB.out)) hb)
                    clear HB
                    have HO109 := n0_
                    have HB := n1_
                    clear n0_ n1_
                    clear hb ho18
                    refine hK.out _ _ trivial (fun hHeld => ?_)
                    clear hK K
                    refine norm_ (a' := ?_) ?_ ?_
                    rotate_left
                    ·show Act.put _ (some 12) _ = _
                     simp only [Act.put, List.setIfInBounds_toArray, List.set_cons_zero, List.set_cons_succ, i64_w, i32_w]
                     rfl
                    exact norm_ (by first | (simp only [putAll, Act.put, List.setIfInBounds_toArray, List.set_cons_zero, List.set_cons_succ]; done) | (simp only [putAll, Act.put, List.setIfInBounds_toArray, List.set_cons_zero, List.set_cons_succ]; rfl)) (hJ1_4 (v108) _ ⟨(by (with_reducible repeat (first | apply Kd.R_alloc | apply Kd.R_drewN | apply Kd.R_drew)); exact HO109.out), (by repeat (first | (with_reducible first | exact HB.out | apply below_alloc | apply pw_below_drewN | apply below_drew1) | exact HB.out))⟩)
                   ·skip
                    refine goes_ Tryd.func49 (by kernel_rfl) rfl #[.int .i64 a2] (by rfl) rfl rfl (by (try simp only [List.map_toArray, List.map_cons, List.map_nil]); first | done | rfl | (simp only [List.length_drop, List.length_take]; rfl)) ?_
                    with_reducible refine (spec_two.calls a2 t111 _ A8.out).mono ?_
                    rintro e w17 ⟨rfl, hb⟩
                    refine ⟨_, rfl, ?_⟩
                    have n0_ := Aside0.mk (below_step (by repeat (first | (with_reducible first | exact HB.out | apply below_alloc | apply pw_below_drewN | apply below_drew1) | exact HB.out)) hb)
                    clear HB
                    have HB := n0_
                    clear n0_
                    (try clear hb)
                    (try clear hb2)
                    (try clear hk)
                    (try clear hi)
                    refine hK.out _ _ trivial (fun hHeld => ?_)
                    clear hK K
                    refine norm_ (a' := ?_) ?_ ?_
                    rotate_left
                    ·show Act.put _ (some 18) _ = _
                     simp only [Act.put, List.setIfInBounds_toArray, List.set_cons_zero, List.set_cons_succ, i64_w, i32_w]
                     rfl
                    exact norm_ (by first | (simp only [putAll, Act.put, List.setIfInBounds_toArray, List.set_cons_zero, List.set_cons_succ]; done) | (simp only [putAll, Act.put, List.setIfInBounds_toArray, List.set_cons_zero, List.set_cons_succ]; rfl)) (hJ4_7 () _ (by repeat (first | (with_reducible first | exact HB.out | apply below_alloc | apply pw_below_drewN | apply below_drew1) | exact HB.out)))
                 ·skip
                  rintro v108 w17 ⟨h0_, h1_⟩
                  have n0_ : Aside0 (Kd.R (Kd.int .u8) 5 w17 w.heap.size (fun _ => True) v108 y107) := ⟨h0_⟩
                  have n1_ : Aside0 (Below w.heap.size w w17) := ⟨h1_⟩
                  clear HB
                  clear h0_ h1_
                  have HO109 := n0_
                  have HB := n1_
                  clear n0_ n1_
                  have hHeld := trivial
                  refine norm_ (a' := ?_) ?_ ?_
                  rotate_left
                  ·simp only [putAll, Act.put, List.setIfInBounds_toArray, List.set_cons_zero, List.set_cons_succ]
                   rfl
                  refine two_ (i := 2) (j := 4) (Ni := some 13) (Nj := some 15) #[true, true, true, true, false, false, true, false, false, true, false, false, true, false, false, false] #[true, true, false, true, true, false, true, false, false, true, false, false, true, false, false, false] rfl rfl rfl rfl (two_of HT_.out (by kernel_rfl)) (by decide) (by decide) (fun K hK => ?_) (fun K hK => ?_)
                  ·skip
                   have hcv18 := own_string (P := Tryd.prog) Tryd.underlying59 Tryd.underlying5 Tryd.underlying9 (Kd.own_of_R HO109.out)
                   refine value_ (w1 := ?_) (v := ?_) (by rfl) rfl ?_ ?_
                   rotate_left 2
                   ·go_simp
                    constructor
                    ·rfl
                    ·rfl
                   clear hcv18
                   refine hK.out _ _ trivial (fun hHeld => ?_)
                   clear hK K
                   refine norm_ (a' := ?_) ?_ ?_
                   rotate_left
                   ·show Act.put _ (some 13) _ = _
                    simp only [Act.put, List.setIfInBounds_toArray, List.set_cons_zero, List.set_cons_succ, i64_w, i32_w]
                    rfl
                   exact norm_ (by first | (simp only [putAll, Act.put, List.setIfInBounds_toArray, List.set_cons_zero, List.set_cons_succ]; done) | (simp only [putAll, Act.put, List.setIfInBounds_toArray, List.set_cons_zero, List.set_cons_succ]; rfl)) (hJ1_2 (v108) _ ⟨(by (with_reducible repeat (first | apply Kd.R_alloc | apply Kd.R_drewN | apply Kd.R_drew)); exact HO109.out), (by repeat (first | (with_reducible first | exact HB.out | apply below_alloc | apply pw_below_drewN | apply below_drew1) | exact HB.out))⟩)
                  ·skip
                   refine goes_ Tryd.func48 (by kernel_rfl) rfl #[.int .i64 a1] (by rfl) rfl rfl (by (try simp only [List.map_toArray, List.map_cons, List.map_nil]); first | done | rfl | (simp only [List.length_drop, List.length_take]; rfl)) ?_
                   with_reducible refine (spec_three.calls a1 t110 _ A6.out).mono ?_
                   rintro e w18 ⟨rfl, hb⟩
                   refine ⟨_, rfl, ?_⟩
                   have n0_ := Aside0.mk (Kd.R_below (by (with_reducible repeat (first | apply Kd.R_alloc | apply Kd.R_drewN | apply Kd.R_drew)); exact HO109.out) hb)
                   have n1_ := Aside0.mk (below_step (by repeat (first | (with_reducible first | exact HB.out | apply below_alloc | apply pw_below_drewN | apply below_drew1) | exact HB.out)) hb)
                   clear HO109
                   clear HB
                   have HO109 := n0_
                   have HB := n1_
                   clear n0_ n1_
                   (try clear hb)
                   (try clear hb2)
                   (try clear hk)
                   (try clear hi)
                   refine hK.out _ _ trivial (fun hHeld => ?_)
                   clear hK K
                   refine norm_ (a' := ?_) ?_ ?_
                   rotate_left
                   ·show Act.put _ (some 15) _ = _
                    simp only [Act.put, List.setIfInBounds_toArray, List.set_cons_zero, List.set_cons_succ, i64_w, i32_w]
                    rfl
                   exact norm_ (by first | (simp only [putAll, Act.put, List.setIfInBounds_toArray, List.set_cons_zero, List.set_cons_succ]; done) | (simp only [putAll, Act.put, List.setIfInBounds_toArray, List.set_cons_zero, List.set_cons_succ]; rfl)) (hJ1_4 (v108) _ ⟨(by (with_reducible repeat (first | apply Kd.R_alloc | apply Kd.R_drewN | apply Kd.R_drew)); exact HO109.out), (by repeat (first | (with_reducible first | exact HB.out | apply below_alloc | apply pw_below_drewN | apply below_drew1) | exact HB.out))⟩)
                ·skip
                 rintro _ w17 h0_
                 have n0_ : Aside0 (Below w.heap.size w w17) := ⟨h0_⟩
                 clear HB
                 clear h0_
                 have HB := n0_
                 clear n0_
                 have hHeld := trivial
                 refine norm_ (a' := ?_) ?_ ?_
                 rotate_left
                 ·simp only [putAll, Act.put, List.setIfInBounds_toArray, List.set_cons_zero, List.set_cons_succ]
                  rfl
                 refine two_ (i := 1) (j := 10) (Ni := some 12) (Nj := some 21) #[true, true, false, true, true, false, true, true, false, true, false, false, true, false, false, false] #[true, false, false, true, true, false, true, true, false, true, true, false, true, false, false, false] rfl rfl rfl rfl (two_of HT_.out (by kernel_rfl)) (by decide) (by decide) (fun K hK => ?_) (fun K hK => ?_)
                 ·skip
                  refine Kd.R_lit_step (Kd.int .u8) _ 5 ?hg (N := 12) ?hd (xs := ([a0] : List Int)) (inner := [.int .u8 a0]) (ok := fun _ => True) (okp := fun _ => True) ?hr ?hp (fun _ hk => hk) trivial (Below.refl _ _) (Nat.le_refl _) (by simp) ?_; (case hd => rfl); (case hg => rfl); (case hr => first | (go_simp; done) | (go_simp; rfl)); (case hp => exact (Reps.one (show Kd.M (Kd.int .u8) _ _ _ a0 [.int .u8 a0] from rfl) (Reps.none _ _)))
                  intro v108 w18 ho19 hb hg_ hnew_
                  clear hg_ hnew_
                  (first | rw [← Ny107.out] at ho19 | (simp only [Int.reduceToNat] at ho19; rw [← Ny107.out] at ho19))
                  have n0_ := Aside0.mk (Kd.R_lower ho19 (below_size (by repeat (first | (with_reducible first | exact HB.out | apply below_alloc | apply pw_below_drewN | apply below_drew1) | exact HB.out))))
                  have n1_ := Aside0.mk (below_step (by repeat (first | (with_reducible first | exact HB.out | apply below_alloc | apply pw_below_drewN | apply below_drew1) | exact HB.out)) hb)
                  clear HB
                  have HO109 := n0_
                  have HB := n1_
                  clear n0_ n1_
                  clear hb ho19
                  refine hK.out _ _ trivial (fun hHeld => ?_)
                  clear hK K
                  refine norm_ (a' := ?_) ?_ ?_
                  rotate_left
                  ·show Act.put _ (some 12) _ = _
                   simp only [Act.put, List.setIfInBounds_toArray, List.set_cons_zero, List.set_cons_succ, i64_w, i32_w]
                   rfl
                  exact norm_ (by first | (simp only [putAll, Act.put, List.setIfInBounds_toArray, List.set_cons_zero, List.set_cons_succ]; done) | (simp only [putAll, Act.put, List.setIfInBounds_toArray, List.set_cons_zero, List.set_cons_succ]; rfl)) (hJ1_4_7 (v108) _ ⟨(by (with_reducible repeat (first | apply Kd.R_alloc | apply Kd.R_drewN | apply Kd.R_drew)); exact HO109.out), (by repeat (first | (with_reducible first | exact HB.out | apply below_alloc | apply pw_below_drewN | apply below_drew1) | exact HB.out))⟩)
                 ·skip
                  refine goes_ Tryd.func48 (by kernel_rfl) rfl #[.int .i64 a3] (by rfl) rfl rfl (by (try simp only [List.map_toArray, List.map_cons, List.map_nil]); first | done | rfl | (simp only [List.length_drop, List.length_take]; rfl)) ?_
                  with_reducible refine (spec_three.calls a3 t112 _ A10.out).mono ?_
                  rintro e w18 ⟨rfl, hb⟩
                  refine ⟨_, rfl, ?_⟩
                  have n0_ := Aside0.mk (below_step (by repeat (first | (with_reducible first | exact HB.out | apply below_alloc | apply pw_below_drewN | apply below_drew1) | exact HB.out)) hb)
                  clear HB
                  have HB := n0_
                  clear n0_
                  (try clear hb)
                  (try clear hb2)
                  (try clear hk)
                  (try clear hi)
                  refine hK.out _ _ trivial (fun hHeld => ?_)
                  clear hK K
                  refine norm_ (a' := ?_) ?_ ?_
                  rotate_left
                  ·show Act.put _ (some 21) _ = _
                   simp only [Act.put, List.setIfInBounds_toArray, List.set_cons_zero, List.set_cons_succ, i64_w, i32_w]
                   rfl
                  exact norm_ (by first | (simp only [putAll, Act.put, List.setIfInBounds_toArray, List.set_cons_zero, List.set_cons_succ]; done) | (simp only [putAll, Act.put, List.setIfInBounds_toArray, List.set_cons_zero, List.set_cons_succ]; rfl)) (hJ4_7_10 () _ (by repeat (first | (with_reducible first | exact HB.out | apply below_alloc | apply pw_below_drewN | apply below_drew1) | exact HB.out)))
               ·skip
                rintro v108 w18 ⟨h0_, h1_⟩
                have n0_ : Aside0 (Kd.R (Kd.int .u8) 5 w18 w.heap.size (fun _ => True) v108 y107) := ⟨h0_⟩
                have n1_ : Aside0 (Below w.heap.size w w18) := ⟨h1_⟩
                clear HB
                clear h0_ h1_
                have HO109 := n0_
                have HB := n1_
                clear n0_ n1_
                have hHeld := trivial
                refine norm_ (a' := ?_) ?_ ?_
                rotate_left
                ·simp only [putAll, Act.put, List.setIfInBounds_toArray, List.set_cons_zero, List.set_cons_succ]
                 rfl
                refine two_ (i := 2) (j := 7) (Ni := some 13) (Nj := some 18) #[true, true, true, true, true, false, true, false, false, true, false, false, true, false, false, false] #[true, true, false, true, true, false, true, true, false, true, false, false, true, false, false, false] rfl rfl rfl rfl (two_of HT_.out (by kernel_rfl)) (by decide) (by decide) (fun K hK => ?_) (fun K hK => ?_)
                ·skip
                 have hcv19 := own_string (P := Tryd.prog) Tryd.underlying59 Tryd.underlying5 Tryd.underlying9 (Kd.own_of_R HO109.out)
                 refine value_ (w1 := ?_) (v := ?_) (by rfl) rfl ?_ ?_
                 rotate_left 2
                 ·go_simp
                  constructor
                  ·rfl
                  ·rfl
                 clear hcv19
                 refine hK.out _ _ trivial (fun hHeld => ?_)
                 clear hK K
                 refine norm_ (a' := ?_) ?_ ?_
                 rotate_left
                 ·show Act.put _ (some 13) _ = _
                  simp only [Act.put, List.setIfInBounds_toArray, List.set_cons_zero, List.set_cons_succ, i64_w, i32_w]
                  rfl
                 refine pure_ (i := 5) (N := some 16) (v := ?_) (a' := ?_) #[true, true, true, true, true, true, true, false, false, true, false, false, true, false, false, false] rfl rfl (any_of HT_.out (by kernel_rfl)) (fun _ _ _ h => h) (Or.inl ⟨by rfl, ?_⟩) ?_ ?_
                 rotate_left
                 ·intro w'
                  go_simp
                  with_reducible rfl
                 rotate_left
                 ·simp only [Act.put, List.setIfInBounds_toArray, List.set_cons_zero, List.set_cons_succ, i64_w, i32_w]
                  rfl
                 exact norm_ (by first | (simp only [putAll, Act.put, List.setIfInBounds_toArray, List.set_cons_zero, List.set_cons_succ]; done) | (simp only [putAll, Act.put, List.setIfInBounds_toArray, List.set_cons_zero, List.set_cons_succ]; rfl)) (hJ1_2_4 (v108) _ ⟨(by (with_reducible repeat (first | apply Kd.R_alloc | apply Kd.R_drewN | apply Kd.R_drew)); exact HO109.out), (by repeat (first | (with_reducible first | exact HB.out | apply below_alloc | apply pw_below_drewN | apply below_drew1) | exact HB.out))⟩)
                ·skip
                 refine goes_ Tryd.func49 (by kernel_rfl) rfl #[.int .i64 a2] (by rfl) rfl rfl (by (try simp only [List.map_toArray, List.map_cons, List.map_nil]); first | done | rfl | (simp only [List.length_drop, List.length_take]; rfl)) ?_
                 with_reducible refine (spec_two.calls a2 t111 _ A8.out).mono ?_
                 rintro e w19 ⟨rfl, hb⟩
                 refine ⟨_, rfl, ?_⟩
                 have n0_ := Aside0.mk (Kd.R_below (by (with_reducible repeat (first | apply Kd.R_alloc | apply Kd.R_drewN | apply Kd.R_drew)); exact HO109.out) hb)
                 have n1_ := Aside0.mk (below_step (by repeat (first | (with_reducible first | exact HB.out | apply below_alloc | apply pw_below_drewN | apply below_drew1) | exact HB.out)) hb)
                 clear HO109
                 clear HB
                 have HO109 := n0_
                 have HB := n1_
                 clear n0_ n1_
                 (try clear hb)
                 (try clear hb2)
                 (try clear hk)
                 (try clear hi)
                 refine hK.out _ _ trivial (fun hHeld => ?_)
                 clear hK K
                 refine norm_ (a' := ?_) ?_ ?_
                 rotate_left
                 ·show Act.put _ (some 18) _ = _
                  simp only [Act.put, List.setIfInBounds_toArray, List.set_cons_zero, List.set_cons_succ, i64_w, i32_w]
                  rfl
                 exact norm_ (by first | (simp only [putAll, Act.put, List.setIfInBounds_toArray, List.set_cons_zero, List.set_cons_succ]; done) | (simp only [putAll, Act.put, List.setIfInBounds_toArray, List.set_cons_zero, List.set_cons_succ]; rfl)) (hJ1_4_7 (v108) _ ⟨(by (with_reducible repeat (first | apply Kd.R_alloc | apply Kd.R_drewN | apply Kd.R_drew)); exact HO109.out), (by repeat (first | (with_reducible first | exact HB.out | apply below_alloc | apply pw_below_drewN | apply below_drew1) | exact HB.out))⟩)
              ·skip
               rintro v108 w18 ⟨h0_, h1_⟩
               have n0_ : Aside0 (Kd.R (Kd.int .u8) 5 w18 w.heap.size (fun _ => True) v108 y107) := ⟨h0_⟩
               have n1_ : Aside0 (Below w.heap.size w w18) := ⟨h1_⟩
               clear HB
               clear h0_ h1_
               have HO109 := n0_
               have HB := n1_
               clear n0_ n1_
               have hHeld := trivial
               refine norm_ (a' := ?_) ?_ ?_
               rotate_left
               ·simp only [putAll, Act.put, List.setIfInBounds_toArray, List.set_cons_zero, List.set_cons_succ]
                rfl
               refine one_ (i := 4) (N := some 15) #[true, true, true, true, true, false, true, false, false, true, false, false, true, false, false, false] rfl rfl (one_of HT_.out (by kernel_rfl)) (by decide) (fun K hK => ?_)
               refine goes_ Tryd.func48 (by kernel_rfl) rfl #[.int .i64 a1] (by rfl) rfl rfl (by (try simp only [List.map_toArray, List.map_cons, List.map_nil]); first | done | rfl | (simp only [List.length_drop, List.length_take]; rfl)) ?_
               with_reducible refine (spec_three.calls a1 t110 _ A6.out).mono ?_
               rintro e w19 ⟨rfl, hb⟩
               refine ⟨_, rfl, ?_⟩
               have n0_ := Aside0.mk (Kd.R_below (by (with_reducible repeat (first | apply Kd.R_alloc | apply Kd.R_drewN | apply Kd.R_drew)); exact HO109.out) hb)
               have n1_ := Aside0.mk (below_step (by repeat (first | (with_reducible first | exact HB.out | apply below_alloc | apply pw_below_drewN | apply below_drew1) | exact HB.out)) hb)
               clear HO109
               clear HB
               have HO109 := n0_
               have HB := n1_
               clear n0_ n1_
               (try clear hb)
               (try clear hb2)
               (try clear hk)
               (try clear hi)
               refine hK.out _ _ trivial (fun hHeld => ?_)
               clear hK K
               refine norm_ (a' := ?_) ?_ ?_
               rotate_left
               ·show Act.put _ (some 15) _ = _
                simp only [Act.put, List.setIfInBounds_toArray, List.set_cons_zero, List.set_cons_succ, i64_w, i32_w]
                rfl
               refine pure_ (i := 5) (N := some 16) (v := ?_) (a' := ?_) #[true, true, true, true, true, true, true, false, false, true, false, false, true, false, false, false] rfl rfl (any_of HT_.out (by kernel_rfl)) (fun _ _ _ h => h) (Or.inl ⟨by rfl, ?_⟩) ?_ ?_
               rotate_left
               ·intro w'
                go_simp
                with_reducible rfl
               rotate_left
               ·simp only [Act.put, List.setIfInBounds_toArray, List.set_cons_zero, List.set_cons_succ, i64_w, i32_w]
                rfl
               exact norm_ (by first | (simp only [putAll, Act.put, List.setIfInBounds_toArray, List.set_cons_zero, List.set_cons_succ]; done) | (simp only [putAll, Act.put, List.setIfInBounds_toArray, List.set_cons_zero, List.set_cons_succ]; rfl)) (hJ1_2_4 (v108) _ ⟨(by (with_reducible repeat (first | apply Kd.R_alloc | apply Kd.R_drewN | apply Kd.R_drew)); exact HO109.out), (by repeat (first | (with_reducible first | exact HB.out | apply below_alloc | apply pw_below_drewN | apply below_drew1) | exact HB.out))⟩)
             ·skip
              rintro _ w18 h0_
              have n0_ : Aside0 (Below w.heap.size w w18) := ⟨h0_⟩
              clear HB
              clear h0_
              have HB := n0_
              clear n0_
              have hHeld := trivial
              refine norm_ (a' := ?_) ?_ ?_
              rotate_left
              ·simp only [putAll, Act.put, List.setIfInBounds_toArray, List.set_cons_zero, List.set_cons_succ]
               rfl
              refine two_ (i := 1) (j := 13) (Ni := some 12) (Nj := some 24) #[true, true, false, true, true, false, true, true, false, true, true, false, true, false, false, false] #[true, false, false, true, true, false, true, true, false, true, true, false, true, true, false, false] rfl rfl rfl rfl (two_of HT_.out (by kernel_rfl)) (by decide) (by decide) (fun K hK => ?_) (fun K hK => ?_)
              ·skip
               refine Kd.R_lit_step (Kd.int .u8) _ 5 ?hg (N := 12) ?hd (xs := ([a0] : List Int)) (inner := [.int .u8 a0]) (ok := fun _ => True) (okp := fun _ => True) ?hr ?hp (fun _ hk => hk) trivial (Below.refl _ _) (Nat.le_refl _) (by simp) ?_; (case hd => rfl); (case hg => rfl); (case hr => first | (go_simp; done) | (go_simp; rfl)); (case hp => exact (Reps.one (show Kd.M (Kd.int .u8) _ _ _ a0 [.int .u8 a0] from rfl) (Reps.none _ _)))
               intro v108 w19 ho20 hb hg_ hnew_
               clear hg_ hnew_
               (first | rw [← Ny107.out] at ho20 | (simp only [Int.reduceToNat] at ho20; rw [← Ny107.out] at ho20))
               have n0_ := Aside0.mk (Kd.R_lower ho20 (below_size (by repeat (first | (with_reducible first | exact HB.out | apply below_alloc | apply pw_below_drewN | apply below_drew1) | exact HB.out))))
               have n1_ := Aside0.mk (below_step (by repeat (first | (with_reducible first | exact HB.out | apply below_alloc | apply pw_below_drewN | apply below_drew1) | exact HB.out)) hb)
               clear HB
               have HO109 := n0_
               have HB := n1_
               clear n0_ n1_
               clear hb ho20
               refine hK.out _ _ trivial (fun hHeld => ?_)
               clear hK K
               refine norm_ (a' := ?_) ?_ ?_
               rotate_left
               ·show Act.put _ (some 12) _ = _
                simp only [Act.put, List.setIfInBounds_toArray, List.set_cons_zero, List.set_cons_succ, i64_w, i32_w]
                rfl
               exact norm_ (by first | (simp only [putAll, Act.put, List.setIfInBounds_toArray, List.set_cons_zero, List.set_cons_succ]; done) | (simp only [putAll, Act.put, List.setIfInBounds_toArray, List.set_cons_zero, List.set_cons_succ]; rfl)) (hJ1_4_7_10 (v108) _ ⟨(by (with_reducible repeat (first | apply Kd.R_alloc | apply Kd.R_drewN | apply Kd.R_drew)); exact HO109.out), (by repeat (first | (with_reducible first | exact HB.out | apply below_alloc | apply pw_below_drewN | apply below_drew1) | exact HB.out))⟩)
              ·skip
               refine goes_ Tryd.func48 (by kernel_rfl) rfl #[.int .i64 a4] (by rfl) rfl rfl (by (try simp only [List.map_toArray, List.map_cons, List.map_nil]); first | done | rfl | (simp only [List.length_drop, List.length_take]; rfl)) ?_
               with_reducible refine (spec_three.calls a4 t113 _ A12.out).mono ?_
               rintro e w19 ⟨rfl, hb⟩
               refine ⟨_, rfl, ?_⟩
               have n0_ := Aside0.mk (below_step (by repeat (first | (with_reducible first | exact HB.out | apply below_alloc | apply pw_below_drewN | apply below_drew1) | exact HB.out)) hb)
               clear HB
               have HB := n0_
               clear n0_
               (try clear hb)
               (try clear hb2)
               (try clear hk)
               (try clear hi)
               refine hK.out _ _ trivial (fun hHeld => ?_)
               clear hK K
               refine norm_ (a' := ?_) ?_ ?_
               rotate_left
               ·show Act.put _ (some 24) _ = _
                simp only [Act.put, List.setIfInBounds_toArray, List.set_cons_zero, List.set_cons_succ, i64_w, i32_w]
                rfl
               exact norm_ (by first | (simp only [putAll, Act.put, List.setIfInBounds_toArray, List.set_cons_zero, List.set_cons_succ]; done) | (simp only [putAll, Act.put, List.setIfInBounds_toArray, List.set_cons_zero, List.set_cons_succ]; rfl)) (hJ4_7_10_13 () _ (by repeat (first | (with_reducible first | exact HB.out | apply below_alloc | apply pw_below_drewN | apply below_drew1) | exact HB.out)))
            ·skip
             rintro v108 w19 ⟨h0_, h1_⟩
             have n0_ : Aside0 (Kd.R (Kd.int .u8) 5 w19 w.heap.size (fun _ => True) v108 y107) := ⟨h0_⟩
             have n1_ : Aside0 (Below w.heap.size w w19) := ⟨h1_⟩
             clear HB
             clear h0_ h1_
             have HO109 := n0_
             have HB := n1_
             clear n0_ n1_
             have hHeld := trivial
             refine norm_ (a' := ?_) ?_ ?_
             rotate_left
             ·simp only [putAll, Act.put, List.setIfInBounds_toArray, List.set_cons_zero, List.set_cons_succ]
              rfl
             refine two_ (i := 2) (j := 10) (Ni := some 13) (Nj := some 21) #[true, true, true, true, true, false, true, true, false, true, false, false, true, false, false, false] #[true, true, false, true, true, false, true, true, false, true, true, false, true, false, false, false] rfl rfl rfl rfl (two_of HT_.out (by kernel_rfl)) (by decide) (by decide) (fun K hK => ?_) (fun K hK => ?_)
             ·skip
              have hcv20 := own_string (P := Tryd.prog) Tryd.underlying59 Tryd.underlying5 Tryd.underlying9 (Kd.own_of_R HO109.out)
              refine value_ (w1 := ?_) (v := ?_) (by rfl) rfl ?_ ?_
              rotate_left 2
              ·go_simp
               constructor
               ·rfl
               ·rfl
              clear hcv20
              refine hK.out _ _ trivial (fun hHeld => ?_)
              clear hK K
              refine norm_ (a' := ?_) ?_ ?_
              rotate_left
              ·show Act.put _ (some 13) _ = _
               simp only [Act.put, List.setIfInBounds_toArray, List.set_cons_zero, List.set_cons_succ, i64_w, i32_w]
               rfl
              refine pure_ (i := 5) (N := some 16) (v := ?_) (a' := ?_) #[true, true, true, true, true, true, true, true, false, true, false, false, true, false, false, false] rfl rfl (any_of HT_.out (by kernel_rfl)) (fun _ _ _ h => h) (Or.inl ⟨by rfl, ?_⟩) ?_ ?_
              rotate_left
              ·intro w'
               go_simp
               with_reducible rfl
              rotate_left
              ·simp only [Act.put, List.setIfInBounds_toArray, List.set_cons_zero, List.set_cons_succ, i64_w, i32_w]
               rfl
              refine pure_ (i := 8) (N := some 19) (v := ?_) (a' := ?_) #[true, true, true, true, true, true, true, true, true, true, false, false, true, false, false, false] rfl rfl (any_of HT_.out (by kernel_rfl)) (fun _ _ _ h => h) (Or.inl ⟨by rfl, ?_⟩) ?_ ?_
              rotate_left
              ·intro w'
               go_simp
               with_reducible rfl
              rotate_left
              ·simp only [Act.put, List.setIfInBounds_toArray, List.set_cons_zero, List.set_cons_succ, i64_w, i32_w]
               rfl
              exact norm_ (by first | (simp only [putAll, Act.put, List.setIfInBounds_toArray, List.set_cons_zero, List.set_cons_succ]; done) | (simp only [putAll, Act.put, List.setIfInBounds_toArray, List.set_cons_zero, List.set_cons_succ]; rfl)) (hJ1_2_4_7 (v108) _ ⟨(by (with_reducible repeat (first | apply Kd.R_alloc | apply Kd.R_drewN | apply Kd.R_drew)); exact HO109.out), (by repeat (first | (with_reducible first | exact HB.out | apply below_alloc | apply pw_below_drewN | apply below_drew1) | exact HB.out))⟩)
             ·skip
              refine goes_ Tryd.func48 (by kernel_rfl) rfl #[.int .i64 a3] (by rfl) rfl rfl (by (try simp only [List.map_toArray, List.map_cons, List.map_nil]); first | done | rfl | (simp only [List.length_drop, List.length_take]; rfl)) ?_
              with_reducible refine (spec_three.calls a3 t112 _ A10.out).mono ?_
              rintro e w20 ⟨rfl, hb⟩
              refine ⟨_, rfl, ?_⟩
              have n0_ := Aside0.mk (Kd.R_below (by (with_reducible repeat (first | apply Kd.R_alloc | apply Kd.R_drewN | apply Kd.R_drew)); exact HO109.out) hb)
              have n1_ := Aside0.mk (below_step (by repeat (first | (with_reducible first | exact HB.out | apply below_alloc | apply pw_below_drewN | apply below_drew1) | exact HB.out)) hb)
              clear HO109
              clear HB
              have HO109 := n0_
              have HB := n1_
              clear n0_ n1_
              (try clear hb)
              (try clear hb2)
              (try clear hk)
              (try clear hi)
              refine hK.out _ _ trivial (fun hHeld => ?_)
              clear hK K
              refine norm_ (a' := ?_) ?_ ?_
              rotate_left
              ·show Act.put _ (some 21) _ = _
               simp only [Act.put, List.setIfInBounds_toArray, List.set_cons_zero, List.set_cons_succ, i64_w, i32_w]
               rfl
              exact norm_ (by first | (simp only [putAll, Act.put, List.setIfInBounds_toArray, List.set_cons_zero, List.set_cons_succ]; done) | (simp only [putAll, Act.put, List.setIfInBounds_toArray, List.set_cons_zero, List.set_cons_succ]; rfl)) (hJ1_4_7_10 (v108) _ ⟨(by (with_reducible repeat (first | apply Kd.R_alloc | apply Kd.R_drewN | apply Kd.R_drew)); exact HO109.out), (by repeat (first | (with_reducible first | exact HB.out | apply below_alloc | apply pw_below_drewN | apply below_drew1) | exact HB.out))⟩)
           ·skip
            rintro v108 w19 ⟨h0_, h1_⟩
            have n0_ : Aside0 (Kd.R (Kd.int .u8) 5 w19 w.heap.size (fun _ => True) v108 y107) := ⟨h0_⟩
            have n1_ : Aside0 (Below w.heap.size w w19) := ⟨h1_⟩
            clear HB
            clear h0_ h1_
            have HO109 := n0_
            have HB := n1_
            clear n0_ n1_
            have hHeld := trivial
            refine norm_ (a' := ?_) ?_ ?_
            rotate_left
            ·simp only [putAll, Act.put, List.setIfInBounds_toArray, List.set_cons_zero, List.set_cons_succ]
             rfl
            refine one_ (i := 7) (N := some 18) #[true, true, true, true, true, true, true, true, false, true, false, false, true, false, false, false] rfl rfl (one_of HT_.out (by kernel_rfl)) (by decide) (fun K hK => ?_)
            refine goes_ Tryd.func49 (by kernel_rfl) rfl #[.int .i64 a2] (by rfl) rfl rfl (by (try simp only [List.map_toArray, List.map_cons, List.map_nil]); first | done | rfl | (simp only [List.length_drop, List.length_take]; rfl)) ?_
            with_reducible refine (spec_two.calls a2 t111 _ A8.out).mono ?_
            rintro e w20 ⟨rfl, hb⟩
            refine ⟨_, rfl, ?_⟩
            have n0_ := Aside0.mk (Kd.R_below (by (with_reducible repeat (first | apply Kd.R_alloc | apply Kd.R_drewN | apply Kd.R_drew)); exact HO109.out) hb)
            have n1_ := Aside0.mk (below_step (by repeat (first | (with_reducible first | exact HB.out | apply below_alloc | apply pw_below_drewN | apply below_drew1) | exact HB.out)) hb)
            clear HO109
            clear HB
            have HO109 := n0_
            have HB := n1_
            clear n0_ n1_
            (try clear hb)
            (try clear hb2)
            (try clear hk)
            (try clear hi)
            refine hK.out _ _ trivial (fun hHeld => ?_)
            clear hK K
            refine norm_ (a' := ?_) ?_ ?_
            rotate_left
            ·show Act.put _ (some 18) _ = _
             simp only [Act.put, List.setIfInBounds_toArray, List.set_cons_zero, List.set_cons_succ, i64_w, i32_w]
             rfl
            refine pure_ (i := 8) (N := some 19) (v := ?_) (a' := ?_) #[true, true, true, true, true, true, true, true, true, true, false, false, true, false, false, false] rfl rfl (any_of HT_.out (by kernel_rfl)) (fun _ _ _ h => h) (Or.inl ⟨by rfl, ?_⟩) ?_ ?_
            rotate_left
            ·intro w'
             go_simp
             with_reducible rfl
            rotate_left
            ·simp only [Act.put, List.setIfInBounds_toArray, List.set_cons_zero, List.set_cons_succ, i64_w, i32_w]
             rfl
            exact norm_ (by first | (simp only [putAll, Act.put, List.setIfInBounds_toArray, List.set_cons_zero, List.set_cons_succ]; done) | (simp only [putAll, Act.put, List.setIfInBounds_toArray, List.set_cons_zero, List.set_cons_succ]; rfl)) (hJ1_2_4_7 (v108) _ ⟨(by (with_reducible repeat (first | apply Kd.R_alloc | apply Kd.R_drewN | apply Kd.R_drew)); exact HO109.out), (by repeat (first | (with_reducible first | exact HB.out | apply below_alloc | apply pw_below_drewN | apply below_drew1) | exact HB.out))⟩)
          ·skip
           rintro _ w19 h0_
           have n0_ : Aside0 (Below w.heap.size w w19) := ⟨h0_⟩
           clear HB
           clear h0_
           have HB := n0_
           clear n0_
           have hHeld := trivial
           refine norm_ (a' := ?_) ?_ ?_
           rotate_left
           ·simp only [putAll, Act.put, List.setIfInBounds_toArray, List.set_cons_zero, List.set_cons_succ]
            rfl
           refine one_ (i := 1) (N := some 12) #[true, true, false, true, true, false, true, true, false, true, true, false, true, true, false, false] rfl rfl (one_of HT_.out (by kernel_rfl)) (by decide) (fun K hK => ?_)
           refine Kd.R_lit_step (Kd.int .u8) _ 5 ?hg (N := 12) ?hd (xs := ([a0] : List Int)) (inner := [.int .u8 a0]) (ok := fun _ => True) (okp := fun _ => True) ?hr ?hp (fun _ hk => hk) trivial (Below.refl _ _) (Nat.le_refl _) (by simp) ?_; (case hd => rfl); (case hg => rfl); (case hr => first | (go_simp; done) | (go_simp; rfl)); (case hp => exact (Reps.one (show Kd.M (Kd.int .u8) _ _ _ a0 [.int .u8 a0] from rfl) (Reps.none _ _)))
           intro v108 w20 ho21 hb hg_ hnew_
           clear hg_ hnew_
           (first | rw [← Ny107.out] at ho21 | (simp only [Int.reduceToNat] at ho21; rw [← Ny107.out] at ho21))
           have n0_ := Aside0.mk (Kd.R_lower ho21 (below_size (by repeat (first | (with_reducible first | exact HB.out | apply below_alloc | apply pw_below_drewN | apply below_drew1) | exact HB.out))))
           have n1_ := Aside0.mk (below_step (by repeat (first | (with_reducible first | exact HB.out | apply below_alloc | apply pw_below_drewN | apply below_drew1) | exact HB.out)) hb)
           clear HB
           have HO109 := n0_
           have HB := n1_
           clear n0_ n1_
           clear hb ho21
           refine hK.out _ _ trivial (fun hHeld => ?_)
           clear hK K
           refine norm_ (a' := ?_) ?_ ?_
           rotate_left
           ·show Act.put _ (some 12) _ = _
            simp only [Act.put, List.setIfInBounds_toArray, List.set_cons_zero, List.set_cons_succ, i64_w, i32_w]
            rfl
           exact norm_ (by first | (simp only [putAll, Act.put, List.setIfInBounds_toArray, List.set_cons_zero, List.set_cons_succ]; done) | (simp only [putAll, Act.put, List.setIfInBounds_toArray, List.set_cons_zero, List.set_cons_succ]; rfl)) (hJ1_4_7_10_13 (v108) _ ⟨(by (with_reducible repeat (first | apply Kd.R_alloc | apply Kd.R_drewN | apply Kd.R_drew)); exact HO109.out), (by repeat (first | (with_reducible first | exact HB.out | apply below_alloc | apply pw_below_drewN | apply below_drew1) | exact HB.out))⟩)
         ·skip
          rintro v108 w20 ⟨h0_, h1_⟩
          have n0_ : Aside0 (Kd.R (Kd.int .u8) 5 w20 w.heap.size (fun _ => True) v108 y107) := ⟨h0_⟩
          have n1_ : Aside0 (Below w.heap.size w w20) := ⟨h1_⟩
          clear HB
          clear h0_ h1_
          have HO109 := n0_
          have HB := n1_
          clear n0_ n1_
          have hHeld := trivial
          refine norm_ (a' := ?_) ?_ ?_
          rotate_left
          ·simp only [putAll, Act.put, List.setIfInBounds_toArray, List.set_cons_zero, List.set_cons_succ]
           rfl
          refine two_ (i := 2) (j := 13) (Ni := some 13) (Nj := some 24) #[true, true, true, true, true, false, true, true, false, true, true, false, true, false, false, false] #[true, true, false, true, true, false, true, true, false, true, true, false, true, true, false, false] rfl rfl rfl rfl (two_of HT_.out (by kernel_rfl)) (by decide) (by decide) (fun K hK => ?_) (fun K hK => ?_)
          ·skip
           have hcv21 := own_string (P := Tryd.prog) Tryd.underlying59 Tryd.underlying5 Tryd.underlying9 (Kd.own_of_R HO109.out)
           refine value_ (w1 := ?_) (v := ?_) (by rfl) rfl ?_ ?_
           rotate_left 2
           ·go_simp
            constructor
            ·rfl
            ·rfl
           clear hcv21
           refine hK.out _ _ trivial (fun hHeld => ?_)
           clear hK K
           refine norm_ (a' := ?_) ?_ ?_
           rotate_left
           ·show Act.put _ (some 13) _ = _
            simp only [Act.put, List.setIfInBounds_toArray, List.set_cons_zero, List.set_cons_succ, i64_w, i32_w]
            rfl
           refine pure_ (i := 5) (N := some 16) (v := ?_) (a' := ?_) #[true, true, true, true, true, true, true, true, false, true, true, false, true, false, false, false] rfl rfl (any_of HT_.out (by kernel_rfl)) (fun _ _ _ h => h) (Or.inl ⟨by rfl, ?_⟩) ?_ ?_
           rotate_left
           ·intro w'
            go_simp
            with_reducible rfl
           rotate_left
           ·simp only [Act.put, List.setIfInBounds_toArray, List.set_cons_zero, List.set_cons_succ, i64_w, i32_w]
            rfl
           refine pure_ (i := 8) (N := some 19) (v := ?_) (a' := ?_) #[true, true, true, true, true, true, true, true, true, true, true, false, true, false, false, false] rfl rfl (any_of HT_.out (by kernel_rfl)) (fun _ _ _ h => h) (Or.inl ⟨by rfl, ?_⟩) ?_ ?_
           rotate_left
           ·intro w'
            go_simp
            with_reducible rfl
           rotate_left
           ·simp only [Act.put, List.setIfInBounds_toArray, List.set_cons_zero, List.set_cons_succ, i64_w, i32_w]
            rfl
           refine pure_ (i := 11) (N := some 22) (v := ?_) (a' := ?_) #[true, true, true, true, true, true, true, true, true, true, true, true, true, false, false, false] rfl rfl (any_of HT_.out (by kernel_rfl)) (fun _ _ _ h => h) (Or.inl ⟨by rfl, ?_⟩) ?_ ?_
           rotate_left
           ·intro w'
            go_simp
            with_reducible rfl
           rotate_left
           ·simp only [Act.put, List.setIfInBounds_toArray, List.set_cons_zero, List.set_cons_succ, i64_w, i32_w]
            rfl
           exact norm_ (by first | (simp only [putAll, Act.put, List.setIfInBounds_toArray, List.set_cons_zero, List.set_cons_succ]; done) | (simp only [putAll, Act.put, List.setIfInBounds_toArray, List.set_cons_zero, List.set_cons_succ]; rfl)) (hJ1_2_4_7_10 (v108) _ ⟨(by (with_reducible repeat (first | apply Kd.R_alloc | apply Kd.R_drewN | apply Kd.R_drew)); exact HO109.out), (by repeat (first | (with_reducible first | exact HB.out | apply below_alloc | apply pw_below_drewN | apply below_drew1) | exact HB.out))⟩)
          ·skip
           refine goes_ Tryd.func48 (by kernel_rfl) rfl #[.int .i64 a4] (by rfl) rfl rfl (by (try simp only [List.map_toArray, List.map_cons, List.map_nil]); first | done | rfl | (simp only [List.length_drop, List.length_take]; rfl)) ?_
           with_reducible refine (spec_three.calls a4 t113 _ A12.out).mono ?_
           rintro e w21 ⟨rfl, hb⟩
           refine ⟨_, rfl, ?_⟩
           have n0_ := Aside0.mk (Kd.R_below (by (with_reducible repeat (first | apply Kd.R_alloc | apply Kd.R_drewN | apply Kd.R_drew)); exact HO109.out) hb)
           have n1_ := Aside0.mk (below_step (by repeat (first | (with_reducible first | exact HB.out | apply below_alloc | apply pw_below_drewN | apply below_drew1) | exact HB.out)) hb)
           clear HO109
           clear HB
           have HO109 := n0_
           have HB := n1_
           clear n0_ n1_
           (try clear hb)
           (try clear hb2)
           (try clear hk)
           (try clear hi)
           refine hK.out _ _ trivial (fun hHeld => ?_)
           clear hK K
           refine norm_ (a' := ?_) ?_ ?_
           rotate_left
           ·show Act.put _ (some 24) _ = _
            simp only [Act.put, List.setIfInBounds_toArray, List.set_cons_zero, List.set_cons_succ, i64_w, i32_w]
            rfl
           exact norm_ (by first | (simp only [putAll, Act.put, List.setIfInBounds_toArray, List.set_cons_zero, List.set_cons_succ]; done) | (simp only [putAll, Act.put, List.setIfInBounds_toArray, List.set_cons_zero, List.set_cons_succ]; rfl)) (hJ1_4_7_10_13 (v108) _ ⟨(by (with_reducible repeat (first | apply Kd.R_alloc | apply Kd.R_drewN | apply Kd.R_drew)); exact HO109.out), (by repeat (first | (with_reducible first | exact HB.out | apply below_alloc | apply pw_below_drewN | apply below_drew1) | exact HB.out))⟩)
        ·skip
         rintro v108 w20 ⟨h0_, h1_⟩
         have n0_ : Aside0 (Kd.R (Kd.int .u8) 5 w20 w.heap.size (fun _ => True) v108 y107) := ⟨h0_⟩
         have n1_ : Aside0 (Below w.heap.size w w20) := ⟨h1_⟩
         clear HB
         clear h0_ h1_
         have HO109 := n0_
         have HB := n1_
         clear n0_ n1_
         have hHeld := trivial
         refine norm_ (a' := ?_) ?_ ?_
         rotate_left
         ·simp only [putAll, Act.put, List.setIfInBounds_toArray, List.set_cons_zero, List.set_cons_succ]
          rfl
         refine one_ (i := 10) (N := some 21) #[true, true, true, true, true, true, true, true, true, true, true, false, true, false, false, false] rfl rfl (one_of HT_.out (by kernel_rfl)) (by decide) (fun K hK => ?_)
         refine goes_ Tryd.func48 (by kernel_rfl) rfl #[.int .i64 a3] (by rfl) rfl rfl (by (try simp only [List.map_toArray, List.map_cons, List.map_nil]); first | done | rfl | (simp only [List.length_drop, List.length_take]; rfl)) ?_
         with_reducible refine (spec_three.calls a3 t112 _ A10.out).mono ?_
         rintro e w21 ⟨rfl, hb⟩
         refine ⟨_, rfl, ?_⟩
         have n0_ := Aside0.mk (Kd.R_below (by (with_reducible repeat (first | apply Kd.R_alloc | apply Kd.R_drewN | apply Kd.R_drew)); exact HO109.out) hb)
         have n1_ := Aside0.mk (below_step (by repeat (first | (with_reducible first | exact HB.out | apply below_alloc | apply pw_below_drewN | apply below_drew1) | exact HB.out)) hb)
         clear HO109
         clear HB
         have HO109 := n0_
         have HB := n1_
         clear n0_ n1_
         (try clear hb)
         (try clear hb2)
         (try clear hk)
         (try clear hi)
         refine hK.out _ _ trivial (fun hHeld => ?_)
         clear hK K
         refine norm_ (a' := ?_) ?_ ?_
         rotate_left
         ·show Act.put _ (some 21) _ = _
          simp only [Act.put, List.setIfInBounds_toArray, List.set_cons_zero, List.set_cons_succ, i64_w, i32_w]
          rfl
         refine pure_ (i := 11) (N := some 22) (v := ?_) (a' := ?_) #[true, true, true, true, true, true, true, true, true, true, true, true, true, false, false, false] rfl rfl (any_of HT_.out (by kernel_rfl)) (fun _ _ _ h => h) (Or.inl ⟨by rfl, ?_⟩) ?_ ?_
         rotate_left
         ·intro w'
          go_simp
          with_reducible rfl
         rotate_left
         ·simp only [Act.put, List.setIfInBounds_toArray, List.set_cons_zero, List.set_cons_succ, i64_w, i32_w]
          rfl
         exact norm_ (by first | (simp only [putAll, Act.put, List.setIfInBounds_toArray, List.set_cons_zero, List.set_cons_succ]; done) | (simp only [putAll, Act.put, List.setIfInBounds_toArray, List.set_cons_zero, List.set_cons_succ]; rfl)) (hJ1_2_4_7_10 (v108) _ ⟨(by (with_reducible repeat (first | apply Kd.R_alloc | apply Kd.R_drewN | apply Kd.R_drew)); exact HO109.out), (by repeat (first | (with_reducible first | exact HB.out | apply below_alloc | apply pw_below_drewN | apply below_drew1) | exact HB.out))⟩)
       ·skip
        rintro v108 w21 ⟨h0_, h1_⟩
        have n0_ : Aside0 (Kd.R (Kd.int .u8) 5 w21 w.heap.size (fun _ => True) v108 y107) := ⟨h0_⟩
        have n1_ : Aside0 (Below w.heap.size w w21) := ⟨h1_⟩
        clear HB
        clear h0_ h1_
        have HO109 := n0_
        have HB := n1_
        clear n0_ n1_
        have hHeld := trivial
        refine norm_ (a' := ?_) ?_ ?_
        rotate_left
        ·simp only [putAll, Act.put, List.setIfInBounds_toArray, List.set_cons_zero, List.set_cons_succ]
         rfl
        refine one_ (i := 2) (N := some 13) #[true, true, true, true, true, false, true, true, false, true, true, false, true, true, false, false] rfl rfl (one_of HT_.out (by kernel_rfl)) (by decide) (fun K hK => ?_)
        have hcv22 := own_string (P := Tryd.prog) Tryd.underlying59 Tryd.underlying5 Tryd.underlying9 (Kd.own_of_R HO109.out)
        refine value_ (w1 := ?_) (v := ?_) (by rfl) rfl ?_ ?_
        rotate_left 2
        ·go_simp
         constructor
         ·rfl
         ·rfl
        clear hcv22
        refine hK.out _ _ trivial (fun hHeld => ?_)
        clear hK K
        refine norm_ (a' := ?_) ?_ ?_
        rotate_left
        ·show Act.put _ (some 13) _ = _
         simp only [Act.put, List.setIfInBounds_toArray, List.set_cons_zero, List.set_cons_succ, i64_w, i32_w]
         rfl
        refine pure_ (i := 5) (N := some 16) (v := ?_) (a' := ?_) #[true, true, true, true, true, true, true, true, false, true, true, false, true, true, false, false] rfl rfl (any_of HT_.out (by kernel_rfl)) (fun _ _ _ h => h) (Or.inl ⟨by rfl, ?_⟩) ?_ ?_
        rotate_left
        ·intro w'
         go_simp
         with_reducible rfl
        rotate_left
        ·simp only [Act.put, List.setIfInBounds_toArray, List.set_cons_zero, List.set_cons_succ, i64_w, i32_w]
         rfl
        refine pure_ (i := 8) (N := some 19) (v := ?_) (a' := ?_) #[true, true, true, true, true, true, true, true, true, true, true, false, true, true, false, false] rfl rfl (any_of HT_.out (by kernel_rfl)) (fun _ _ _ h => h) (Or.inl ⟨by rfl, ?_⟩) ?_ ?_
        rotate_left
        ·intro w'
         go_simp
         with_reducible rfl
        rotate_left
        ·simp only [Act.put, List.setIfInBounds_toArray, List.set_cons_zero, List.set_cons_succ, i64_w, i32_w]
         rfl
        refine pure_ (i := 11) (N := some 22) (v := ?_) (a' := ?_) #[true, true, true, true, true, true, true, true, true, true, true, true, true, true, false, false] rfl rfl (any_of HT_.out (by kernel_rfl)) (fun _ _ _ h => h) (Or.inl ⟨by rfl, ?_⟩) ?_ ?_
        rotate_left
        ·intro w'
         go_simp
         with_reducible rfl
        rotate_left
        ·simp only [Act.put, List.setIfInBounds_toArray, List.set_cons_zero, List.set_cons_succ, i64_w, i32_w]
         rfl
        exact norm_ (by first | (simp only [putAll, Act.put, List.setIfInBounds_toArray, List.set_cons_zero, List.set_cons_succ]; done) | (simp only [putAll, Act.put, List.setIfInBounds_toArray, List.set_cons_zero, List.set_cons_succ]; rfl)) (hJ1_2_4_7_10_13 (v108) _ ⟨(by (with_reducible repeat (first | apply Kd.R_alloc | apply Kd.R_drewN | apply Kd.R_drew)); exact HO109.out), (by repeat (first | (with_reducible first | exact HB.out | apply below_alloc | apply pw_below_drewN | apply below_drew1) | exact HB.out))⟩)
      ·skip
       rintro v108 w21 ⟨h0_, h1_⟩
       have n0_ : Aside0 (Kd.R (Kd.int .u8) 5 w21 w.heap.size (fun _ => True) v108 y107) := ⟨h0_⟩
       have n1_ : Aside0 (Below w.heap.size w w21) := ⟨h1_⟩
       clear HB
       clear h0_ h1_
       have HO109 := n0_
       have HB := n1_
       clear n0_ n1_
       have hHeld := trivial
       refine norm_ (a' := ?_) ?_ ?_
       rotate_left
       ·simp only [putAll, Act.put, List.setIfInBounds_toArray, List.set_cons_zero, List.set_cons_succ]
        rfl
       refine one_ (i := 13) (N := some 24) #[true, true, true, true, true, true, true, true, true, true, true, true, true, true, false, false] rfl rfl (one_of HT_.out (by kernel_rfl)) (by decide) (fun K hK => ?_)
       refine goes_ Tryd.func48 (by kernel_rfl) rfl #[.int .i64 a4] (by rfl) rfl rfl (by (try simp only [List.map_toArray, List.map_cons, List.map_nil]); first | done | rfl | (simp only [List.length_drop, List.length_take]; rfl)) ?_
       with_reducible refine (spec_three.calls a4 t113 _ A12.out).mono ?_
       rintro e w22 ⟨rfl, hb⟩
       refine ⟨_, rfl, ?_⟩
       have n0_ := Aside0.mk (Kd.R_below (by (with_reducible repeat (first | apply Kd.R_alloc | apply Kd.R_drewN | apply Kd.R_drew)); exact HO109.out) hb)
       have n1_ := Aside0.mk (below_step (by repeat (first | (with_reducible first | exact HB.out | apply below_alloc | apply pw_below_drewN | apply below_drew1) | exact HB.out)) hb)
       clear HO109
       clear HB
       have HO109 := n0_
       have HB := n1_
       clear n0_ n1_
       (try clear hb)
       (try clear hb2)
       (try clear hk)
       (try clear hi)
       refine hK.out _ _ trivial (fun hHeld => ?_)
       clear hK K
       refine norm_ (a' := ?_) ?_ ?_
       rotate_left
       ·show Act.put _ (some 24) _ = _
        simp only [Act.put, List.setIfInBounds_toArray, List.set_cons_zero, List.set_cons_succ, i64_w, i32_w]
        rfl
       exact norm_ (by first | (simp only [putAll, Act.put, List.setIfInBounds_toArray, List.set_cons_zero, List.set_cons_succ]; done) | (simp only [putAll, Act.put, List.setIfInBounds_toArray, List.set_cons_zero, List.set_cons_succ]; rfl)) (hJ1_2_4_7_10_13 (v108) _ ⟨(by (with_reducible repeat (first | apply Kd.R_alloc | apply Kd.R_drewN | apply Kd.R_drew)); exact HO109.out), (by repeat (first | (with_reducible first | exact HB.out | apply below_alloc | apply pw_below_drewN | apply below_drew1) | exact HB.out))⟩)
     rintro v108 w22 ⟨h0_, h1_⟩
     have n0_ : Aside0 (Kd.R (Kd.int .u8) 5 w22 w.heap.size (fun _ => True) v108 y107) := ⟨h0_⟩
     have n1_ : Aside0 (Below w.heap.size w w22) := ⟨h1_⟩
     clear HB
     clear h0_ h1_
     have HO109 := n0_
     have HB := n1_
     clear n0_ n1_
     have hHeld := trivial
     refine norm_ (a' := ?_) ?_ ?_
     rotate_left
     ·simp only [putAll, Act.put, List.setIfInBounds_toArray, List.set_cons_zero, List.set_cons_succ]
      rfl
     refine pure_ (i := 14) (N := some 25) (v := ?_) (a' := ?_) #[true, true, true, true, true, true, true, true, true, true, true, true, true, true, true, false] rfl rfl (any_of HT_.out (by kernel_rfl)) (fun _ _ _ h => h) (Or.inl ⟨by rfl, ?_⟩) ?_ ?_
     rotate_left
     ·intro w'
      go_simp
      with_reducible rfl
     rotate_left
     ·simp only [Act.put, List.setIfInBounds_toArray, List.set_cons_zero, List.set_cons_succ, i64_w, i32_w]
      rfl
     refine pure_ (i := 15) (N := some 10) (v := ?_) (a' := ?_) #[true, true, true, true, true, true, true, true, true, true, true, true, true, true, true, true] rfl rfl (any_of HT_.out (by kernel_rfl)) (fun _ _ _ h => h) (Or.inl ⟨by rfl, ?_⟩) ?_ ?_
     rotate_left
     ·intro w'
      go_simp
      with_reducible rfl
     rotate_left
     ·simp only [Act.put, List.setIfInBounds_toArray, List.set_cons_zero, List.set_cons_succ, i64_w, i32_w]
      rfl
     refine done_ (done_of HT_.out (by kernel_rfl)) ?_
     try go_wp2
     go_ret
     exact ⟨by first | rfl | (simp [errW_none, errW_some] <;> rfl) | (simp [*, errW_none, errW_some] <;> rfl), by repeat (first | (with_reducible first | exact HB.out | apply below_alloc | apply pw_below_drewN | apply below_drew1) | exact HB.out)⟩
    ·rw [if_neg c13] at H
     exact absurd H (by simp)
   ·rw [if_neg c11] at H
    exact absurd H (by simp)
  ·rw [if_neg c9] at H
   exact absurd H (by simp)
 ·rw [if_neg c7] at H
  exact absurd H (by simp)

end Go.Proofs.YtjflijebcpcbmaaDoor.G
