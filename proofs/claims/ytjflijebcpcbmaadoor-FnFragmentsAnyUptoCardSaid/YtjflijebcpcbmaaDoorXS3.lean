/- What is proved: Go functions answer as the Lean functions of this text (written by a program of this session over the print of the kit). Conditions: those in the hypotheses. -/
import Derived.Test.YtjflijebcpcbmaaDoorXS0
import Derived.Test.YtjflijebcpcbmaaDoorXS1
import Derived.Test.YtjflijebcpcbmaaDoorXS2
import Derived.Test.YtjflijebcpcbmaaDoorXFrag
import Derived.Test.YtjflijebcpcbmaaDoorXSpX
namespace Go.Proofs.YtjflijebcpcbmaaDoor.G
open Go.RowKit Go.Proofs.YtjflijebcpcbmaaDoorW.PrintWords Go.Proofs.YtjflijebcpcbmaaDoorW.PrintLast Go.Proofs.YtjflijebcpcbmaaDoorW.PrintMore
attribute [local go_sem] max2_int min2_int max_two min_two max_three min_three max_four min_four   -- for this text's walks alone
set_option linter.unusedVariables false
set_option linter.unusedSimpArgs false

/-! ### spec_Fragments: function 19: given by hand -/
/-! ### laws_FnFragmentsAny: function 4 -/
mutual
def laws_FnFragmentsAny.j0 : Nat → List (S45) → Bool → Option (Bool)
 | 0, _, _ => none
 | k + 1, x0, x16 => if x16 = true then (some true) else ((impl_Fragments.f x0).bind fun t136 => ((spec_Fragments.f x0).bind fun t139 => (if (t136.length : Int) = (x0.length : Int) then (laws_FnFragmentsAny.j1 k t136 t139 ((t139.length : Int) != (x0.length : Int))) else (laws_FnFragmentsAny.j1 k t136 t139 true))))
def laws_FnFragmentsAny.j1 : Nat → List (S40) → List (S40) → Bool → Option (Bool)
 | 0, _, _, _ => none
 | k + 1, x3, x4, x32 => if x32 = true then (some false) else (laws_FnFragmentsAny.l0 k x3 x4 (x3.length : Int) 0)
def laws_FnFragmentsAny.l0 : Nat → List (S40) → List (S40) → Int → Int → Option (Bool)
 | 0, _, _, _, _ => none
 | k + 1, x3, x4, x34, x35 => if x35 < x34 then (if 0 ≤ x35 then (if x35 < (x3.length : Int) then (if x35 < (x4.length : Int) then (if (((rd_T40 x3 x35).f3) != ((rd_T40 x4 x35).f3)) = true then (some false) else (if ((rd_T40 x3 x35).f4).toList = ((rd_T40 x4 x35).f4).toList then (if (((rd_T40 x3 x35).f2) != ((rd_T40 x4 x35).f2)) = true then (some false) else (if (((rd_T40 x3 x35).f0) != ((rd_T40 x4 x35).f0)) = true then (some false) else (if (((rd_T40 x3 x35).f1) != ((rd_T40 x4 x35).f1)) = true then (some false) else (if ((rd_T40 x3 x35).f5) = ((rd_T40 x4 x35).f5) then (laws_FnFragmentsAny.l0 k x3 x4 x34 (wrap64 (x35 + 1))) else (some false))))) else (some false))) else (none)) else (none)) else (none)) else (some true)
end
def laws_FnFragmentsAny.f (k : Nat) (l0 : List (S45)) : Option (Bool) := (laws_zzFits5.f k l0).bind fun t134 => (if t134 = true then (if (l0.length : Int) = 0 then (laws_FnFragmentsAny.j0 k l0 true) else ((spec_FragmentsKnown.f k l0).bind fun t135 => (laws_FnFragmentsAny.j0 k l0 (!t135)))) else (some true))
set_option maxHeartbeats 8000000 in
set_option maxRecDepth 100000 in
theorem laws_FnFragmentsAny.calls (k : Nat) (A0 : Option Addr) (c0 : Nat) (l0 : List (S45)) (r : Bool) (w : World) (hr0 : Kd.C k45 w A0 l0.length l0) (hc0 : l0.length ≤ c0) (h : laws_FnFragmentsAny.f k l0 = some r) (HL : Laid w) :
 Calls Tryd.prog 4 #[.slice A0 l0.length c0] w fun e w' => e = .returned (.bool r) ∧ Below w.heap.size w w' := by
 have HR0 := Aside0.mk hr0
 have HC0 := Aside0.mk hc0
 clear hr0 hc0
 have HB := Aside0.mk (Below.refl w.heap.size w)
 have HLW := Aside0.mk HL
 clear HL
 have H : ((laws_zzFits5.f k l0).bind fun t134 => (if t134 = true then (if (l0.length : Int) = 0 then (laws_FnFragmentsAny.j0 k l0 true) else ((spec_FragmentsKnown.f k l0).bind fun t135 => (laws_FnFragmentsAny.j0 k l0 (!t135)))) else (some true))) = some r := h
 clear h
 replace H := Option.bind_eq_some_iff.mp H
 obtain ⟨t134, A20, H⟩ := H
 replace H : (if t134 = true then (if (l0.length : Int) = 0 then (laws_FnFragmentsAny.j0 k l0 true) else ((spec_FragmentsKnown.f k l0).bind fun t135 => (laws_FnFragmentsAny.j0 k l0 (!t135)))) else (some true)) = some r := H
 have A2 := Aside0.mk A20
 clear A20
 by_cases c3 : t134 = true
 ·subst c3
  have H1 : (if (l0.length : Int) = 0 then (laws_FnFragmentsAny.j0 k l0 true) else ((spec_FragmentsKnown.f k l0).bind fun t135 => (laws_FnFragmentsAny.j0 k l0 (!t135)))) = some r := by rw [if_pos rfl] at H; exact H
  clear H
  have H := H1
  clear H1
  have HC4 := Aside0.mk H
  clear H
  go_enter Tryd.func4, Tryd.ntmps4
  go_upto_region 3 with (first | (go_at_call 17; (with_reducible refine (laws_zzFits5.calls k _ _ l0 true _ ?side1 ?side2 A2.out).mono ?_); (case side1 => repeat (first | exact HR0.out | (with_reducible refine Kd.C_alloc ?_ _) | (with_reducible refine Kd.C_drewN ?_ _) | (with_reducible refine Kd.C_drew ?_))); (case side2 => exact HC0.out); rintro e w5 ⟨rfl, hb⟩; have n0_ := Aside0.mk (below_step (by repeat (first | (with_reducible first | exact HB.out | apply below_alloc | apply pw_below_drewN | apply below_drew1) | exact HB.out)) hb); clear HB; have HB := n0_; clear n0_; (try clear hb); (try clear hb2); (try clear hk); (try clear hi)))
  repeat (go_quiet (first | (go_at_call 17; (with_reducible refine (laws_zzFits5.calls k _ _ l0 true _ ?side1 ?side2 A2.out).mono ?_); (case side1 => repeat (first | exact HR0.out | (with_reducible refine Kd.C_alloc ?_ _) | (with_reducible refine Kd.C_drewN ?_ _) | (with_reducible refine Kd.C_drew ?_))); (case side2 => exact HC0.out); rintro e w5 ⟨rfl, hb⟩; have n0_ := Aside0.mk (below_step (by repeat (first | (with_reducible first | exact HB.out | apply below_alloc | apply pw_below_drewN | apply below_drew1) | exact HB.out)) hb); clear HB; have HB := n0_; clear n0_; (try clear hb); (try clear hb2); (try clear hk); (try clear hi))); go_upto_region 3 with (first | (go_at_call 17; (with_reducible refine (laws_zzFits5.calls k _ _ l0 true _ ?side1 ?side2 A2.out).mono ?_); (case side1 => repeat (first | exact HR0.out | (with_reducible refine Kd.C_alloc ?_ _) | (with_reducible refine Kd.C_drewN ?_ _) | (with_reducible refine Kd.C_drew ?_))); (case side2 => exact HC0.out); rintro e w5 ⟨rfl, hb⟩; have n0_ := Aside0.mk (below_step (by repeat (first | (with_reducible first | exact HB.out | apply below_alloc | apply pw_below_drewN | apply below_drew1) | exact HB.out)) hb); clear HB; have HB := n0_; clear n0_; (try clear hb); (try clear hb2); (try clear hk); (try clear hi))))
  (try simp only [Act.put, List.setIfInBounds_toArray, List.set_cons_zero, List.set_cons_succ])
  go_cut [16] (fun v16 wc => ∃ (kq : Nat) (x16_3 : Bool), v16 = .bool x16_3 ∧ Aside0 (laws_FnFragmentsAny.j0 kq l0 x16_3 = some r) ∧ Aside0 (kq ≤ k) ∧ Aside0 (Below w.heap.size w wc))
  case first =>
   have H := HC4.out
   clear HC4
   by_cases c6 : (l0.length : Int) = 0
   ·rw [if_pos c6] at H
    have c6b0 : ((l0.length : Int) == 0) = true := beq_iff_eq.mpr c6
    have c6b1 : ((l0.length : Int) != 0) = false := bne_eq_false_iff_eq.mpr c6
    clear c6
    (first | rw [c6b0] | (simp only [i64_w, i32_w]; rw [c6b0]) | skip)
    have H' := Aside0.mk H
    clear H
    go_wp2
    repeat (go_quiet (fail); try go_wp2)
    go_meet
    case rel => exact ⟨_, (true), (by first | rfl | (simp; done) | (simp [*]; done)), H', ⟨by first | omega | exact Nat.le_refl _⟩, ⟨by repeat (first | (with_reducible first | exact HB.out | apply below_alloc | apply pw_below_drewN | apply below_drew1) | exact HB.out)⟩⟩
   ·rw [if_neg c6] at H
    have c6b0 : ((l0.length : Int) == 0) = false := beq_eq_false_iff_ne.mpr c6
    have c6b1 : ((l0.length : Int) != 0) = true := bne_iff_ne.mpr c6
    have c6b2 : ¬ (l0 = []) := fun h_ => c6 (by rw [h_]; rfl)
    (first | rw [c6b0] | (simp only [i64_w, i32_w]; rw [c6b0]) | skip)
    replace H := Option.bind_eq_some_iff.mp H
    obtain ⟨t135, A70, H⟩ := H
    replace H : (laws_FnFragmentsAny.j0 k l0 (!t135)) = some r := H
    have A7 := Aside0.mk A70
    clear A70
    have H' := Aside0.mk H
    clear H
    go_wp2_with (first | (go_at_call 18; (with_reducible refine (spec_FragmentsKnown.calls k _ _ l0 t135 _ ?side1 ?side2 A7.out).mono ?_); (case side1 => repeat (first | exact (Kd.C_below HR0.out HB.out) | (with_reducible refine Kd.C_alloc ?_ _) | (with_reducible refine Kd.C_drewN ?_ _) | (with_reducible refine Kd.C_drew ?_))); (case side2 => exact HC0.out); rintro e w8 ⟨rfl, hb⟩; have n0_ := Aside0.mk (below_step (by repeat (first | (with_reducible first | exact HB.out | apply below_alloc | apply pw_below_drewN | apply below_drew1) | exact HB.out)) hb); clear HB; have HB := n0_; clear n0_; (try clear hb); (try clear hb2); (try clear hk); (try clear hi)))
    repeat (go_quiet (first | (go_at_call 18; (with_reducible refine (spec_FragmentsKnown.calls k _ _ l0 t135 _ ?side1 ?side2 A7.out).mono ?_); (case side1 => repeat (first | exact (Kd.C_below HR0.out HB.out) | (with_reducible refine Kd.C_alloc ?_ _) | (with_reducible refine Kd.C_drewN ?_ _) | (with_reducible refine Kd.C_drew ?_))); (case side2 => exact HC0.out); rintro e w8 ⟨rfl, hb⟩; have n0_ := Aside0.mk (below_step (by repeat (first | (with_reducible first | exact HB.out | apply below_alloc | apply pw_below_drewN | apply below_drew1) | exact HB.out)) hb); clear HB; have HB := n0_; clear n0_; (try clear hb); (try clear hb2); (try clear hk); (try clear hi))); try go_wp2_with (first | (go_at_call 18; (with_reducible refine (spec_FragmentsKnown.calls k _ _ l0 t135 _ ?side1 ?side2 A7.out).mono ?_); (case side1 => repeat (first | exact (Kd.C_below HR0.out HB.out) | (with_reducible refine Kd.C_alloc ?_ _) | (with_reducible refine Kd.C_drewN ?_ _) | (with_reducible refine Kd.C_drew ?_))); (case side2 => exact HC0.out); rintro e w8 ⟨rfl, hb⟩; have n0_ := Aside0.mk (below_step (by repeat (first | (with_reducible first | exact HB.out | apply below_alloc | apply pw_below_drewN | apply below_drew1) | exact HB.out)) hb); clear HB; have HB := n0_; clear n0_; (try clear hb); (try clear hb2); (try clear hk); (try clear hi))))
    go_meet
    case rel => exact ⟨_, (!t135), (by first | rfl | (simp; done) | (simp [*]; done)), H', ⟨by first | omega | exact Nat.le_refl _⟩, ⟨by repeat (first | (with_reducible first | exact HB.out | apply below_alloc | apply pw_below_drewN | apply below_drew1) | exact HB.out)⟩⟩
  case rest =>
   clear HC4
   try clear p2
   try clear c3
   try clear c4
   try clear c6
   try clear c6b0
   try clear c6b1
   try clear c6b2
   obtain ⟨kq, x16_3, rfl, HA, HJ3, HB⟩ := hcut
   cases kq with
   | zero => exact absurd HA.out (by simp [laws_FnFragmentsAny.j0])
   | succ kj3 =>
     have H := HA.out
     clear HA
     simp only [laws_FnFragmentsAny.j0] at H
     by_cases c9 : x16_3 = true
     ·subst c9
      have H1 : (some true) = some r := by rw [if_pos rfl] at H; exact H
      clear H
      have H := H1
      clear H1
      obtain rfl := Option.some.inj H
      go_wp2
      repeat (go_quiet (fail); try go_wp2)
      go_ret
      exact ⟨by first | rfl | (simp [errW_none, errW_some] <;> rfl) | (simp [*, errW_none, errW_some] <;> rfl), by repeat (first | (with_reducible first | exact HB.out | apply below_alloc | apply pw_below_drewN | apply below_drew1) | exact HB.out)⟩
     ·replace c9 := Bool.eq_false_iff.mpr c9
      subst c9
      have H1 : ((impl_Fragments.f l0).bind fun t136 => ((spec_Fragments.f l0).bind fun t139 => (if (t136.length : Int) = (l0.length : Int) then (laws_FnFragmentsAny.j1 kj3 t136 t139 ((t139.length : Int) != (l0.length : Int))) else (laws_FnFragmentsAny.j1 kj3 t136 t139 true)))) = some r := by rw [if_neg (show ¬ (false = true) by decide)] at H; exact H
      clear H
      have H := H1
      clear H1
      replace H := Option.bind_eq_some_iff.mp H
      obtain ⟨t136, A100, H⟩ := H
      replace H : ((spec_Fragments.f l0).bind fun t139 => (if (t136.length : Int) = (l0.length : Int) then (laws_FnFragmentsAny.j1 kj3 t136 t139 ((t139.length : Int) != (l0.length : Int))) else (laws_FnFragmentsAny.j1 kj3 t136 t139 true))) = some r := H
      have A10 := Aside0.mk A100
      clear A100
      replace H := Option.bind_eq_some_iff.mp H
      obtain ⟨t139, A110, H⟩ := H
      replace H : (if (t136.length : Int) = (l0.length : Int) then (laws_FnFragmentsAny.j1 kj3 t136 t139 ((t139.length : Int) != (l0.length : Int))) else (laws_FnFragmentsAny.j1 kj3 t136 t139 true)) = some r := H
      have A11 := Aside0.mk A110
      clear A110
      have HC12 := Aside0.mk H
      clear H
      go_upto_region 6 with (first | (go_at_call 14; (with_reducible refine (impl_Fragments.calls _ _ l0 t136 _ ?side1 ?side2 A10.out ?sideL).mono ?_); (case side1 => repeat (first | exact (Kd.C_below HR0.out HB.out) | (with_reducible refine Kd.C_alloc ?_ _) | (with_reducible refine Kd.C_drewN ?_ _) | (with_reducible refine Kd.C_drew ?_))); (case side2 => exact HC0.out); (case sideL => exact HLW.out.below (by repeat (first | (with_reducible first | exact HB.out | apply below_alloc | apply pw_below_drewN | apply below_drew1) | exact HB.out))); rintro e w13 ⟨v137, rfl, ho0, hb⟩; have n0_ := Aside0.mk (Kd.R_lower ho0 (below_size (by repeat (first | (with_reducible first | exact HB.out | apply below_alloc | apply pw_below_drewN | apply below_drew1) | exact HB.out)))); have n1_ := Aside0.mk (below_step (by repeat (first | (with_reducible first | exact HB.out | apply below_alloc | apply pw_below_drewN | apply below_drew1) | exact HB.out)) hb); clear HB; have HO138 := n0_; have HB := n1_; clear n0_ n1_; (try clear hb); (try clear hb2); (try clear hk); (try clear hi); (try clear ho0)) | (go_at_call 19; (with_reducible refine (spec_Fragments.calls _ _ l0 t139 _ ?side1 ?side2 A11.out).mono ?_); (case side1 => repeat (first | exact (Kd.C_below HR0.out HB.out) | (with_reducible refine Kd.C_alloc ?_ _) | (with_reducible refine Kd.C_drewN ?_ _) | (with_reducible refine Kd.C_drew ?_))); (case side2 => exact HC0.out); rintro e w14 ⟨v140, rfl, ho0, hb⟩; have n0_ := Aside0.mk (Kd.R_elder' (by (with_reducible repeat (first | apply Kd.R_alloc | apply Kd.R_drewN | apply Kd.R_drew)); exact HO138.out) (Kd.R_base ho0) hb); have n1_ := Aside0.mk (Kd.R_lower (Kd.R_new' ho0 (Kd.R_lt (by (with_reducible repeat (first | apply Kd.R_alloc | apply Kd.R_drewN | apply Kd.R_drew)); exact HO138.out))) (below_size (by repeat (first | (with_reducible first | exact HB.out | apply below_alloc | apply pw_below_drewN | apply below_drew1) | exact HB.out)))); have n2_ := Aside0.mk (below_step (by repeat (first | (with_reducible first | exact HB.out | apply below_alloc | apply pw_below_drewN | apply below_drew1) | exact HB.out)) hb); clear HO138; clear HB; have HO138 := n0_; have HO141 := n1_; have HB := n2_; clear n0_ n1_ n2_; (try clear hb); (try clear hb2); (try clear hk); (try clear hi); (try clear ho0)))
      repeat (go_quiet (first | (go_at_call 14; (with_reducible refine (impl_Fragments.calls _ _ l0 t136 _ ?side1 ?side2 A10.out ?sideL).mono ?_); (case side1 => repeat (first | exact (Kd.C_below HR0.out HB.out) | (with_reducible refine Kd.C_alloc ?_ _) | (with_reducible refine Kd.C_drewN ?_ _) | (with_reducible refine Kd.C_drew ?_))); (case side2 => exact HC0.out); (case sideL => exact HLW.out.below (by repeat (first | (with_reducible first | exact HB.out | apply below_alloc | apply pw_below_drewN | apply below_drew1) | exact HB.out))); rintro e w13 ⟨v137, rfl, ho0, hb⟩; have n0_ := Aside0.mk (Kd.R_lower ho0 (below_size (by repeat (first | (with_reducible first | exact HB.out | apply below_alloc | apply pw_below_drewN | apply below_drew1) | exact HB.out)))); have n1_ := Aside0.mk (below_step (by repeat (first | (with_reducible first | exact HB.out | apply below_alloc | apply pw_below_drewN | apply below_drew1) | exact HB.out)) hb); clear HB; have HO138 := n0_; have HB := n1_; clear n0_ n1_; (try clear hb); (try clear hb2); (try clear hk); (try clear hi); (try clear ho0)) | (go_at_call 19; (with_reducible refine (spec_Fragments.calls _ _ l0 t139 _ ?side1 ?side2 A11.out).mono ?_); (case side1 => repeat (first | exact (Kd.C_below HR0.out HB.out) | (with_reducible refine Kd.C_alloc ?_ _) | (with_reducible refine Kd.C_drewN ?_ _) | (with_reducible refine Kd.C_drew ?_))); (case side2 => exact HC0.out); rintro e w14 ⟨v140, rfl, ho0, hb⟩; have n0_ := Aside0.mk (Kd.R_elder' (by (with_reducible repeat (first | apply Kd.R_alloc | apply Kd.R_drewN | apply Kd.R_drew)); exact HO138.out) (Kd.R_base ho0) hb); have n1_ := Aside0.mk (Kd.R_lower (Kd.R_new' ho0 (Kd.R_lt (by (with_reducible repeat (first | apply Kd.R_alloc | apply Kd.R_drewN | apply Kd.R_drew)); exact HO138.out))) (below_size (by repeat (first | (with_reducible first | exact HB.out | apply below_alloc | apply pw_below_drewN | apply below_drew1) | exact HB.out)))); have n2_ := Aside0.mk (below_step (by repeat (first | (with_reducible first | exact HB.out | apply below_alloc | apply pw_below_drewN | apply below_drew1) | exact HB.out)) hb); clear HO138; clear HB; have HO138 := n0_; have HO141 := n1_; have HB := n2_; clear n0_ n1_ n2_; (try clear hb); (try clear hb2); (try clear hk); (try clear hi); (try clear ho0))); go_upto_region 6 with (first | (go_at_call 14; (with_reducible refine (impl_Fragments.calls _ _ l0 t136 _ ?side1 ?side2 A10.out ?sideL).mono ?_); (case side1 => repeat (first | exact (Kd.C_below HR0.out HB.out) | (with_reducible refine Kd.C_alloc ?_ _) | (with_reducible refine Kd.C_drewN ?_ _) | (with_reducible refine Kd.C_drew ?_))); (case side2 => exact HC0.out); (case sideL => exact HLW.out.below (by repeat (first | (with_reducible first | exact HB.out | apply below_alloc | apply pw_below_drewN | apply below_drew1) | exact HB.out))); rintro e w13 ⟨v137, rfl, ho0, hb⟩; have n0_ := Aside0.mk (Kd.R_lower ho0 (below_size (by repeat (first | (with_reducible first | exact HB.out | apply below_alloc | apply pw_below_drewN | apply below_drew1) | exact HB.out)))); have n1_ := Aside0.mk (below_step (by repeat (first | (with_reducible first | exact HB.out | apply below_alloc | apply pw_below_drewN | apply below_drew1) | exact HB.out)) hb); clear HB; have HO138 := n0_; have HB := n1_; clear n0_ n1_; (try clear hb); (try clear hb2); (try clear hk); (try clear hi); (try clear ho0)) | (go_at_call 19; (with_reducible refine (spec_Fragments.calls _ _ l0 t139 _ ?side1 ?side2 A11.out).mono ?_); (case side1 => repeat (first | exact (Kd.C_below HR0.out HB.out) | (with_reducible refine Kd.C_alloc ?_ _) | (with_reducible refine Kd.C_drewN ?_ _) | (with_reducible refine Kd.C_drew ?_))); (case side2 => exact HC0.out); rintro e w14 ⟨v140, rfl, ho0, hb⟩; have n0_ := Aside0.mk (Kd.R_elder' (by (with_reducible repeat (first | apply Kd.R_alloc | apply Kd.R_drewN | apply Kd.R_drew)); exact HO138.out) (Kd.R_base ho0) hb); have n1_ := Aside0.mk (Kd.R_lower (Kd.R_new' ho0 (Kd.R_lt (by (with_reducible repeat (first | apply Kd.R_alloc | apply Kd.R_drewN | apply Kd.R_drew)); exact HO138.out))) (below_size (by repeat (first | (with_reducible first | exact HB.out | apply below_alloc | apply pw_below_drewN | apply below_drew1) | exact HB.out)))); have n2_ := Aside0.mk (below_step (by repeat (first | (with_reducible first | exact HB.out | apply below_alloc | apply pw_below_drewN | apply below_drew1) | exact HB.out)) hb); clear HO138; clear HB; have HO138 := n0_; have HO141 := n1_; have HB := n2_; clear n0_ n1_ n2_; (try clear hb); (try clear hb2); (try clear hk); (try clear hi); (try clear ho0))))
      (try simp only [Act.put, List.setIfInBounds_toArray, List.set_cons_zero, List.set_cons_succ])
      go_cut [32] (fun v32 wc => ∃ (kq : Nat) (x32_11 : Bool), v32 = .bool x32_11 ∧ Aside0 (laws_FnFragmentsAny.j1 kq t136 t139 x32_11 = some r) ∧ Aside0 (kq ≤ kj3) ∧ Aside0 (Kd.R k40 40 wc w.heap.size (fun k_ => some k_ ≠ (v140 : Value).ownBlock) v137 t136) ∧ Aside0 (Kd.R k40 40 wc w.heap.size (fun k_ => some k_ ≠ (v137 : Value).ownBlock) v140 t139) ∧ Aside0 (Below w.heap.size w wc))
      case first =>
       have H := HC12.out
       clear HC12
       by_cases c15 : (t136.length : Int) = (l0.length : Int)
       ·rw [if_pos c15] at H
        have c15b0 : ((t136.length : Int) == (l0.length : Int)) = true := beq_iff_eq.mpr c15
        have c15b1 : ((t136.length : Int) != (l0.length : Int)) = false := bne_eq_false_iff_eq.mpr c15
        have c15b2 : (t136.length == l0.length) = true := by first | simpa using c15 | (simp at c15 ⊢; omega)
        clear c15
        (first | rw [c15b0] | (simp only [i64_w, i32_w]; rw [c15b0]) | skip)
        have H' := Aside0.mk H
        clear H
        obtain ⟨Ao16, co16, eo16⟩ := Kd.R_slice HO138.out
        subst eo16
        obtain ⟨Ao17, co17, eo17⟩ := Kd.R_slice HO141.out
        subst eo17
        go_wp2
        repeat (go_quiet (fail); try go_wp2)
        go_meet
        case rel => exact ⟨_, (((t139.length : Int) != (l0.length : Int))), (by first | rfl | (simp; done) | (simp [*]; done)), H', ⟨by have := HJ3.out; first | omega | exact Nat.le_refl _⟩, ⟨by (with_reducible repeat (first | apply Kd.R_alloc | apply Kd.R_drewN | apply Kd.R_drew)); exact Kd.R_mono HO138.out (fun _ hk => hk.2)⟩, ⟨by (with_reducible repeat (first | apply Kd.R_alloc | apply Kd.R_drewN | apply Kd.R_drew)); exact Kd.R_mono HO141.out (fun _ hk => hk.2)⟩, ⟨by repeat (first | (with_reducible first | exact HB.out | apply below_alloc | apply pw_below_drewN | apply below_drew1) | exact HB.out)⟩⟩
       ·rw [if_neg c15] at H
        have c15b0 : ((t136.length : Int) == (l0.length : Int)) = false := beq_eq_false_iff_ne.mpr c15
        have c15b1 : ((t136.length : Int) != (l0.length : Int)) = true := bne_iff_ne.mpr c15
        have c15b2 : (t136.length == l0.length) = false := by first | simpa using c15 | (simp at c15 ⊢; omega)
        (first | rw [c15b0] | (simp only [i64_w, i32_w]; rw [c15b0]) | skip)
        have H' := Aside0.mk H
        clear H
        obtain ⟨Ao18, co18, eo18⟩ := Kd.R_slice HO138.out
        subst eo18
        go_wp2
        repeat (go_quiet (fail); try go_wp2)
        go_meet
        case rel => exact ⟨_, (true), (by first | rfl | (simp; done) | (simp [*]; done)), H', ⟨by have := HJ3.out; first | omega | exact Nat.le_refl _⟩, ⟨by (with_reducible repeat (first | apply Kd.R_alloc | apply Kd.R_drewN | apply Kd.R_drew)); exact Kd.R_mono HO138.out (fun _ hk => hk.2)⟩, ⟨by (with_reducible repeat (first | apply Kd.R_alloc | apply Kd.R_drewN | apply Kd.R_drew)); exact Kd.R_mono HO141.out (fun _ hk => hk.2)⟩, ⟨by repeat (first | (with_reducible first | exact HB.out | apply below_alloc | apply pw_below_drewN | apply below_drew1) | exact HB.out)⟩⟩
      case rest =>
       clear HC12
       try clear c1
       try clear p2
       try clear c3
       try clear c4
       try clear c6
       try clear c6b0
       try clear c6b1
       try clear c6b2
       try clear c9
       try clear c15
       try clear c15b0
       try clear c15b1
       try clear c15b2
       try clear p2
       obtain ⟨kq, x32_11, rfl, HA, HJ11, HO_3, HO_4, HB⟩ := hcut
       cases kq with
       | zero => exact absurd HA.out (by simp [laws_FnFragmentsAny.j1])
       | succ kj11 =>
         have H := HA.out
         clear HA
         simp only [laws_FnFragmentsAny.j1] at H
         by_cases c19 : x32_11 = true
         ·subst c19
          have H1 : (some false) = some r := by rw [if_pos rfl] at H; exact H
          clear H
          have H := H1
          clear H1
          obtain rfl := Option.some.inj H
          go_wp2
          repeat (go_quiet (fail); try go_wp2)
          go_ret
          exact ⟨by first | rfl | (simp [errW_none, errW_some] <;> rfl) | (simp [*, errW_none, errW_some] <;> rfl), by repeat (first | (with_reducible first | exact HB.out | apply below_alloc | apply pw_below_drewN | apply below_drew1) | exact HB.out)⟩
         ·replace c19 := Bool.eq_false_iff.mpr c19
          subst c19
          have H1 : (laws_FnFragmentsAny.l0 kj11 t136 t139 (t136.length : Int) 0) = some r := by rw [if_neg (show ¬ (false = true) by decide)] at H; exact H
          clear H
          have H := H1
          clear H1
          have H' := Aside0.mk H
          clear H
          obtain ⟨Ao20, co20, eo20⟩ := Kd.R_slice HO_3.out
          subst eo20
          go_wp2
          repeat (go_quiet (fail); try go_wp2)
          go_loopg [35] kj11 (fun kq v35 w' => ∃ (x35_3 : Int), v35 = .int .i64 x35_3 ∧ Aside0 (laws_FnFragmentsAny.l0 kq t136 t139 (t136.length : Int) x35_3 = some r) ∧ Aside0 (kq ≤ kj11) ∧ Aside0 (Kd.R k40 40 w' w.heap.size (fun k_ => some k_ ≠ (v140 : Value).ownBlock) (.slice Ao20 t136.length co20) t136) ∧ Aside0 (Kd.R k40 40 w' w.heap.size (fun k_ => some k_ ≠ ((.slice Ao20 t136.length co20) : Value).ownBlock) v140 t139) ∧ Aside0 (Below w.heap.size w w'))
          case atStart => exact ⟨(0), (by first | rfl | (simp; done) | (simp [*]; done)), H', ⟨Nat.le_refl _⟩, ⟨by (with_reducible repeat (first | apply Kd.R_alloc | apply Kd.R_drewN | apply Kd.R_drew)); exact HO_3.out⟩, ⟨by (with_reducible repeat (first | apply Kd.R_alloc | apply Kd.R_drewN | apply Kd.R_drew)); exact HO_4.out⟩, ⟨by repeat (first | (with_reducible first | exact HB.out | apply below_alloc | apply pw_below_drewN | apply below_drew1) | exact HB.out)⟩⟩
          case round =>
           clear H'
           try clear c1
           try clear p2
           try clear c3
           try clear c4
           try clear c6
           try clear c6b0
           try clear c6b1
           try clear c6b2
           try clear c9
           try clear c15
           try clear c15b0
           try clear c15b1
           try clear c15b2
           try clear c19
           try clear p2
           obtain ⟨x35_3, rfl, HA, HK3, HO_3, HO_4, HB⟩ := hrel
           cases gk with
           | zero => exact absurd HA.out (by simp [laws_FnFragmentsAny.l0])
           | succ k3 =>
             have H := HA.out
             clear HA
             simp only [laws_FnFragmentsAny.l0] at H
             by_cases c21 : x35_3 < (t136.length : Int)
             ·rw [if_pos c21] at H
              have c21b0 : decide (x35_3 < (t136.length : Int)) = true := decide_eq_true c21
              clear c21
              by_cases c22 : 0 ≤ x35_3
              ·rw [if_pos c22] at H
               have c22b0 : decide (0 ≤ x35_3) = true := decide_eq_true c22
               clear c22
               by_cases c23 : x35_3 < (t136.length : Int)
               ·rw [if_pos c23] at H
                have c23b0 : decide (x35_3 < (t136.length : Int)) = true := decide_eq_true c23
                clear c23
                by_cases c24 : x35_3 < (t139.length : Int)
                ·rw [if_pos c24] at H
                 have c24b0 : decide (x35_3 < (t139.length : Int)) = true := decide_eq_true c24
                 clear c24
                 by_cases c25 : (((rd_T40 t136 x35_3).f3) != ((rd_T40 t139 x35_3).f3)) = true
                 ·rw [if_pos c25] at H
                  have c25b0 : (((rd_T40 t136 x35_3).f3) != ((rd_T40 t139 x35_3).f3)) = true := c25
                  (try (have c25b1 : decide (((rd_T40 t136 x35_3).f3) = ((rd_T40 t139 x35_3).f3)) = false := by simpa using c25))
                  (try (have c25b2 : (((rd_T40 t136 x35_3).f3) == ((rd_T40 t139 x35_3).f3)) = false := by simpa using c25))
                  (try (have c25b3 : ¬ (((rd_T40 t136 x35_3).f3) = ((rd_T40 t139 x35_3).f3)) := by simpa using c25))
                  clear c25
                  obtain rfl := Option.some.inj H
                  have p142 : 0 ≤ (x35_3 : Int) := of_decide_eq_true (by first | (with_reducible assumption) | assumption)
                  have q142 : x35_3 < (t136.length : Int) := of_decide_eq_true (by first | (with_reducible assumption) | assumption)
                  obtain ⟨ad142, e142, hx142_0, hx142_1, hx142_2, hx142_3, hx142_4, hx142_5, hx142_6⟩ := at_T40 (Kd.R_reads' HO_3.out).2.2 x35_3 p142 q142
                  cases e142
                  replace p142 := eq_true p142
                  replace q142 := eq_true q142
                  obtain ⟨Ao26, co26, eo26⟩ := Kd.R_slice HO_4.out
                  subst eo26
                  have p143 : 0 ≤ (x35_3 : Int) := of_decide_eq_true (by first | (with_reducible assumption) | assumption)
                  have q143 : x35_3 < (t139.length : Int) := of_decide_eq_true (by first | (with_reducible assumption) | assumption)
                  obtain ⟨ad143, e143, hx143_0, hx143_1, hx143_2, hx143_3, hx143_4, hx143_5, hx143_6⟩ := at_T40 (Kd.R_reads' HO_4.out).2.2 x35_3 p143 q143
                  cases e143
                  replace p143 := eq_true p143
                  replace q143 := eq_true q143
                  go_wp2
                  repeat (go_quiet (fail); try go_wp2)
                  go_ret
                  exact ⟨by first | rfl | (simp [errW_none, errW_some] <;> rfl) | (simp [*, errW_none, errW_some] <;> rfl), by repeat (first | (with_reducible first | exact HB.out | apply below_alloc | apply pw_below_drewN | apply below_drew1) | exact HB.out)⟩
                 ·rw [if_neg c25] at H
                  have c25b0 : (((rd_T40 t136 x35_3).f3) != ((rd_T40 t139 x35_3).f3)) = false := by simpa using c25
                  (try (have c25b1 : decide (((rd_T40 t136 x35_3).f3) = ((rd_T40 t139 x35_3).f3)) = true := by simpa using c25))
                  (try (have c25b2 : (((rd_T40 t136 x35_3).f3) == ((rd_T40 t139 x35_3).f3)) = true := by simpa using c25))
                  clear c25
                  by_cases c27 : ((rd_T40 t136 x35_3).f4).toList = ((rd_T40 t139 x35_3).f4).toList
                  ·rw [if_pos c27] at H
                   have c27b0 : (((rd_T40 t136 x35_3).f4).toList == ((rd_T40 t139 x35_3).f4).toList) = true := beq_iff_eq.mpr c27
                   have c27b1 : (((rd_T40 t136 x35_3).f4).toList != ((rd_T40 t139 x35_3).f4).toList) = false := bne_eq_false_iff_eq.mpr c27
                   clear c27
                   by_cases c28 : (((rd_T40 t136 x35_3).f2) != ((rd_T40 t139 x35_3).f2)) = true
                   ·rw [if_pos c28] at H
                    have c28b0 : (((rd_T40 t136 x35_3).f2) != ((rd_T40 t139 x35_3).f2)) = true := c28
                    (try (have c28b1 : decide (((rd_T40 t136 x35_3).f2) = ((rd_T40 t139 x35_3).f2)) = false := by simpa using c28))
                    (try (have c28b2 : (((rd_T40 t136 x35_3).f2) == ((rd_T40 t139 x35_3).f2)) = false := by simpa using c28))
                    (try (have c28b3 : ¬ (((rd_T40 t136 x35_3).f2) = ((rd_T40 t139 x35_3).f2)) := by simpa using c28))
                    clear c28
                    obtain rfl := Option.some.inj H
                    have p142 : 0 ≤ (x35_3 : Int) := of_decide_eq_true (by first | (with_reducible assumption) | assumption)
                    have q142 : x35_3 < (t136.length : Int) := of_decide_eq_true (by first | (with_reducible assumption) | assumption)
                    obtain ⟨ad142, e142, hx142_0, hx142_1, hx142_2, hx142_3, hx142_4, hx142_5, hx142_6⟩ := at_T40 (Kd.R_reads' HO_3.out).2.2 x35_3 p142 q142
                    cases e142
                    replace p142 := eq_true p142
                    replace q142 := eq_true q142
                    obtain ⟨Ao29, co29, eo29⟩ := Kd.R_slice HO_4.out
                    subst eo29
                    have p143 : 0 ≤ (x35_3 : Int) := of_decide_eq_true (by first | (with_reducible assumption) | assumption)
                    have q143 : x35_3 < (t139.length : Int) := of_decide_eq_true (by first | (with_reducible assumption) | assumption)
                    obtain ⟨ad143, e143, hx143_0, hx143_1, hx143_2, hx143_3, hx143_4, hx143_5, hx143_6⟩ := at_T40 (Kd.R_reads' HO_4.out).2.2 x35_3 p143 q143
                    cases e143
                    replace p143 := eq_true p143
                    replace q143 := eq_true q143
                    have p144 : 0 ≤ (x35_3 : Int) := of_decide_eq_true (by first | (with_reducible assumption) | assumption)
                    have q144 : x35_3 < (t136.length : Int) := of_decide_eq_true (by first | (with_reducible assumption) | assumption)
                    obtain ⟨ad144, e144, hx144_0, hx144_1, hx144_2, hx144_3, hx144_4, hx144_5, hx144_6⟩ := at_T40 (Kd.R_reads' HO_3.out).2.2 x35_3 p144 q144
                    obtain rfl : ad142 = ad144 := (by injection e144)
                    replace p144 := eq_true p144
                    replace q144 := eq_true q144
                    have p145 : 0 ≤ (x35_3 : Int) := of_decide_eq_true (by first | (with_reducible assumption) | assumption)
                    have q145 : x35_3 < (t139.length : Int) := of_decide_eq_true (by first | (with_reducible assumption) | assumption)
                    obtain ⟨ad145, e145, hx145_0, hx145_1, hx145_2, hx145_3, hx145_4, hx145_5, hx145_6⟩ := at_T40 (Kd.R_reads' HO_4.out).2.2 x35_3 p145 q145
                    obtain rfl : ad143 = ad145 := (by injection e145)
                    replace p145 := eq_true p145
                    replace q145 := eq_true q145
                    have p146 : 0 ≤ (x35_3 : Int) := of_decide_eq_true (by first | (with_reducible assumption) | assumption)
                    have q146 : x35_3 < (t136.length : Int) := of_decide_eq_true (by first | (with_reducible assumption) | assumption)
                    obtain ⟨ad146, e146, hx146_0, hx146_1, hx146_2, hx146_3, hx146_4, hx146_5, hx146_6⟩ := at_T40 (Kd.R_reads' HO_3.out).2.2 x35_3 p146 q146
                    obtain rfl : ad142 = ad146 := (by injection e146)
                    replace p146 := eq_true p146
                    replace q146 := eq_true q146
                    have p147 : 0 ≤ (x35_3 : Int) := of_decide_eq_true (by first | (with_reducible assumption) | assumption)
                    have q147 : x35_3 < (t139.length : Int) := of_decide_eq_true (by first | (with_reducible assumption) | assumption)
                    obtain ⟨ad147, e147, hx147_0, hx147_1, hx147_2, hx147_3, hx147_4, hx147_5, hx147_6⟩ := at_T40 (Kd.R_reads' HO_4.out).2.2 x35_3 p147 q147
                    obtain rfl : ad143 = ad147 := (by injection e147)
                    replace p147 := eq_true p147
                    replace q147 := eq_true q147
                    go_wp2
                    repeat (go_quiet (fail); try go_wp2)
                    go_ret
                    exact ⟨by first | rfl | (simp [errW_none, errW_some] <;> rfl) | (simp [*, errW_none, errW_some] <;> rfl), by repeat (first | (with_reducible first | exact HB.out | apply below_alloc | apply pw_below_drewN | apply below_drew1) | exact HB.out)⟩
                   ·rw [if_neg c28] at H
                    have c28b0 : (((rd_T40 t136 x35_3).f2) != ((rd_T40 t139 x35_3).f2)) = false := by simpa using c28
                    (try (have c28b1 : decide (((rd_T40 t136 x35_3).f2) = ((rd_T40 t139 x35_3).f2)) = true := by simpa using c28))
                    (try (have c28b2 : (((rd_T40 t136 x35_3).f2) == ((rd_T40 t139 x35_3).f2)) = true := by simpa using c28))
                    clear c28
                    by_cases c30 : (((rd_T40 t136 x35_3).f0) != ((rd_T40 t139 x35_3).f0)) = true
                    ·rw [if_pos c30] at H
                     have c30b0 : (((rd_T40 t136 x35_3).f0) != ((rd_T40 t139 x35_3).f0)) = true := c30
                     (try (have c30b1 : decide (((rd_T40 t136 x35_3).f0) = ((rd_T40 t139 x35_3).f0)) = false := by simpa using c30))
                     (try (have c30b2 : (((rd_T40 t136 x35_3).f0) == ((rd_T40 t139 x35_3).f0)) = false := by simpa using c30))
                     (try (have c30b3 : ¬ (((rd_T40 t136 x35_3).f0) = ((rd_T40 t139 x35_3).f0)) := by simpa using c30))
                     clear c30
                     obtain rfl := Option.some.inj H
                     have p142 : 0 ≤ (x35_3 : Int) := of_decide_eq_true (by first | (with_reducible assumption) | assumption)
                     have q142 : x35_3 < (t136.length : Int) := of_decide_eq_true (by first | (with_reducible assumption) | assumption)
                     obtain ⟨ad142, e142, hx142_0, hx142_1, hx142_2, hx142_3, hx142_4, hx142_5, hx142_6⟩ := at_T40 (Kd.R_reads' HO_3.out).2.2 x35_3 p142 q142
                     cases e142
                     replace p142 := eq_true p142
                     replace q142 := eq_true q142
                     obtain ⟨Ao31, co31, eo31⟩ := Kd.R_slice HO_4.out
                     subst eo31
                     have p143 : 0 ≤ (x35_3 : Int) := of_decide_eq_true (by first | (with_reducible assumption) | assumption)
                     have q143 : x35_3 < (t139.length : Int) := of_decide_eq_true (by first | (with_reducible assumption) | assumption)
                     obtain ⟨ad143, e143, hx143_0, hx143_1, hx143_2, hx143_3, hx143_4, hx143_5, hx143_6⟩ := at_T40 (Kd.R_reads' HO_4.out).2.2 x35_3 p143 q143
                     cases e143
                     replace p143 := eq_true p143
                     replace q143 := eq_true q143
                     have p144 : 0 ≤ (x35_3 : Int) := of_decide_eq_true (by first | (with_reducible assumption) | assumption)
                     have q144 : x35_3 < (t136.length : Int) := of_decide_eq_true (by first | (with_reducible assumption) | assumption)
                     obtain ⟨ad144, e144, hx144_0, hx144_1, hx144_2, hx144_3, hx144_4, hx144_5, hx144_6⟩ := at_T40 (Kd.R_reads' HO_3.out).2.2 x35_3 p144 q144
                     obtain rfl : ad142 = ad144 := (by injection e144)
                     replace p144 := eq_true p144
                     replace q144 := eq_true q144
                     have p145 : 0 ≤ (x35_3 : Int) := of_decide_eq_true (by first | (with_reducible assumption) | assumption)
                     have q145 : x35_3 < (t139.length : Int) := of_decide_eq_true (by first | (with_reducible assumption) | assumption)
                     obtain ⟨ad145, e145, hx145_0, hx145_1, hx145_2, hx145_3, hx145_4, hx145_5, hx145_6⟩ := at_T40 (Kd.R_reads' HO_4.out).2.2 x35_3 p145 q145
                     obtain rfl : ad143 = ad145 := (by injection e145)
                     replace p145 := eq_true p145
                     replace q145 := eq_true q145
                     have p146 : 0 ≤ (x35_3 : Int) := of_decide_eq_true (by first | (with_reducible assumption) | assumption)
                     have q146 : x35_3 < (t136.length : Int) := of_decide_eq_true (by first | (with_reducible assumption) | assumption)
                     obtain ⟨ad146, e146, hx146_0, hx146_1, hx146_2, hx146_3, hx146_4, hx146_5, hx146_6⟩ := at_T40 (Kd.R_reads' HO_3.out).2.2 x35_3 p146 q146
                     obtain rfl : ad142 = ad146 := (by injection e146)
                     replace p146 := eq_true p146
                     replace q146 := eq_true q146
                     have p147 : 0 ≤ (x35_3 : Int) := of_decide_eq_true (by first | (with_reducible assumption) | assumption)
                     have q147 : x35_3 < (t139.length : Int) := of_decide_eq_true (by first | (with_reducible assumption) | assumption)
                     obtain ⟨ad147, e147, hx147_0, hx147_1, hx147_2, hx147_3, hx147_4, hx147_5, hx147_6⟩ := at_T40 (Kd.R_reads' HO_4.out).2.2 x35_3 p147 q147
                     obtain rfl : ad143 = ad147 := (by injection e147)
                     replace p147 := eq_true p147
                     replace q147 := eq_true q147
                     have p148 : 0 ≤ (x35_3 : Int) := of_decide_eq_true (by first | (with_reducible assumption) | assumption)
                     have q148 : x35_3 < (t136.length : Int) := of_decide_eq_true (by first | (with_reducible assumption) | assumption)
                     obtain ⟨ad148, e148, hx148_0, hx148_1, hx148_2, hx148_3, hx148_4, hx148_5, hx148_6⟩ := at_T40 (Kd.R_reads' HO_3.out).2.2 x35_3 p148 q148
                     obtain rfl : ad142 = ad148 := (by injection e148)
                     replace p148 := eq_true p148
                     replace q148 := eq_true q148
                     have p149 : 0 ≤ (x35_3 : Int) := of_decide_eq_true (by first | (with_reducible assumption) | assumption)
                     have q149 : x35_3 < (t139.length : Int) := of_decide_eq_true (by first | (with_reducible assumption) | assumption)
                     obtain ⟨ad149, e149, hx149_0, hx149_1, hx149_2, hx149_3, hx149_4, hx149_5, hx149_6⟩ := at_T40 (Kd.R_reads' HO_4.out).2.2 x35_3 p149 q149
                     obtain rfl : ad143 = ad149 := (by injection e149)
                     replace p149 := eq_true p149
                     replace q149 := eq_true q149
                     go_wp2
                     repeat (go_quiet (fail); try go_wp2)
                     go_ret
                     exact ⟨by first | rfl | (simp [errW_none, errW_some] <;> rfl) | (simp [*, errW_none, errW_some] <;> rfl), by repeat (first | (with_reducible first | exact HB.out | apply below_alloc | apply pw_below_drewN | apply below_drew1) | exact HB.out)⟩
                    ·rw [if_neg c30] at H
                     have c30b0 : (((rd_T40 t136 x35_3).f0) != ((rd_T40 t139 x35_3).f0)) = false := by simpa using c30
                     (try (have c30b1 : decide (((rd_T40 t136 x35_3).f0) = ((rd_T40 t139 x35_3).f0)) = true := by simpa using c30))
                     (try (have c30b2 : (((rd_T40 t136 x35_3).f0) == ((rd_T40 t139 x35_3).f0)) = true := by simpa using c30))
                     clear c30
                     by_cases c32 : (((rd_T40 t136 x35_3).f1) != ((rd_T40 t139 x35_3).f1)) = true
                     ·rw [if_pos c32] at H
                      have c32b0 : (((rd_T40 t136 x35_3).f1) != ((rd_T40 t139 x35_3).f1)) = true := c32
                      (try (have c32b1 : decide (((rd_T40 t136 x35_3).f1) = ((rd_T40 t139 x35_3).f1)) = false := by simpa using c32))
                      (try (have c32b2 : (((rd_T40 t136 x35_3).f1) == ((rd_T40 t139 x35_3).f1)) = false := by simpa using c32))
                      (try (have c32b3 : ¬ (((rd_T40 t136 x35_3).f1) = ((rd_T40 t139 x35_3).f1)) := by simpa using c32))
                      clear c32
                      obtain rfl := Option.some.inj H
                      have p142 : 0 ≤ (x35_3 : Int) := of_decide_eq_true (by first | (with_reducible assumption) | assumption)
                      have q142 : x35_3 < (t136.length : Int) := of_decide_eq_true (by first | (with_reducible assumption) | assumption)
                      obtain ⟨ad142, e142, hx142_0, hx142_1, hx142_2, hx142_3, hx142_4, hx142_5, hx142_6⟩ := at_T40 (Kd.R_reads' HO_3.out).2.2 x35_3 p142 q142
                      cases e142
                      replace p142 := eq_true p142
                      replace q142 := eq_true q142
                      obtain ⟨Ao33, co33, eo33⟩ := Kd.R_slice HO_4.out
                      subst eo33
                      have p143 : 0 ≤ (x35_3 : Int) := of_decide_eq_true (by first | (with_reducible assumption) | assumption)
                      have q143 : x35_3 < (t139.length : Int) := of_decide_eq_true (by first | (with_reducible assumption) | assumption)
                      obtain ⟨ad143, e143, hx143_0, hx143_1, hx143_2, hx143_3, hx143_4, hx143_5, hx143_6⟩ := at_T40 (Kd.R_reads' HO_4.out).2.2 x35_3 p143 q143
                      cases e143
                      replace p143 := eq_true p143
                      replace q143 := eq_true q143
                      have p144 : 0 ≤ (x35_3 : Int) := of_decide_eq_true (by first | (with_reducible assumption) | assumption)
                      have q144 : x35_3 < (t136.length : Int) := of_decide_eq_true (by first | (with_reducible assumption) | assumption)
                      obtain ⟨ad144, e144, hx144_0, hx144_1, hx144_2, hx144_3, hx144_4, hx144_5, hx144_6⟩ := at_T40 (Kd.R_reads' HO_3.out).2.2 x35_3 p144 q144
                      obtain rfl : ad142 = ad144 := (by injection e144)
                      replace p144 := eq_true p144
                      replace q144 := eq_true q144
                      have p145 : 0 ≤ (x35_3 : Int) := of_decide_eq_true (by first | (with_reducible assumption) | assumption)
                      have q145 : x35_3 < (t139.length : Int) := of_decide_eq_true (by first | (with_reducible assumption) | assumption)
                      obtain ⟨ad145, e145, hx145_0, hx145_1, hx145_2, hx145_3, hx145_4, hx145_5, hx145_6⟩ := at_T40 (Kd.R_reads' HO_4.out).2.2 x35_3 p145 q145
                      obtain rfl : ad143 = ad145 := (by injection e145)
                      replace p145 := eq_true p145
                      replace q145 := eq_true q145
                      have p146 : 0 ≤ (x35_3 : Int) := of_decide_eq_true (by first | (with_reducible assumption) | assumption)
                      have q146 : x35_3 < (t136.length : Int) := of_decide_eq_true (by first | (with_reducible assumption) | assumption)
                      obtain ⟨ad146, e146, hx146_0, hx146_1, hx146_2, hx146_3, hx146_4, hx146_5, hx146_6⟩ := at_T40 (Kd.R_reads' HO_3.out).2.2 x35_3 p146 q146
                      obtain rfl : ad142 = ad146 := (by injection e146)
                      replace p146 := eq_true p146
                      replace q146 := eq_true q146
                      have p147 : 0 ≤ (x35_3 : Int) := of_decide_eq_true (by first | (with_reducible assumption) | assumption)
                      have q147 : x35_3 < (t139.length : Int) := of_decide_eq_true (by first | (with_reducible assumption) | assumption)
                      obtain ⟨ad147, e147, hx147_0, hx147_1, hx147_2, hx147_3, hx147_4, hx147_5, hx147_6⟩ := at_T40 (Kd.R_reads' HO_4.out).2.2 x35_3 p147 q147
                      obtain rfl : ad143 = ad147 := (by injection e147)
                      replace p147 := eq_true p147
                      replace q147 := eq_true q147
                      have p148 : 0 ≤ (x35_3 : Int) := of_decide_eq_true (by first | (with_reducible assumption) | assumption)
                      have q148 : x35_3 < (t136.length : Int) := of_decide_eq_true (by first | (with_reducible assumption) | assumption)
                      obtain ⟨ad148, e148, hx148_0, hx148_1, hx148_2, hx148_3, hx148_4, hx148_5, hx148_6⟩ := at_T40 (Kd.R_reads' HO_3.out).2.2 x35_3 p148 q148
                      obtain rfl : ad142 = ad148 := (by injection e148)
                      replace p148 := eq_true p148
                      replace q148 := eq_true q148
                      have p149 : 0 ≤ (x35_3 : Int) := of_decide_eq_true (by first | (with_reducible assumption) | assumption)
                      have q149 : x35_3 < (t139.length : Int) := of_decide_eq_true (by first | (with_reducible assumption) | assumption)
                      obtain ⟨ad149, e149, hx149_0, hx149_1, hx149_2, hx149_3, hx149_4, hx149_5, hx149_6⟩ := at_T40 (Kd.R_reads' HO_4.out).2.2 x35_3 p149 q149
                      obtain rfl : ad143 = ad149 := (by injection e149)
                      replace p149 := eq_true p149
                      replace q149 := eq_true q149
                      have p150 : 0 ≤ (x35_3 : Int) := of_decide_eq_true (by first | (with_reducible assumption) | assumption)
                      have q150 : x35_3 < (t136.length : Int) := of_decide_eq_true (by first | (with_reducible assumption) | assumption)
                      obtain ⟨ad150, e150, hx150_0, hx150_1, hx150_2, hx150_3, hx150_4, hx150_5, hx150_6⟩ := at_T40 (Kd.R_reads' HO_3.out).2.2 x35_3 p150 q150
                      obtain rfl : ad142 = ad150 := (by injection e150)
                      replace p150 := eq_true p150
                      replace q150 := eq_true q150
                      have p151 : 0 ≤ (x35_3 : Int) := of_decide_eq_true (by first | (with_reducible assumption) | assumption)
                      have q151 : x35_3 < (t139.length : Int) := of_decide_eq_true (by first | (with_reducible assumption) | assumption)
                      obtain ⟨ad151, e151, hx151_0, hx151_1, hx151_2, hx151_3, hx151_4, hx151_5, hx151_6⟩ := at_T40 (Kd.R_reads' HO_4.out).2.2 x35_3 p151 q151
                      obtain rfl : ad143 = ad151 := (by injection e151)
                      replace p151 := eq_true p151
                      replace q151 := eq_true q151
                      go_wp2
                      repeat (go_quiet (fail); try go_wp2)
                      go_ret
                      exact ⟨by first | rfl | (simp [errW_none, errW_some] <;> rfl) | (simp [*, errW_none, errW_some] <;> rfl), by repeat (first | (with_reducible first | exact HB.out | apply below_alloc | apply pw_below_drewN | apply below_drew1) | exact HB.out)⟩
                     ·rw [if_neg c32] at H
                      have c32b0 : (((rd_T40 t136 x35_3).f1) != ((rd_T40 t139 x35_3).f1)) = false := by simpa using c32
                      (try (have c32b1 : decide (((rd_T40 t136 x35_3).f1) = ((rd_T40 t139 x35_3).f1)) = true := by simpa using c32))
                      (try (have c32b2 : (((rd_T40 t136 x35_3).f1) == ((rd_T40 t139 x35_3).f1)) = true := by simpa using c32))
                      clear c32
                      by_cases c34 : ((rd_T40 t136 x35_3).f5) = ((rd_T40 t139 x35_3).f5)
                      ·rw [if_pos c34] at H
                       have c34b0 : (((rd_T40 t136 x35_3).f5) == ((rd_T40 t139 x35_3).f5)) = true := beq_iff_eq.mpr c34
                       have c34b1 : (((rd_T40 t136 x35_3).f5) != ((rd_T40 t139 x35_3).f5)) = false := bne_eq_false_iff_eq.mpr c34
                       clear c34
                       have H' := Aside0.mk H
                       clear H
                       have p142 : 0 ≤ (x35_3 : Int) := of_decide_eq_true (by first | (with_reducible assumption) | assumption)
                       have q142 : x35_3 < (t136.length : Int) := of_decide_eq_true (by first | (with_reducible assumption) | assumption)
                       obtain ⟨ad142, e142, hx142_0, hx142_1, hx142_2, hx142_3, hx142_4, hx142_5, hx142_6⟩ := at_T40 (Kd.R_reads' HO_3.out).2.2 x35_3 p142 q142
                       cases e142
                       replace p142 := eq_true p142
                       replace q142 := eq_true q142
                       obtain ⟨Ao35, co35, eo35⟩ := Kd.R_slice HO_4.out
                       subst eo35
                       have p143 : 0 ≤ (x35_3 : Int) := of_decide_eq_true (by first | (with_reducible assumption) | assumption)
                       have q143 : x35_3 < (t139.length : Int) := of_decide_eq_true (by first | (with_reducible assumption) | assumption)
                       obtain ⟨ad143, e143, hx143_0, hx143_1, hx143_2, hx143_3, hx143_4, hx143_5, hx143_6⟩ := at_T40 (Kd.R_reads' HO_4.out).2.2 x35_3 p143 q143
                       cases e143
                       replace p143 := eq_true p143
                       replace q143 := eq_true q143
                       have p144 : 0 ≤ (x35_3 : Int) := of_decide_eq_true (by first | (with_reducible assumption) | assumption)
                       have q144 : x35_3 < (t136.length : Int) := of_decide_eq_true (by first | (with_reducible assumption) | assumption)
                       obtain ⟨ad144, e144, hx144_0, hx144_1, hx144_2, hx144_3, hx144_4, hx144_5, hx144_6⟩ := at_T40 (Kd.R_reads' HO_3.out).2.2 x35_3 p144 q144
                       obtain rfl : ad142 = ad144 := (by injection e144)
                       replace p144 := eq_true p144
                       replace q144 := eq_true q144
                       have p145 : 0 ≤ (x35_3 : Int) := of_decide_eq_true (by first | (with_reducible assumption) | assumption)
                       have q145 : x35_3 < (t139.length : Int) := of_decide_eq_true (by first | (with_reducible assumption) | assumption)
                       obtain ⟨ad145, e145, hx145_0, hx145_1, hx145_2, hx145_3, hx145_4, hx145_5, hx145_6⟩ := at_T40 (Kd.R_reads' HO_4.out).2.2 x35_3 p145 q145
                       obtain rfl : ad143 = ad145 := (by injection e145)
                       replace p145 := eq_true p145
                       replace q145 := eq_true q145
                       have p146 : 0 ≤ (x35_3 : Int) := of_decide_eq_true (by first | (with_reducible assumption) | assumption)
                       have q146 : x35_3 < (t136.length : Int) := of_decide_eq_true (by first | (with_reducible assumption) | assumption)
                       obtain ⟨ad146, e146, hx146_0, hx146_1, hx146_2, hx146_3, hx146_4, hx146_5, hx146_6⟩ := at_T40 (Kd.R_reads' HO_3.out).2.2 x35_3 p146 q146
                       obtain rfl : ad142 = ad146 := (by injection e146)
                       replace p146 := eq_true p146
                       replace q146 := eq_true q146
                       have p147 : 0 ≤ (x35_3 : Int) := of_decide_eq_true (by first | (with_reducible assumption) | assumption)
                       have q147 : x35_3 < (t139.length : Int) := of_decide_eq_true (by first | (with_reducible assumption) | assumption)
                       obtain ⟨ad147, e147, hx147_0, hx147_1, hx147_2, hx147_3, hx147_4, hx147_5, hx147_6⟩ := at_T40 (Kd.R_reads' HO_4.out).2.2 x35_3 p147 q147
                       obtain rfl : ad143 = ad147 := (by injection e147)
                       replace p147 := eq_true p147
                       replace q147 := eq_true q147
                       have p148 : 0 ≤ (x35_3 : Int) := of_decide_eq_true (by first | (with_reducible assumption) | assumption)
                       have q148 : x35_3 < (t136.length : Int) := of_decide_eq_true (by first | (with_reducible assumption) | assumption)
                       obtain ⟨ad148, e148, hx148_0, hx148_1, hx148_2, hx148_3, hx148_4, hx148_5, hx148_6⟩ := at_T40 (Kd.R_reads' HO_3.out).2.2 x35_3 p148 q148
                       obtain rfl : ad142 = ad148 := (by injection e148)
                       replace p148 := eq_true p148
                       replace q148 := eq_true q148
                       have p149 : 0 ≤ (x35_3 : Int) := of_decide_eq_true (by first | (with_reducible assumption) | assumption)
                       have q149 : x35_3 < (t139.length : Int) := of_decide_eq_true (by first | (with_reducible assumption) | assumption)
                       obtain ⟨ad149, e149, hx149_0, hx149_1, hx149_2, hx149_3, hx149_4, hx149_5, hx149_6⟩ := at_T40 (Kd.R_reads' HO_4.out).2.2 x35_3 p149 q149
                       obtain rfl : ad143 = ad149 := (by injection e149)
                       replace p149 := eq_true p149
                       replace q149 := eq_true q149
                       have p150 : 0 ≤ (x35_3 : Int) := of_decide_eq_true (by first | (with_reducible assumption) | assumption)
                       have q150 : x35_3 < (t136.length : Int) := of_decide_eq_true (by first | (with_reducible assumption) | assumption)
                       obtain ⟨ad150, e150, hx150_0, hx150_1, hx150_2, hx150_3, hx150_4, hx150_5, hx150_6⟩ := at_T40 (Kd.R_reads' HO_3.out).2.2 x35_3 p150 q150
                       obtain rfl : ad142 = ad150 := (by injection e150)
                       replace p150 := eq_true p150
                       replace q150 := eq_true q150
                       have p151 : 0 ≤ (x35_3 : Int) := of_decide_eq_true (by first | (with_reducible assumption) | assumption)
                       have q151 : x35_3 < (t139.length : Int) := of_decide_eq_true (by first | (with_reducible assumption) | assumption)
                       obtain ⟨ad151, e151, hx151_0, hx151_1, hx151_2, hx151_3, hx151_4, hx151_5, hx151_6⟩ := at_T40 (Kd.R_reads' HO_4.out).2.2 x35_3 p151 q151
                       obtain rfl : ad143 = ad151 := (by injection e151)
                       replace p151 := eq_true p151
                       replace q151 := eq_true q151
                       have p152 : 0 ≤ (x35_3 : Int) := of_decide_eq_true (by first | (with_reducible assumption) | assumption)
                       have q152 : x35_3 < (t136.length : Int) := of_decide_eq_true (by first | (with_reducible assumption) | assumption)
                       obtain ⟨ad152, e152, hx152_0, hx152_1, hx152_2, hx152_3, hx152_4, hx152_5, hx152_6⟩ := at_T40 (Kd.R_reads' HO_3.out).2.2 x35_3 p152 q152
                       obtain rfl : ad142 = ad152 := (by injection e152)
                       replace p152 := eq_true p152
                       replace q152 := eq_true q152
                       have p153 : 0 ≤ (x35_3 : Int) := of_decide_eq_true (by first | (with_reducible assumption) | assumption)
                       have q153 : x35_3 < (t139.length : Int) := of_decide_eq_true (by first | (with_reducible assumption) | assumption)
                       obtain ⟨ad153, e153, hx153_0, hx153_1, hx153_2, hx153_3, hx153_4, hx153_5, hx153_6⟩ := at_T40 (Kd.R_reads' HO_4.out).2.2 x35_3 p153 q153
                       obtain rfl : ad143 = ad153 := (by injection e153)
                       replace p153 := eq_true p153
                       replace q153 := eq_true q153
                       go_wp2
                       repeat (go_quiet (fail); try go_wp2)
                       go_roundg k3
                       case measure => have := HJ3.out; have := HJ11.out; have := HK3.out; omega
                       case rel => exact ⟨(wrap64 (x35_3 + 1)), (by first | rfl | (simp; done) | (simp [*]; done)), H', ⟨by have := HJ3.out; have := HJ11.out; have := HK3.out; omega⟩, ⟨by (with_reducible repeat (first | apply Kd.R_alloc | apply Kd.R_drewN | apply Kd.R_drew)); exact HO_3.out⟩, ⟨by (with_reducible repeat (first | apply Kd.R_alloc | apply Kd.R_drewN | apply Kd.R_drew)); exact HO_4.out⟩, ⟨by repeat (first | (with_reducible first | exact HB.out | apply below_alloc | apply pw_below_drewN | apply below_drew1) | exact HB.out)⟩⟩
                      ·rw [if_neg c34] at H
                       have c34b0 : (((rd_T40 t136 x35_3).f5) == ((rd_T40 t139 x35_3).f5)) = false := beq_eq_false_iff_ne.mpr c34
                       have c34b1 : (((rd_T40 t136 x35_3).f5) != ((rd_T40 t139 x35_3).f5)) = true := bne_iff_ne.mpr c34
                       obtain rfl := Option.some.inj H
                       have p142 : 0 ≤ (x35_3 : Int) := of_decide_eq_true (by first | (with_reducible assumption) | assumption)
                       have q142 : x35_3 < (t136.length : Int) := of_decide_eq_true (by first | (with_reducible assumption) | assumption)
                       obtain ⟨ad142, e142, hx142_0, hx142_1, hx142_2, hx142_3, hx142_4, hx142_5, hx142_6⟩ := at_T40 (Kd.R_reads' HO_3.out).2.2 x35_3 p142 q142
                       cases e142
                       replace p142 := eq_true p142
                       replace q142 := eq_true q142
                       obtain ⟨Ao36, co36, eo36⟩ := Kd.R_slice HO_4.out
                       subst eo36
                       have p143 : 0 ≤ (x35_3 : Int) := of_decide_eq_true (by first | (with_reducible assumption) | assumption)
                       have q143 : x35_3 < (t139.length : Int) := of_decide_eq_true (by first | (with_reducible assumption) | assumption)
                       obtain ⟨ad143, e143, hx143_0, hx143_1, hx143_2, hx143_3, hx143_4, hx143_5, hx143_6⟩ := at_T40 (Kd.R_reads' HO_4.out).2.2 x35_3 p143 q143
                       cases e143
                       replace p143 := eq_true p143
                       replace q143 := eq_true q143
                       have p144 : 0 ≤ (x35_3 : Int) := of_decide_eq_true (by first | (with_reducible assumption) | assumption)
                       have q144 : x35_3 < (t136.length : Int) := of_decide_eq_true (by first | (with_reducible assumption) | assumption)
                       obtain ⟨ad144, e144, hx144_0, hx144_1, hx144_2, hx144_3, hx144_4, hx144_5, hx144_6⟩ := at_T40 (Kd.R_reads' HO_3.out).2.2 x35_3 p144 q144
                       obtain rfl : ad142 = ad144 := (by injection e144)
                       replace p144 := eq_true p144
                       replace q144 := eq_true q144
                       have p145 : 0 ≤ (x35_3 : Int) := of_decide_eq_true (by first | (with_reducible assumption) | assumption)
                       have q145 : x35_3 < (t139.length : Int) := of_decide_eq_true (by first | (with_reducible assumption) | assumption)
                       obtain ⟨ad145, e145, hx145_0, hx145_1, hx145_2, hx145_3, hx145_4, hx145_5, hx145_6⟩ := at_T40 (Kd.R_reads' HO_4.out).2.2 x35_3 p145 q145
                       obtain rfl : ad143 = ad145 := (by injection e145)
                       replace p145 := eq_true p145
                       replace q145 := eq_true q145
                       have p146 : 0 ≤ (x35_3 : Int) := of_decide_eq_true (by first | (with_reducible assumption) | assumption)
                       have q146 : x35_3 < (t136.length : Int) := of_decide_eq_true (by first | (with_reducible assumption) | assumption)
                       obtain ⟨ad146, e146, hx146_0, hx146_1, hx146_2, hx146_3, hx146_4, hx146_5, hx146_6⟩ := at_T40 (Kd.R_reads' HO_3.out).2.2 x35_3 p146 q146
                       obtain rfl : ad142 = ad146 := (by injection e146)
                       replace p146 := eq_true p146
                       replace q146 := eq_true q146
                       have p147 : 0 ≤ (x35_3 : Int) := of_decide_eq_true (by first | (with_reducible assumption) | assumption)
                       have q147 : x35_3 < (t139.length : Int) := of_decide_eq_true (by first | (with_reducible assumption) | assumption)
                       obtain ⟨ad147, e147, hx147_0, hx147_1, hx147_2, hx147_3, hx147_4, hx147_5, hx147_6⟩ := at_T40 (Kd.R_reads' HO_4.out).2.2 x35_3 p147 q147
                       obtain rfl : ad143 = ad147 := (by injection e147)
                       replace p147 := eq_true p147
                       replace q147 := eq_true q147
                       have p148 : 0 ≤ (x35_3 : Int) := of_decide_eq_true (by first | (with_reducible assumption) | assumption)
                       have q148 : x35_3 < (t136.length : Int) := of_decide_eq_true (by first | (with_reducible assumption) | assumption)
                       obtain ⟨ad148, e148, hx148_0, hx148_1, hx148_2, hx148_3, hx148_4, hx148_5, hx148_6⟩ := at_T40 (Kd.R_reads' HO_3.out).2.2 x35_3 p148 q148
                       obtain rfl : ad142 = ad148 := (by injection e148)
                       replace p148 := eq_true p148
                       replace q148 := eq_true q148
                       have p149 : 0 ≤ (x35_3 : Int) := of_decide_eq_true (by first | (with_reducible assumption) | assumption)
                       have q149 : x35_3 < (t139.length : Int) := of_decide_eq_true (by first | (with_reducible assumption) | assumption)
                       obtain ⟨ad149, e149, hx149_0, hx149_1, hx149_2, hx149_3, hx149_4, hx149_5, hx149_6⟩ := at_T40 (Kd.R_reads' HO_4.out).2.2 x35_3 p149 q149
                       obtain rfl : ad143 = ad149 := (by injection e149)
                       replace p149 := eq_true p149
                       replace q149 := eq_true q149
                       have p150 : 0 ≤ (x35_3 : Int) := of_decide_eq_true (by first | (with_reducible assumption) | assumption)
                       have q150 : x35_3 < (t136.length : Int) := of_decide_eq_true (by first | (with_reducible assumption) | assumption)
                       obtain ⟨ad150, e150, hx150_0, hx150_1, hx150_2, hx150_3, hx150_4, hx150_5, hx150_6⟩ := at_T40 (Kd.R_reads' HO_3.out).2.2 x35_3 p150 q150
                       obtain rfl : ad142 = ad150 := (by injection e150)
                       replace p150 := eq_true p150
                       replace q150 := eq_true q150
                       have p151 : 0 ≤ (x35_3 : Int) := of_decide_eq_true (by first | (with_reducible assumption) | assumption)
                       have q151 : x35_3 < (t139.length : Int) := of_decide_eq_true (by first | (with_reducible assumption) | assumption)
                       obtain ⟨ad151, e151, hx151_0, hx151_1, hx151_2, hx151_3, hx151_4, hx151_5, hx151_6⟩ := at_T40 (Kd.R_reads' HO_4.out).2.2 x35_3 p151 q151
                       obtain rfl : ad143 = ad151 := (by injection e151)
                       replace p151 := eq_true p151
                       replace q151 := eq_true q151
                       have p152 : 0 ≤ (x35_3 : Int) := of_decide_eq_true (by first | (with_reducible assumption) | assumption)
                       have q152 : x35_3 < (t136.length : Int) := of_decide_eq_true (by first | (with_reducible assumption) | assumption)
                       obtain ⟨ad152, e152, hx152_0, hx152_1, hx152_2, hx152_3, hx152_4, hx152_5, hx152_6⟩ := at_T40 (Kd.R_reads' HO_3.out).2.2 x35_3 p152 q152
                       obtain rfl : ad142 = ad152 := (by injection e152)
                       replace p152 := eq_true p152
                       replace q152 := eq_true q152
                       have p153 : 0 ≤ (x35_3 : Int) := of_decide_eq_true (by first | (with_reducible assumption) | assumption)
                       have q153 : x35_3 < (t139.length : Int) := of_decide_eq_true (by first | (with_reducible assumption) | assumption)
                       obtain ⟨ad153, e153, hx153_0, hx153_1, hx153_2, hx153_3, hx153_4, hx153_5, hx153_6⟩ := at_T40 (Kd.R_reads' HO_4.out).2.2 x35_3 p153 q153
                       obtain rfl : ad143 = ad153 := (by injection e153)
                       replace p153 := eq_true p153
                       replace q153 := eq_true q153
                       go_wp2
                       repeat (go_quiet (fail); try go_wp2)
                       go_ret
                       exact ⟨by first | rfl | (simp [errW_none, errW_some] <;> rfl) | (simp [*, errW_none, errW_some] <;> rfl), by repeat (first | (with_reducible first | exact HB.out | apply below_alloc | apply pw_below_drewN | apply below_drew1) | exact HB.out)⟩
                  ·rw [if_neg c27] at H
                   have c27b0 : (((rd_T40 t136 x35_3).f4).toList == ((rd_T40 t139 x35_3).f4).toList) = false := beq_eq_false_iff_ne.mpr c27
                   have c27b1 : (((rd_T40 t136 x35_3).f4).toList != ((rd_T40 t139 x35_3).f4).toList) = true := bne_iff_ne.mpr c27
                   obtain rfl := Option.some.inj H
                   have p142 : 0 ≤ (x35_3 : Int) := of_decide_eq_true (by first | (with_reducible assumption) | assumption)
                   have q142 : x35_3 < (t136.length : Int) := of_decide_eq_true (by first | (with_reducible assumption) | assumption)
                   obtain ⟨ad142, e142, hx142_0, hx142_1, hx142_2, hx142_3, hx142_4, hx142_5, hx142_6⟩ := at_T40 (Kd.R_reads' HO_3.out).2.2 x35_3 p142 q142
                   cases e142
                   replace p142 := eq_true p142
                   replace q142 := eq_true q142
                   obtain ⟨Ao37, co37, eo37⟩ := Kd.R_slice HO_4.out
                   subst eo37
                   have p143 : 0 ≤ (x35_3 : Int) := of_decide_eq_true (by first | (with_reducible assumption) | assumption)
                   have q143 : x35_3 < (t139.length : Int) := of_decide_eq_true (by first | (with_reducible assumption) | assumption)
                   obtain ⟨ad143, e143, hx143_0, hx143_1, hx143_2, hx143_3, hx143_4, hx143_5, hx143_6⟩ := at_T40 (Kd.R_reads' HO_4.out).2.2 x35_3 p143 q143
                   cases e143
                   replace p143 := eq_true p143
                   replace q143 := eq_true q143
                   have p144 : 0 ≤ (x35_3 : Int) := of_decide_eq_true (by first | (with_reducible assumption) | assumption)
                   have q144 : x35_3 < (t136.length : Int) := of_decide_eq_true (by first | (with_reducible assumption) | assumption)
                   obtain ⟨ad144, e144, hx144_0, hx144_1, hx144_2, hx144_3, hx144_4, hx144_5, hx144_6⟩ := at_T40 (Kd.R_reads' HO_3.out).2.2 x35_3 p144 q144
                   obtain rfl : ad142 = ad144 := (by injection e144)
                   replace p144 := eq_true p144
                   replace q144 := eq_true q144
                   have p145 : 0 ≤ (x35_3 : Int) := of_decide_eq_true (by first | (with_reducible assumption) | assumption)
                   have q145 : x35_3 < (t139.length : Int) := of_decide_eq_true (by first | (with_reducible assumption) | assumption)
                   obtain ⟨ad145, e145, hx145_0, hx145_1, hx145_2, hx145_3, hx145_4, hx145_5, hx145_6⟩ := at_T40 (Kd.R_reads' HO_4.out).2.2 x35_3 p145 q145
                   obtain rfl : ad143 = ad145 := (by injection e145)
                   replace p145 := eq_true p145
                   replace q145 := eq_true q145
                   go_wp2
                   repeat (go_quiet (fail); try go_wp2)
                   go_ret
                   exact ⟨by first | rfl | (simp [errW_none, errW_some] <;> rfl) | (simp [*, errW_none, errW_some] <;> rfl), by repeat (first | (with_reducible first | exact HB.out | apply below_alloc | apply pw_below_drewN | apply below_drew1) | exact HB.out)⟩
                ·rw [if_neg c24] at H
                 exact absurd H (by simp)
               ·rw [if_neg c23] at H
                exact absurd H (by simp)
              ·rw [if_neg c22] at H
               exact absurd H (by simp)
             ·rw [if_neg c21] at H
              have c21b0 : decide (x35_3 < (t136.length : Int)) = false := decide_eq_false c21
              clear c21
              obtain rfl := Option.some.inj H
              go_wp2
              repeat (go_quiet (fail); try go_wp2)
              go_ret
              exact ⟨by first | rfl | (simp [errW_none, errW_some] <;> rfl) | (simp [*, errW_none, errW_some] <;> rfl), by repeat (first | (with_reducible first | exact HB.out | apply below_alloc | apply pw_below_drewN | apply below_drew1) | exact HB.out)⟩
 ·replace c3 := Bool.eq_false_iff.mpr c3
  subst c3
  have H1 : (some true) = some r := by rw [if_neg (show ¬ (false = true) by decide)] at H; exact H
  clear H
  have H := H1
  clear H1
  obtain rfl := Option.some.inj H
  go_enter Tryd.func4, Tryd.ntmps4
  go_wp2_with (first | (go_at_call 17; (with_reducible refine (laws_zzFits5.calls k _ _ l0 false _ ?side1 ?side2 A2.out).mono ?_); (case side1 => repeat (first | exact HR0.out | (with_reducible refine Kd.C_alloc ?_ _) | (with_reducible refine Kd.C_drewN ?_ _) | (with_reducible refine Kd.C_drew ?_))); (case side2 => exact HC0.out); rintro e w38 ⟨rfl, hb⟩; have n0_ := Aside0.mk (below_step (by repeat (first | (with_reducible first | exact HB.out | apply below_alloc | apply pw_below_drewN | apply below_drew1) | exact HB.out)) hb); clear HB; have HB := n0_; clear n0_; (try clear hb); (try clear hb2); (try clear hk); (try clear hi)))
  repeat (go_quiet (first | (go_at_call 17; (with_reducible refine (laws_zzFits5.calls k _ _ l0 false _ ?side1 ?side2 A2.out).mono ?_); (case side1 => repeat (first | exact HR0.out | (with_reducible refine Kd.C_alloc ?_ _) | (with_reducible refine Kd.C_drewN ?_ _) | (with_reducible refine Kd.C_drew ?_))); (case side2 => exact HC0.out); rintro e w38 ⟨rfl, hb⟩; have n0_ := Aside0.mk (below_step (by repeat (first | (with_reducible first | exact HB.out | apply below_alloc | apply pw_below_drewN | apply below_drew1) | exact HB.out)) hb); clear HB; have HB := n0_; clear n0_; (try clear hb); (try clear hb2); (try clear hk); (try clear hi))); try go_wp2_with (first | (go_at_call 17; (with_reducible refine (laws_zzFits5.calls k _ _ l0 false _ ?side1 ?side2 A2.out).mono ?_); (case side1 => repeat (first | exact HR0.out | (with_reducible refine Kd.C_alloc ?_ _) | (with_reducible refine Kd.C_drewN ?_ _) | (with_reducible refine Kd.C_drew ?_))); (case side2 => exact HC0.out); rintro e w38 ⟨rfl, hb⟩; have n0_ := Aside0.mk (below_step (by repeat (first | (with_reducible first | exact HB.out | apply below_alloc | apply pw_below_drewN | apply below_drew1) | exact HB.out)) hb); clear HB; have HB := n0_; clear n0_; (try clear hb); (try clear hb2); (try clear hk); (try clear hi))))
  go_ret
  exact ⟨by first | rfl | (simp [errW_none, errW_some] <;> rfl) | (simp [*, errW_none, errW_some] <;> rfl), by repeat (first | (with_reducible first | exact HB.out | apply below_alloc | apply pw_below_drewN | apply below_drew1) | exact HB.out)⟩

end Go.Proofs.YtjflijebcpcbmaaDoor.G
