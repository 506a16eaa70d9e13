/- What is proved: Go functions answer as the Lean functions of this text (written by a program of this session over the print of the kit). Conditions: those in the hypotheses. -/
import Derived.Test.YtjflijebcpcbmaaDoorG0
import Derived.Test.YtjflijebcpcbmaaDoorG1
import Derived.Test.YtjflijebcpcbmaaDoorWGuard
import Derived.Test.YtjflijebcpcbmaaDoorG3
import Derived.Test.YtjflijebcpcbmaaDoorG4
import Derived.Test.YtjflijebcpcbmaaDoorGZ
import Derived.Test.YtjflijebcpcbmaaDoorFrag
namespace Go.Proofs.YtjflijebcpcbmaaDoor.G
open Go.RowKit Go.Proofs.YtjflijebcpcbmaaDoorW.PrintWords Go.Proofs.YtjflijebcpcbmaaDoorW.PrintLast Go.Proofs.YtjflijebcpcbmaaDoorW.PrintMore
attribute [local go_sem] max2_int min2_int max_two min_two max_three min_three max_four min_four   -- for this text's walks alone
set_option linter.unusedVariables false
set_option linter.unusedSimpArgs false

/-! ### laws_FnManyMixed: function 5 -/
mutual
def laws_FnManyMixed.j0 : Nat → List ByteArray → Int → List Int → Bool → Option (Bool)
  | 0, _, _, _, _ => none
  | k + 1, x0, x1, x2, x24 => if x24 = true then (some true) else ((laws_light.f k x0 x1).bind fun t199 => (if t199 = true then (laws_FnManyMixed.l0 k x0 x1 x2 ([] : List ByteArray) ([] : List ByteArray) x0 (x0.length : Int) 0) else (some true)))
def laws_FnManyMixed.l0 : Nat → List ByteArray → Int → List Int → List ByteArray → List ByteArray → List ByteArray → Int → Int → Option (Bool)
  | 0, _, _, _, _, _, _, _, _ => none
  | k + 1, x0, x1, x2, x7, x8, x29, x30, x31 => if x31 < x30 then (if 0 ≤ x31 then (if x31 < (x29.length : Int) then ((laws_cutting.f k 11 x31 (rdOf ByteArray.empty x29 x31) (wrap64 (x1 + x31))).bind fun t201 => (laws_FnManyMixed.l1 k x0 x1 x2 x7 x8 x31 (rdOf ByteArray.empty x29 x31) x29 x30 x31 t201 (t201.length : Int) 0)) else (none)) else (none)) else ((laws_shuffle.f k x7 x2).bind fun t212 => (laws_FnManyMixed.l2 k x0 t212 x8 (t212.length : Int) 0))
def laws_FnManyMixed.l1 : Nat → List ByteArray → Int → List Int → List ByteArray → List ByteArray → Int → ByteArray → List ByteArray → Int → Int → List ByteArray → Int → Int → Option (Bool)
  | 0, _, _, _, _, _, _, _, _, _, _, _, _, _ => none
  | k + 1, x0, x1, x2, x7, x8, x9, x10, x29, x30, x31, x41, x42, x43 => if x43 < x42 then (if 0 ≤ x43 then (if x43 < (x41.length : Int) then (if x7.length < 8796093022208 then (laws_FnManyMixed.l1 k x0 x1 x2 (x7 ++ [rdOf ByteArray.empty x41 x43]) x8 x9 x10 x29 x30 x31 x41 x42 (wrap64 (x43 + 1))) else (none)) else (none)) else (none)) else ((laws_whole.f k 11 x9 x10).bind fun t208 => (if x8.length < 8796093022208 then (laws_FnManyMixed.l0 k x0 x1 x2 x7 (x8 ++ [t208]) x29 x30 (wrap64 (x31 + 1))) else (none)))
def laws_FnManyMixed.l2 : Nat → List ByteArray → List ByteArray → List ByteArray → Int → Int → Option (Bool)
  | 0, _, _, _, _, _ => none
  | k + 1, x0, x7, x8, x63, x64 => if x64 < x63 then (if 0 ≤ x64 then (if x64 < (x7.length : Int) then ((laws_record.f k x64 (rdOf ByteArray.empty x7 x64)).bind fun t216 => (laws_FnManyMixed.l2 k x0 (x7.set (x64 : Int).toNat t216) x8 x63 (wrap64 (x64 + 1)))) else (none)) else (none)) else ((laws_pops.f k x7 (wrap64 ((x0.length : Int) + 1))).bind fun t218 => ((impl_Fragments.f t218).bind fun t221 => ((laws_come.f k t218 t221).bind fun bt224 => (if bt224.2 = true then ((laws_texts.f k bt224.1 x8).bind fun t228 => (some t228)) else (some false)))))
end
def laws_FnManyMixed.f (k : Nat) (l0 : List ByteArray) (a1 : Int) (l2 : List Int) : Option (Bool) := (laws_zzFits2.f k l0).bind fun t198 => (if t198 = true then (laws_FnManyMixed.j0 k l0 a1 l2 (decide ((l2.length : Int) > 2147483647))) else (laws_FnManyMixed.j0 k l0 a1 l2 true))
theorem laws_FnManyMixed.mono_l : ∀ k, (∀ y0 y1 y2 y3, LeO (laws_FnManyMixed.j0 k y0 y1 y2 y3) (laws_FnManyMixed.j0 (k + 1) y0 y1 y2 y3)) ∧ (∀ y0 y1 y2 y3 y4 y5 y6 y7, LeO (laws_FnManyMixed.l0 k y0 y1 y2 y3 y4 y5 y6 y7) (laws_FnManyMixed.l0 (k + 1) y0 y1 y2 y3 y4 y5 y6 y7)) ∧ (∀ y0 y1 y2 y3 y4 y5 y6 y7 y8 y9 y10 y11 y12, LeO (laws_FnManyMixed.l1 k y0 y1 y2 y3 y4 y5 y6 y7 y8 y9 y10 y11 y12) (laws_FnManyMixed.l1 (k + 1) y0 y1 y2 y3 y4 y5 y6 y7 y8 y9 y10 y11 y12)) ∧ (∀ y0 y1 y2 y3 y4, LeO (laws_FnManyMixed.l2 k y0 y1 y2 y3 y4) (laws_FnManyMixed.l2 (k + 1) y0 y1 y2 y3 y4))
  | 0 => ⟨fun _ _ _ _ r h => by simp [laws_FnManyMixed.j0] at h, fun _ _ _ _ _ _ _ _ r h => by simp [laws_FnManyMixed.l0] at h, fun _ _ _ _ _ _ _ _ _ _ _ _ _ r h => by simp [laws_FnManyMixed.l1] at h, fun _ _ _ _ _ r h => by simp [laws_FnManyMixed.l2] at h⟩
  | k + 1 => by
    obtain ⟨ih0, ih1, ih2, ih3⟩ := laws_FnManyMixed.mono_l k
    refine ⟨?_, ?_, ?_, ?_⟩
    · intro y0 y1 y2 y3
      unfold laws_FnManyMixed.j0
      repeat' first
      | (with_reducible exact ih0 _ _ _ _)
      | (with_reducible exact ih1 _ _ _ _ _ _ _ _)
      | (with_reducible exact ih2 _ _ _ _ _ _ _ _ _ _ _ _ _)
      | (with_reducible exact ih3 _ _ _ _ _)
      | (with_reducible exact laws_come.mono _ _ _)
      | (with_reducible exact laws_cutting.mono _ _ _ _ _)
      | (with_reducible exact laws_light.mono _ _ _)
      | (with_reducible exact laws_pops.mono _ _ _)
      | (with_reducible exact laws_record.mono _ _ _)
      | (with_reducible exact laws_shuffle.mono _ _ _)
      | (with_reducible exact laws_texts.mono _ _ _)
      | (with_reducible exact laws_whole.mono _ _ _ _)
      | (with_reducible exact laws_zzFits2.mono _ _)
      | (with_reducible exact LeO.refl _)
      | (with_reducible exact LeO.none _)
      | (with_reducible refine LeO.ite ?_ ?_)
      | (with_reducible refine LeO.bind ?_ (fun _ => ?_))
      | exact ih0 _ _ _ _
      | exact ih1 _ _ _ _ _ _ _ _
      | exact ih2 _ _ _ _ _ _ _ _ _ _ _ _ _
      | exact ih3 _ _ _ _ _
      | exact laws_come.mono _ _ _
      | exact laws_cutting.mono _ _ _ _ _
      | exact laws_light.mono _ _ _
      | exact laws_pops.mono _ _ _
      | exact laws_record.mono _ _ _
      | exact laws_shuffle.mono _ _ _
      | exact laws_texts.mono _ _ _
      | exact laws_whole.mono _ _ _ _
      | exact laws_zzFits2.mono _ _
      | exact LeO.none _
      | refine LeO.ite ?_ ?_
      | refine LeO.bind ?_ (fun _ => ?_)
    · intro y0 y1 y2 y3 y4 y5 y6 y7
      unfold laws_FnManyMixed.l0
      repeat' first
      | (with_reducible exact ih0 _ _ _ _)
      | (with_reducible exact ih1 _ _ _ _ _ _ _ _)
      | (with_reducible exact ih2 _ _ _ _ _ _ _ _ _ _ _ _ _)
      | (with_reducible exact ih3 _ _ _ _ _)
      | (with_reducible exact laws_come.mono _ _ _)
      | (with_reducible exact laws_cutting.mono _ _ _ _ _)
      | (with_reducible exact laws_light.mono _ _ _)
      | (with_reducible exact laws_pops.mono _ _ _)
      | (with_reducible exact laws_record.mono _ _ _)
      | (with_reducible exact laws_shuffle.mono _ _ _)
      | (with_reducible exact laws_texts.mono _ _ _)
      | (with_reducible exact laws_whole.mono _ _ _ _)
      | (with_reducible exact laws_zzFits2.mono _ _)
      | (with_reducible exact LeO.refl _)
      | (with_reducible exact LeO.none _)
      | (with_reducible refine LeO.ite ?_ ?_)
      | (with_reducible refine LeO.bind ?_ (fun _ => ?_))
      | exact ih0 _ _ _ _
      | exact ih1 _ _ _ _ _ _ _ _
      | exact ih2 _ _ _ _ _ _ _ _ _ _ _ _ _
      | exact ih3 _ _ _ _ _
      | exact laws_come.mono _ _ _
      | exact laws_cutting.mono _ _ _ _ _
      | exact laws_light.mono _ _ _
      | exact laws_pops.mono _ _ _
      | exact laws_record.mono _ _ _
      | exact laws_shuffle.mono _ _ _
      | exact laws_texts.mono _ _ _
      | exact laws_whole.mono _ _ _ _
      | exact laws_zzFits2.mono _ _
      | exact LeO.none _
      | refine LeO.ite ?_ ?_
      | refine LeO.bind ?_ (fun _ => ?_)
    · intro y0 y1 y2 y3 y4 y5 y6 y7 y8 y9 y10 y11 y12
      unfold laws_FnManyMixed.l1
      repeat' first
      | (with_reducible exact ih0 _ _ _ _)
      | (with_reducible exact ih1 _ _ _ _ _ _ _ _)
      | (with_reducible exact ih2 _ _ _ _ _ _ _ _ _ _ _ _ _)
      | (with_reducible exact ih3 _ _ _ _ _)
      | (with_reducible exact laws_come.mono _ _ _)
      | (with_reducible exact laws_cutting.mono _ _ _ _ _)
      | (with_reducible exact laws_light.mono _ _ _)
      | (with_reducible exact laws_pops.mono _ _ _)
      | (with_reducible exact laws_record.mono _ _ _)
      | (with_reducible exact laws_shuffle.mono _ _ _)
      | (with_reducible exact laws_texts.mono _ _ _)
      | (with_reducible exact laws_whole.mono _ _ _ _)
      | (with_reducible exact laws_zzFits2.mono _ _)
      | (with_reducible exact LeO.refl _)
      | (with_reducible exact LeO.none _)
      | (with_reducible refine LeO.ite ?_ ?_)
      | (with_reducible refine LeO.bind ?_ (fun _ => ?_))
      | exact ih0 _ _ _ _
      | exact ih1 _ _ _ _ _ _ _ _
      | exact ih2 _ _ _ _ _ _ _ _ _ _ _ _ _
      | exact ih3 _ _ _ _ _
      | exact laws_come.mono _ _ _
      | exact laws_cutting.mono _ _ _ _ _
      | exact laws_light.mono _ _ _
      | exact laws_pops.mono _ _ _
      | exact laws_record.mono _ _ _
      | exact laws_shuffle.mono _ _ _
      | exact laws_texts.mono _ _ _
      | exact laws_whole.mono _ _ _ _
      | exact laws_zzFits2.mono _ _
      | exact LeO.none _
      | refine LeO.ite ?_ ?_
      | refine LeO.bind ?_ (fun _ => ?_)
    · intro y0 y1 y2 y3 y4
      unfold laws_FnManyMixed.l2
      repeat' first
      | (with_reducible exact ih0 _ _ _ _)
      | (with_reducible exact ih1 _ _ _ _ _ _ _ _)
      | (with_reducible exact ih2 _ _ _ _ _ _ _ _ _ _ _ _ _)
      | (with_reducible exact ih3 _ _ _ _ _)
      | (with_reducible exact laws_come.mono _ _ _)
      | (with_reducible exact laws_cutting.mono _ _ _ _ _)
      | (with_reducible exact laws_light.mono _ _ _)
      | (with_reducible exact laws_pops.mono _ _ _)
      | (with_reducible exact laws_record.mono _ _ _)
      | (with_reducible exact laws_shuffle.mono _ _ _)
      | (with_reducible exact laws_texts.mono _ _ _)
      | (with_reducible exact laws_whole.mono _ _ _ _)
      | (with_reducible exact laws_zzFits2.mono _ _)
      | (with_reducible exact LeO.refl _)
      | (with_reducible exact LeO.none _)
      | (with_reducible refine LeO.ite ?_ ?_)
      | (with_reducible refine LeO.bind ?_ (fun _ => ?_))
      | exact ih0 _ _ _ _
      | exact ih1 _ _ _ _ _ _ _ _
      | exact ih2 _ _ _ _ _ _ _ _ _ _ _ _ _
      | exact ih3 _ _ _ _ _
      | exact laws_come.mono _ _ _
      | exact laws_cutting.mono _ _ _ _ _
      | exact laws_light.mono _ _ _
      | exact laws_pops.mono _ _ _
      | exact laws_record.mono _ _ _
      | exact laws_shuffle.mono _ _ _
      | exact laws_texts.mono _ _ _
      | exact laws_whole.mono _ _ _ _
      | exact laws_zzFits2.mono _ _
      | exact LeO.none _
      | refine LeO.ite ?_ ?_
      | refine LeO.bind ?_ (fun _ => ?_)
theorem laws_FnManyMixed.mono : ∀ a0 a1 a2 k, LeO (laws_FnManyMixed.f k a0 a1 a2) (laws_FnManyMixed.f (k + 1) a0 a1 a2) := by
  intro a0 a1 a2 k
  obtain ⟨ih0, ih1, ih2, ih3⟩ := laws_FnManyMixed.mono_l k
  unfold laws_FnManyMixed.f
  repeat' first
      | (with_reducible exact ih0 _ _ _ _)
      | (with_reducible exact ih1 _ _ _ _ _ _ _ _)
      | (with_reducible exact ih2 _ _ _ _ _ _ _ _ _ _ _ _ _)
      | (with_reducible exact ih3 _ _ _ _ _)
      | (with_reducible exact laws_come.mono _ _ _)
      | (with_reducible exact laws_cutting.mono _ _ _ _ _)
      | (with_reducible exact laws_light.mono _ _ _)
      | (with_reducible exact laws_pops.mono _ _ _)
      | (with_reducible exact laws_record.mono _ _ _)
      | (with_reducible exact laws_shuffle.mono _ _ _)
      | (with_reducible exact laws_texts.mono _ _ _)
      | (with_reducible exact laws_whole.mono _ _ _ _)
      | (with_reducible exact laws_zzFits2.mono _ _)
      | (with_reducible exact LeO.refl _)
      | (with_reducible exact LeO.none _)
      | (with_reducible refine LeO.ite ?_ ?_)
      | (with_reducible refine LeO.bind ?_ (fun _ => ?_))
      | exact ih0 _ _ _ _
      | exact ih1 _ _ _ _ _ _ _ _
      | exact ih2 _ _ _ _ _ _ _ _ _ _ _ _ _
      | exact ih3 _ _ _ _ _
      | exact laws_come.mono _ _ _
      | exact laws_cutting.mono _ _ _ _ _
      | exact laws_light.mono _ _ _
      | exact laws_pops.mono _ _ _
      | exact laws_record.mono _ _ _
      | exact laws_shuffle.mono _ _ _
      | exact laws_texts.mono _ _ _
      | exact laws_whole.mono _ _ _ _
      | exact laws_zzFits2.mono _ _
      | exact LeO.none _
      | refine LeO.ite ?_ ?_
      | refine LeO.bind ?_ (fun _ => ?_)
set_option maxHeartbeats 8000000 in
set_option maxRecDepth 100000 in
theorem laws_FnManyMixed.calls (k : Nat) (A0 : Option Addr) (c0 : Nat) (l0 : List ByteArray) (a1 : Int) (A2 : Option Addr) (c2 : Nat) (l2 : List Int) (r : Bool) (w : World) (hr0 : Kd.C Kd.string w A0 l0.length l0) (hc0 : l0.length ≤ c0) (hr2 : Kd.C (Kd.int .i64) w A2 l2.length l2) (hc2 : l2.length ≤ c2) (h : laws_FnManyMixed.f k l0 a1 l2 = some r) (HL : Laid w) :
    Calls Tryd.prog 5 #[.slice A0 l0.length c0, .int .i64 a1, .slice A2 l2.length c2] w fun e w' => e = .returned (.bool r) ∧ Below w.heap.size w w' := by
  have HR0 := Aside0.mk hr0
  have HC0 := Aside0.mk hc0
  clear hr0 hc0
  have HR2 := Aside0.mk hr2
  have HC2 := Aside0.mk hc2
  clear hr2 hc2
  have HB := Aside0.mk (Below.refl w.heap.size w)
  have HLW := Aside0.mk HL
  clear HL
  have H : ((laws_zzFits2.f k l0).bind fun t198 => (if t198 = true then (laws_FnManyMixed.j0 k l0 a1 l2 (decide ((l2.length : Int) > 2147483647))) else (laws_FnManyMixed.j0 k l0 a1 l2 true))) = some r := h
  clear h
  have HC4 := Aside0.mk H
  clear H
  go_enter Tryd.func5, Tryd.ntmps5
  go_upto_region 1 with (fail)
  go_cut [24] (fun v24 wc => ∃ (kq : Nat) (x24_3 : Bool), v24 = .bool x24_3 ∧ Aside0 (laws_FnManyMixed.j0 kq l0 a1 l2 x24_3 = some r) ∧ Aside0 (kq ≤ k) ∧ Aside0 (Below w.heap.size w wc))
  case first =>
    have H := HC4.out
    clear HC4
    replace H := Option.bind_eq_some_iff.mp H
    obtain ⟨t198, A50, H⟩ := H
    replace H : (if t198 = true then (laws_FnManyMixed.j0 k l0 a1 l2 (decide ((l2.length : Int) > 2147483647))) else (laws_FnManyMixed.j0 k l0 a1 l2 true)) = some r := H
    have A5 := Aside0.mk A50
    clear A50
    by_cases c6 : t198 = true
    · subst c6
      have H1 : (laws_FnManyMixed.j0 k l0 a1 l2 (decide ((l2.length : Int) > 2147483647))) = some r := by rw [if_pos rfl] at H; exact H
      clear H
      have H := H1
      clear H1
      have H' := Aside0.mk H
      clear H
      go_wp2_with (first | ((with_reducible refine gate_callee (f := 20) rfl ?_); refine goesL_ (some 18) rfl rfl Tryd.func20 (by kernel_rfl) rfl #[.slice A0 l0.length c0] rfl (by (try simp only [List.map_toArray, List.map_cons, List.map_nil]); first | done | rfl | (simp only [List.length_drop, List.length_take]; rfl)) ?_; (with_reducible refine (laws_zzFits2.calls k _ _ l0 true _ ?side1 ?side2 A5.out).mono ?_); (case side1 => repeat (first | exact (Kd.C_below HR0.out HB.out) | (with_reducible refine Kd.C_alloc ?_ _) | (with_reducible refine Kd.C_drewN ?_ _) | (with_reducible refine Kd.C_drew ?_))); (case side2 => exact HC0.out); rintro e w' ⟨rfl, ⟨nd, rfl⟩⟩; refine ⟨_, rfl, ?_⟩))
      go_meet
      case rel => exact ⟨_, (decide ((l2.length : Int) > 2147483647)), (by first | rfl | (simp; done) | (simp [*]; done)), H', ⟨by first | omega | exact Nat.le_refl _⟩, ⟨by repeat (first | (with_reducible first | exact HB.out | apply below_alloc | apply pw_below_drewN | apply below_drew1) | exact HB.out)⟩⟩
    · replace c6 := Bool.eq_false_iff.mpr c6
      subst c6
      have H1 : (laws_FnManyMixed.j0 k l0 a1 l2 true) = some r := by rw [if_neg (show ¬ (false = true) by decide)] at H; exact H
      clear H
      have H := H1
      clear H1
      have H' := Aside0.mk H
      clear H
      go_wp2_with (first | ((with_reducible refine gate_callee (f := 20) rfl ?_); refine goesL_ (some 18) rfl rfl Tryd.func20 (by kernel_rfl) rfl #[.slice A0 l0.length c0] rfl (by (try simp only [List.map_toArray, List.map_cons, List.map_nil]); first | done | rfl | (simp only [List.length_drop, List.length_take]; rfl)) ?_; (with_reducible refine (laws_zzFits2.calls k _ _ l0 false _ ?side1 ?side2 A5.out).mono ?_); (case side1 => repeat (first | exact (Kd.C_below HR0.out HB.out) | (with_reducible refine Kd.C_alloc ?_ _) | (with_reducible refine Kd.C_drewN ?_ _) | (with_reducible refine Kd.C_drew ?_))); (case side2 => exact HC0.out); rintro e w' ⟨rfl, ⟨nd, rfl⟩⟩; refine ⟨_, rfl, ?_⟩))
      go_meet
      case rel => exact ⟨_, (true), (by first | rfl | (simp; done) | (simp [*]; done)), H', ⟨by first | omega | exact Nat.le_refl _⟩, ⟨by repeat (first | (with_reducible first | exact HB.out | apply below_alloc | apply pw_below_drewN | apply below_drew1) | exact HB.out)⟩⟩
  case rest =>
    clear HC4
    try clear c2
    try clear p2
    try clear c5
    try clear c6
    obtain ⟨kq, x24_3, rfl, HA, HJ3, HB⟩ := hcut
    cases kq with
    | zero => exact absurd HA.out (by simp [laws_FnManyMixed.j0])
    | succ kj3 =>
      have H := HA.out
      clear HA
      simp only [laws_FnManyMixed.j0] at H
      by_cases c7 : x24_3 = true
      · subst c7
        have H1 : (some true) = some r := by rw [if_pos rfl] at H; exact H
        clear H
        have H := H1
        clear H1
        obtain rfl := Option.some.inj H
        go_wp2
        go_ret
        exact ⟨by first | rfl | (simp [errW_none, errW_some] <;> rfl) | (simp [*, errW_none, errW_some] <;> rfl), by repeat (first | (with_reducible first | exact HB.out | apply below_alloc | apply pw_below_drewN | apply below_drew1) | exact HB.out)⟩
      · replace c7 := Bool.eq_false_iff.mpr c7
        subst c7
        have H1 : ((laws_light.f kj3 l0 a1).bind fun t199 => (if t199 = true then (laws_FnManyMixed.l0 kj3 l0 a1 l2 ([] : List ByteArray) ([] : List ByteArray) l0 (l0.length : Int) 0) else (some true))) = some r := by rw [if_neg (show ¬ (false = true) by decide)] at H; exact H
        clear H
        have H := H1
        clear H1
        replace H := Option.bind_eq_some_iff.mp H
        obtain ⟨t199, A80, H⟩ := H
        replace H : (if t199 = true then (laws_FnManyMixed.l0 kj3 l0 a1 l2 ([] : List ByteArray) ([] : List ByteArray) l0 (l0.length : Int) 0) else (some true)) = some r := H
        have A8 := Aside0.mk A80
        clear A80
        by_cases c9 : t199 = true
        · subst c9
          have H1 : (laws_FnManyMixed.l0 kj3 l0 a1 l2 ([] : List ByteArray) ([] : List ByteArray) l0 (l0.length : Int) 0) = some r := by rw [if_pos rfl] at H; exact H
          clear H
          have H := H1
          clear H1
          have H' := Aside0.mk H
          clear H
          go_wp2_with (first | ((with_reducible refine gate_callee (f := 8) rfl ?_); refine goesL_ (some 27) rfl rfl Tryd.func8 (by kernel_rfl) rfl #[.slice A0 l0.length c0, .int .i64 a1] rfl (by (try simp only [List.map_toArray, List.map_cons, List.map_nil]); first | done | rfl | (simp only [List.length_drop, List.length_take]; rfl)) ?_; (with_reducible refine (laws_light.calls kj3 _ _ l0 a1 true _ ?side1 ?side2 A8.out).mono ?_); (case side1 => repeat (first | exact (Kd.C_below HR0.out HB.out) | (with_reducible refine Kd.C_alloc ?_ _) | (with_reducible refine Kd.C_drewN ?_ _) | (with_reducible refine Kd.C_drew ?_))); (case side2 => exact HC0.out); rintro e w' ⟨rfl, ⟨nd, rfl⟩⟩; refine ⟨_, rfl, ?_⟩))
          go_loopg [7, 8, 31] kj3 (fun kq v7 v8 v31 w' => ∃ (x7_2 : List ByteArray) (x8_2 : List ByteArray) (x31_2 : Int), v31 = .int .i64 x31_2 ∧ Aside0 (laws_FnManyMixed.l0 kq l0 a1 l2 x7_2 x8_2 l0 (l0.length : Int) x31_2 = some r) ∧ Aside0 (kq ≤ kj3) ∧ Aside0 (Kd.R Kd.string 9 w' w.heap.size (fun k_ => some k_ ≠ (v8 : Value).ownBlock) v7 x7_2) ∧ Aside0 (Kd.R Kd.string 9 w' w.heap.size (fun k_ => some k_ ≠ (v7 : Value).ownBlock) v8 x8_2) ∧ Aside0 (Below w.heap.size w w'))
          case atStart => exact ⟨(([] : List ByteArray)), (([] : List ByteArray)), (0), (by first | rfl | (simp; done) | (simp [*]; done)), H', ⟨Nat.le_refl _⟩, ⟨by first | exact Kd.R_nil _ _ _ _ _ | exact Kd.N_nil _ _ _ _ _ | exact Kd.V_nil _ _ _ _ _ | exact Kd.Q_nil _ _ _ _ _ | exact Kd.S_nil _ _ _ _ _⟩, ⟨by first | exact Kd.R_nil _ _ _ _ _ | exact Kd.N_nil _ _ _ _ _ | exact Kd.V_nil _ _ _ _ _ | exact Kd.Q_nil _ _ _ _ _ | exact Kd.S_nil _ _ _ _ _⟩, ⟨by repeat (first | (with_reducible first | exact HB.out | apply below_alloc | apply pw_below_drewN | apply below_drew1) | exact HB.out)⟩⟩
          case round =>
            clear H'
            try clear c2
            try clear p2
            try clear c5
            try clear c6
            try clear c7
            try clear c8
            try clear c9
            try clear p2
            obtain ⟨x7_2, x8_2, x31_2, rfl, HA, HK2, HO_7, HO_8, HB⟩ := hrel
            cases gk with
            | zero => exact absurd HA.out (by simp [laws_FnManyMixed.l0])
            | succ k2 =>
              have H := HA.out
              clear HA
              simp only [laws_FnManyMixed.l0] at H
              by_cases c10 : x31_2 < (l0.length : Int)
              · rw [if_pos c10] at H
                have c10b0 : decide (x31_2 < (l0.length : Int)) = true := decide_eq_true c10
                clear c10
                by_cases c11 : 0 ≤ x31_2
                · rw [if_pos c11] at H
                  have c11b0 : decide (0 ≤ x31_2) = true := decide_eq_true c11
                  clear c11
                  by_cases c12 : x31_2 < (l0.length : Int)
                  · rw [if_pos c12] at H
                    have c12b0 : decide (x31_2 < (l0.length : Int)) = true := decide_eq_true c12
                    clear c12
                    replace H := Option.bind_eq_some_iff.mp H
                    obtain ⟨t201, A130, H⟩ := H
                    replace H : (laws_FnManyMixed.l1 k2 l0 a1 l2 x7_2 x8_2 x31_2 (rdOf ByteArray.empty l0 x31_2) l0 (l0.length : Int) x31_2 t201 (t201.length : Int) 0) = some r := H
                    have A13 := Aside0.mk A130
                    clear A130
                    have H' := Aside0.mk H
                    clear H
                    have p200 : 0 ≤ (x31_2 : Int) := of_decide_eq_true (by first | (with_reducible assumption) | assumption)
                    have q200 : x31_2 < (l0.length : Int) := of_decide_eq_true (by first | (with_reducible assumption) | assumption)
                    obtain ⟨ad200, e200, hx200_0⟩ := Kd.at_string HR0.out x31_2 p200 q200
                    cases e200
                    replace hx200_0 := (HB.out.cell (World.block_lt_of_cell? w _ hx200_0)).trans hx200_0
                    replace p200 := eq_true p200
                    replace q200 := eq_true q200
                    go_wp2_with (first | ((with_reducible refine gate_callee (f := 10) rfl ?_); refine goesL_ (some 41) rfl rfl Tryd.func10 (by kernel_rfl) rfl #[.int .u8 11, .int .i64 x31_2, .string (rdOf ByteArray.empty l0 x31_2), .int .i64 (wrap64 (a1 + x31_2))] rfl (by (try simp only [List.map_toArray, List.map_cons, List.map_nil]); first | done | rfl | (simp only [List.length_drop, List.length_take]; rfl)) ?_; (with_reducible refine (laws_cutting.calls k2 11 x31_2 (rdOf ByteArray.empty l0 x31_2) (wrap64 (a1 + x31_2)) t201 _ A13.out).mono ?_); rintro e w14 ⟨v202, rfl, ho0, hb⟩; refine ⟨_, rfl, ?_⟩; have n0_ := Aside0.mk (Kd.R_elder' (by (with_reducible repeat (first | apply Kd.R_alloc | apply Kd.R_drewN | apply Kd.R_drew)); exact HO_7.out) (Kd.R_base ho0) hb); have n1_ := Aside0.mk (Kd.R_elder' (by (with_reducible repeat (first | apply Kd.R_alloc | apply Kd.R_drewN | apply Kd.R_drew)); exact HO_8.out) (Kd.R_base ho0) hb); have n2_ := Aside0.mk (Kd.R_lower (Kd.R_new' (Kd.R_new' ho0 (Kd.R_lt (by (with_reducible repeat (first | apply Kd.R_alloc | apply Kd.R_drewN | apply Kd.R_drew)); exact HO_7.out))) (Kd.R_lt (by (with_reducible repeat (first | apply Kd.R_alloc | apply Kd.R_drewN | apply Kd.R_drew)); exact HO_8.out))) (below_size (by repeat (first | (with_reducible first | exact HB.out | apply below_alloc | apply pw_below_drewN | apply below_drew1) | exact HB.out)))); have n3_ := Aside0.mk (below_step (by repeat (first | (with_reducible first | exact HB.out | apply below_alloc | apply pw_below_drewN | apply below_drew1) | exact HB.out)) hb); clear HO_7; clear HO_8; clear HB; have HO_7 := n0_; have HO_8 := n1_; have HO203 := n2_; have HB := n3_; clear n0_ n1_ n2_ n3_; (try clear hb); (try clear hb2); (try clear hk); (try clear hi); (try clear ho0); obtain ⟨Ao15, co15, eo15⟩ := Kd.R_slice HO203.out; subst eo15))
                    go_loopg [7, 43] k2 (fun kq v7 v43 w' => ∃ (x7_3 : List ByteArray) (x43_3 : Int), v43 = .int .i64 x43_3 ∧ Aside0 (laws_FnManyMixed.l1 kq l0 a1 l2 x7_3 x8_2 x31_2 (rdOf ByteArray.empty l0 x31_2) l0 (l0.length : Int) x31_2 t201 (t201.length : Int) x43_3 = some r) ∧ Aside0 (kq ≤ k2) ∧ Aside0 (Kd.R Kd.string 9 w' w.heap.size (fun k_ => some k_ ≠ (u8 : Value).ownBlock ∧ some k_ ≠ ((.slice Ao15 t201.length co15) : Value).ownBlock) v7 x7_3) ∧ Aside0 (Kd.R Kd.string 9 w' w.heap.size (fun k_ => some k_ ≠ (v7 : Value).ownBlock ∧ some k_ ≠ ((.slice Ao15 t201.length co15) : Value).ownBlock) u8 x8_2) ∧ Aside0 (Kd.R Kd.string 9 w' w.heap.size (fun k_ => some k_ ≠ (v7 : Value).ownBlock ∧ some k_ ≠ (u8 : Value).ownBlock) (.slice Ao15 t201.length co15) t201) ∧ Aside0 (Below w.heap.size w w'))
                    case atStart => exact ⟨(x7_2), (0), (by first | rfl | (simp; done) | (simp [*]; done)), H', ⟨Nat.le_refl _⟩, ⟨by (with_reducible repeat (first | apply Kd.R_alloc | apply Kd.R_drewN | apply Kd.R_drew)); exact HO_7.out⟩, ⟨by (with_reducible repeat (first | apply Kd.R_alloc | apply Kd.R_drewN | apply Kd.R_drew)); exact HO_8.out⟩, ⟨by (with_reducible repeat (first | apply Kd.R_alloc | apply Kd.R_drewN | apply Kd.R_drew)); exact Kd.R_mono HO203.out (fun _ hk => ⟨hk.1.2, hk.2⟩)⟩, ⟨by repeat (first | (with_reducible first | exact HB.out | apply below_alloc | apply pw_below_drewN | apply below_drew1) | exact HB.out)⟩⟩
                    case round =>
                      clear H'
                      try clear c1
                      try clear c2
                      try clear p2
                      try clear q2
                      try clear hx2
                      try clear c5
                      try clear c6
                      try clear p6
                      try clear c7
                      try clear c8
                      try clear c9
                      try clear c10
                      try clear c10b0
                      try clear c11
                      try clear c11b0
                      try clear c12
                      try clear c12b0
                      try clear hx200_0
                      try clear p2
                      try clear p200
                      try clear q200
                      obtain ⟨x7_3, x43_3, rfl, HA, HK3, HO_7, HO_8, HO_41, HB⟩ := hrel
                      cases gk with
                      | zero => exact absurd HA.out (by simp [laws_FnManyMixed.l1])
                      | succ k3 =>
                        have H := HA.out
                        clear HA
                        simp only [laws_FnManyMixed.l1] at H
                        by_cases c16 : x43_3 < (t201.length : Int)
                        · rw [if_pos c16] at H
                          have c16b0 : decide (x43_3 < (t201.length : Int)) = true := decide_eq_true c16
                          clear c16
                          by_cases c17 : 0 ≤ x43_3
                          · rw [if_pos c17] at H
                            have c17b0 : decide (0 ≤ x43_3) = true := decide_eq_true c17
                            clear c17
                            by_cases c18 : x43_3 < (t201.length : Int)
                            · rw [if_pos c18] at H
                              have c18b0 : decide (x43_3 < (t201.length : Int)) = true := decide_eq_true c18
                              clear c18
                              by_cases c19 : x7_3.length < 8796093022208
                              · rw [if_pos c19] at H
                                have LMc19 := Aside0.mk c19
                                clear c19
                                obtain ⟨y205, hy205⟩ : ∃ y_ : List ByteArray, y_ = (x7_3 ++ [rdOf ByteArray.empty t201 x43_3]) := ⟨_, rfl⟩
                                replace H : (laws_FnManyMixed.l1 k3 l0 a1 l2 y205 x8_2 x31_2 (rdOf ByteArray.empty l0 x31_2) l0 (l0.length : Int) x31_2 t201 (t201.length : Int) (wrap64 (x43_3 + 1))) = some r := by first | (rw [hy205]; with_reducible exact H) | (have H2_ := (Option.bind_some _ _).symm.trans H; rw [hy205]; with_reducible exact H2_) | (have H2_ := (Option.bind_some _ _).symm.trans H; with_reducible exact H2_) | with_reducible exact H | (rw [hy205]; exact H) | exact H
                                have Ny205 := Aside0.mk hy205
                                clear hy205
                                have H' := Aside0.mk H
                                clear H
                                have p204 : 0 ≤ (x43_3 : Int) := of_decide_eq_true (by first | (with_reducible assumption) | assumption)
                                have q204 : x43_3 < (t201.length : Int) := of_decide_eq_true (by first | (with_reducible assumption) | assumption)
                                obtain ⟨ad204, e204, hx204_0⟩ := Kd.at_string (Kd.R_reads' HO_41.out).2.2 x43_3 p204 q204
                                cases e204
                                replace p204 := eq_true p204
                                replace q204 := eq_true q204
                                go_wp2_with (first | ((with_reducible refine gate_builtin (b := .append) (xs := #[.tmp 47, .tmp 49]) rfl ?_); (try (refine gate_guard (by rfl) ?_; dsimp only)); at_builtin; refine Kd.R_append Kd.string (w0 := w) w.heap.size rfl (.tmp 47) (.tmp 49) 24 9 (.string ⟨#[]⟩) 16 rfl Tryd.underlying24 info9 rfl (by decide) (by omega) u7 x7_3 (rdOf ByteArray.empty t201 x43_3) [.string (rdOf ByteArray.empty t201 x43_3)] (fun k_ => some k_ ≠ (u8 : Value).ownBlock ∧ some k_ ≠ (.slice (some ad204) t201.length co15 : Value).ownBlock) (fun _ => False) rfl rfl ?aP (fun _ hk => hk.elim) ?aF ?aO ?aB ?aS ?aL ?_; (case aP => exact rfl); (case aB => exact (by repeat (first | (with_reducible first | exact HB.out | apply below_alloc | apply pw_below_drewN | apply below_drew1) | exact HB.out))); (case aF => exact (fun k_ hk => ⟨Kd.fresh' (Kd.R_lt (by (with_reducible repeat (first | apply Kd.R_alloc | apply Kd.R_drewN | apply Kd.R_drew)); exact HO_8.out)) k_ hk, Kd.fresh' (Kd.R_lt (by (with_reducible repeat (first | apply Kd.R_alloc | apply Kd.R_drewN | apply Kd.R_drew)); exact HO_41.out)) k_ hk⟩)); (case aO => exact (by (with_reducible repeat (first | apply Kd.R_alloc | apply Kd.R_drewN | apply Kd.R_drew)); exact HO_7.out)); (case aS => exact (below_size (by repeat (first | (with_reducible first | exact HB.out | apply below_alloc | apply pw_below_drewN | apply below_drew1) | exact HB.out)))); (case aL => have := LMc19.out; omega); intro v206 w20 ho hb hg hat; rw [← Ny205.out] at ho; have n0_ := Aside0.mk (Kd.R_after (ok := (fun k_ => some k_ ≠ (.slice (some ad204) t201.length co15 : Value).ownBlock)) (by (with_reducible repeat (first | apply Kd.R_alloc | apply Kd.R_drewN | apply Kd.R_drew)); exact Kd.R_mono HO_8.out (fun _ hk => ⟨hk.2, hk.1⟩)) hg hat); have n1_ := Aside0.mk (Kd.R_after (ok := (fun k_ => some k_ ≠ (u8 : Value).ownBlock)) (by (with_reducible repeat (first | apply Kd.R_alloc | apply Kd.R_drewN | apply Kd.R_drew)); exact Kd.R_mono HO_41.out (fun _ hk => ⟨hk.2, hk.1⟩)) hg hat); have n2_ := Aside0.mk (hb); have n3_ := Aside0.mk (ho); clear HO_8; clear HO_41; clear HB; clear HO_7; have HO_8 := n0_; have HO_41 := n1_; have HB := n2_; have HO207 := n3_; clear n0_ n1_ n2_ n3_; clear ho hb hg hat))
                                go_roundg k3
                                case measure => have := HJ3.out; have := HK2.out; have := HK3.out; omega
                                case rel => exact ⟨(y205), (wrap64 (x43_3 + 1)), (by first | rfl | (simp; done) | (simp [*]; done)), H', ⟨by have := HJ3.out; have := HK2.out; have := HK3.out; omega⟩, ⟨by (with_reducible repeat (first | apply Kd.R_alloc | apply Kd.R_drewN | apply Kd.R_drew)); exact HO207.out⟩, ⟨by (with_reducible repeat (first | apply Kd.R_alloc | apply Kd.R_drewN | apply Kd.R_drew)); exact Kd.R_mono HO_8.out (fun _ hk => ⟨hk.2, hk.1⟩)⟩, ⟨by (with_reducible repeat (first | apply Kd.R_alloc | apply Kd.R_drewN | apply Kd.R_drew)); exact Kd.R_mono HO_41.out (fun _ hk => ⟨hk.2, hk.1⟩)⟩, ⟨by repeat (first | (with_reducible first | exact HB.out | apply below_alloc | apply pw_below_drewN | apply below_drew1) | exact HB.out)⟩⟩
                              · rw [if_neg c19] at H
                                exact absurd H (by simp)
                            · rw [if_neg c18] at H
                              exact absurd H (by simp)
                          · rw [if_neg c17] at H
                            exact absurd H (by simp)
                        · rw [if_neg c16] at H
                          have c16b0 : decide (x43_3 < (t201.length : Int)) = false := decide_eq_false c16
                          clear c16
                          replace H := Option.bind_eq_some_iff.mp H
                          obtain ⟨t208, A210, H⟩ := H
                          replace H : (if x8_2.length < 8796093022208 then (laws_FnManyMixed.l0 k3 l0 a1 l2 x7_3 (x8_2 ++ [t208]) l0 (l0.length : Int) (wrap64 (x31_2 + 1))) else (none)) = some r := H
                          have A21 := Aside0.mk A210
                          clear A210
                          by_cases c22 : x8_2.length < 8796093022208
                          · rw [if_pos c22] at H
                            have LMc22 := Aside0.mk c22
                            clear c22
                            obtain ⟨y209, hy209⟩ : ∃ y_ : List ByteArray, y_ = (x8_2 ++ [t208]) := ⟨_, rfl⟩
                            replace H : (laws_FnManyMixed.l0 k3 l0 a1 l2 x7_3 y209 l0 (l0.length : Int) (wrap64 (x31_2 + 1))) = some r := by first | (rw [hy209]; with_reducible exact H) | (have H2_ := (Option.bind_some _ _).symm.trans H; rw [hy209]; with_reducible exact H2_) | (have H2_ := (Option.bind_some _ _).symm.trans H; with_reducible exact H2_) | with_reducible exact H | (rw [hy209]; exact H) | exact H
                            have Ny209 := Aside0.mk hy209
                            clear hy209
                            have H' := Aside0.mk H
                            clear H
                            go_wp2_with (first | ((with_reducible refine gate_callee (f := 16) rfl ?_); refine goesL_ (some 55) rfl rfl Tryd.func16 (by kernel_rfl) rfl #[.int .u8 11, .int .i64 x31_2, .string (rdOf ByteArray.empty l0 x31_2)] rfl (by (try simp only [List.map_toArray, List.map_cons, List.map_nil]); first | done | rfl | (simp only [List.length_drop, List.length_take]; rfl)) ?_; (with_reducible refine (laws_whole.calls k3 11 x31_2 (rdOf ByteArray.empty l0 x31_2) t208 _ A21.out).mono ?_); rintro e w23 ⟨rfl, hb⟩; refine ⟨_, rfl, ?_⟩; have n0_ := Aside0.mk (Kd.R_below (by (with_reducible repeat (first | apply Kd.R_alloc | apply Kd.R_drewN | apply Kd.R_drew)); exact HO_7.out) hb); have n1_ := Aside0.mk (Kd.R_below (by (with_reducible repeat (first | apply Kd.R_alloc | apply Kd.R_drewN | apply Kd.R_drew)); exact HO_8.out) hb); have n2_ := Aside0.mk (Kd.R_below (by (with_reducible repeat (first | apply Kd.R_alloc | apply Kd.R_drewN | apply Kd.R_drew)); exact HO_41.out) hb); have n3_ := Aside0.mk (below_step (by repeat (first | (with_reducible first | exact HB.out | apply below_alloc | apply pw_below_drewN | apply below_drew1) | exact HB.out)) hb); clear HO_7; clear HO_8; clear HO_41; clear HB; have HO_7 := n0_; have HO_8 := n1_; have HO_41 := n2_; have HB := n3_; clear n0_ n1_ n2_ n3_; (try clear hb); (try clear hb2); (try clear hk); (try clear hi)) | ((with_reducible refine gate_builtin (b := .append) (xs := #[.tmp 52, .tmp 56]) rfl ?_); (try (refine gate_guard (by rfl) ?_; dsimp only)); at_builtin; refine Kd.R_append Kd.string (w0 := w) w.heap.size rfl (.tmp 52) (.tmp 56) 24 9 (.string ⟨#[]⟩) 16 rfl Tryd.underlying24 info9 rfl (by decide) (by omega) u8 x8_2 t208 [.string t208] (fun k_ => some k_ ≠ (u7 : Value).ownBlock ∧ some k_ ≠ (.slice Ao15 t201.length co15 : Value).ownBlock) (fun _ => False) rfl rfl ?aP (fun _ hk => hk.elim) ?aF ?aO ?aB ?aS ?aL ?_; (case aP => exact rfl); (case aB => exact (by repeat (first | (with_reducible first | exact HB.out | apply below_alloc | apply pw_below_drewN | apply below_drew1) | exact HB.out))); (case aF => exact (fun k_ hk => ⟨Kd.fresh' (Kd.R_lt (by (with_reducible repeat (first | apply Kd.R_alloc | apply Kd.R_drewN | apply Kd.R_drew)); exact HO_7.out)) k_ hk, Kd.fresh' (Kd.R_lt (by (with_reducible repeat (first | apply Kd.R_alloc | apply Kd.R_drewN | apply Kd.R_drew)); exact HO_41.out)) k_ hk⟩)); (case aO => exact (by (with_reducible repeat (first | apply Kd.R_alloc | apply Kd.R_drewN | apply Kd.R_drew)); exact HO_8.out)); (case aS => exact (below_size (by repeat (first | (with_reducible first | exact HB.out | apply below_alloc | apply pw_below_drewN | apply below_drew1) | exact HB.out)))); (case aL => have := LMc22.out; omega); intro v210 w24 ho hb hg hat; rw [← Ny209.out] at ho; have n0_ := Aside0.mk (Kd.R_after (ok := (fun k_ => some k_ ≠ (.slice Ao15 t201.length co15 : Value).ownBlock)) (by (with_reducible repeat (first | apply Kd.R_alloc | apply Kd.R_drewN | apply Kd.R_drew)); exact Kd.R_mono HO_7.out (fun _ hk => ⟨hk.2, hk.1⟩)) hg hat); have n1_ := Aside0.mk (Kd.R_after (ok := (fun k_ => some k_ ≠ (u7 : Value).ownBlock)) (by (with_reducible repeat (first | apply Kd.R_alloc | apply Kd.R_drewN | apply Kd.R_drew)); exact HO_41.out) hg hat); have n2_ := Aside0.mk (hb); have n3_ := Aside0.mk (ho); clear HO_7; clear HO_41; clear HB; clear HO_8; have HO_7 := n0_; have HO_41 := n1_; have HB := n2_; have HO211 := n3_; clear n0_ n1_ n2_ n3_; clear ho hb hg hat))
                            go_roundg k3
                            case measure => have := HJ3.out; have := HK2.out; have := HK3.out; omega
                            case rel => exact ⟨(x7_3), (y209), (wrap64 (x31_2 + 1)), (by first | rfl | (simp; done) | (simp [*]; done)), H', ⟨by have := HJ3.out; have := HK2.out; have := HK3.out; omega⟩, ⟨by (with_reducible repeat (first | apply Kd.R_alloc | apply Kd.R_drewN | apply Kd.R_drew)); exact Kd.R_mono HO_7.out (fun _ hk => hk.2)⟩, ⟨by (with_reducible repeat (first | apply Kd.R_alloc | apply Kd.R_drewN | apply Kd.R_drew)); exact Kd.R_mono HO211.out (fun _ hk => hk.1)⟩, ⟨by repeat (first | (with_reducible first | exact HB.out | apply below_alloc | apply pw_below_drewN | apply below_drew1) | exact HB.out)⟩⟩
                          · rw [if_neg c22] at H
                            exact absurd H (by simp)
                  · rw [if_neg c12] at H
                    exact absurd H (by simp)
                · rw [if_neg c11] at H
                  exact absurd H (by simp)
              · rw [if_neg c10] at H
                have c10b0 : decide (x31_2 < (l0.length : Int)) = false := decide_eq_false c10
                clear c10
                replace H := Option.bind_eq_some_iff.mp H
                obtain ⟨t212, A250, H⟩ := H
                replace H : (laws_FnManyMixed.l2 k2 l0 t212 x8_2 (t212.length : Int) 0) = some r := H
                have A25 := Aside0.mk A250
                clear A250
                have H' := Aside0.mk H
                clear H
                obtain ⟨Ao26, co26, eo26⟩ := Kd.R_slice HO_7.out
                subst eo26
                go_wp2_with (first | ((with_reducible refine gate_callee (f := 9) rfl ?_); refine goesL_ (some 61) rfl rfl Tryd.func9 (by kernel_rfl) rfl #[.slice Ao26 x7_2.length co26, .slice A2 l2.length c2] rfl (by (try simp only [List.map_toArray, List.map_cons, List.map_nil]); first | done | rfl | (simp only [List.length_drop, List.length_take]; rfl)) ?_; (with_reducible refine (laws_shuffle.calls k2 _ _ x7_2 _ _ l2 t212 _ ?side1 ?side2 ?side3 ?side4 A25.out).mono ?_); (case side1 => repeat (first | exact (Kd.R_reads' HO_7.out).2.2 | (with_reducible refine Kd.C_alloc ?_ _) | (with_reducible refine Kd.C_drewN ?_ _) | (with_reducible refine Kd.C_drew ?_))); (case side2 => exact (Kd.R_reads' HO_7.out).2.1); (case side3 => repeat (first | exact (Kd.C_below HR2.out HB.out) | (with_reducible refine Kd.C_alloc ?_ _) | (with_reducible refine Kd.C_drewN ?_ _) | (with_reducible refine Kd.C_drew ?_))); (case side4 => exact HC2.out); rintro e w27 ⟨v213, rfl, ho0, hb⟩; refine ⟨_, rfl, ?_⟩; have n0_ := Aside0.mk (Kd.R_elder' (by (with_reducible repeat (first | apply Kd.R_alloc | apply Kd.R_drewN | apply Kd.R_drew)); exact HO_7.out) (Kd.R_base ho0) hb); have n1_ := Aside0.mk (Kd.R_elder' (by (with_reducible repeat (first | apply Kd.R_alloc | apply Kd.R_drewN | apply Kd.R_drew)); exact HO_8.out) (Kd.R_base ho0) hb); have n2_ := Aside0.mk (Kd.R_lower (Kd.R_new' (Kd.R_new' ho0 (Kd.R_lt (by (with_reducible repeat (first | apply Kd.R_alloc | apply Kd.R_drewN | apply Kd.R_drew)); exact HO_7.out))) (Kd.R_lt (by (with_reducible repeat (first | apply Kd.R_alloc | apply Kd.R_drewN | apply Kd.R_drew)); exact HO_8.out))) (below_size (by repeat (first | (with_reducible first | exact HB.out | apply below_alloc | apply pw_below_drewN | apply below_drew1) | exact HB.out)))); have n3_ := Aside0.mk (below_step (by repeat (first | (with_reducible first | exact HB.out | apply below_alloc | apply pw_below_drewN | apply below_drew1) | exact HB.out)) hb); clear HO_7; clear HO_8; clear HB; have HO_7 := n0_; have HO_8 := n1_; have HO214 := n2_; have HB := n3_; clear n0_ n1_ n2_ n3_; (try clear hb); (try clear hb2); (try clear hk); (try clear hi); (try clear ho0); obtain ⟨Ao28, co28, eo28⟩ := Kd.R_slice HO214.out; subst eo28))
                go_loopg [64] k2 (fun kq v64 w' => ∃ (x7_3 : List ByteArray) (x64_3 : Int), v64 = .int .i64 x64_3 ∧ Aside0 (laws_FnManyMixed.l2 kq l0 x7_3 x8_2 (t212.length : Int) x64_3 = some r) ∧ Aside0 (kq ≤ k2) ∧ Aside0 (Kd.R Kd.string 9 w' w.heap.size (fun k_ => some k_ ≠ (u8 : Value).ownBlock) (.slice Ao28 t212.length co28) x7_3) ∧ Aside0 (Kd.R Kd.string 9 w' w.heap.size (fun k_ => some k_ ≠ ((.slice Ao28 t212.length co28) : Value).ownBlock) u8 x8_2) ∧ Aside0 (Below w.heap.size w w'))
                case atStart => exact ⟨(t212), (0), (by first | rfl | (simp; done) | (simp [*]; done)), H', ⟨Nat.le_refl _⟩, ⟨by (with_reducible repeat (first | apply Kd.R_alloc | apply Kd.R_drewN | apply Kd.R_drew)); exact Kd.R_mono HO214.out (fun _ hk => hk.2)⟩, ⟨by (with_reducible repeat (first | apply Kd.R_alloc | apply Kd.R_drewN | apply Kd.R_drew)); exact Kd.R_mono HO_8.out (fun _ hk => hk.2)⟩, ⟨by repeat (first | (with_reducible first | exact HB.out | apply below_alloc | apply pw_below_drewN | apply below_drew1) | exact HB.out)⟩⟩
                case round =>
                  clear H'
                  try clear c1
                  try clear c2
                  try clear p2
                  try clear q2
                  try clear hx2
                  try clear c5
                  try clear c6
                  try clear p6
                  try clear c7
                  try clear c8
                  try clear c9
                  try clear c10
                  try clear c10b0
                  try clear c11
                  try clear c11b0
                  try clear c12
                  try clear c12b0
                  try clear c16
                  try clear c16b0
                  try clear c17
                  try clear c17b0
                  try clear c18
                  try clear c18b0
                  try clear c19
                  try clear c20
                  try clear p20
                  try clear q20
                  try clear hx20
                  try clear c22
                  try clear hx200_0
                  try clear hx204_0
                  try clear p2
                  try clear p200
                  try clear p204
                  try clear p6
                  try clear q2
                  try clear q200
                  try clear q204
                  obtain ⟨x7_3, x64_3, rfl, HA, HK3, HO_7, HO_8, HB⟩ := hrel
                  have hl7_3 := (Kd.R_reads' HO_7.out).1
                  rw [hl7_3] at HO_7
                  (try simp only [hl7_3])
                  (try simp only [hl7_3] at HO_8)
                  cases gk with
                  | zero => exact absurd HA.out (by simp [laws_FnManyMixed.l2])
                  | succ k3 =>
                    have H := HA.out
                    clear HA
                    simp only [laws_FnManyMixed.l2] at H
                    by_cases c29 : x64_3 < (t212.length : Int)
                    · rw [if_pos c29] at H
                      have c29b0 : decide (x64_3 < (t212.length : Int)) = true := decide_eq_true c29
                      clear c29
                      by_cases c30 : 0 ≤ x64_3
                      · rw [if_pos c30] at H
                        have c30b0 : decide (0 ≤ x64_3) = true := decide_eq_true c30
                        clear c30
                        by_cases c31 : x64_3 < (x7_3.length : Int)
                        · rw [if_pos c31] at H
                          have c31b0 : decide (x64_3 < (x7_3.length : Int)) = true := decide_eq_true c31
                          clear c31
                          replace H := Option.bind_eq_some_iff.mp H
                          obtain ⟨t216, A320, H⟩ := H
                          replace H : (laws_FnManyMixed.l2 k3 l0 (x7_3.set (x64_3 : Int).toNat t216) x8_2 (t212.length : Int) (wrap64 (x64_3 + 1))) = some r := H
                          have A32 := Aside0.mk A320
                          clear A320
                          obtain ⟨y217, hy217⟩ : ∃ y_ : List ByteArray, y_ = (x7_3.set (x64_3 : Int).toNat t216) := ⟨_, rfl⟩
                          replace H : (laws_FnManyMixed.l2 k3 l0 y217 x8_2 (t212.length : Int) (wrap64 (x64_3 + 1))) = some r := by first | (rw [hy217]; with_reducible exact H) | (have H2_ := (Option.bind_some _ _).symm.trans H; rw [hy217]; with_reducible exact H2_) | (have H2_ := (Option.bind_some _ _).symm.trans H; with_reducible exact H2_) | with_reducible exact H | (rw [hy217]; exact H) | exact H
                          have Ny217 := Aside0.mk hy217
                          clear hy217
                          have H' := Aside0.mk H
                          clear H
                          have p215 : 0 ≤ (x64_3 : Int) := of_decide_eq_true (by first | (with_reducible assumption) | assumption)
                          have q215 : x64_3 < (x7_3.length : Int) := of_decide_eq_true (by first | (with_reducible assumption) | assumption)
                          obtain ⟨ad215, e215, hx215_0⟩ := Kd.at_string (Kd.R_reads' HO_7.out).2.2 x64_3 p215 q215
                          cases e215
                          replace p215 := eq_true p215
                          replace q215 := eq_true q215
                          go_wp2_with (first | ((with_reducible refine gate_callee (f := 11) rfl ?_); refine goesL_ (some 74) rfl rfl Tryd.func11 (by kernel_rfl) rfl #[.int .i64 x64_3, .string (rdOf ByteArray.empty x7_3 x64_3)] rfl (by (try simp only [List.map_toArray, List.map_cons, List.map_nil]); first | done | rfl | (simp only [List.length_drop, List.length_take]; rfl)) ?_; (with_reducible refine (laws_record.calls k3 x64_3 (rdOf ByteArray.empty x7_3 x64_3) t216 _ A32.out).mono ?_); rintro e w34 ⟨rfl, hb⟩; refine ⟨_, rfl, ?_⟩; have n0_ := Aside0.mk (Kd.R_below (by (with_reducible repeat (first | apply Kd.R_alloc | apply Kd.R_drewN | apply Kd.R_drew)); exact HO_7.out) hb); have n1_ := Aside0.mk (Kd.R_below (by (with_reducible repeat (first | apply Kd.R_alloc | apply Kd.R_drewN | apply Kd.R_drew)); exact HO_8.out) hb); have n2_ := Aside0.mk (below_step (by repeat (first | (with_reducible first | exact HB.out | apply below_alloc | apply pw_below_drewN | apply below_drew1) | exact HB.out)) hb); clear HO_7; clear HO_8; clear HB; have HO_7 := n0_; have HO_8 := n1_; have HB := n2_; clear n0_ n1_ n2_; (try clear hb); (try clear hb2); (try clear hk); (try clear hi); have p33 : 0 ≤ (x64_3 : Int) := of_decide_eq_true (by first | (with_reducible assumption) | assumption); have q33 : (x64_3 : Int) < ((x7_3.length : Int) : Int) := of_decide_eq_true (by first | (with_reducible assumption) | assumption); obtain ⟨go33, co33, eo33, gb33, gl33, cl33, HG33⟩ := Kd.R_form HO_7.out (by omega); (first | cases eo33 | (injection eo33 with ea_ en_ ec_; (first | subst ea_ | (injection ea_ with ea_; subst ea_)); subst ec_; clear en_)); have GB33 := Aside0.mk gb33; have GG33 := Aside0.mk HG33; clear gb33 gl33 HG33; (first | simp only [add_plain] at hx215_0 | skip); obtain ⟨hx33_0, hf33_0⟩ := Kd.R_celln (⟨#[]⟩ : ByteArray) HO_7.out (x64_3 : Int) p33 q33; replace p33 := eq_true p33; replace q33 := eq_true q33; obtain ⟨hy35_, hz35_⟩ := Kd.R_celln (⟨#[]⟩ : ByteArray) HO_7.out (x64_3 : Int) (of_decide_eq_true (by first | (with_reducible assumption) | assumption)) (of_decide_eq_true (by first | (with_reducible assumption) | assumption)); have HP35 := Kd.R_putg HO_7.out (x64_3 : Int) t216) | ((with_reducible refine gate_store (t := 9) (p := 75) rfl ?_); refine store_event (t := 9) (p := 75) (v := ?vo_w36) (w1 := (w34.setCell ⟨go33, (x64_3 : Int).toNat, none⟩ (.string t216))) ?hg ?ho ?hn ?hr ?_; (case ho => rfl); (case hg => rfl); (case hn => rfl); (case hr => first | (go_simp; done) | (go_simp; rfl)); intro w36 hw; have hg : w34.grownBy w36 (some go33) := (by rw [hw]; exact HP35.2); have hp_ : Kd.R Kd.string 9 w36 w.heap.size (fun k_ => some k_ ≠ (u8 : Value).ownBlock) (.slice (some ⟨go33, 0, none⟩) x7_3.length co28) y217 := (by rw [hw, Ny217.out]; exact HP35.1); clear HP35; have n0_ := Aside0.mk (hp_); have n1_ := Aside0.mk (Kd.R_after (v := (.slice (some ⟨go33, 0, none⟩) x7_3.length co28)) (v1 := (.slice (some ⟨go33, 0, none⟩) x7_3.length co28)) (ok := (fun _ => True)) (by (with_reducible repeat (first | apply Kd.R_alloc | apply Kd.R_drewN | apply Kd.R_drew)); exact Kd.R_mono HO_8.out (fun _ hk => ⟨trivial, hk⟩)) hg (.inl rfl)); have n2_ := Aside0.mk ((by rw [hw]; exact below_set (HB.out) GB33.out : Below w.heap.size w w36)); clear HO_7; clear HO_8; clear HB; have HO_7 := n0_; have HO_8 := n1_; have HB := n2_; clear n0_ n1_ n2_; clear hg hw hp_))
                          (try simp only [← hl7_3])
                          go_roundg k3
                          case measure => have := HJ3.out; have := HK2.out; have := HK3.out; omega
                          case rel => exact ⟨(y217), (wrap64 (x64_3 + 1)), (by first | rfl | (simp; done) | (simp [*]; done)), H', ⟨by have := HJ3.out; have := HK2.out; have := HK3.out; omega⟩, ⟨by (try simp only [hl7_3]); (with_reducible repeat (first | apply Kd.R_alloc | apply Kd.R_drewN | apply Kd.R_drew)); exact HO_7.out⟩, ⟨by (try simp only [hl7_3]); (with_reducible repeat (first | apply Kd.R_alloc | apply Kd.R_drewN | apply Kd.R_drew)); exact Kd.R_mono HO_8.out (fun _ hk => hk.2)⟩, ⟨by repeat (first | (with_reducible first | exact HB.out | apply below_alloc | apply pw_below_drewN | apply below_drew1) | exact HB.out)⟩⟩
                        · rw [if_neg c31] at H
                          exact absurd H (by simp)
                      · rw [if_neg c30] at H
                        exact absurd H (by simp)
                    · rw [if_neg c29] at H
                      have c29b0 : decide (x64_3 < (t212.length : Int)) = false := decide_eq_false c29
                      have c29b9_ := c29b0
                      (try rw [hl7_3] at c29b9_)
                      clear c29
                      replace H := Option.bind_eq_some_iff.mp H
                      obtain ⟨t218, A370, H⟩ := H
                      replace H : ((impl_Fragments.f t218).bind fun t221 => ((laws_come.f k3 t218 t221).bind fun bt224 => (if bt224.2 = true then ((laws_texts.f k3 bt224.1 x8_2).bind fun t228 => (some t228)) else (some false)))) = some r := H
                      have A37 := Aside0.mk A370
                      clear A370
                      replace H := Option.bind_eq_some_iff.mp H
                      obtain ⟨t221, A380, H⟩ := H
                      replace H : ((laws_come.f k3 t218 t221).bind fun bt224 => (if bt224.2 = true then ((laws_texts.f k3 bt224.1 x8_2).bind fun t228 => (some t228)) else (some false))) = some r := H
                      have A38 := Aside0.mk A380
                      clear A380
                      replace H := Option.bind_eq_some_iff.mp H
                      obtain ⟨⟨t224, t225⟩, A390, H⟩ := H
                      replace H : (if t225 = true then ((laws_texts.f k3 t224 x8_2).bind fun t228 => (some t228)) else (some false)) = some r := H
                      have A39 := Aside0.mk A390
                      clear A390
                      by_cases c40 : t225 = true
                      · subst c40
                        have H1 : ((laws_texts.f k3 t224 x8_2).bind fun t228 => (some t228)) = some r := by rw [if_pos rfl] at H; exact H
                        clear H
                        have H := H1
                        clear H1
                        replace H := Option.bind_eq_some_iff.mp H
                        obtain ⟨t228, A410, H⟩ := H
                        replace H : (some t228) = some r := H
                        have A41 := Aside0.mk A410
                        clear A410
                        obtain rfl := Option.some.inj H
                        go_wp2_with (first | ((with_reducible refine gate_callee (f := 12) rfl ?_); refine goesL_ (some 81) rfl rfl Tryd.func12 (by kernel_rfl) rfl #[.slice Ao28 x7_3.length co28, .int .i64 (wrap64 ((l0.length : Int) + 1))] rfl (by (try simp only [List.map_toArray, List.map_cons, List.map_nil]); first | done | rfl | (simp only [List.length_drop, List.length_take]; rfl)) ?_; (with_reducible refine (laws_pops.calls k3 _ _ x7_3 (wrap64 ((l0.length : Int) + 1)) t218 _ ?side1 ?side2 A37.out).mono ?_); (case side1 => repeat (first | exact (Kd.R_reads' HO_7.out).2.2 | (with_reducible refine Kd.C_alloc ?_ _) | (with_reducible refine Kd.C_drewN ?_ _) | (with_reducible refine Kd.C_drew ?_))); (case side2 => exact (Kd.R_reads' HO_7.out).2.1); rintro e w42 ⟨v219, rfl, ho0, hb⟩; refine ⟨_, rfl, ?_⟩; have n0_ := Aside0.mk (Kd.R_below (by (with_reducible repeat (first | apply Kd.R_alloc | apply Kd.R_drewN | apply Kd.R_drew)); exact HO_7.out) hb); have n1_ := Aside0.mk (Kd.R_below (by (with_reducible repeat (first | apply Kd.R_alloc | apply Kd.R_drewN | apply Kd.R_drew)); exact HO_8.out) hb); have n2_ := Aside0.mk (Kd.R_lower ho0 (below_size (by repeat (first | (with_reducible first | exact HB.out | apply below_alloc | apply pw_below_drewN | apply below_drew1) | exact HB.out)))); have n3_ := Aside0.mk (below_step (by repeat (first | (with_reducible first | exact HB.out | apply below_alloc | apply pw_below_drewN | apply below_drew1) | exact HB.out)) hb); clear HO_7; clear HO_8; clear HB; have HO_7 := n0_; have HO_8 := n1_; have HO220 := n2_; have HB := n3_; clear n0_ n1_ n2_ n3_; (try clear hb); (try clear hb2); (try clear hk); (try clear hi); (try clear ho0); obtain ⟨Ao43, co43, eo43⟩ := Kd.R_slice HO220.out; subst eo43) | ((with_reducible refine gate_callee (f := 14) rfl ?_); refine goesL_ (some 85) rfl rfl Tryd.func14 (by kernel_rfl) rfl #[.slice Ao43 t218.length co43] rfl (by (try simp only [List.map_toArray, List.map_cons, List.map_nil]); first | done | rfl | (simp only [List.length_drop, List.length_take]; rfl)) ?_; (with_reducible refine (impl_Fragments.calls _ _ t218 t221 _ ?side1 ?side2 A38.out ?sideL).mono ?_); (case side1 => repeat (first | exact (Kd.R_reads' HO220.out).2.2 | (with_reducible refine Kd.C_alloc ?_ _) | (with_reducible refine Kd.C_drewN ?_ _) | (with_reducible refine Kd.C_drew ?_))); (case side2 => exact (Kd.R_reads' HO220.out).2.1); (case sideL => exact HLW.out.below (by repeat (first | (with_reducible first | exact HB.out | apply below_alloc | apply pw_below_drewN | apply below_drew1) | exact HB.out))); rintro e w44 ⟨v222, rfl, ho0, hb⟩; refine ⟨_, rfl, ?_⟩; have n0_ := Aside0.mk (Kd.R_below (by (with_reducible repeat (first | apply Kd.R_alloc | apply Kd.R_drewN | apply Kd.R_drew)); exact HO_7.out) hb); have n1_ := Aside0.mk (Kd.R_below (by (with_reducible repeat (first | apply Kd.R_alloc | apply Kd.R_drewN | apply Kd.R_drew)); exact HO_8.out) hb); have n2_ := Aside0.mk (Kd.R_below (by (with_reducible repeat (first | apply Kd.R_alloc | apply Kd.R_drewN | apply Kd.R_drew)); exact HO220.out) hb); have n3_ := Aside0.mk (Kd.R_lower ho0 (below_size (by repeat (first | (with_reducible first | exact HB.out | apply below_alloc | apply pw_below_drewN | apply below_drew1) | exact HB.out)))); have n4_ := Aside0.mk (below_step (by repeat (first | (with_reducible first | exact HB.out | apply below_alloc | apply pw_below_drewN | apply below_drew1) | exact HB.out)) hb); clear HO_7; clear HO_8; clear HO220; clear HB; have HO_7 := n0_; have HO_8 := n1_; have HO220 := n2_; have HO223 := n3_; have HB := n4_; clear n0_ n1_ n2_ n3_ n4_; (try clear hb); (try clear hb2); (try clear hk); (try clear hi); (try clear ho0); obtain ⟨Ao45, co45, eo45⟩ := Kd.R_slice HO223.out; subst eo45) | ((with_reducible refine gate_callee (f := 13) rfl ?_); refine goesL_ (some 86) rfl rfl Tryd.func13 (by kernel_rfl) rfl #[.slice Ao43 t218.length co43, .slice Ao45 t221.length co45] rfl (by (try simp only [List.map_toArray, List.map_cons, List.map_nil]); first | done | rfl | (simp only [List.length_drop, List.length_take]; rfl)) ?_; (with_reducible refine (laws_come.calls k3 _ _ t218 _ _ t221 t224 true _ ?side1 ?side2 ?side3 ?side4 A39.out).mono ?_); (case side1 => repeat (first | exact (Kd.R_reads' HO220.out).2.2 | (with_reducible refine Kd.C_alloc ?_ _) | (with_reducible refine Kd.C_drewN ?_ _) | (with_reducible refine Kd.C_drew ?_))); (case side2 => exact (Kd.R_reads' HO220.out).2.1); (case side3 => repeat (first | exact (Kd.R_reads' HO223.out).2.2 | (with_reducible refine Kd.C_alloc ?_ _) | (with_reducible refine Kd.C_drewN ?_ _) | (with_reducible refine Kd.C_drew ?_))); (case side4 => exact (Kd.R_reads' HO223.out).2.1); rintro e w46 ⟨v226, rfl, ho0, hb⟩; refine ⟨_, rfl, ?_⟩; have n0_ := Aside0.mk (Kd.R_elder' (by (with_reducible repeat (first | apply Kd.R_alloc | apply Kd.R_drewN | apply Kd.R_drew)); exact HO_7.out) (Kd.R_base ho0) hb); have n1_ := Aside0.mk (Kd.R_elder' (by (with_reducible repeat (first | apply Kd.R_alloc | apply Kd.R_drewN | apply Kd.R_drew)); exact HO_8.out) (Kd.R_base ho0) hb); have n2_ := Aside0.mk (Kd.R_below (by (with_reducible repeat (first | apply Kd.R_alloc | apply Kd.R_drewN | apply Kd.R_drew)); exact HO220.out) hb); have n3_ := Aside0.mk (Kd.R_below (by (with_reducible repeat (first | apply Kd.R_alloc | apply Kd.R_drewN | apply Kd.R_drew)); exact HO223.out) hb); have n4_ := Aside0.mk (Kd.R_lower (Kd.R_new' (Kd.R_new' ho0 (Kd.R_lt (by (with_reducible repeat (first | apply Kd.R_alloc | apply Kd.R_drewN | apply Kd.R_drew)); exact HO_7.out))) (Kd.R_lt (by (with_reducible repeat (first | apply Kd.R_alloc | apply Kd.R_drewN | apply Kd.R_drew)); exact HO_8.out))) (below_size (by repeat (first | (with_reducible first | exact HB.out | apply below_alloc | apply pw_below_drewN | apply below_drew1) | exact HB.out)))); have n5_ := Aside0.mk (below_step (by repeat (first | (with_reducible first | exact HB.out | apply below_alloc | apply pw_below_drewN | apply below_drew1) | exact HB.out)) hb); clear HO_7; clear HO_8; clear HO220; clear HO223; clear HB; have HO_7 := n0_; have HO_8 := n1_; have HO220 := n2_; have HO223 := n3_; have HO227 := n4_; have HB := n5_; clear n0_ n1_ n2_ n3_ n4_ n5_; (try clear hb); (try clear hb2); (try clear hk); (try clear hi); (try clear ho0); obtain ⟨Ao47, co47, eo47⟩ := Kd.R_slice HO227.out; subst eo47; obtain ⟨Ao48, co48, eo48⟩ := Kd.R_slice HO_8.out; subst eo48) | (go_at_call 15; (with_reducible refine (laws_texts.calls k3 _ _ t224 _ _ x8_2 t228 _ ?side1 ?side2 ?side3 ?side4 A41.out).mono ?_); (case side1 => repeat (first | exact (Kd.R_reads' HO227.out).2.2 | (with_reducible refine Kd.C_alloc ?_ _) | (with_reducible refine Kd.C_drewN ?_ _) | (with_reducible refine Kd.C_drew ?_))); (case side2 => exact (Kd.R_reads' HO227.out).2.1); (case side3 => repeat (first | exact (Kd.R_reads' HO_8.out).2.2 | (with_reducible refine Kd.C_alloc ?_ _) | (with_reducible refine Kd.C_drewN ?_ _) | (with_reducible refine Kd.C_drew ?_))); (case side4 => exact (Kd.R_reads' HO_8.out).2.1); rintro e w' ⟨rfl, ⟨nd, rfl⟩⟩))
                        go_ret
                        exact ⟨by first | rfl | (simp [errW_none, errW_some] <;> rfl) | (simp [*, errW_none, errW_some] <;> rfl), by repeat (first | (with_reducible first | exact HB.out | apply below_alloc | apply pw_below_drewN | apply below_drew1) | exact HB.out)⟩
                      · replace c40 := Bool.eq_false_iff.mpr c40
                        subst c40
                        have H1 : (some false) = some r := by rw [if_neg (show ¬ (false = true) by decide)] at H; exact H
                        clear H
                        have H := H1
                        clear H1
                        obtain rfl := Option.some.inj H
                        go_wp2_with (first | ((with_reducible refine gate_callee (f := 12) rfl ?_); refine goesL_ (some 81) rfl rfl Tryd.func12 (by kernel_rfl) rfl #[.slice Ao28 x7_3.length co28, .int .i64 (wrap64 ((l0.length : Int) + 1))] rfl (by (try simp only [List.map_toArray, List.map_cons, List.map_nil]); first | done | rfl | (simp only [List.length_drop, List.length_take]; rfl)) ?_; (with_reducible refine (laws_pops.calls k3 _ _ x7_3 (wrap64 ((l0.length : Int) + 1)) t218 _ ?side1 ?side2 A37.out).mono ?_); (case side1 => repeat (first | exact (Kd.R_reads' HO_7.out).2.2 | (with_reducible refine Kd.C_alloc ?_ _) | (with_reducible refine Kd.C_drewN ?_ _) | (with_reducible refine Kd.C_drew ?_))); (case side2 => exact (Kd.R_reads' HO_7.out).2.1); rintro e w49 ⟨v219, rfl, ho0, hb⟩; refine ⟨_, rfl, ?_⟩; have n0_ := Aside0.mk (Kd.R_below (by (with_reducible repeat (first | apply Kd.R_alloc | apply Kd.R_drewN | apply Kd.R_drew)); exact HO_7.out) hb); have n1_ := Aside0.mk (Kd.R_below (by (with_reducible repeat (first | apply Kd.R_alloc | apply Kd.R_drewN | apply Kd.R_drew)); exact HO_8.out) hb); have n2_ := Aside0.mk (Kd.R_lower ho0 (below_size (by repeat (first | (with_reducible first | exact HB.out | apply below_alloc | apply pw_below_drewN | apply below_drew1) | exact HB.out)))); have n3_ := Aside0.mk (below_step (by repeat (first | (with_reducible first | exact HB.out | apply below_alloc | apply pw_below_drewN | apply below_drew1) | exact HB.out)) hb); clear HO_7; clear HO_8; clear HB; have HO_7 := n0_; have HO_8 := n1_; have HO220 := n2_; have HB := n3_; clear n0_ n1_ n2_ n3_; (try clear hb); (try clear hb2); (try clear hk); (try clear hi); (try clear ho0); obtain ⟨Ao50, co50, eo50⟩ := Kd.R_slice HO220.out; subst eo50) | ((with_reducible refine gate_callee (f := 14) rfl ?_); refine goesL_ (some 85) rfl rfl Tryd.func14 (by kernel_rfl) rfl #[.slice Ao50 t218.length co50] rfl (by (try simp only [List.map_toArray, List.map_cons, List.map_nil]); first | done | rfl | (simp only [List.length_drop, List.length_take]; rfl)) ?_; (with_reducible refine (impl_Fragments.calls _ _ t218 t221 _ ?side1 ?side2 A38.out ?sideL).mono ?_); (case side1 => repeat (first | exact (Kd.R_reads' HO220.out).2.2 | (with_reducible refine Kd.C_alloc ?_ _) | (with_reducible refine Kd.C_drewN ?_ _) | (with_reducible refine Kd.C_drew ?_))); (case side2 => exact (Kd.R_reads' HO220.out).2.1); (case sideL => exact HLW.out.below (by repeat (first | (with_reducible first | exact HB.out | apply below_alloc | apply pw_below_drewN | apply below_drew1) | exact HB.out))); rintro e w51 ⟨v222, rfl, ho0, hb⟩; refine ⟨_, rfl, ?_⟩; have n0_ := Aside0.mk (Kd.R_below (by (with_reducible repeat (first | apply Kd.R_alloc | apply Kd.R_drewN | apply Kd.R_drew)); exact HO_7.out) hb); have n1_ := Aside0.mk (Kd.R_below (by (with_reducible repeat (first | apply Kd.R_alloc | apply Kd.R_drewN | apply Kd.R_drew)); exact HO_8.out) hb); have n2_ := Aside0.mk (Kd.R_below (by (with_reducible repeat (first | apply Kd.R_alloc | apply Kd.R_drewN | apply Kd.R_drew)); exact HO220.out) hb); have n3_ := Aside0.mk (Kd.R_lower ho0 (below_size (by repeat (first | (with_reducible first | exact HB.out | apply below_alloc | apply pw_below_drewN | apply below_drew1) | exact HB.out)))); have n4_ := Aside0.mk (below_step (by repeat (first | (with_reducible first | exact HB.out | apply below_alloc | apply pw_below_drewN | apply below_drew1) | exact HB.out)) hb); clear HO_7; clear HO_8; clear HO220; clear HB; have HO_7 := n0_; have HO_8 := n1_; have HO220 := n2_; have HO223 := n3_; have HB := n4_; clear n0_ n1_ n2_ n3_ n4_; (try clear hb); (try clear hb2); (try clear hk); (try clear hi); (try clear ho0); obtain ⟨Ao52, co52, eo52⟩ := Kd.R_slice HO223.out; subst eo52) | ((with_reducible refine gate_callee (f := 13) rfl ?_); refine goesL_ (some 86) rfl rfl Tryd.func13 (by kernel_rfl) rfl #[.slice Ao50 t218.length co50, .slice Ao52 t221.length co52] rfl (by (try simp only [List.map_toArray, List.map_cons, List.map_nil]); first | done | rfl | (simp only [List.length_drop, List.length_take]; rfl)) ?_; (with_reducible refine (laws_come.calls k3 _ _ t218 _ _ t221 t224 false _ ?side1 ?side2 ?side3 ?side4 A39.out).mono ?_); (case side1 => repeat (first | exact (Kd.R_reads' HO220.out).2.2 | (with_reducible refine Kd.C_alloc ?_ _) | (with_reducible refine Kd.C_drewN ?_ _) | (with_reducible refine Kd.C_drew ?_))); (case side2 => exact (Kd.R_reads' HO220.out).2.1); (case side3 => repeat (first | exact (Kd.R_reads' HO223.out).2.2 | (with_reducible refine Kd.C_alloc ?_ _) | (with_reducible refine Kd.C_drewN ?_ _) | (with_reducible refine Kd.C_drew ?_))); (case side4 => exact (Kd.R_reads' HO223.out).2.1); rintro e w53 ⟨v226, rfl, ho0, hb⟩; refine ⟨_, rfl, ?_⟩; have n0_ := Aside0.mk (Kd.R_elder' (by (with_reducible repeat (first | apply Kd.R_alloc | apply Kd.R_drewN | apply Kd.R_drew)); exact HO_7.out) (Kd.R_base ho0) hb); have n1_ := Aside0.mk (Kd.R_elder' (by (with_reducible repeat (first | apply Kd.R_alloc | apply Kd.R_drewN | apply Kd.R_drew)); exact HO_8.out) (Kd.R_base ho0) hb); have n2_ := Aside0.mk (Kd.R_below (by (with_reducible repeat (first | apply Kd.R_alloc | apply Kd.R_drewN | apply Kd.R_drew)); exact HO220.out) hb); have n3_ := Aside0.mk (Kd.R_below (by (with_reducible repeat (first | apply Kd.R_alloc | apply Kd.R_drewN | apply Kd.R_drew)); exact HO223.out) hb); have n4_ := Aside0.mk (Kd.R_lower (Kd.R_new' (Kd.R_new' ho0 (Kd.R_lt (by (with_reducible repeat (first | apply Kd.R_alloc | apply Kd.R_drewN | apply Kd.R_drew)); exact HO_7.out))) (Kd.R_lt (by (with_reducible repeat (first | apply Kd.R_alloc | apply Kd.R_drewN | apply Kd.R_drew)); exact HO_8.out))) (below_size (by repeat (first | (with_reducible first | exact HB.out | apply below_alloc | apply pw_below_drewN | apply below_drew1) | exact HB.out)))); have n5_ := Aside0.mk (below_step (by repeat (first | (with_reducible first | exact HB.out | apply below_alloc | apply pw_below_drewN | apply below_drew1) | exact HB.out)) hb); clear HO_7; clear HO_8; clear HO220; clear HO223; clear HB; have HO_7 := n0_; have HO_8 := n1_; have HO220 := n2_; have HO223 := n3_; have HO227 := n4_; have HB := n5_; clear n0_ n1_ n2_ n3_ n4_ n5_; (try clear hb); (try clear hb2); (try clear hk); (try clear hi); (try clear ho0)))
                        go_ret
                        exact ⟨by first | rfl | (simp [errW_none, errW_some] <;> rfl) | (simp [*, errW_none, errW_some] <;> rfl), by repeat (first | (with_reducible first | exact HB.out | apply below_alloc | apply pw_below_drewN | apply below_drew1) | exact HB.out)⟩
        · replace c9 := Bool.eq_false_iff.mpr c9
          subst c9
          have H1 : (some true) = some r := by rw [if_neg (show ¬ (false = true) by decide)] at H; exact H
          clear H
          have H := H1
          clear H1
          obtain rfl := Option.some.inj H
          go_wp2_with (first | ((with_reducible refine gate_callee (f := 8) rfl ?_); refine goesL_ (some 27) rfl rfl Tryd.func8 (by kernel_rfl) rfl #[.slice A0 l0.length c0, .int .i64 a1] rfl (by (try simp only [List.map_toArray, List.map_cons, List.map_nil]); first | done | rfl | (simp only [List.length_drop, List.length_take]; rfl)) ?_; (with_reducible refine (laws_light.calls kj3 _ _ l0 a1 false _ ?side1 ?side2 A8.out).mono ?_); (case side1 => repeat (first | exact (Kd.C_below HR0.out HB.out) | (with_reducible refine Kd.C_alloc ?_ _) | (with_reducible refine Kd.C_drewN ?_ _) | (with_reducible refine Kd.C_drew ?_))); (case side2 => exact HC0.out); rintro e w' ⟨rfl, ⟨nd, rfl⟩⟩; refine ⟨_, rfl, ?_⟩))
          go_ret
          exact ⟨by first | rfl | (simp [errW_none, errW_some] <;> rfl) | (simp [*, errW_none, errW_some] <;> rfl), by repeat (first | (with_reducible first | exact HB.out | apply below_alloc | apply pw_below_drewN | apply below_drew1) | exact HB.out)⟩

end Go.Proofs.YtjflijebcpcbmaaDoor.G
