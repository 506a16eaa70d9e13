/- What is proved: Go functions answer as the Lean functions of this text (written by a program of this session over the print of the kit). Conditions: those in the hypotheses. -/
import Derived.Test.YtjflijebcpcbmaaDoorG0
import Derived.Test.YtjflijebcpcbmaaDoorG1
import Derived.Test.YtjflijebcpcbmaaDoorWGuard
import Derived.Test.YtjflijebcpcbmaaDoorG3
import Derived.Test.YtjflijebcpcbmaaDoorG4
import Derived.Test.YtjflijebcpcbmaaDoorGZ
import Derived.Test.YtjflijebcpcbmaaDoorFrag
namespace Go.Proofs.YtjflijebcpcbmaaDoor.G
open Go.RowKit Go.Proofs.YtjflijebcpcbmaaDoorW.PrintWords Go.Proofs.YtjflijebcpcbmaaDoorW.PrintLast Go.Proofs.YtjflijebcpcbmaaDoorW.PrintMore
attribute [local go_sem] max2_int min2_int max_two min_two max_three min_three max_four min_four   -- for this text's walks alone
set_option linter.unusedVariables false
set_option linter.unusedSimpArgs false

/-! ### laws_FnPopsBetween: function 7 -/
mutual
def laws_FnPopsBetween.l0 : Nat → List ByteArray → Int → List (S45) → List ByteArray → List ByteArray → Int → Int → Option (Bool)
  | 0, _, _, _, _, _, _, _ => none
  | k + 1, x0, x1, x5, x6, x22, x23, x24 => if x24 < x23 then (if 0 ≤ x24 then (if x24 < (x22.length : Int) then ((laws_cutting.f k 11 x24 (rdOf ByteArray.empty x22 x24) x1).bind fun t268 => (laws_FnPopsBetween.l1 k x0 x1 x5 x6 x24 (rdOf ByteArray.empty x22 x24) x22 x23 x24 t268 (t268.length : Int) 0)) else (none)) else (none)) else (laws_FnPopsBetween.l2 k x5 x6 (x0.length : Int) 0)
def laws_FnPopsBetween.l1 : Nat → List ByteArray → Int → List (S45) → List ByteArray → Int → ByteArray → List ByteArray → Int → Int → List ByteArray → Int → Int → Option (Bool)
  | 0, _, _, _, _, _, _, _, _, _, _, _, _ => none
  | k + 1, x0, x1, x5, x6, x7, x8, x22, x23, x24, x33, x34, x35 => if x35 < x34 then (if 0 ≤ x35 then (if x35 < (x33.length : Int) then (if x35 > 0 then (if x5.length < 5864062014805 then ((some (x5 ++ [(⟨false, (⟨#[]⟩ : ByteArray)⟩ : S45)] : List (S45))).bind fun y272 => ((laws_record.f k x35 (rdOf ByteArray.empty x33 x35)).bind fun t275 => (if y272.length < 5864062014805 then (laws_FnPopsBetween.l1 k x0 x1 (y272 ++ [(⟨true, t275⟩ : S45)]) x6 x7 x8 x22 x23 x24 x33 x34 (wrap64 (x35 + 1))) else (none)))) else (none)) else ((laws_record.f k x35 (rdOf ByteArray.empty x33 x35)).bind fun t279 => (if x5.length < 5864062014805 then (laws_FnPopsBetween.l1 k x0 x1 (x5 ++ [(⟨true, t279⟩ : S45)]) x6 x7 x8 x22 x23 x24 x33 x34 (wrap64 (x35 + 1))) else (none)))) else (none)) else (none)) else ((laws_whole.f k 11 x7 x8).bind fun t283 => (if x6.length < 8796093022208 then (laws_FnPopsBetween.l0 k x0 x1 x5 (x6 ++ [t283]) x22 x23 (wrap64 (x24 + 1))) else (none)))
def laws_FnPopsBetween.l2 : Nat → List (S45) → List ByteArray → Int → Int → Option (Bool)
  | 0, _, _, _, _ => none
  | k + 1, x5, x6, x62, x63 => if x63 < x62 then (if x5.length < 5864062014805 then (laws_FnPopsBetween.l2 k (x5 ++ [(⟨false, (⟨#[]⟩ : ByteArray)⟩ : S45)]) x6 x62 (wrap64 (x63 + 1))) else (none)) else ((impl_Fragments.f x5).bind fun t290 => ((laws_come.f k x5 t290).bind fun bt293 => (if bt293.2 = true then ((laws_texts.f k bt293.1 x6).bind fun t297 => (if t297 = true then (if 0 ≤ (wrap64 ((t290.length : Int) - 1)) then (if (wrap64 ((t290.length : Int) - 1)) < (t290.length : Int) then (some (((rd_T40 t290 (wrap64 ((t290.length : Int) - 1))).f6) == 0)) else (none)) else (none)) else (some false))) else (some false))))
end
def laws_FnPopsBetween.f (k : Nat) (l0 : List ByteArray) (a1 : Int) : Option (Bool) := (laws_zzFits2.f k l0).bind fun t265 => (if t265 = true then ((laws_light.f k l0 a1).bind fun t266 => (if t266 = true then (laws_FnPopsBetween.l0 k l0 a1 ([] : List (S45)) ([] : List ByteArray) l0 (l0.length : Int) 0) else (some true))) else (some true))
theorem laws_FnPopsBetween.mono_l : ∀ k, (∀ y0 y1 y2 y3 y4 y5 y6, LeO (laws_FnPopsBetween.l0 k y0 y1 y2 y3 y4 y5 y6) (laws_FnPopsBetween.l0 (k + 1) y0 y1 y2 y3 y4 y5 y6)) ∧ (∀ y0 y1 y2 y3 y4 y5 y6 y7 y8 y9 y10 y11, LeO (laws_FnPopsBetween.l1 k y0 y1 y2 y3 y4 y5 y6 y7 y8 y9 y10 y11) (laws_FnPopsBetween.l1 (k + 1) y0 y1 y2 y3 y4 y5 y6 y7 y8 y9 y10 y11)) ∧ (∀ y0 y1 y2 y3, LeO (laws_FnPopsBetween.l2 k y0 y1 y2 y3) (laws_FnPopsBetween.l2 (k + 1) y0 y1 y2 y3))
  | 0 => ⟨fun _ _ _ _ _ _ _ r h => by simp [laws_FnPopsBetween.l0] at h, fun _ _ _ _ _ _ _ _ _ _ _ _ r h => by simp [laws_FnPopsBetween.l1] at h, fun _ _ _ _ r h => by simp [laws_FnPopsBetween.l2] at h⟩
  | k + 1 => by
    obtain ⟨ih0, ih1, ih2⟩ := laws_FnPopsBetween.mono_l k
    refine ⟨?_, ?_, ?_⟩
    · intro y0 y1 y2 y3 y4 y5 y6
      unfold laws_FnPopsBetween.l0
      repeat' first
      | (with_reducible exact ih0 _ _ _ _ _ _ _)
      | (with_reducible exact ih1 _ _ _ _ _ _ _ _ _ _ _ _)
      | (with_reducible exact ih2 _ _ _ _)
      | (with_reducible exact laws_come.mono _ _ _)
      | (with_reducible exact laws_cutting.mono _ _ _ _ _)
      | (with_reducible exact laws_light.mono _ _ _)
      | (with_reducible exact laws_record.mono _ _ _)
      | (with_reducible exact laws_texts.mono _ _ _)
      | (with_reducible exact laws_whole.mono _ _ _ _)
      | (with_reducible exact laws_zzFits2.mono _ _)
      | (with_reducible exact LeO.refl _)
      | (with_reducible exact LeO.none _)
      | (with_reducible refine LeO.ite ?_ ?_)
      | (with_reducible refine LeO.bind ?_ (fun _ => ?_))
      | exact ih0 _ _ _ _ _ _ _
      | exact ih1 _ _ _ _ _ _ _ _ _ _ _ _
      | exact ih2 _ _ _ _
      | exact laws_come.mono _ _ _
      | exact laws_cutting.mono _ _ _ _ _
      | exact laws_light.mono _ _ _
      | exact laws_record.mono _ _ _
      | exact laws_texts.mono _ _ _
      | exact laws_whole.mono _ _ _ _
      | exact laws_zzFits2.mono _ _
      | exact LeO.none _
      | refine LeO.ite ?_ ?_
      | refine LeO.bind ?_ (fun _ => ?_)
    · intro y0 y1 y2 y3 y4 y5 y6 y7 y8 y9 y10 y11
      unfold laws_FnPopsBetween.l1
      repeat' first
      | (with_reducible exact ih0 _ _ _ _ _ _ _)
      | (with_reducible exact ih1 _ _ _ _ _ _ _ _ _ _ _ _)
      | (with_reducible exact ih2 _ _ _ _)
      | (with_reducible exact laws_come.mono _ _ _)
      | (with_reducible exact laws_cutting.mono _ _ _ _ _)
      | (with_reducible exact laws_light.mono _ _ _)
      | (with_reducible exact laws_record.mono _ _ _)
      | (with_reducible exact laws_texts.mono _ _ _)
      | (with_reducible exact laws_whole.mono _ _ _ _)
      | (with_reducible exact laws_zzFits2.mono _ _)
      | (with_reducible exact LeO.refl _)
      | (with_reducible exact LeO.none _)
      | (with_reducible refine LeO.ite ?_ ?_)
      | (with_reducible refine LeO.bind ?_ (fun _ => ?_))
      | exact ih0 _ _ _ _ _ _ _
      | exact ih1 _ _ _ _ _ _ _ _ _ _ _ _
      | exact ih2 _ _ _ _
      | exact laws_come.mono _ _ _
      | exact laws_cutting.mono _ _ _ _ _
      | exact laws_light.mono _ _ _
      | exact laws_record.mono _ _ _
      | exact laws_texts.mono _ _ _
      | exact laws_whole.mono _ _ _ _
      | exact laws_zzFits2.mono _ _
      | exact LeO.none _
      | refine LeO.ite ?_ ?_
      | refine LeO.bind ?_ (fun _ => ?_)
    · intro y0 y1 y2 y3
      unfold laws_FnPopsBetween.l2
      repeat' first
      | (with_reducible exact ih0 _ _ _ _ _ _ _)
      | (with_reducible exact ih1 _ _ _ _ _ _ _ _ _ _ _ _)
      | (with_reducible exact ih2 _ _ _ _)
      | (with_reducible exact laws_come.mono _ _ _)
      | (with_reducible exact laws_cutting.mono _ _ _ _ _)
      | (with_reducible exact laws_light.mono _ _ _)
      | (with_reducible exact laws_record.mono _ _ _)
      | (with_reducible exact laws_texts.mono _ _ _)
      | (with_reducible exact laws_whole.mono _ _ _ _)
      | (with_reducible exact laws_zzFits2.mono _ _)
      | (with_reducible exact LeO.refl _)
      | (with_reducible exact LeO.none _)
      | (with_reducible refine LeO.ite ?_ ?_)
      | (with_reducible refine LeO.bind ?_ (fun _ => ?_))
      | exact ih0 _ _ _ _ _ _ _
      | exact ih1 _ _ _ _ _ _ _ _ _ _ _ _
      | exact ih2 _ _ _ _
      | exact laws_come.mono _ _ _
      | exact laws_cutting.mono _ _ _ _ _
      | exact laws_light.mono _ _ _
      | exact laws_record.mono _ _ _
      | exact laws_texts.mono _ _ _
      | exact laws_whole.mono _ _ _ _
      | exact laws_zzFits2.mono _ _
      | exact LeO.none _
      | refine LeO.ite ?_ ?_
      | refine LeO.bind ?_ (fun _ => ?_)
theorem laws_FnPopsBetween.mono : ∀ a0 a1 k, LeO (laws_FnPopsBetween.f k a0 a1) (laws_FnPopsBetween.f (k + 1) a0 a1) := by
  intro a0 a1 k
  obtain ⟨ih0, ih1, ih2⟩ := laws_FnPopsBetween.mono_l k
  unfold laws_FnPopsBetween.f
  repeat' first
      | (with_reducible exact ih0 _ _ _ _ _ _ _)
      | (with_reducible exact ih1 _ _ _ _ _ _ _ _ _ _ _ _)
      | (with_reducible exact ih2 _ _ _ _)
      | (with_reducible exact laws_come.mono _ _ _)
      | (with_reducible exact laws_cutting.mono _ _ _ _ _)
      | (with_reducible exact laws_light.mono _ _ _)
      | (with_reducible exact laws_record.mono _ _ _)
      | (with_reducible exact laws_texts.mono _ _ _)
      | (with_reducible exact laws_whole.mono _ _ _ _)
      | (with_reducible exact laws_zzFits2.mono _ _)
      | (with_reducible exact LeO.refl _)
      | (with_reducible exact LeO.none _)
      | (with_reducible refine LeO.ite ?_ ?_)
      | (with_reducible refine LeO.bind ?_ (fun _ => ?_))
      | exact ih0 _ _ _ _ _ _ _
      | exact ih1 _ _ _ _ _ _ _ _ _ _ _ _
      | exact ih2 _ _ _ _
      | exact laws_come.mono _ _ _
      | exact laws_cutting.mono _ _ _ _ _
      | exact laws_light.mono _ _ _
      | exact laws_record.mono _ _ _
      | exact laws_texts.mono _ _ _
      | exact laws_whole.mono _ _ _ _
      | exact laws_zzFits2.mono _ _
      | exact LeO.none _
      | refine LeO.ite ?_ ?_
      | refine LeO.bind ?_ (fun _ => ?_)
set_option maxHeartbeats 8000000 in
set_option maxRecDepth 100000 in
theorem laws_FnPopsBetween.calls (k : Nat) (A0 : Option Addr) (c0 : Nat) (l0 : List ByteArray) (a1 : Int) (r : Bool) (w : World) (hr0 : Kd.C Kd.string w A0 l0.length l0) (hc0 : l0.length ≤ c0) (h : laws_FnPopsBetween.f k l0 a1 = some r) (HL : Laid w) :
    Calls Tryd.prog 7 #[.slice A0 l0.length c0, .int .i64 a1] w fun e w' => e = .returned (.bool r) ∧ Below w.heap.size w w' := by
  have hu45 := Tryd.underlying45
  have HR0 := Aside0.mk hr0
  have HC0 := Aside0.mk hc0
  clear hr0 hc0
  have HB := Aside0.mk (Below.refl w.heap.size w)
  have HLW := Aside0.mk HL
  clear HL
  have H : ((laws_zzFits2.f k l0).bind fun t265 => (if t265 = true then ((laws_light.f k l0 a1).bind fun t266 => (if t266 = true then (laws_FnPopsBetween.l0 k l0 a1 ([] : List (S45)) ([] : List ByteArray) l0 (l0.length : Int) 0) else (some true))) else (some true))) = some r := h
  clear h
  replace H := Option.bind_eq_some_iff.mp H
  obtain ⟨t265, A30, H⟩ := H
  replace H : (if t265 = true then ((laws_light.f k l0 a1).bind fun t266 => (if t266 = true then (laws_FnPopsBetween.l0 k l0 a1 ([] : List (S45)) ([] : List ByteArray) l0 (l0.length : Int) 0) else (some true))) else (some true)) = some r := H
  have A3 := Aside0.mk A30
  clear A30
  by_cases c4 : t265 = true
  · subst c4
    have H1 : ((laws_light.f k l0 a1).bind fun t266 => (if t266 = true then (laws_FnPopsBetween.l0 k l0 a1 ([] : List (S45)) ([] : List ByteArray) l0 (l0.length : Int) 0) else (some true))) = some r := by rw [if_pos rfl] at H; exact H
    clear H
    have H := H1
    clear H1
    replace H := Option.bind_eq_some_iff.mp H
    obtain ⟨t266, A50, H⟩ := H
    replace H : (if t266 = true then (laws_FnPopsBetween.l0 k l0 a1 ([] : List (S45)) ([] : List ByteArray) l0 (l0.length : Int) 0) else (some true)) = some r := H
    have A5 := Aside0.mk A50
    clear A50
    by_cases c6 : t266 = true
    · subst c6
      have H1 : (laws_FnPopsBetween.l0 k l0 a1 ([] : List (S45)) ([] : List ByteArray) l0 (l0.length : Int) 0) = some r := by rw [if_pos rfl] at H; exact H
      clear H
      have H := H1
      clear H1
      have H' := Aside0.mk H
      clear H
      go_enter Tryd.func7, Tryd.ntmps7
      go_wp2_with (first | ((with_reducible refine gate_callee (f := 20) rfl ?_); refine goesL_ (some 16) rfl rfl Tryd.func20 (by kernel_rfl) rfl #[.slice A0 l0.length c0] rfl (by (try simp only [List.map_toArray, List.map_cons, List.map_nil]); first | done | rfl | (simp only [List.length_drop, List.length_take]; rfl)) ?_; (with_reducible refine (laws_zzFits2.calls k _ _ l0 true _ ?side1 ?side2 A3.out).mono ?_); (case side1 => repeat (first | exact HR0.out | (with_reducible refine Kd.C_alloc ?_ _) | (with_reducible refine Kd.C_drewN ?_ _) | (with_reducible refine Kd.C_drew ?_))); (case side2 => exact HC0.out); rintro e w' ⟨rfl, ⟨nd, rfl⟩⟩; refine ⟨_, rfl, ?_⟩) | ((with_reducible refine gate_callee (f := 8) rfl ?_); refine goesL_ (some 20) rfl rfl Tryd.func8 (by kernel_rfl) rfl #[.slice A0 l0.length c0, .int .i64 a1] rfl (by (try simp only [List.map_toArray, List.map_cons, List.map_nil]); first | done | rfl | (simp only [List.length_drop, List.length_take]; rfl)) ?_; (with_reducible refine (laws_light.calls k _ _ l0 a1 true _ ?side1 ?side2 A5.out).mono ?_); (case side1 => repeat (first | exact HR0.out | (with_reducible refine Kd.C_alloc ?_ _) | (with_reducible refine Kd.C_drewN ?_ _) | (with_reducible refine Kd.C_drew ?_))); (case side2 => exact HC0.out); rintro e w' ⟨rfl, ⟨nd, rfl⟩⟩; refine ⟨_, rfl, ?_⟩))
      go_loopg [5, 6, 24] k (fun kq v5 v6 v24 w' => ∃ (x5_1 : List (S45)) (x6_1 : List ByteArray) (x24_1 : Int), v24 = .int .i64 x24_1 ∧ Aside0 (laws_FnPopsBetween.l0 kq l0 a1 x5_1 x6_1 l0 (l0.length : Int) x24_1 = some r) ∧ Aside0 (kq ≤ k) ∧ Aside0 (Kd.R k45 45 w' w.heap.size (fun _ => True) v5 x5_1) ∧ Aside0 (Kd.R Kd.string 9 w' w.heap.size (fun _ => True) v6 x6_1) ∧ Aside0 (Below w.heap.size w w'))
      case atStart => exact ⟨(([] : List (S45))), (([] : List ByteArray)), (0), (by first | rfl | (simp; done) | (simp [*]; done)), H', ⟨Nat.le_refl _⟩, ⟨by first | exact Kd.R_nil _ _ _ _ _ | exact Kd.N_nil _ _ _ _ _ | exact Kd.V_nil _ _ _ _ _ | exact Kd.Q_nil _ _ _ _ _ | exact Kd.S_nil _ _ _ _ _⟩, ⟨by first | exact Kd.R_nil _ _ _ _ _ | exact Kd.N_nil _ _ _ _ _ | exact Kd.V_nil _ _ _ _ _ | exact Kd.Q_nil _ _ _ _ _ | exact Kd.S_nil _ _ _ _ _⟩, ⟨by repeat (first | (with_reducible first | exact HB.out | apply below_alloc | apply pw_below_drewN | apply below_drew1) | exact HB.out)⟩⟩
      case round =>
        clear H'
        try clear c2
        try clear p2
        try clear c4
        try clear c6
        obtain ⟨x5_1, x6_1, x24_1, rfl, HA, HK1, HO_5, HO_6, HB⟩ := hrel
        cases gk with
        | zero => exact absurd HA.out (by simp [laws_FnPopsBetween.l0])
        | succ k1 =>
          have H := HA.out
          clear HA
          simp only [laws_FnPopsBetween.l0] at H
          by_cases c7 : x24_1 < (l0.length : Int)
          · rw [if_pos c7] at H
            have c7b0 : decide (x24_1 < (l0.length : Int)) = true := decide_eq_true c7
            clear c7
            by_cases c8 : 0 ≤ x24_1
            · rw [if_pos c8] at H
              have c8b0 : decide (0 ≤ x24_1) = true := decide_eq_true c8
              clear c8
              by_cases c9 : x24_1 < (l0.length : Int)
              · rw [if_pos c9] at H
                have c9b0 : decide (x24_1 < (l0.length : Int)) = true := decide_eq_true c9
                clear c9
                replace H := Option.bind_eq_some_iff.mp H
                obtain ⟨t268, A100, H⟩ := H
                replace H : (laws_FnPopsBetween.l1 k1 l0 a1 x5_1 x6_1 x24_1 (rdOf ByteArray.empty l0 x24_1) l0 (l0.length : Int) x24_1 t268 (t268.length : Int) 0) = some r := H
                have A10 := Aside0.mk A100
                clear A100
                have H' := Aside0.mk H
                clear H
                have p267 : 0 ≤ (x24_1 : Int) := of_decide_eq_true (by first | (with_reducible assumption) | assumption)
                have q267 : x24_1 < (l0.length : Int) := of_decide_eq_true (by first | (with_reducible assumption) | assumption)
                obtain ⟨ad267, e267, hx267_0⟩ := Kd.at_string HR0.out x24_1 p267 q267
                cases e267
                replace hx267_0 := (HB.out.cell (World.block_lt_of_cell? w _ hx267_0)).trans hx267_0
                replace p267 := eq_true p267
                replace q267 := eq_true q267
                go_wp2_with (first | ((with_reducible refine gate_callee (f := 10) rfl ?_); refine goesL_ (some 32) rfl rfl Tryd.func10 (by kernel_rfl) rfl #[.int .u8 11, .int .i64 x24_1, .string (rdOf ByteArray.empty l0 x24_1), .int .i64 a1] rfl (by (try simp only [List.map_toArray, List.map_cons, List.map_nil]); first | done | rfl | (simp only [List.length_drop, List.length_take]; rfl)) ?_; (with_reducible refine (laws_cutting.calls k1 11 x24_1 (rdOf ByteArray.empty l0 x24_1) a1 t268 _ A10.out).mono ?_); rintro e w11 ⟨v269, rfl, ho0, hb⟩; refine ⟨_, rfl, ?_⟩; have n0_ := Aside0.mk (Kd.R_below (by (with_reducible repeat (first | apply Kd.R_alloc | apply Kd.R_drewN | apply Kd.R_drew)); exact HO_5.out) hb); have n1_ := Aside0.mk (Kd.R_elder' (by (with_reducible repeat (first | apply Kd.R_alloc | apply Kd.R_drewN | apply Kd.R_drew)); exact HO_6.out) (Kd.R_base ho0) hb); have n2_ := Aside0.mk (Kd.R_lower (Kd.R_new' ho0 (Kd.R_lt (by (with_reducible repeat (first | apply Kd.R_alloc | apply Kd.R_drewN | apply Kd.R_drew)); exact HO_6.out))) (below_size (by repeat (first | (with_reducible first | exact HB.out | apply below_alloc | apply pw_below_drewN | apply below_drew1) | exact HB.out)))); have n3_ := Aside0.mk (below_step (by repeat (first | (with_reducible first | exact HB.out | apply below_alloc | apply pw_below_drewN | apply below_drew1) | exact HB.out)) hb); clear HO_5; clear HO_6; clear HB; have HO_5 := n0_; have HO_6 := n1_; have HO270 := n2_; have HB := n3_; clear n0_ n1_ n2_ n3_; (try clear hb); (try clear hb2); (try clear hk); (try clear hi); (try clear ho0); obtain ⟨Ao12, co12, eo12⟩ := Kd.R_slice HO270.out; subst eo12))
                go_loopg [5, 35] k1 (fun kq v5 v35 w' => ∃ (x5_2 : List (S45)) (x35_2 : Int), v35 = .int .i64 x35_2 ∧ Aside0 (laws_FnPopsBetween.l1 kq l0 a1 x5_2 x6_1 x24_1 (rdOf ByteArray.empty l0 x24_1) l0 (l0.length : Int) x24_1 t268 (t268.length : Int) x35_2 = some r) ∧ Aside0 (kq ≤ k1) ∧ Aside0 (Kd.R k45 45 w' w.heap.size (fun _ => True) v5 x5_2) ∧ Aside0 (Kd.R Kd.string 9 w' w.heap.size (fun k_ => some k_ ≠ ((.slice Ao12 t268.length co12) : Value).ownBlock) u6 x6_1) ∧ Aside0 (Kd.R Kd.string 9 w' w.heap.size (fun k_ => some k_ ≠ (u6 : Value).ownBlock) (.slice Ao12 t268.length co12) t268) ∧ Aside0 (Below w.heap.size w w'))
                case atStart => exact ⟨(x5_1), (0), (by first | rfl | (simp; done) | (simp [*]; done)), H', ⟨Nat.le_refl _⟩, ⟨by (with_reducible repeat (first | apply Kd.R_alloc | apply Kd.R_drewN | apply Kd.R_drew)); exact HO_5.out⟩, ⟨by (with_reducible repeat (first | apply Kd.R_alloc | apply Kd.R_drewN | apply Kd.R_drew)); exact Kd.R_mono HO_6.out (fun _ hk => hk.2)⟩, ⟨by (with_reducible repeat (first | apply Kd.R_alloc | apply Kd.R_drewN | apply Kd.R_drew)); exact Kd.R_mono HO270.out (fun _ hk => hk.2)⟩, ⟨by repeat (first | (with_reducible first | exact HB.out | apply below_alloc | apply pw_below_drewN | apply below_drew1) | exact HB.out)⟩⟩
                case round =>
                  clear H'
                  try clear c1
                  try clear c2
                  try clear p2
                  try clear q2
                  try clear hx2
                  try clear c4
                  try clear c6
                  try clear c7
                  try clear c7b0
                  try clear c8
                  try clear c8b0
                  try clear c9
                  try clear c9b0
                  try clear c10
                  try clear hx267_0
                  try clear p2
                  try clear p267
                  try clear q267
                  obtain ⟨x5_2, x35_2, rfl, HA, HK2, HO_5, HO_6, HO_33, HB⟩ := hrel
                  cases gk with
                  | zero => exact absurd HA.out (by simp [laws_FnPopsBetween.l1])
                  | succ k2 =>
                    have H := HA.out
                    clear HA
                    simp only [laws_FnPopsBetween.l1] at H
                    by_cases c13 : x35_2 < (t268.length : Int)
                    · rw [if_pos c13] at H
                      have c13b0 : decide (x35_2 < (t268.length : Int)) = true := decide_eq_true c13
                      clear c13
                      by_cases c14 : 0 ≤ x35_2
                      · rw [if_pos c14] at H
                        have c14b0 : decide (0 ≤ x35_2) = true := decide_eq_true c14
                        clear c14
                        by_cases c15 : x35_2 < (t268.length : Int)
                        · rw [if_pos c15] at H
                          have c15b0 : decide (x35_2 < (t268.length : Int)) = true := decide_eq_true c15
                          clear c15
                          by_cases c16 : x35_2 > 0
                          · rw [if_pos c16] at H
                            have c16b0 : decide (0 < x35_2) = true := decide_eq_true c16
                            clear c16
                            by_cases c17 : x5_2.length < 5864062014805
                            · rw [if_pos c17] at H
                              have LMc17 := Aside0.mk c17
                              clear c17
                              obtain ⟨y272, hy272⟩ : ∃ y_ : List (S45), y_ = (x5_2 ++ [(⟨false, (⟨#[]⟩ : ByteArray)⟩ : S45)]) := ⟨_, rfl⟩
                              replace H : ((laws_record.f k2 x35_2 (rdOf ByteArray.empty t268 x35_2)).bind fun t275 => (if y272.length < 5864062014805 then (laws_FnPopsBetween.l1 k2 l0 a1 (y272 ++ [(⟨true, t275⟩ : S45)]) x6_1 x24_1 (rdOf ByteArray.empty l0 x24_1) l0 (l0.length : Int) x24_1 t268 (t268.length : Int) (wrap64 (x35_2 + 1))) else (none))) = some r := by first | (rw [hy272]; with_reducible exact H) | (have H2_ := (Option.bind_some _ _).symm.trans H; rw [hy272]; with_reducible exact H2_) | (have H2_ := (Option.bind_some _ _).symm.trans H; with_reducible exact H2_) | with_reducible exact H | (rw [hy272]; exact H) | exact H
                              have Ny272 := Aside0.mk hy272
                              clear hy272
                              replace H := Option.bind_eq_some_iff.mp H
                              obtain ⟨t275, A180, H⟩ := H
                              replace H : (if y272.length < 5864062014805 then (laws_FnPopsBetween.l1 k2 l0 a1 (y272 ++ [(⟨true, t275⟩ : S45)]) x6_1 x24_1 (rdOf ByteArray.empty l0 x24_1) l0 (l0.length : Int) x24_1 t268 (t268.length : Int) (wrap64 (x35_2 + 1))) else (none)) = some r := H
                              have A18 := Aside0.mk A180
                              clear A180
                              by_cases c19 : y272.length < 5864062014805
                              · rw [if_pos c19] at H
                                have LMc19 := Aside0.mk c19
                                clear c19
                                obtain ⟨y276, hy276⟩ : ∃ y_ : List (S45), y_ = (y272 ++ [(⟨true, t275⟩ : S45)]) := ⟨_, rfl⟩
                                replace H : (laws_FnPopsBetween.l1 k2 l0 a1 y276 x6_1 x24_1 (rdOf ByteArray.empty l0 x24_1) l0 (l0.length : Int) x24_1 t268 (t268.length : Int) (wrap64 (x35_2 + 1))) = some r := by first | (rw [hy276]; with_reducible exact H) | (have H2_ := (Option.bind_some _ _).symm.trans H; rw [hy276]; with_reducible exact H2_) | (have H2_ := (Option.bind_some _ _).symm.trans H; with_reducible exact H2_) | with_reducible exact H | (rw [hy276]; exact H) | exact H
                                have Ny276 := Aside0.mk hy276
                                clear hy276
                                have H' := Aside0.mk H
                                clear H
                                have p271 : 0 ≤ (x35_2 : Int) := of_decide_eq_true (by first | (with_reducible assumption) | assumption)
                                have q271 : x35_2 < (t268.length : Int) := of_decide_eq_true (by first | (with_reducible assumption) | assumption)
                                obtain ⟨ad271, e271, hx271_0⟩ := Kd.at_string (Kd.R_reads' HO_33.out).2.2 x35_2 p271 q271
                                cases e271
                                replace p271 := eq_true p271
                                replace q271 := eq_true q271
                                go_wp2_with (first | ((with_reducible refine gate_builtin (b := .append) (xs := #[.tmp 42, .tmp 44]) rfl ?_); (try (refine gate_guard (by rfl) ?_; dsimp only)); at_builtin; refine Kd.R_append k45 (w0 := w) w.heap.size rfl (.tmp 42) (.tmp 44) 28 45 (.agg #[(.bool false), (.string ⟨#[]⟩)]) 24 rfl Tryd.underlying28 info45 rfl (by decide) (by omega) u5 x5_2 (⟨false, (⟨#[]⟩ : ByteArray)⟩ : S45) [.bool false, .string (⟨#[]⟩ : ByteArray)] (fun _ => True) (fun _ => False) rfl rfl ?aP (fun _ hk => hk.elim) ?aF ?aO ?aB ?aS ?aL ?_; (case aP => exact k45_mkM _ _ _ (⟨false, (⟨#[]⟩ : ByteArray)⟩ : S45)); (case aB => exact (by repeat (first | (with_reducible first | exact HB.out | apply below_alloc | apply pw_below_drewN | apply below_drew1) | exact HB.out))); (case aF => exact (fun _ _ => trivial)); (case aO => exact (by (with_reducible repeat (first | apply Kd.R_alloc | apply Kd.R_drewN | apply Kd.R_drew)); exact HO_5.out)); (case aS => exact (below_size (by repeat (first | (with_reducible first | exact HB.out | apply below_alloc | apply pw_below_drewN | apply below_drew1) | exact HB.out)))); (case aL => have := LMc17.out; omega); intro v273 w20 ho hb hg hat; rw [← Ny272.out] at ho; have n0_ := Aside0.mk (Kd.R_over' (by (with_reducible repeat (first | apply Kd.R_alloc | apply Kd.R_drewN | apply Kd.R_drew)); exact HO_6.out) (Kd.R_typed (by (with_reducible repeat (first | apply Kd.R_alloc | apply Kd.R_drewN | apply Kd.R_drew)); exact HO_5.out)) (by decide) hg); have n1_ := Aside0.mk (Kd.R_over' (by (with_reducible repeat (first | apply Kd.R_alloc | apply Kd.R_drewN | apply Kd.R_drew)); exact HO_33.out) (Kd.R_typed (by (with_reducible repeat (first | apply Kd.R_alloc | apply Kd.R_drewN | apply Kd.R_drew)); exact HO_5.out)) (by decide) hg); have n2_ := Aside0.mk (hb); have n3_ := Aside0.mk (ho); clear HO_6; clear HO_33; clear HB; clear HO_5; have HO_6 := n0_; have HO_33 := n1_; have HB := n2_; have HO274 := n3_; clear n0_ n1_ n2_ n3_; clear ho hb hg hat) | ((with_reducible refine gate_callee (f := 11) rfl ?_); refine goesL_ (some 49) rfl rfl Tryd.func11 (by kernel_rfl) rfl #[.int .i64 x35_2, .string (rdOf ByteArray.empty t268 x35_2)] rfl (by (try simp only [List.map_toArray, List.map_cons, List.map_nil]); first | done | rfl | (simp only [List.length_drop, List.length_take]; rfl)) ?_; (with_reducible refine (laws_record.calls k2 x35_2 (rdOf ByteArray.empty t268 x35_2) t275 _ A18.out).mono ?_); rintro e w21 ⟨rfl, hb⟩; refine ⟨_, rfl, ?_⟩; have n0_ := Aside0.mk (Kd.R_below (by (with_reducible repeat (first | apply Kd.R_alloc | apply Kd.R_drewN | apply Kd.R_drew)); exact HO_6.out) hb); have n1_ := Aside0.mk (Kd.R_below (by (with_reducible repeat (first | apply Kd.R_alloc | apply Kd.R_drewN | apply Kd.R_drew)); exact HO_33.out) hb); have n2_ := Aside0.mk (Kd.R_below (by (with_reducible repeat (first | apply Kd.R_alloc | apply Kd.R_drewN | apply Kd.R_drew)); exact HO274.out) hb); have n3_ := Aside0.mk (below_step (by repeat (first | (with_reducible first | exact HB.out | apply below_alloc | apply pw_below_drewN | apply below_drew1) | exact HB.out)) hb); clear HO_6; clear HO_33; clear HO274; clear HB; have HO_6 := n0_; have HO_33 := n1_; have HO274 := n2_; have HB := n3_; clear n0_ n1_ n2_ n3_; (try clear hb); (try clear hb2); (try clear hk); (try clear hi)) | ((with_reducible refine gate_builtin (b := .append) (xs := #[.tmp 46, .tmp 51]) rfl ?_); (try (refine gate_guard (by rfl) ?_; dsimp only)); at_builtin; refine Kd.R_append k45 (w0 := w) w.heap.size rfl (.tmp 46) (.tmp 51) 28 45 (.agg #[(.bool false), (.string ⟨#[]⟩)]) 24 rfl Tryd.underlying28 info45 rfl (by decide) (by omega) v273 y272 (⟨true, t275⟩ : S45) [.bool true, .string t275] (fun _ => True) (fun _ => False) rfl rfl ?aP (fun _ hk => hk.elim) ?aF ?aO ?aB ?aS ?aL ?_; (case aP => exact k45_mkM _ _ _ (⟨true, t275⟩ : S45)); (case aB => exact (by repeat (first | (with_reducible first | exact HB.out | apply below_alloc | apply pw_below_drewN | apply below_drew1) | exact HB.out))); (case aF => exact (fun _ _ => trivial)); (case aO => exact (by (with_reducible repeat (first | apply Kd.R_alloc | apply Kd.R_drewN | apply Kd.R_drew)); exact HO274.out)); (case aS => exact (below_size (by repeat (first | (with_reducible first | exact HB.out | apply below_alloc | apply pw_below_drewN | apply below_drew1) | exact HB.out)))); (case aL => have := LMc19.out; omega); intro v277 w22 ho hb hg hat; rw [← Ny276.out] at ho; have n0_ := Aside0.mk (Kd.R_over' (by (with_reducible repeat (first | apply Kd.R_alloc | apply Kd.R_drewN | apply Kd.R_drew)); exact HO_6.out) (Kd.R_typed (by (with_reducible repeat (first | apply Kd.R_alloc | apply Kd.R_drewN | apply Kd.R_drew)); exact HO274.out)) (by decide) hg); have n1_ := Aside0.mk (Kd.R_over' (by (with_reducible repeat (first | apply Kd.R_alloc | apply Kd.R_drewN | apply Kd.R_drew)); exact HO_33.out) (Kd.R_typed (by (with_reducible repeat (first | apply Kd.R_alloc | apply Kd.R_drewN | apply Kd.R_drew)); exact HO274.out)) (by decide) hg); have n2_ := Aside0.mk (hb); have n3_ := Aside0.mk (ho); clear HO_6; clear HO_33; clear HB; clear HO274; have HO_6 := n0_; have HO_33 := n1_; have HB := n2_; have HO278 := n3_; clear n0_ n1_ n2_ n3_; clear ho hb hg hat))
                                go_roundg k2
                                case measure => have := HK1.out; have := HK2.out; omega
                                case rel => exact ⟨(y276), (wrap64 (x35_2 + 1)), (by first | rfl | (simp; done) | (simp [*]; done)), H', ⟨by have := HK1.out; have := HK2.out; omega⟩, ⟨by (with_reducible repeat (first | apply Kd.R_alloc | apply Kd.R_drewN | apply Kd.R_drew)); exact HO278.out⟩, ⟨by (with_reducible repeat (first | apply Kd.R_alloc | apply Kd.R_drewN | apply Kd.R_drew)); exact HO_6.out⟩, ⟨by (with_reducible repeat (first | apply Kd.R_alloc | apply Kd.R_drewN | apply Kd.R_drew)); exact HO_33.out⟩, ⟨by repeat (first | (with_reducible first | exact HB.out | apply below_alloc | apply pw_below_drewN | apply below_drew1) | exact HB.out)⟩⟩
                              · rw [if_neg c19] at H
                                exact absurd H (by simp)
                            · rw [if_neg c17] at H
                              exact absurd H (by simp)
                          · rw [if_neg c16] at H
                            have c16b0 : decide (0 < x35_2) = false := decide_eq_false c16
                            clear c16
                            replace H := Option.bind_eq_some_iff.mp H
                            obtain ⟨t279, A230, H⟩ := H
                            replace H : (if x5_2.length < 5864062014805 then (laws_FnPopsBetween.l1 k2 l0 a1 (x5_2 ++ [(⟨true, t279⟩ : S45)]) x6_1 x24_1 (rdOf ByteArray.empty l0 x24_1) l0 (l0.length : Int) x24_1 t268 (t268.length : Int) (wrap64 (x35_2 + 1))) else (none)) = some r := H
                            have A23 := Aside0.mk A230
                            clear A230
                            by_cases c24 : x5_2.length < 5864062014805
                            · rw [if_pos c24] at H
                              have LMc24 := Aside0.mk c24
                              clear c24
                              obtain ⟨y280, hy280⟩ : ∃ y_ : List (S45), y_ = (x5_2 ++ [(⟨true, t279⟩ : S45)]) := ⟨_, rfl⟩
                              replace H : (laws_FnPopsBetween.l1 k2 l0 a1 y280 x6_1 x24_1 (rdOf ByteArray.empty l0 x24_1) l0 (l0.length : Int) x24_1 t268 (t268.length : Int) (wrap64 (x35_2 + 1))) = some r := by first | (rw [hy280]; with_reducible exact H) | (have H2_ := (Option.bind_some _ _).symm.trans H; rw [hy280]; with_reducible exact H2_) | (have H2_ := (Option.bind_some _ _).symm.trans H; with_reducible exact H2_) | with_reducible exact H | (rw [hy280]; exact H) | exact H
                              have Ny280 := Aside0.mk hy280
                              clear hy280
                              have H' := Aside0.mk H
                              clear H
                              have p271 : 0 ≤ (x35_2 : Int) := of_decide_eq_true (by first | (with_reducible assumption) | assumption)
                              have q271 : x35_2 < (t268.length : Int) := of_decide_eq_true (by first | (with_reducible assumption) | assumption)
                              obtain ⟨ad271, e271, hx271_0⟩ := Kd.at_string (Kd.R_reads' HO_33.out).2.2 x35_2 p271 q271
                              cases e271
                              replace p271 := eq_true p271
                              replace q271 := eq_true q271
                              go_wp2_with (first | ((with_reducible refine gate_callee (f := 11) rfl ?_); refine goesL_ (some 49) rfl rfl Tryd.func11 (by kernel_rfl) rfl #[.int .i64 x35_2, .string (rdOf ByteArray.empty t268 x35_2)] rfl (by (try simp only [List.map_toArray, List.map_cons, List.map_nil]); first | done | rfl | (simp only [List.length_drop, List.length_take]; rfl)) ?_; (with_reducible refine (laws_record.calls k2 x35_2 (rdOf ByteArray.empty t268 x35_2) t279 _ A23.out).mono ?_); rintro e w25 ⟨rfl, hb⟩; refine ⟨_, rfl, ?_⟩; have n0_ := Aside0.mk (Kd.R_below (by (with_reducible repeat (first | apply Kd.R_alloc | apply Kd.R_drewN | apply Kd.R_drew)); exact HO_5.out) hb); have n1_ := Aside0.mk (Kd.R_below (by (with_reducible repeat (first | apply Kd.R_alloc | apply Kd.R_drewN | apply Kd.R_drew)); exact HO_6.out) hb); have n2_ := Aside0.mk (Kd.R_below (by (with_reducible repeat (first | apply Kd.R_alloc | apply Kd.R_drewN | apply Kd.R_drew)); exact HO_33.out) hb); have n3_ := Aside0.mk (below_step (by repeat (first | (with_reducible first | exact HB.out | apply below_alloc | apply pw_below_drewN | apply below_drew1) | exact HB.out)) hb); clear HO_5; clear HO_6; clear HO_33; clear HB; have HO_5 := n0_; have HO_6 := n1_; have HO_33 := n2_; have HB := n3_; clear n0_ n1_ n2_ n3_; (try clear hb); (try clear hb2); (try clear hk); (try clear hi)) | ((with_reducible refine gate_builtin (b := .append) (xs := #[.tmp 46, .tmp 51]) rfl ?_); (try (refine gate_guard (by rfl) ?_; dsimp only)); at_builtin; refine Kd.R_append k45 (w0 := w) w.heap.size rfl (.tmp 46) (.tmp 51) 28 45 (.agg #[(.bool false), (.string ⟨#[]⟩)]) 24 rfl Tryd.underlying28 info45 rfl (by decide) (by omega) u5 x5_2 (⟨true, t279⟩ : S45) [.bool true, .string t279] (fun _ => True) (fun _ => False) rfl rfl ?aP (fun _ hk => hk.elim) ?aF ?aO ?aB ?aS ?aL ?_; (case aP => exact k45_mkM _ _ _ (⟨true, t279⟩ : S45)); (case aB => exact (by repeat (first | (with_reducible first | exact HB.out | apply below_alloc | apply pw_below_drewN | apply below_drew1) | exact HB.out))); (case aF => exact (fun _ _ => trivial)); (case aO => exact (by (with_reducible repeat (first | apply Kd.R_alloc | apply Kd.R_drewN | apply Kd.R_drew)); exact HO_5.out)); (case aS => exact (below_size (by repeat (first | (with_reducible first | exact HB.out | apply below_alloc | apply pw_below_drewN | apply below_drew1) | exact HB.out)))); (case aL => have := LMc24.out; omega); intro v281 w26 ho hb hg hat; rw [← Ny280.out] at ho; have n0_ := Aside0.mk (Kd.R_over' (by (with_reducible repeat (first | apply Kd.R_alloc | apply Kd.R_drewN | apply Kd.R_drew)); exact HO_6.out) (Kd.R_typed (by (with_reducible repeat (first | apply Kd.R_alloc | apply Kd.R_drewN | apply Kd.R_drew)); exact HO_5.out)) (by decide) hg); have n1_ := Aside0.mk (Kd.R_over' (by (with_reducible repeat (first | apply Kd.R_alloc | apply Kd.R_drewN | apply Kd.R_drew)); exact HO_33.out) (Kd.R_typed (by (with_reducible repeat (first | apply Kd.R_alloc | apply Kd.R_drewN | apply Kd.R_drew)); exact HO_5.out)) (by decide) hg); have n2_ := Aside0.mk (hb); have n3_ := Aside0.mk (ho); clear HO_6; clear HO_33; clear HB; clear HO_5; have HO_6 := n0_; have HO_33 := n1_; have HB := n2_; have HO282 := n3_; clear n0_ n1_ n2_ n3_; clear ho hb hg hat))
                              go_roundg k2
                              case measure => have := HK1.out; have := HK2.out; omega
                              case rel => exact ⟨(y280), (wrap64 (x35_2 + 1)), (by first | rfl | (simp; done) | (simp [*]; done)), H', ⟨by have := HK1.out; have := HK2.out; omega⟩, ⟨by (with_reducible repeat (first | apply Kd.R_alloc | apply Kd.R_drewN | apply Kd.R_drew)); exact HO282.out⟩, ⟨by (with_reducible repeat (first | apply Kd.R_alloc | apply Kd.R_drewN | apply Kd.R_drew)); exact HO_6.out⟩, ⟨by (with_reducible repeat (first | apply Kd.R_alloc | apply Kd.R_drewN | apply Kd.R_drew)); exact HO_33.out⟩, ⟨by repeat (first | (with_reducible first | exact HB.out | apply below_alloc | apply pw_below_drewN | apply below_drew1) | exact HB.out)⟩⟩
                            · rw [if_neg c24] at H
                              exact absurd H (by simp)
                        · rw [if_neg c15] at H
                          exact absurd H (by simp)
                      · rw [if_neg c14] at H
                        exact absurd H (by simp)
                    · rw [if_neg c13] at H
                      have c13b0 : decide (x35_2 < (t268.length : Int)) = false := decide_eq_false c13
                      clear c13
                      replace H := Option.bind_eq_some_iff.mp H
                      obtain ⟨t283, A270, H⟩ := H
                      replace H : (if x6_1.length < 8796093022208 then (laws_FnPopsBetween.l0 k2 l0 a1 x5_2 (x6_1 ++ [t283]) l0 (l0.length : Int) (wrap64 (x24_1 + 1))) else (none)) = some r := H
                      have A27 := Aside0.mk A270
                      clear A270
                      by_cases c28 : x6_1.length < 8796093022208
                      · rw [if_pos c28] at H
                        have LMc28 := Aside0.mk c28
                        clear c28
                        obtain ⟨y284, hy284⟩ : ∃ y_ : List ByteArray, y_ = (x6_1 ++ [t283]) := ⟨_, rfl⟩
                        replace H : (laws_FnPopsBetween.l0 k2 l0 a1 x5_2 y284 l0 (l0.length : Int) (wrap64 (x24_1 + 1))) = some r := by first | (rw [hy284]; with_reducible exact H) | (have H2_ := (Option.bind_some _ _).symm.trans H; rw [hy284]; with_reducible exact H2_) | (have H2_ := (Option.bind_some _ _).symm.trans H; with_reducible exact H2_) | with_reducible exact H | (rw [hy284]; exact H) | exact H
                        have Ny284 := Aside0.mk hy284
                        clear hy284
                        have H' := Aside0.mk H
                        clear H
                        go_wp2_with (first | ((with_reducible refine gate_callee (f := 16) rfl ?_); refine goesL_ (some 57) rfl rfl Tryd.func16 (by kernel_rfl) rfl #[.int .u8 11, .int .i64 x24_1, .string (rdOf ByteArray.empty l0 x24_1)] rfl (by (try simp only [List.map_toArray, List.map_cons, List.map_nil]); first | done | rfl | (simp only [List.length_drop, List.length_take]; rfl)) ?_; (with_reducible refine (laws_whole.calls k2 11 x24_1 (rdOf ByteArray.empty l0 x24_1) t283 _ A27.out).mono ?_); rintro e w29 ⟨rfl, hb⟩; refine ⟨_, rfl, ?_⟩; have n0_ := Aside0.mk (Kd.R_below (by (with_reducible repeat (first | apply Kd.R_alloc | apply Kd.R_drewN | apply Kd.R_drew)); exact HO_5.out) hb); have n1_ := Aside0.mk (Kd.R_below (by (with_reducible repeat (first | apply Kd.R_alloc | apply Kd.R_drewN | apply Kd.R_drew)); exact HO_6.out) hb); have n2_ := Aside0.mk (Kd.R_below (by (with_reducible repeat (first | apply Kd.R_alloc | apply Kd.R_drewN | apply Kd.R_drew)); exact HO_33.out) hb); have n3_ := Aside0.mk (below_step (by repeat (first | (with_reducible first | exact HB.out | apply below_alloc | apply pw_below_drewN | apply below_drew1) | exact HB.out)) hb); clear HO_5; clear HO_6; clear HO_33; clear HB; have HO_5 := n0_; have HO_6 := n1_; have HO_33 := n2_; have HB := n3_; clear n0_ n1_ n2_ n3_; (try clear hb); (try clear hb2); (try clear hk); (try clear hi)) | ((with_reducible refine gate_builtin (b := .append) (xs := #[.tmp 54, .tmp 58]) rfl ?_); (try (refine gate_guard (by rfl) ?_; dsimp only)); at_builtin; refine Kd.R_append Kd.string (w0 := w) w.heap.size rfl (.tmp 54) (.tmp 58) 24 9 (.string ⟨#[]⟩) 16 rfl Tryd.underlying24 info9 rfl (by decide) (by omega) u6 x6_1 t283 [.string t283] (fun k_ => some k_ ≠ (.slice Ao12 t268.length co12 : Value).ownBlock) (fun _ => False) rfl rfl ?aP (fun _ hk => hk.elim) ?aF ?aO ?aB ?aS ?aL ?_; (case aP => exact rfl); (case aB => exact (by repeat (first | (with_reducible first | exact HB.out | apply below_alloc | apply pw_below_drewN | apply below_drew1) | exact HB.out))); (case aF => exact (fun k_ hk => Kd.fresh' (Kd.R_lt (by (with_reducible repeat (first | apply Kd.R_alloc | apply Kd.R_drewN | apply Kd.R_drew)); exact HO_33.out)) k_ hk)); (case aO => exact (by (with_reducible repeat (first | apply Kd.R_alloc | apply Kd.R_drewN | apply Kd.R_drew)); exact HO_6.out)); (case aS => exact (below_size (by repeat (first | (with_reducible first | exact HB.out | apply below_alloc | apply pw_below_drewN | apply below_drew1) | exact HB.out)))); (case aL => have := LMc28.out; omega); intro v285 w30 ho hb hg hat; rw [← Ny284.out] at ho; have n0_ := Aside0.mk (Kd.R_over' (by (with_reducible repeat (first | apply Kd.R_alloc | apply Kd.R_drewN | apply Kd.R_drew)); exact HO_5.out) (Kd.R_typed (by (with_reducible repeat (first | apply Kd.R_alloc | apply Kd.R_drewN | apply Kd.R_drew)); exact HO_6.out)) (by decide) hg); have n1_ := Aside0.mk (Kd.R_after (ok := (fun _ => True)) (by (with_reducible repeat (first | apply Kd.R_alloc | apply Kd.R_drewN | apply Kd.R_drew)); exact Kd.R_mono HO_33.out (fun _ hk => ⟨trivial, hk⟩)) hg hat); have n2_ := Aside0.mk (hb); have n3_ := Aside0.mk (ho); clear HO_5; clear HO_33; clear HB; clear HO_6; have HO_5 := n0_; have HO_33 := n1_; have HB := n2_; have HO286 := n3_; clear n0_ n1_ n2_ n3_; clear ho hb hg hat))
                        go_roundg k2
                        case measure => have := HK1.out; have := HK2.out; omega
                        case rel => exact ⟨(x5_2), (y284), (wrap64 (x24_1 + 1)), (by first | rfl | (simp; done) | (simp [*]; done)), H', ⟨by have := HK1.out; have := HK2.out; omega⟩, ⟨by (with_reducible repeat (first | apply Kd.R_alloc | apply Kd.R_drewN | apply Kd.R_drew)); exact HO_5.out⟩, ⟨by (with_reducible repeat (first | apply Kd.R_alloc | apply Kd.R_drewN | apply Kd.R_drew)); exact Kd.R_mono HO286.out (fun _ hk => trivial)⟩, ⟨by repeat (first | (with_reducible first | exact HB.out | apply below_alloc | apply pw_below_drewN | apply below_drew1) | exact HB.out)⟩⟩
                      · rw [if_neg c28] at H
                        exact absurd H (by simp)
              · rw [if_neg c9] at H
                exact absurd H (by simp)
            · rw [if_neg c8] at H
              exact absurd H (by simp)
          · rw [if_neg c7] at H
            have c7b0 : decide (x24_1 < (l0.length : Int)) = false := decide_eq_false c7
            clear c7
            have H' := Aside0.mk H
            clear H
            go_wp2
            go_loopg [5, 63] k1 (fun kq v5 v63 w' => ∃ (x5_2 : List (S45)) (x63_2 : Int), v63 = .int .i64 x63_2 ∧ Aside0 (laws_FnPopsBetween.l2 kq x5_2 x6_1 (l0.length : Int) x63_2 = some r) ∧ Aside0 (kq ≤ k1) ∧ Aside0 (Kd.R k45 45 w' w.heap.size (fun _ => True) v5 x5_2) ∧ Aside0 (Kd.R Kd.string 9 w' w.heap.size (fun _ => True) u6 x6_1) ∧ Aside0 (Below w.heap.size w w'))
            case atStart => exact ⟨(x5_1), (0), (by first | rfl | (simp; done) | (simp [*]; done)), H', ⟨Nat.le_refl _⟩, ⟨by (with_reducible repeat (first | apply Kd.R_alloc | apply Kd.R_drewN | apply Kd.R_drew)); exact HO_5.out⟩, ⟨by (with_reducible repeat (first | apply Kd.R_alloc | apply Kd.R_drewN | apply Kd.R_drew)); exact HO_6.out⟩, ⟨by repeat (first | (with_reducible first | exact HB.out | apply below_alloc | apply pw_below_drewN | apply below_drew1) | exact HB.out)⟩⟩
            case round =>
              clear H'
              try clear c1
              try clear c2
              try clear p2
              try clear q2
              try clear hx2
              try clear c4
              try clear c6
              try clear p6
              try clear c7
              try clear c7b0
              try clear c8
              try clear c8b0
              try clear c9
              try clear c9b0
              try clear c10
              try clear c11
              try clear c13
              try clear c13b0
              try clear c14
              try clear c14b0
              try clear c15
              try clear c15b0
              try clear c16
              try clear c16b0
              try clear c17
              try clear c19
              try clear c20
              try clear c24
              try clear p26
              try clear q26
              try clear hx26
              try clear p27
              try clear q27
              try clear hx27
              try clear c28
              try clear hx267_0
              try clear hx271_0
              try clear p2
              try clear p267
              try clear p271
              try clear q2
              try clear q267
              try clear q271
              obtain ⟨x5_2, x63_2, rfl, HA, HK2, HO_5, HO_6, HB⟩ := hrel
              cases gk with
              | zero => exact absurd HA.out (by simp [laws_FnPopsBetween.l2])
              | succ k2 =>
                have H := HA.out
                clear HA
                simp only [laws_FnPopsBetween.l2] at H
                by_cases c31 : x63_2 < (l0.length : Int)
                · rw [if_pos c31] at H
                  have c31b0 : decide (x63_2 < (l0.length : Int)) = true := decide_eq_true c31
                  clear c31
                  by_cases c32 : x5_2.length < 5864062014805
                  · rw [if_pos c32] at H
                    have LMc32 := Aside0.mk c32
                    clear c32
                    obtain ⟨y287, hy287⟩ : ∃ y_ : List (S45), y_ = (x5_2 ++ [(⟨false, (⟨#[]⟩ : ByteArray)⟩ : S45)]) := ⟨_, rfl⟩
                    replace H : (laws_FnPopsBetween.l2 k2 y287 x6_1 (l0.length : Int) (wrap64 (x63_2 + 1))) = some r := by first | (rw [hy287]; with_reducible exact H) | (have H2_ := (Option.bind_some _ _).symm.trans H; rw [hy287]; with_reducible exact H2_) | (have H2_ := (Option.bind_some _ _).symm.trans H; with_reducible exact H2_) | with_reducible exact H | (rw [hy287]; exact H) | exact H
                    have Ny287 := Aside0.mk hy287
                    clear hy287
                    have H' := Aside0.mk H
                    clear H
                    go_wp2_with (first | ((with_reducible refine gate_builtin (b := .append) (xs := #[.tmp 65, .tmp 67]) rfl ?_); (try (refine gate_guard (by rfl) ?_; dsimp only)); at_builtin; refine Kd.R_append k45 (w0 := w) w.heap.size rfl (.tmp 65) (.tmp 67) 28 45 (.agg #[(.bool false), (.string ⟨#[]⟩)]) 24 rfl Tryd.underlying28 info45 rfl (by decide) (by omega) u5 x5_2 (⟨false, (⟨#[]⟩ : ByteArray)⟩ : S45) [.bool false, .string (⟨#[]⟩ : ByteArray)] (fun _ => True) (fun _ => False) rfl rfl ?aP (fun _ hk => hk.elim) ?aF ?aO ?aB ?aS ?aL ?_; (case aP => exact k45_mkM _ _ _ (⟨false, (⟨#[]⟩ : ByteArray)⟩ : S45)); (case aB => exact (by repeat (first | (with_reducible first | exact HB.out | apply below_alloc | apply pw_below_drewN | apply below_drew1) | exact HB.out))); (case aF => exact (fun _ _ => trivial)); (case aO => exact (by (with_reducible repeat (first | apply Kd.R_alloc | apply Kd.R_drewN | apply Kd.R_drew)); exact HO_5.out)); (case aS => exact (below_size (by repeat (first | (with_reducible first | exact HB.out | apply below_alloc | apply pw_below_drewN | apply below_drew1) | exact HB.out)))); (case aL => have := LMc32.out; omega); intro v288 w33 ho hb hg hat; rw [← Ny287.out] at ho; have n0_ := Aside0.mk (Kd.R_over' (by (with_reducible repeat (first | apply Kd.R_alloc | apply Kd.R_drewN | apply Kd.R_drew)); exact HO_6.out) (Kd.R_typed (by (with_reducible repeat (first | apply Kd.R_alloc | apply Kd.R_drewN | apply Kd.R_drew)); exact HO_5.out)) (by decide) hg); have n1_ := Aside0.mk (hb); have n2_ := Aside0.mk (ho); clear HO_6; clear HB; clear HO_5; have HO_6 := n0_; have HB := n1_; have HO289 := n2_; clear n0_ n1_ n2_; clear ho hb hg hat))
                    go_roundg k2
                    case measure => have := HK1.out; have := HK2.out; omega
                    case rel => exact ⟨(y287), (wrap64 (x63_2 + 1)), (by first | rfl | (simp; done) | (simp [*]; done)), H', ⟨by have := HK1.out; have := HK2.out; omega⟩, ⟨by (with_reducible repeat (first | apply Kd.R_alloc | apply Kd.R_drewN | apply Kd.R_drew)); exact HO289.out⟩, ⟨by (with_reducible repeat (first | apply Kd.R_alloc | apply Kd.R_drewN | apply Kd.R_drew)); exact HO_6.out⟩, ⟨by repeat (first | (with_reducible first | exact HB.out | apply below_alloc | apply pw_below_drewN | apply below_drew1) | exact HB.out)⟩⟩
                  · rw [if_neg c32] at H
                    exact absurd H (by simp)
                · rw [if_neg c31] at H
                  have c31b0 : decide (x63_2 < (l0.length : Int)) = false := decide_eq_false c31
                  clear c31
                  replace H := Option.bind_eq_some_iff.mp H
                  obtain ⟨t290, A340, H⟩ := H
                  replace H : ((laws_come.f k2 x5_2 t290).bind fun bt293 => (if bt293.2 = true then ((laws_texts.f k2 bt293.1 x6_1).bind fun t297 => (if t297 = true then (if 0 ≤ (wrap64 ((t290.length : Int) - 1)) then (if (wrap64 ((t290.length : Int) - 1)) < (t290.length : Int) then (some (((rd_T40 t290 (wrap64 ((t290.length : Int) - 1))).f6) == 0)) else (none)) else (none)) else (some false))) else (some false))) = some r := H
                  have A34 := Aside0.mk A340
                  clear A340
                  replace H := Option.bind_eq_some_iff.mp H
                  obtain ⟨⟨t293, t294⟩, A350, H⟩ := H
                  replace H : (if t294 = true then ((laws_texts.f k2 t293 x6_1).bind fun t297 => (if t297 = true then (if 0 ≤ (wrap64 ((t290.length : Int) - 1)) then (if (wrap64 ((t290.length : Int) - 1)) < (t290.length : Int) then (some (((rd_T40 t290 (wrap64 ((t290.length : Int) - 1))).f6) == 0)) else (none)) else (none)) else (some false))) else (some false)) = some r := H
                  have A35 := Aside0.mk A350
                  clear A350
                  by_cases c36 : t294 = true
                  · subst c36
                    have H1 : ((laws_texts.f k2 t293 x6_1).bind fun t297 => (if t297 = true then (if 0 ≤ (wrap64 ((t290.length : Int) - 1)) then (if (wrap64 ((t290.length : Int) - 1)) < (t290.length : Int) then (some (((rd_T40 t290 (wrap64 ((t290.length : Int) - 1))).f6) == 0)) else (none)) else (none)) else (some false))) = some r := by rw [if_pos rfl] at H; exact H
                    clear H
                    have H := H1
                    clear H1
                    replace H := Option.bind_eq_some_iff.mp H
                    obtain ⟨t297, A370, H⟩ := H
                    replace H : (if t297 = true then (if 0 ≤ (wrap64 ((t290.length : Int) - 1)) then (if (wrap64 ((t290.length : Int) - 1)) < (t290.length : Int) then (some (((rd_T40 t290 (wrap64 ((t290.length : Int) - 1))).f6) == 0)) else (none)) else (none)) else (some false)) = some r := H
                    have A37 := Aside0.mk A370
                    clear A370
                    by_cases c38 : t297 = true
                    · subst c38
                      have H1 : (if 0 ≤ (wrap64 ((t290.length : Int) - 1)) then (if (wrap64 ((t290.length : Int) - 1)) < (t290.length : Int) then (some (((rd_T40 t290 (wrap64 ((t290.length : Int) - 1))).f6) == 0)) else (none)) else (none)) = some r := by rw [if_pos rfl] at H; exact H
                      clear H
                      have H := H1
                      clear H1
                      obtain ⟨ji39, hji39⟩ : ∃ j_ : Int, (wrap64 ((t290.length : Int) - 1)) = j_ := ⟨_, rfl⟩
                      replace H : (if 0 ≤ (ji39) then (if (ji39) < (t290.length : Int) then (some (((rd_T40 t290 (ji39)).f6) == 0)) else (none)) else (none)) = some r := by first | (rw [hji39] at H; exact H) | (simp only [hji39] at H ⊢; exact H)
                      (try rw [hji39] at A34)
                      (try rw [hji39] at A35)
                      (try rw [hji39] at A37)
                      have hji39w : (IntKind.i64.wrap ((t290.length : Int) - 1)) = ji39 := (i64_w _).trans hji39
                      by_cases c40 : 0 ≤ (ji39)
                      · rw [if_pos c40] at H
                        have c40b0 : decide (0 ≤ (ji39)) = true := decide_eq_true c40
                        clear c40
                        by_cases c41 : (ji39) < (t290.length : Int)
                        · rw [if_pos c41] at H
                          have c41b0 : decide ((ji39) < (t290.length : Int)) = true := decide_eq_true c41
                          clear c41
                          obtain rfl := Option.some.inj H
                          obtain ⟨Ao42, co42, eo42⟩ := Kd.R_slice HO_5.out
                          subst eo42
                          go_wp2_with (first | ((with_reducible refine gate_callee (f := 14) rfl ?_); refine goesL_ (some 71) rfl rfl Tryd.func14 (by kernel_rfl) rfl #[.slice Ao42 x5_2.length co42] rfl (by (try simp only [List.map_toArray, List.map_cons, List.map_nil]); first | done | rfl | (simp only [List.length_drop, List.length_take]; rfl)) ?_; (with_reducible refine (impl_Fragments.calls _ _ x5_2 t290 _ ?side1 ?side2 A34.out ?sideL).mono ?_); (case side1 => repeat (first | exact (Kd.R_reads' HO_5.out).2.2 | (with_reducible refine Kd.C_alloc ?_ _) | (with_reducible refine Kd.C_drewN ?_ _) | (with_reducible refine Kd.C_drew ?_))); (case side2 => exact (Kd.R_reads' HO_5.out).2.1); (case sideL => exact HLW.out.below (by repeat (first | (with_reducible first | exact HB.out | apply below_alloc | apply pw_below_drewN | apply below_drew1) | exact HB.out))); rintro e w43 ⟨v291, rfl, ho0, hb⟩; refine ⟨_, rfl, ?_⟩; have n0_ := Aside0.mk (Kd.R_below (by (with_reducible repeat (first | apply Kd.R_alloc | apply Kd.R_drewN | apply Kd.R_drew)); exact HO_5.out) hb); have n1_ := Aside0.mk (Kd.R_below (by (with_reducible repeat (first | apply Kd.R_alloc | apply Kd.R_drewN | apply Kd.R_drew)); exact HO_6.out) hb); have n2_ := Aside0.mk (Kd.R_lower ho0 (below_size (by repeat (first | (with_reducible first | exact HB.out | apply below_alloc | apply pw_below_drewN | apply below_drew1) | exact HB.out)))); have n3_ := Aside0.mk (below_step (by repeat (first | (with_reducible first | exact HB.out | apply below_alloc | apply pw_below_drewN | apply below_drew1) | exact HB.out)) hb); clear HO_5; clear HO_6; clear HB; have HO_5 := n0_; have HO_6 := n1_; have HO292 := n2_; have HB := n3_; clear n0_ n1_ n2_ n3_; (try clear hb); (try clear hb2); (try clear hk); (try clear hi); (try clear ho0); obtain ⟨Ao44, co44, eo44⟩ := Kd.R_slice HO292.out; subst eo44) | ((with_reducible refine gate_callee (f := 13) rfl ?_); refine goesL_ (some 75) rfl rfl Tryd.func13 (by kernel_rfl) rfl #[.slice Ao42 x5_2.length co42, .slice Ao44 t290.length co44] rfl (by (try simp only [List.map_toArray, List.map_cons, List.map_nil]); first | done | rfl | (simp only [List.length_drop, List.length_take]; rfl)) ?_; (with_reducible refine (laws_come.calls k2 _ _ x5_2 _ _ t290 t293 true _ ?side1 ?side2 ?side3 ?side4 A35.out).mono ?_); (case side1 => repeat (first | exact (Kd.R_reads' HO_5.out).2.2 | (with_reducible refine Kd.C_alloc ?_ _) | (with_reducible refine Kd.C_drewN ?_ _) | (with_reducible refine Kd.C_drew ?_))); (case side2 => exact (Kd.R_reads' HO_5.out).2.1); (case side3 => repeat (first | exact (Kd.R_reads' HO292.out).2.2 | (with_reducible refine Kd.C_alloc ?_ _) | (with_reducible refine Kd.C_drewN ?_ _) | (with_reducible refine Kd.C_drew ?_))); (case side4 => exact (Kd.R_reads' HO292.out).2.1); rintro e w45 ⟨v295, rfl, ho0, hb⟩; refine ⟨_, rfl, ?_⟩; have n0_ := Aside0.mk (Kd.R_below (by (with_reducible repeat (first | apply Kd.R_alloc | apply Kd.R_drewN | apply Kd.R_drew)); exact HO_5.out) hb); have n1_ := Aside0.mk (Kd.R_elder' (by (with_reducible repeat (first | apply Kd.R_alloc | apply Kd.R_drewN | apply Kd.R_drew)); exact HO_6.out) (Kd.R_base ho0) hb); have n2_ := Aside0.mk (Kd.R_below (by (with_reducible repeat (first | apply Kd.R_alloc | apply Kd.R_drewN | apply Kd.R_drew)); exact HO292.out) hb); have n3_ := Aside0.mk (Kd.R_lower (Kd.R_new' ho0 (Kd.R_lt (by (with_reducible repeat (first | apply Kd.R_alloc | apply Kd.R_drewN | apply Kd.R_drew)); exact HO_6.out))) (below_size (by repeat (first | (with_reducible first | exact HB.out | apply below_alloc | apply pw_below_drewN | apply below_drew1) | exact HB.out)))); have n4_ := Aside0.mk (below_step (by repeat (first | (with_reducible first | exact HB.out | apply below_alloc | apply pw_below_drewN | apply below_drew1) | exact HB.out)) hb); clear HO_5; clear HO_6; clear HO292; clear HB; have HO_5 := n0_; have HO_6 := n1_; have HO292 := n2_; have HO296 := n3_; have HB := n4_; clear n0_ n1_ n2_ n3_ n4_; (try clear hb); (try clear hb2); (try clear hk); (try clear hi); (try clear ho0); obtain ⟨Ao46, co46, eo46⟩ := Kd.R_slice HO296.out; subst eo46; obtain ⟨Ao47, co47, eo47⟩ := Kd.R_slice HO_6.out; subst eo47) | (go_at_call 15; (with_reducible refine (laws_texts.calls k2 _ _ t293 _ _ x6_1 true _ ?side1 ?side2 ?side3 ?side4 A37.out).mono ?_); (case side1 => repeat (first | exact (Kd.R_reads' HO296.out).2.2 | (with_reducible refine Kd.C_alloc ?_ _) | (with_reducible refine Kd.C_drewN ?_ _) | (with_reducible refine Kd.C_drew ?_))); (case side2 => exact (Kd.R_reads' HO296.out).2.1); (case side3 => repeat (first | exact (Kd.R_reads' HO_6.out).2.2 | (with_reducible refine Kd.C_alloc ?_ _) | (with_reducible refine Kd.C_drewN ?_ _) | (with_reducible refine Kd.C_drew ?_))); (case side4 => exact (Kd.R_reads' HO_6.out).2.1); rintro e w' ⟨rfl, ⟨nd, rfl⟩⟩; have p298 : 0 ≤ ((ji39) : Int) := of_decide_eq_true (by first | (with_reducible assumption) | assumption); have q298 : (ji39) < (t290.length : Int) := of_decide_eq_true (by first | (with_reducible assumption) | assumption); obtain ⟨ad298, e298, hx298_0, hx298_1, hx298_2, hx298_3, hx298_4, hx298_5, hx298_6⟩ := at_T40 (Kd.R_reads' HO292.out).2.2 (ji39) p298 q298; cases e298; replace p298 := eq_true p298; replace q298 := eq_true q298))
                          go_ret
                          exact ⟨by first | rfl | (simp [errW_none, errW_some] <;> rfl) | (simp only [← hji39]; first | rfl | (simp [errW_none, errW_some] <;> rfl)) | (simp [*, errW_none, errW_some] <;> rfl), by repeat (first | (with_reducible first | exact HB.out | apply below_alloc | apply pw_below_drewN | apply below_drew1) | exact HB.out)⟩
                        · rw [if_neg c41] at H
                          exact absurd H (by simp)
                      · rw [if_neg c40] at H
                        exact absurd H (by simp)
                    · replace c38 := Bool.eq_false_iff.mpr c38
                      subst c38
                      have H1 : (some false) = some r := by rw [if_neg (show ¬ (false = true) by decide)] at H; exact H
                      clear H
                      have H := H1
                      clear H1
                      obtain rfl := Option.some.inj H
                      obtain ⟨Ao48, co48, eo48⟩ := Kd.R_slice HO_5.out
                      subst eo48
                      go_wp2_with (first | ((with_reducible refine gate_callee (f := 14) rfl ?_); refine goesL_ (some 71) rfl rfl Tryd.func14 (by kernel_rfl) rfl #[.slice Ao48 x5_2.length co48] rfl (by (try simp only [List.map_toArray, List.map_cons, List.map_nil]); first | done | rfl | (simp only [List.length_drop, List.length_take]; rfl)) ?_; (with_reducible refine (impl_Fragments.calls _ _ x5_2 t290 _ ?side1 ?side2 A34.out ?sideL).mono ?_); (case side1 => repeat (first | exact (Kd.R_reads' HO_5.out).2.2 | (with_reducible refine Kd.C_alloc ?_ _) | (with_reducible refine Kd.C_drewN ?_ _) | (with_reducible refine Kd.C_drew ?_))); (case side2 => exact (Kd.R_reads' HO_5.out).2.1); (case sideL => exact HLW.out.below (by repeat (first | (with_reducible first | exact HB.out | apply below_alloc | apply pw_below_drewN | apply below_drew1) | exact HB.out))); rintro e w49 ⟨v291, rfl, ho0, hb⟩; refine ⟨_, rfl, ?_⟩; have n0_ := Aside0.mk (Kd.R_below (by (with_reducible repeat (first | apply Kd.R_alloc | apply Kd.R_drewN | apply Kd.R_drew)); exact HO_5.out) hb); have n1_ := Aside0.mk (Kd.R_below (by (with_reducible repeat (first | apply Kd.R_alloc | apply Kd.R_drewN | apply Kd.R_drew)); exact HO_6.out) hb); have n2_ := Aside0.mk (Kd.R_lower ho0 (below_size (by repeat (first | (with_reducible first | exact HB.out | apply below_alloc | apply pw_below_drewN | apply below_drew1) | exact HB.out)))); have n3_ := Aside0.mk (below_step (by repeat (first | (with_reducible first | exact HB.out | apply below_alloc | apply pw_below_drewN | apply below_drew1) | exact HB.out)) hb); clear HO_5; clear HO_6; clear HB; have HO_5 := n0_; have HO_6 := n1_; have HO292 := n2_; have HB := n3_; clear n0_ n1_ n2_ n3_; (try clear hb); (try clear hb2); (try clear hk); (try clear hi); (try clear ho0); obtain ⟨Ao50, co50, eo50⟩ := Kd.R_slice HO292.out; subst eo50) | ((with_reducible refine gate_callee (f := 13) rfl ?_); refine goesL_ (some 75) rfl rfl Tryd.func13 (by kernel_rfl) rfl #[.slice Ao48 x5_2.length co48, .slice Ao50 t290.length co50] rfl (by (try simp only [List.map_toArray, List.map_cons, List.map_nil]); first | done | rfl | (simp only [List.length_drop, List.length_take]; rfl)) ?_; (with_reducible refine (laws_come.calls k2 _ _ x5_2 _ _ t290 t293 true _ ?side1 ?side2 ?side3 ?side4 A35.out).mono ?_); (case side1 => repeat (first | exact (Kd.R_reads' HO_5.out).2.2 | (with_reducible refine Kd.C_alloc ?_ _) | (with_reducible refine Kd.C_drewN ?_ _) | (with_reducible refine Kd.C_drew ?_))); (case side2 => exact (Kd.R_reads' HO_5.out).2.1); (case side3 => repeat (first | exact (Kd.R_reads' HO292.out).2.2 | (with_reducible refine Kd.C_alloc ?_ _) | (with_reducible refine Kd.C_drewN ?_ _) | (with_reducible refine Kd.C_drew ?_))); (case side4 => exact (Kd.R_reads' HO292.out).2.1); rintro e w51 ⟨v295, rfl, ho0, hb⟩; refine ⟨_, rfl, ?_⟩; have n0_ := Aside0.mk (Kd.R_below (by (with_reducible repeat (first | apply Kd.R_alloc | apply Kd.R_drewN | apply Kd.R_drew)); exact HO_5.out) hb); have n1_ := Aside0.mk (Kd.R_elder' (by (with_reducible repeat (first | apply Kd.R_alloc | apply Kd.R_drewN | apply Kd.R_drew)); exact HO_6.out) (Kd.R_base ho0) hb); have n2_ := Aside0.mk (Kd.R_below (by (with_reducible repeat (first | apply Kd.R_alloc | apply Kd.R_drewN | apply Kd.R_drew)); exact HO292.out) hb); have n3_ := Aside0.mk (Kd.R_lower (Kd.R_new' ho0 (Kd.R_lt (by (with_reducible repeat (first | apply Kd.R_alloc | apply Kd.R_drewN | apply Kd.R_drew)); exact HO_6.out))) (below_size (by repeat (first | (with_reducible first | exact HB.out | apply below_alloc | apply pw_below_drewN | apply below_drew1) | exact HB.out)))); have n4_ := Aside0.mk (below_step (by repeat (first | (with_reducible first | exact HB.out | apply below_alloc | apply pw_below_drewN | apply below_drew1) | exact HB.out)) hb); clear HO_5; clear HO_6; clear HO292; clear HB; have HO_5 := n0_; have HO_6 := n1_; have HO292 := n2_; have HO296 := n3_; have HB := n4_; clear n0_ n1_ n2_ n3_ n4_; (try clear hb); (try clear hb2); (try clear hk); (try clear hi); (try clear ho0); obtain ⟨Ao52, co52, eo52⟩ := Kd.R_slice HO296.out; subst eo52; obtain ⟨Ao53, co53, eo53⟩ := Kd.R_slice HO_6.out; subst eo53) | (go_at_call 15; (with_reducible refine (laws_texts.calls k2 _ _ t293 _ _ x6_1 false _ ?side1 ?side2 ?side3 ?side4 A37.out).mono ?_); (case side1 => repeat (first | exact (Kd.R_reads' HO296.out).2.2 | (with_reducible refine Kd.C_alloc ?_ _) | (with_reducible refine Kd.C_drewN ?_ _) | (with_reducible refine Kd.C_drew ?_))); (case side2 => exact (Kd.R_reads' HO296.out).2.1); (case side3 => repeat (first | exact (Kd.R_reads' HO_6.out).2.2 | (with_reducible refine Kd.C_alloc ?_ _) | (with_reducible refine Kd.C_drewN ?_ _) | (with_reducible refine Kd.C_drew ?_))); (case side4 => exact (Kd.R_reads' HO_6.out).2.1); rintro e w' ⟨rfl, ⟨nd, rfl⟩⟩))
                      go_ret
                      exact ⟨by first | rfl | (simp [errW_none, errW_some] <;> rfl) | (simp [*, errW_none, errW_some] <;> rfl), by repeat (first | (with_reducible first | exact HB.out | apply below_alloc | apply pw_below_drewN | apply below_drew1) | exact HB.out)⟩
                  · replace c36 := Bool.eq_false_iff.mpr c36
                    subst c36
                    have H1 : (some false) = some r := by rw [if_neg (show ¬ (false = true) by decide)] at H; exact H
                    clear H
                    have H := H1
                    clear H1
                    obtain rfl := Option.some.inj H
                    obtain ⟨Ao54, co54, eo54⟩ := Kd.R_slice HO_5.out
                    subst eo54
                    go_wp2_with (first | ((with_reducible refine gate_callee (f := 14) rfl ?_); refine goesL_ (some 71) rfl rfl Tryd.func14 (by kernel_rfl) rfl #[.slice Ao54 x5_2.length co54] rfl (by (try simp only [List.map_toArray, List.map_cons, List.map_nil]); first | done | rfl | (simp only [List.length_drop, List.length_take]; rfl)) ?_; (with_reducible refine (impl_Fragments.calls _ _ x5_2 t290 _ ?side1 ?side2 A34.out ?sideL).mono ?_); (case side1 => repeat (first | exact (Kd.R_reads' HO_5.out).2.2 | (with_reducible refine Kd.C_alloc ?_ _) | (with_reducible refine Kd.C_drewN ?_ _) | (with_reducible refine Kd.C_drew ?_))); (case side2 => exact (Kd.R_reads' HO_5.out).2.1); (case sideL => exact HLW.out.below (by repeat (first | (with_reducible first | exact HB.out | apply below_alloc | apply pw_below_drewN | apply below_drew1) | exact HB.out))); rintro e w55 ⟨v291, rfl, ho0, hb⟩; refine ⟨_, rfl, ?_⟩; have n0_ := Aside0.mk (Kd.R_below (by (with_reducible repeat (first | apply Kd.R_alloc | apply Kd.R_drewN | apply Kd.R_drew)); exact HO_5.out) hb); have n1_ := Aside0.mk (Kd.R_below (by (with_reducible repeat (first | apply Kd.R_alloc | apply Kd.R_drewN | apply Kd.R_drew)); exact HO_6.out) hb); have n2_ := Aside0.mk (Kd.R_lower ho0 (below_size (by repeat (first | (with_reducible first | exact HB.out | apply below_alloc | apply pw_below_drewN | apply below_drew1) | exact HB.out)))); have n3_ := Aside0.mk (below_step (by repeat (first | (with_reducible first | exact HB.out | apply below_alloc | apply pw_below_drewN | apply below_drew1) | exact HB.out)) hb); clear HO_5; clear HO_6; clear HB; have HO_5 := n0_; have HO_6 := n1_; have HO292 := n2_; have HB := n3_; clear n0_ n1_ n2_ n3_; (try clear hb); (try clear hb2); (try clear hk); (try clear hi); (try clear ho0); obtain ⟨Ao56, co56, eo56⟩ := Kd.R_slice HO292.out; subst eo56) | ((with_reducible refine gate_callee (f := 13) rfl ?_); refine goesL_ (some 75) rfl rfl Tryd.func13 (by kernel_rfl) rfl #[.slice Ao54 x5_2.length co54, .slice Ao56 t290.length co56] rfl (by (try simp only [List.map_toArray, List.map_cons, List.map_nil]); first | done | rfl | (simp only [List.length_drop, List.length_take]; rfl)) ?_; (with_reducible refine (laws_come.calls k2 _ _ x5_2 _ _ t290 t293 false _ ?side1 ?side2 ?side3 ?side4 A35.out).mono ?_); (case side1 => repeat (first | exact (Kd.R_reads' HO_5.out).2.2 | (with_reducible refine Kd.C_alloc ?_ _) | (with_reducible refine Kd.C_drewN ?_ _) | (with_reducible refine Kd.C_drew ?_))); (case side2 => exact (Kd.R_reads' HO_5.out).2.1); (case side3 => repeat (first | exact (Kd.R_reads' HO292.out).2.2 | (with_reducible refine Kd.C_alloc ?_ _) | (with_reducible refine Kd.C_drewN ?_ _) | (with_reducible refine Kd.C_drew ?_))); (case side4 => exact (Kd.R_reads' HO292.out).2.1); rintro e w57 ⟨v295, rfl, ho0, hb⟩; refine ⟨_, rfl, ?_⟩; have n0_ := Aside0.mk (Kd.R_below (by (with_reducible repeat (first | apply Kd.R_alloc | apply Kd.R_drewN | apply Kd.R_drew)); exact HO_5.out) hb); have n1_ := Aside0.mk (Kd.R_elder' (by (with_reducible repeat (first | apply Kd.R_alloc | apply Kd.R_drewN | apply Kd.R_drew)); exact HO_6.out) (Kd.R_base ho0) hb); have n2_ := Aside0.mk (Kd.R_below (by (with_reducible repeat (first | apply Kd.R_alloc | apply Kd.R_drewN | apply Kd.R_drew)); exact HO292.out) hb); have n3_ := Aside0.mk (Kd.R_lower (Kd.R_new' ho0 (Kd.R_lt (by (with_reducible repeat (first | apply Kd.R_alloc | apply Kd.R_drewN | apply Kd.R_drew)); exact HO_6.out))) (below_size (by repeat (first | (with_reducible first | exact HB.out | apply below_alloc | apply pw_below_drewN | apply below_drew1) | exact HB.out)))); have n4_ := Aside0.mk (below_step (by repeat (first | (with_reducible first | exact HB.out | apply below_alloc | apply pw_below_drewN | apply below_drew1) | exact HB.out)) hb); clear HO_5; clear HO_6; clear HO292; clear HB; have HO_5 := n0_; have HO_6 := n1_; have HO292 := n2_; have HO296 := n3_; have HB := n4_; clear n0_ n1_ n2_ n3_ n4_; (try clear hb); (try clear hb2); (try clear hk); (try clear hi); (try clear ho0)))
                    go_ret
                    exact ⟨by first | rfl | (simp [errW_none, errW_some] <;> rfl) | (simp [*, errW_none, errW_some] <;> rfl), by repeat (first | (with_reducible first | exact HB.out | apply below_alloc | apply pw_below_drewN | apply below_drew1) | exact HB.out)⟩
    · replace c6 := Bool.eq_false_iff.mpr c6
      subst c6
      have H1 : (some true) = some r := by rw [if_neg (show ¬ (false = true) by decide)] at H; exact H
      clear H
      have H := H1
      clear H1
      obtain rfl := Option.some.inj H
      go_enter Tryd.func7, Tryd.ntmps7
      go_wp2_with (first | ((with_reducible refine gate_callee (f := 20) rfl ?_); refine goesL_ (some 16) rfl rfl Tryd.func20 (by kernel_rfl) rfl #[.slice A0 l0.length c0] rfl (by (try simp only [List.map_toArray, List.map_cons, List.map_nil]); first | done | rfl | (simp only [List.length_drop, List.length_take]; rfl)) ?_; (with_reducible refine (laws_zzFits2.calls k _ _ l0 true _ ?side1 ?side2 A3.out).mono ?_); (case side1 => repeat (first | exact HR0.out | (with_reducible refine Kd.C_alloc ?_ _) | (with_reducible refine Kd.C_drewN ?_ _) | (with_reducible refine Kd.C_drew ?_))); (case side2 => exact HC0.out); rintro e w' ⟨rfl, ⟨nd, rfl⟩⟩; refine ⟨_, rfl, ?_⟩) | ((with_reducible refine gate_callee (f := 8) rfl ?_); refine goesL_ (some 20) rfl rfl Tryd.func8 (by kernel_rfl) rfl #[.slice A0 l0.length c0, .int .i64 a1] rfl (by (try simp only [List.map_toArray, List.map_cons, List.map_nil]); first | done | rfl | (simp only [List.length_drop, List.length_take]; rfl)) ?_; (with_reducible refine (laws_light.calls k _ _ l0 a1 false _ ?side1 ?side2 A5.out).mono ?_); (case side1 => repeat (first | exact HR0.out | (with_reducible refine Kd.C_alloc ?_ _) | (with_reducible refine Kd.C_drewN ?_ _) | (with_reducible refine Kd.C_drew ?_))); (case side2 => exact HC0.out); rintro e w' ⟨rfl, ⟨nd, rfl⟩⟩; refine ⟨_, rfl, ?_⟩))
      go_ret
      exact ⟨by first | rfl | (simp [errW_none, errW_some] <;> rfl) | (simp [*, errW_none, errW_some] <;> rfl), by repeat (first | (with_reducible first | exact HB.out | apply below_alloc | apply pw_below_drewN | apply below_drew1) | exact HB.out)⟩
  · replace c4 := Bool.eq_false_iff.mpr c4
    subst c4
    have H1 : (some true) = some r := by rw [if_neg (show ¬ (false = true) by decide)] at H; exact H
    clear H
    have H := H1
    clear H1
    obtain rfl := Option.some.inj H
    go_enter Tryd.func7, Tryd.ntmps7
    go_wp2_with (first | ((with_reducible refine gate_callee (f := 20) rfl ?_); refine goesL_ (some 16) rfl rfl Tryd.func20 (by kernel_rfl) rfl #[.slice A0 l0.length c0] rfl (by (try simp only [List.map_toArray, List.map_cons, List.map_nil]); first | done | rfl | (simp only [List.length_drop, List.length_take]; rfl)) ?_; (with_reducible refine (laws_zzFits2.calls k _ _ l0 false _ ?side1 ?side2 A3.out).mono ?_); (case side1 => repeat (first | exact HR0.out | (with_reducible refine Kd.C_alloc ?_ _) | (with_reducible refine Kd.C_drewN ?_ _) | (with_reducible refine Kd.C_drew ?_))); (case side2 => exact HC0.out); rintro e w' ⟨rfl, ⟨nd, rfl⟩⟩; refine ⟨_, rfl, ?_⟩))
    go_ret
    exact ⟨by first | rfl | (simp [errW_none, errW_some] <;> rfl) | (simp [*, errW_none, errW_some] <;> rfl), by repeat (first | (with_reducible first | exact HB.out | apply below_alloc | apply pw_below_drewN | apply below_drew1) | exact HB.out)⟩

end Go.Proofs.YtjflijebcpcbmaaDoor.G
