/- What is proved: Go functions answer as the Lean functions of this text (written by a program of this session over the print of the kit). Conditions: those in the hypotheses. -/
import Derived.Test.YtjflijebcpcbmaaDoorG0
import Derived.Test.YtjflijebcpcbmaaDoorG1
import Derived.Test.YtjflijebcpcbmaaDoorWGuard
import Derived.Test.YtjflijebcpcbmaaDoorG3
import Derived.Test.YtjflijebcpcbmaaDoorG4
import Derived.Test.YtjflijebcpcbmaaDoorGZ
import Derived.Test.YtjflijebcpcbmaaDoorGL
import Derived.Test.YtjflijebcpcbmaaDoorFrag
namespace Go.Proofs.YtjflijebcpcbmaaDoor.G
open Go.RowKit Go.Proofs.YtjflijebcpcbmaaDoorW.PrintWords Go.Proofs.YtjflijebcpcbmaaDoorW.PrintLast Go.Proofs.YtjflijebcpcbmaaDoorW.PrintMore
attribute [local go_sem] max2_int min2_int max_two min_two max_three min_three max_four min_four   -- for this text's walks alone
set_option linter.unusedVariables false
set_option linter.unusedSimpArgs false

/-! ### laws_FnPiecesEpoch: function 6 -/
mutual
def laws_FnPiecesEpoch.j0 : Nat → List ByteArray → Int → List Int → Int → Bool → Option (Bool)
  | 0, _, _, _, _, _ => none
  | k + 1, x0, x1, x2, x3, x27 => if x27 = true then (some true) else ((laws_light.f k x0 x1).bind fun t233 => (if t233 = true then (laws_FnPiecesEpoch.l0 k x0 x1 x2 x3 ([] : List ByteArray) ([] : List ByteArray) x0 (x0.length : Int) 0) else (some true)))
def laws_FnPiecesEpoch.l0 : Nat → List ByteArray → Int → List Int → Int → List ByteArray → List ByteArray → List ByteArray → Int → Int → Option (Bool)
  | 0, _, _, _, _, _, _, _, _, _ => none
  | k + 1, x0, x1, x2, x3, x9, x10, x32, x33, x34 => if x34 < x33 then (if 0 ≤ x34 then (if x34 < (x32.length : Int) then ((laws_cutting.f k 11 x34 (rdOf ByteArray.empty x32 x34) x1).bind fun t235 => (if x9.length + t235.length < 8796093022208 then ((laws_whole.f k 11 x34 (rdOf ByteArray.empty x32 x34)).bind fun t241 => (if x10.length < 8796093022208 then (laws_FnPiecesEpoch.l0 k x0 x1 x2 x3 (x9 ++ t235) (x10 ++ [t241]) x32 x33 (wrap64 (x34 + 1))) else (none))) else (none))) else (none)) else (none)) else ((laws_shuffle.f k x9 x2).bind fun t245 => (laws_FnPiecesEpoch.l1 k x0 x3 t245 x10 (t245.length : Int) 0))
def laws_FnPiecesEpoch.l1 : Nat → List ByteArray → Int → List ByteArray → List ByteArray → Int → Int → Option (Bool)
  | 0, _, _, _, _, _, _ => none
  | k + 1, x0, x3, x9, x10, x56, x57 => if x57 < x56 then (if 0 ≤ x57 then (if x57 < (x9.length : Int) then ((laws_later.f k x3 x57 (rdOf ByteArray.empty x9 x57)).bind fun t249 => (laws_FnPiecesEpoch.l1 k x0 x3 (x9.set (x57 : Int).toNat t249) x10 x56 (wrap64 (x57 + 1)))) else (none)) else (none)) else ((laws_pops.f k x9 (x0.length : Int)).bind fun t251 => ((impl_Fragments.f t251).bind fun t254 => ((laws_come.f k t251 t254).bind fun bt257 => (if bt257.2 = true then ((laws_texts.f k bt257.1 x10).bind fun t261 => (laws_FnPiecesEpoch.j3 k x3 t251 t254 (!t261))) else (laws_FnPiecesEpoch.j3 k x3 t251 t254 true)))))
def laws_FnPiecesEpoch.j3 : Nat → Int → List (S45) → List (S40) → Bool → Option (Bool)
  | 0, _, _, _, _ => none
  | k + 1, x3, x14, x15, x90 => if x90 = true then (some false) else (laws_FnPiecesEpoch.l2 k x3 x14 x15 (x15.length : Int) 0)
def laws_FnPiecesEpoch.l2 : Nat → Int → List (S45) → List (S40) → Int → Int → Option (Bool)
  | 0, _, _, _, _, _ => none
  | k + 1, x3, x14, x91, x92, x93 => if x93 < x92 then (if 0 ≤ x93 then (if x93 < (x91.length : Int) then (if x93 < (x14.length : Int) then (if ((rd_T45 x14 x93).f0 = true) then (laws_FnPiecesEpoch.l2 k x3 x14 x91 x92 (wrap64 (x93 + 1))) else (if ((rd_T40 x91 x93).f5) = x3 then (laws_FnPiecesEpoch.l2 k x3 x14 x91 x92 (wrap64 (x93 + 1))) else (some false))) else (none)) else (none)) else (none)) else (some true)
end
def laws_FnPiecesEpoch.f (k : Nat) (l0 : List ByteArray) (a1 : Int) (l2 : List Int) (a3 : Int) : Option (Bool) := (laws_zzFits2.f k l0).bind fun t232 => (if t232 = true then (laws_FnPiecesEpoch.j0 k l0 a1 l2 a3 (decide ((l2.length : Int) > 2147483647))) else (laws_FnPiecesEpoch.j0 k l0 a1 l2 a3 true))
theorem laws_FnPiecesEpoch.mono_l : ∀ k, (∀ y0 y1 y2 y3 y4, LeO (laws_FnPiecesEpoch.j0 k y0 y1 y2 y3 y4) (laws_FnPiecesEpoch.j0 (k + 1) y0 y1 y2 y3 y4)) ∧ (∀ y0 y1 y2 y3 y4 y5 y6 y7 y8, LeO (laws_FnPiecesEpoch.l0 k y0 y1 y2 y3 y4 y5 y6 y7 y8) (laws_FnPiecesEpoch.l0 (k + 1) y0 y1 y2 y3 y4 y5 y6 y7 y8)) ∧ (∀ y0 y1 y2 y3 y4 y5, LeO (laws_FnPiecesEpoch.l1 k y0 y1 y2 y3 y4 y5) (laws_FnPiecesEpoch.l1 (k + 1) y0 y1 y2 y3 y4 y5)) ∧ (∀ y0 y1 y2 y3, LeO (laws_FnPiecesEpoch.j3 k y0 y1 y2 y3) (laws_FnPiecesEpoch.j3 (k + 1) y0 y1 y2 y3)) ∧ (∀ y0 y1 y2 y3 y4, LeO (laws_FnPiecesEpoch.l2 k y0 y1 y2 y3 y4) (laws_FnPiecesEpoch.l2 (k + 1) y0 y1 y2 y3 y4))
  | 0 => ⟨fun _ _ _ _ _ r h => by simp [laws_FnPiecesEpoch.j0] at h, fun _ _ _ _ _ _ _ _ _ r h => by simp [laws_FnPiecesEpoch.l0] at h, fun _ _ _ _ _ _ r h => by simp [laws_FnPiecesEpoch.l1] at h, fun _ _ _ _ r h => by simp [laws_FnPiecesEpoch.j3] at h, fun _ _ _ _ _ r h => by simp [laws_FnPiecesEpoch.l2] at h⟩
  | k + 1 => by
    obtain ⟨ih0, ih1, ih2, ih3, ih4⟩ := laws_FnPiecesEpoch.mono_l k
    refine ⟨?_, ?_, ?_, ?_, ?_⟩
    · intro y0 y1 y2 y3 y4
      unfold laws_FnPiecesEpoch.j0
      repeat' first
      | (with_reducible exact ih0 _ _ _ _ _)
      | (with_reducible exact ih1 _ _ _ _ _ _ _ _ _)
      | (with_reducible exact ih2 _ _ _ _ _ _)
      | (with_reducible exact ih3 _ _ _ _)
      | (with_reducible exact ih4 _ _ _ _ _)
      | (with_reducible exact laws_come.mono _ _ _)
      | (with_reducible exact laws_cutting.mono _ _ _ _ _)
      | (with_reducible exact laws_later.mono _ _ _ _)
      | (with_reducible exact laws_light.mono _ _ _)
      | (with_reducible exact laws_pops.mono _ _ _)
      | (with_reducible exact laws_shuffle.mono _ _ _)
      | (with_reducible exact laws_texts.mono _ _ _)
      | (with_reducible exact laws_whole.mono _ _ _ _)
      | (with_reducible exact laws_zzFits2.mono _ _)
      | (with_reducible exact LeO.refl _)
      | (with_reducible exact LeO.none _)
      | (with_reducible refine LeO.ite ?_ ?_)
      | (with_reducible refine LeO.bind ?_ (fun _ => ?_))
      | exact ih0 _ _ _ _ _
      | exact ih1 _ _ _ _ _ _ _ _ _
      | exact ih2 _ _ _ _ _ _
      | exact ih3 _ _ _ _
      | exact ih4 _ _ _ _ _
      | exact laws_come.mono _ _ _
      | exact laws_cutting.mono _ _ _ _ _
      | exact laws_later.mono _ _ _ _
      | exact laws_light.mono _ _ _
      | exact laws_pops.mono _ _ _
      | exact laws_shuffle.mono _ _ _
      | exact laws_texts.mono _ _ _
      | exact laws_whole.mono _ _ _ _
      | exact laws_zzFits2.mono _ _
      | exact LeO.none _
      | refine LeO.ite ?_ ?_
      | refine LeO.bind ?_ (fun _ => ?_)
    · intro y0 y1 y2 y3 y4 y5 y6 y7 y8
      unfold laws_FnPiecesEpoch.l0
      repeat' first
      | (with_reducible exact ih0 _ _ _ _ _)
      | (with_reducible exact ih1 _ _ _ _ _ _ _ _ _)
      | (with_reducible exact ih2 _ _ _ _ _ _)
      | (with_reducible exact ih3 _ _ _ _)
      | (with_reducible exact ih4 _ _ _ _ _)
      | (with_reducible exact laws_come.mono _ _ _)
      | (with_reducible exact laws_cutting.mono _ _ _ _ _)
      | (with_reducible exact laws_later.mono _ _ _ _)
      | (with_reducible exact laws_light.mono _ _ _)
      | (with_reducible exact laws_pops.mono _ _ _)
      | (with_reducible exact laws_shuffle.mono _ _ _)
      | (with_reducible exact laws_texts.mono _ _ _)
      | (with_reducible exact laws_whole.mono _ _ _ _)
      | (with_reducible exact laws_zzFits2.mono _ _)
      | (with_reducible exact LeO.refl _)
      | (with_reducible exact LeO.none _)
      | (with_reducible refine LeO.ite ?_ ?_)
      | (with_reducible refine LeO.bind ?_ (fun _ => ?_))
      | exact ih0 _ _ _ _ _
      | exact ih1 _ _ _ _ _ _ _ _ _
      | exact ih2 _ _ _ _ _ _
      | exact ih3 _ _ _ _
      | exact ih4 _ _ _ _ _
      | exact laws_come.mono _ _ _
      | exact laws_cutting.mono _ _ _ _ _
      | exact laws_later.mono _ _ _ _
      | exact laws_light.mono _ _ _
      | exact laws_pops.mono _ _ _
      | exact laws_shuffle.mono _ _ _
      | exact laws_texts.mono _ _ _
      | exact laws_whole.mono _ _ _ _
      | exact laws_zzFits2.mono _ _
      | exact LeO.none _
      | refine LeO.ite ?_ ?_
      | refine LeO.bind ?_ (fun _ => ?_)
    · intro y0 y1 y2 y3 y4 y5
      unfold laws_FnPiecesEpoch.l1
      repeat' first
      | (with_reducible exact ih0 _ _ _ _ _)
      | (with_reducible exact ih1 _ _ _ _ _ _ _ _ _)
      | (with_reducible exact ih2 _ _ _ _ _ _)
      | (with_reducible exact ih3 _ _ _ _)
      | (with_reducible exact ih4 _ _ _ _ _)
      | (with_reducible exact laws_come.mono _ _ _)
      | (with_reducible exact laws_cutting.mono _ _ _ _ _)
      | (with_reducible exact laws_later.mono _ _ _ _)
      | (with_reducible exact laws_light.mono _ _ _)
      | (with_reducible exact laws_pops.mono _ _ _)
      | (with_reducible exact laws_shuffle.mono _ _ _)
      | (with_reducible exact laws_texts.mono _ _ _)
      | (with_reducible exact laws_whole.mono _ _ _ _)
      | (with_reducible exact laws_zzFits2.mono _ _)
      | (with_reducible exact LeO.refl _)
      | (with_reducible exact LeO.none _)
      | (with_reducible refine LeO.ite ?_ ?_)
      | (with_reducible refine LeO.bind ?_ (fun _ => ?_))
      | exact ih0 _ _ _ _ _
      | exact ih1 _ _ _ _ _ _ _ _ _
      | exact ih2 _ _ _ _ _ _
      | exact ih3 _ _ _ _
      | exact ih4 _ _ _ _ _
      | exact laws_come.mono _ _ _
      | exact laws_cutting.mono _ _ _ _ _
      | exact laws_later.mono _ _ _ _
      | exact laws_light.mono _ _ _
      | exact laws_pops.mono _ _ _
      | exact laws_shuffle.mono _ _ _
      | exact laws_texts.mono _ _ _
      | exact laws_whole.mono _ _ _ _
      | exact laws_zzFits2.mono _ _
      | exact LeO.none _
      | refine LeO.ite ?_ ?_
      | refine LeO.bind ?_ (fun _ => ?_)
    · intro y0 y1 y2 y3
      unfold laws_FnPiecesEpoch.j3
      repeat' first
      | (with_reducible exact ih0 _ _ _ _ _)
      | (with_reducible exact ih1 _ _ _ _ _ _ _ _ _)
      | (with_reducible exact ih2 _ _ _ _ _ _)
      | (with_reducible exact ih3 _ _ _ _)
      | (with_reducible exact ih4 _ _ _ _ _)
      | (with_reducible exact laws_come.mono _ _ _)
      | (with_reducible exact laws_cutting.mono _ _ _ _ _)
      | (with_reducible exact laws_later.mono _ _ _ _)
      | (with_reducible exact laws_light.mono _ _ _)
      | (with_reducible exact laws_pops.mono _ _ _)
      | (with_reducible exact laws_shuffle.mono _ _ _)
      | (with_reducible exact laws_texts.mono _ _ _)
      | (with_reducible exact laws_whole.mono _ _ _ _)
      | (with_reducible exact laws_zzFits2.mono _ _)
      | (with_reducible exact LeO.refl _)
      | (with_reducible exact LeO.none _)
      | (with_reducible refine LeO.ite ?_ ?_)
      | (with_reducible refine LeO.bind ?_ (fun _ => ?_))
      | exact ih0 _ _ _ _ _
      | exact ih1 _ _ _ _ _ _ _ _ _
      | exact ih2 _ _ _ _ _ _
      | exact ih3 _ _ _ _
      | exact ih4 _ _ _ _ _
      | exact laws_come.mono _ _ _
      | exact laws_cutting.mono _ _ _ _ _
      | exact laws_later.mono _ _ _ _
      | exact laws_light.mono _ _ _
      | exact laws_pops.mono _ _ _
      | exact laws_shuffle.mono _ _ _
      | exact laws_texts.mono _ _ _
      | exact laws_whole.mono _ _ _ _
      | exact laws_zzFits2.mono _ _
      | exact LeO.none _
      | refine LeO.ite ?_ ?_
      | refine LeO.bind ?_ (fun _ => ?_)
    · intro y0 y1 y2 y3 y4
      unfold laws_FnPiecesEpoch.l2
      repeat' first
      | (with_reducible exact ih0 _ _ _ _ _)
      | (with_reducible exact ih1 _ _ _ _ _ _ _ _ _)
      | (with_reducible exact ih2 _ _ _ _ _ _)
      | (with_reducible exact ih3 _ _ _ _)
      | (with_reducible exact ih4 _ _ _ _ _)
      | (with_reducible exact laws_come.mono _ _ _)
      | (with_reducible exact laws_cutting.mono _ _ _ _ _)
      | (with_reducible exact laws_later.mono _ _ _ _)
      | (with_reducible exact laws_light.mono _ _ _)
      | (with_reducible exact laws_pops.mono _ _ _)
      | (with_reducible exact laws_shuffle.mono _ _ _)
      | (with_reducible exact laws_texts.mono _ _ _)
      | (with_reducible exact laws_whole.mono _ _ _ _)
      | (with_reducible exact laws_zzFits2.mono _ _)
      | (with_reducible exact LeO.refl _)
      | (with_reducible exact LeO.none _)
      | (with_reducible refine LeO.ite ?_ ?_)
      | (with_reducible refine LeO.bind ?_ (fun _ => ?_))
      | exact ih0 _ _ _ _ _
      | exact ih1 _ _ _ _ _ _ _ _ _
      | exact ih2 _ _ _ _ _ _
      | exact ih3 _ _ _ _
      | exact ih4 _ _ _ _ _
      | exact laws_come.mono _ _ _
      | exact laws_cutting.mono _ _ _ _ _
      | exact laws_later.mono _ _ _ _
      | exact laws_light.mono _ _ _
      | exact laws_pops.mono _ _ _
      | exact laws_shuffle.mono _ _ _
      | exact laws_texts.mono _ _ _
      | exact laws_whole.mono _ _ _ _
      | exact laws_zzFits2.mono _ _
      | exact LeO.none _
      | refine LeO.ite ?_ ?_
      | refine LeO.bind ?_ (fun _ => ?_)
theorem laws_FnPiecesEpoch.mono : ∀ a0 a1 a2 a3 k, LeO (laws_FnPiecesEpoch.f k a0 a1 a2 a3) (laws_FnPiecesEpoch.f (k + 1) a0 a1 a2 a3) := by
  intro a0 a1 a2 a3 k
  obtain ⟨ih0, ih1, ih2, ih3, ih4⟩ := laws_FnPiecesEpoch.mono_l k
  unfold laws_FnPiecesEpoch.f
  repeat' first
      | (with_reducible exact ih0 _ _ _ _ _)
      | (with_reducible exact ih1 _ _ _ _ _ _ _ _ _)
      | (with_reducible exact ih2 _ _ _ _ _ _)
      | (with_reducible exact ih3 _ _ _ _)
      | (with_reducible exact ih4 _ _ _ _ _)
      | (with_reducible exact laws_come.mono _ _ _)
      | (with_reducible exact laws_cutting.mono _ _ _ _ _)
      | (with_reducible exact laws_later.mono _ _ _ _)
      | (with_reducible exact laws_light.mono _ _ _)
      | (with_reducible exact laws_pops.mono _ _ _)
      | (with_reducible exact laws_shuffle.mono _ _ _)
      | (with_reducible exact laws_texts.mono _ _ _)
      | (with_reducible exact laws_whole.mono _ _ _ _)
      | (with_reducible exact laws_zzFits2.mono _ _)
      | (with_reducible exact LeO.refl _)
      | (with_reducible exact LeO.none _)
      | (with_reducible refine LeO.ite ?_ ?_)
      | (with_reducible refine LeO.bind ?_ (fun _ => ?_))
      | exact ih0 _ _ _ _ _
      | exact ih1 _ _ _ _ _ _ _ _ _
      | exact ih2 _ _ _ _ _ _
      | exact ih3 _ _ _ _
      | exact ih4 _ _ _ _ _
      | exact laws_come.mono _ _ _
      | exact laws_cutting.mono _ _ _ _ _
      | exact laws_later.mono _ _ _ _
      | exact laws_light.mono _ _ _
      | exact laws_pops.mono _ _ _
      | exact laws_shuffle.mono _ _ _
      | exact laws_texts.mono _ _ _
      | exact laws_whole.mono _ _ _ _
      | exact laws_zzFits2.mono _ _
      | exact LeO.none _
      | refine LeO.ite ?_ ?_
      | refine LeO.bind ?_ (fun _ => ?_)
set_option maxHeartbeats 8000000 in
set_option maxRecDepth 100000 in
theorem laws_FnPiecesEpoch.calls (k : Nat) (A0 : Option Addr) (c0 : Nat) (l0 : List ByteArray) (a1 : Int) (A2 : Option Addr) (c2 : Nat) (l2 : List Int) (a3 : Int) (r : Bool) (w : World) (hr0 : Kd.C Kd.string w A0 l0.length l0) (hc0 : l0.length ≤ c0) (hr2 : Kd.C (Kd.int .i64) w A2 l2.length l2) (hc2 : l2.length ≤ c2) (h : laws_FnPiecesEpoch.f k l0 a1 l2 a3 = some r) (HL : Laid w) :
    Calls Tryd.prog 6 #[.slice A0 l0.length c0, .int .i64 a1, .slice A2 l2.length c2, .int .u16 a3] w fun e w' => e = .returned (.bool r) ∧ Below w.heap.size w w' := by
  have hu40 := Tryd.underlying40
  have HR0 := Aside0.mk hr0
  have HC0 := Aside0.mk hc0
  clear hr0 hc0
  have HR2 := Aside0.mk hr2
  have HC2 := Aside0.mk hc2
  clear hr2 hc2
  have HB := Aside0.mk (Below.refl w.heap.size w)
  have HLW := Aside0.mk HL
  clear HL
  have H : ((laws_zzFits2.f k l0).bind fun t232 => (if t232 = true then (laws_FnPiecesEpoch.j0 k l0 a1 l2 a3 (decide ((l2.length : Int) > 2147483647))) else (laws_FnPiecesEpoch.j0 k l0 a1 l2 a3 true))) = some r := h
  clear h
  have HC5 := Aside0.mk H
  clear H
  go_enter Tryd.func6, Tryd.ntmps6
  go_upto_region 1 with (fail)
  go_cut [27] (fun v27 wc => ∃ (kq : Nat) (x27_4 : Bool), v27 = .bool x27_4 ∧ Aside0 (laws_FnPiecesEpoch.j0 kq l0 a1 l2 a3 x27_4 = some r) ∧ Aside0 (kq ≤ k) ∧ Aside0 (Below w.heap.size w wc))
  case first =>
    have H := HC5.out
    clear HC5
    replace H := Option.bind_eq_some_iff.mp H
    obtain ⟨t232, A60, H⟩ := H
    replace H : (if t232 = true then (laws_FnPiecesEpoch.j0 k l0 a1 l2 a3 (decide ((l2.length : Int) > 2147483647))) else (laws_FnPiecesEpoch.j0 k l0 a1 l2 a3 true)) = some r := H
    have A6 := Aside0.mk A60
    clear A60
    by_cases c7 : t232 = true
    · subst c7
      have H1 : (laws_FnPiecesEpoch.j0 k l0 a1 l2 a3 (decide ((l2.length : Int) > 2147483647))) = some r := by rw [if_pos rfl] at H; exact H
      clear H
      have H := H1
      clear H1
      have H' := Aside0.mk H
      clear H
      go_wp2_with (first | ((with_reducible refine gate_callee (f := 20) rfl ?_); refine goesL_ (some 21) rfl rfl Tryd.func20 (by kernel_rfl) rfl #[.slice A0 l0.length c0] rfl (by (try simp only [List.map_toArray, List.map_cons, List.map_nil]); first | done | rfl | (simp only [List.length_drop, List.length_take]; rfl)) ?_; (with_reducible refine (laws_zzFits2.calls k _ _ l0 true _ ?side1 ?side2 A6.out).mono ?_); (case side1 => repeat (first | exact (Kd.C_below HR0.out HB.out) | (with_reducible refine Kd.C_alloc ?_ _) | (with_reducible refine Kd.C_drewN ?_ _) | (with_reducible refine Kd.C_drew ?_))); (case side2 => exact HC0.out); rintro e w' ⟨rfl, ⟨nd, rfl⟩⟩; refine ⟨_, rfl, ?_⟩))
      go_meet
      case rel => exact ⟨_, (decide ((l2.length : Int) > 2147483647)), (by first | rfl | (simp; done) | (simp [*]; done)), H', ⟨by first | omega | exact Nat.le_refl _⟩, ⟨by repeat (first | (with_reducible first | exact HB.out | apply below_alloc | apply pw_below_drewN | apply below_drew1) | exact HB.out)⟩⟩
    · replace c7 := Bool.eq_false_iff.mpr c7
      subst c7
      have H1 : (laws_FnPiecesEpoch.j0 k l0 a1 l2 a3 true) = some r := by rw [if_neg (show ¬ (false = true) by decide)] at H; exact H
      clear H
      have H := H1
      clear H1
      have H' := Aside0.mk H
      clear H
      go_wp2_with (first | ((with_reducible refine gate_callee (f := 20) rfl ?_); refine goesL_ (some 21) rfl rfl Tryd.func20 (by kernel_rfl) rfl #[.slice A0 l0.length c0] rfl (by (try simp only [List.map_toArray, List.map_cons, List.map_nil]); first | done | rfl | (simp only [List.length_drop, List.length_take]; rfl)) ?_; (with_reducible refine (laws_zzFits2.calls k _ _ l0 false _ ?side1 ?side2 A6.out).mono ?_); (case side1 => repeat (first | exact (Kd.C_below HR0.out HB.out) | (with_reducible refine Kd.C_alloc ?_ _) | (with_reducible refine Kd.C_drewN ?_ _) | (with_reducible refine Kd.C_drew ?_))); (case side2 => exact HC0.out); rintro e w' ⟨rfl, ⟨nd, rfl⟩⟩; refine ⟨_, rfl, ?_⟩))
      go_meet
      case rel => exact ⟨_, (true), (by first | rfl | (simp; done) | (simp [*]; done)), H', ⟨by first | omega | exact Nat.le_refl _⟩, ⟨by repeat (first | (with_reducible first | exact HB.out | apply below_alloc | apply pw_below_drewN | apply below_drew1) | exact HB.out)⟩⟩
  case rest =>
    clear HC5
    try clear c2
    try clear p2
    try clear c6
    try clear c7
    obtain ⟨kq, x27_4, rfl, HA, HJ4, HB⟩ := hcut
    cases kq with
    | zero => exact absurd HA.out (by simp [laws_FnPiecesEpoch.j0])
    | succ kj4 =>
      have H := HA.out
      clear HA
      simp only [laws_FnPiecesEpoch.j0] at H
      by_cases c8 : x27_4 = true
      · subst c8
        have H1 : (some true) = some r := by rw [if_pos rfl] at H; exact H
        clear H
        have H := H1
        clear H1
        obtain rfl := Option.some.inj H
        go_wp2
        go_ret
        exact ⟨by first | rfl | (simp [errW_none, errW_some] <;> rfl) | (simp [*, errW_none, errW_some] <;> rfl), by repeat (first | (with_reducible first | exact HB.out | apply below_alloc | apply pw_below_drewN | apply below_drew1) | exact HB.out)⟩
      · replace c8 := Bool.eq_false_iff.mpr c8
        subst c8
        have H1 : ((laws_light.f kj4 l0 a1).bind fun t233 => (if t233 = true then (laws_FnPiecesEpoch.l0 kj4 l0 a1 l2 a3 ([] : List ByteArray) ([] : List ByteArray) l0 (l0.length : Int) 0) else (some true))) = some r := by rw [if_neg (show ¬ (false = true) by decide)] at H; exact H
        clear H
        have H := H1
        clear H1
        replace H := Option.bind_eq_some_iff.mp H
        obtain ⟨t233, A90, H⟩ := H
        replace H : (if t233 = true then (laws_FnPiecesEpoch.l0 kj4 l0 a1 l2 a3 ([] : List ByteArray) ([] : List ByteArray) l0 (l0.length : Int) 0) else (some true)) = some r := H
        have A9 := Aside0.mk A90
        clear A90
        by_cases c10 : t233 = true
        · subst c10
          have H1 : (laws_FnPiecesEpoch.l0 kj4 l0 a1 l2 a3 ([] : List ByteArray) ([] : List ByteArray) l0 (l0.length : Int) 0) = some r := by rw [if_pos rfl] at H; exact H
          clear H
          have H := H1
          clear H1
          have H' := Aside0.mk H
          clear H
          go_wp2_with (first | ((with_reducible refine gate_callee (f := 8) rfl ?_); refine goesL_ (some 30) rfl rfl Tryd.func8 (by kernel_rfl) rfl #[.slice A0 l0.length c0, .int .i64 a1] rfl (by (try simp only [List.map_toArray, List.map_cons, List.map_nil]); first | done | rfl | (simp only [List.length_drop, List.length_take]; rfl)) ?_; (with_reducible refine (laws_light.calls kj4 _ _ l0 a1 true _ ?side1 ?side2 A9.out).mono ?_); (case side1 => repeat (first | exact (Kd.C_below HR0.out HB.out) | (with_reducible refine Kd.C_alloc ?_ _) | (with_reducible refine Kd.C_drewN ?_ _) | (with_reducible refine Kd.C_drew ?_))); (case side2 => exact HC0.out); rintro e w' ⟨rfl, ⟨nd, rfl⟩⟩; refine ⟨_, rfl, ?_⟩))
          go_loopg [9, 10, 34] kj4 (fun kq v9 v10 v34 w' => ∃ (x9_2 : List ByteArray) (x10_2 : List ByteArray) (x34_2 : Int), v34 = .int .i64 x34_2 ∧ Aside0 (laws_FnPiecesEpoch.l0 kq l0 a1 l2 a3 x9_2 x10_2 l0 (l0.length : Int) x34_2 = some r) ∧ Aside0 (kq ≤ kj4) ∧ Aside0 (Kd.R Kd.string 9 w' w.heap.size (fun k_ => some k_ ≠ (v10 : Value).ownBlock) v9 x9_2) ∧ Aside0 (Kd.R Kd.string 9 w' w.heap.size (fun k_ => some k_ ≠ (v9 : Value).ownBlock) v10 x10_2) ∧ Aside0 (Below w.heap.size w w'))
          case atStart => exact ⟨(([] : List ByteArray)), (([] : List ByteArray)), (0), (by first | rfl | (simp; done) | (simp [*]; done)), H', ⟨Nat.le_refl _⟩, ⟨by first | exact Kd.R_nil _ _ _ _ _ | exact Kd.N_nil _ _ _ _ _ | exact Kd.V_nil _ _ _ _ _ | exact Kd.Q_nil _ _ _ _ _ | exact Kd.S_nil _ _ _ _ _⟩, ⟨by first | exact Kd.R_nil _ _ _ _ _ | exact Kd.N_nil _ _ _ _ _ | exact Kd.V_nil _ _ _ _ _ | exact Kd.Q_nil _ _ _ _ _ | exact Kd.S_nil _ _ _ _ _⟩, ⟨by repeat (first | (with_reducible first | exact HB.out | apply below_alloc | apply pw_below_drewN | apply below_drew1) | exact HB.out)⟩⟩
          case round =>
            clear H'
            try clear c1
            try clear c2
            try clear p2
            try clear c6
            try clear c7
            try clear c8
            try clear c10
            try clear p2
            obtain ⟨x9_2, x10_2, x34_2, rfl, HA, HK2, HO_9, HO_10, HB⟩ := hrel
            cases gk with
            | zero => exact absurd HA.out (by simp [laws_FnPiecesEpoch.l0])
            | succ k2 =>
              have H := HA.out
              clear HA
              simp only [laws_FnPiecesEpoch.l0] at H
              by_cases c11 : x34_2 < (l0.length : Int)
              · rw [if_pos c11] at H
                have c11b0 : decide (x34_2 < (l0.length : Int)) = true := decide_eq_true c11
                clear c11
                by_cases c12 : 0 ≤ x34_2
                · rw [if_pos c12] at H
                  have c12b0 : decide (0 ≤ x34_2) = true := decide_eq_true c12
                  clear c12
                  by_cases c13 : x34_2 < (l0.length : Int)
                  · rw [if_pos c13] at H
                    have c13b0 : decide (x34_2 < (l0.length : Int)) = true := decide_eq_true c13
                    clear c13
                    replace H := Option.bind_eq_some_iff.mp H
                    obtain ⟨t235, A140, H⟩ := H
                    replace H : (if x9_2.length + t235.length < 8796093022208 then ((laws_whole.f k2 11 x34_2 (rdOf ByteArray.empty l0 x34_2)).bind fun t241 => (if x10_2.length < 8796093022208 then (laws_FnPiecesEpoch.l0 k2 l0 a1 l2 a3 (x9_2 ++ t235) (x10_2 ++ [t241]) l0 (l0.length : Int) (wrap64 (x34_2 + 1))) else (none))) else (none)) = some r := H
                    have A14 := Aside0.mk A140
                    clear A140
                    by_cases c15 : x9_2.length + t235.length < 8796093022208
                    · rw [if_pos c15] at H
                      have LMc15 := Aside0.mk c15
                      clear c15
                      obtain ⟨y238, hy238⟩ : ∃ y_ : List ByteArray, y_ = (x9_2 ++ t235) := ⟨_, rfl⟩
                      replace H : ((laws_whole.f k2 11 x34_2 (rdOf ByteArray.empty l0 x34_2)).bind fun t241 => (if x10_2.length < 8796093022208 then (laws_FnPiecesEpoch.l0 k2 l0 a1 l2 a3 y238 (x10_2 ++ [t241]) l0 (l0.length : Int) (wrap64 (x34_2 + 1))) else (none))) = some r := by first | (rw [hy238]; with_reducible exact H) | (have H2_ := (Option.bind_some _ _).symm.trans H; rw [hy238]; with_reducible exact H2_) | (have H2_ := (Option.bind_some _ _).symm.trans H; with_reducible exact H2_) | with_reducible exact H | (rw [hy238]; exact H) | exact H
                      have Ny238 := Aside0.mk hy238
                      clear hy238
                      replace H := Option.bind_eq_some_iff.mp H
                      obtain ⟨t241, A160, H⟩ := H
                      replace H : (if x10_2.length < 8796093022208 then (laws_FnPiecesEpoch.l0 k2 l0 a1 l2 a3 y238 (x10_2 ++ [t241]) l0 (l0.length : Int) (wrap64 (x34_2 + 1))) else (none)) = some r := H
                      have A16 := Aside0.mk A160
                      clear A160
                      by_cases c17 : x10_2.length < 8796093022208
                      · rw [if_pos c17] at H
                        have LMc17 := Aside0.mk c17
                        clear c17
                        obtain ⟨y242, hy242⟩ : ∃ y_ : List ByteArray, y_ = (x10_2 ++ [t241]) := ⟨_, rfl⟩
                        replace H : (laws_FnPiecesEpoch.l0 k2 l0 a1 l2 a3 y238 y242 l0 (l0.length : Int) (wrap64 (x34_2 + 1))) = some r := by first | (rw [hy242]; with_reducible exact H) | (have H2_ := (Option.bind_some _ _).symm.trans H; rw [hy242]; with_reducible exact H2_) | (have H2_ := (Option.bind_some _ _).symm.trans H; with_reducible exact H2_) | with_reducible exact H | (rw [hy242]; exact H) | exact H
                        have Ny242 := Aside0.mk hy242
                        clear hy242
                        have H' := Aside0.mk H
                        clear H
                        have p234 : 0 ≤ (x34_2 : Int) := of_decide_eq_true (by first | (with_reducible assumption) | assumption)
                        have q234 : x34_2 < (l0.length : Int) := of_decide_eq_true (by first | (with_reducible assumption) | assumption)
                        obtain ⟨ad234, e234, hx234_0⟩ := Kd.at_string HR0.out x34_2 p234 q234
                        cases e234
                        replace hx234_0 := (HB.out.cell (World.block_lt_of_cell? w _ hx234_0)).trans hx234_0
                        replace p234 := eq_true p234
                        replace q234 := eq_true q234
                        go_wp2_with (first | ((with_reducible refine gate_callee (f := 10) rfl ?_); refine goesL_ (some 43) rfl rfl Tryd.func10 (by kernel_rfl) rfl #[.int .u8 11, .int .i64 x34_2, .string (rdOf ByteArray.empty l0 x34_2), .int .i64 a1] rfl (by (try simp only [List.map_toArray, List.map_cons, List.map_nil]); first | done | rfl | (simp only [List.length_drop, List.length_take]; rfl)) ?_; (with_reducible refine (laws_cutting.calls k2 11 x34_2 (rdOf ByteArray.empty l0 x34_2) a1 t235 _ A14.out).mono ?_); rintro e w18 ⟨v236, rfl, ho0, hb⟩; refine ⟨_, rfl, ?_⟩; have n0_ := Aside0.mk (Kd.R_elder' (by (with_reducible repeat (first | apply Kd.R_alloc | apply Kd.R_drewN | apply Kd.R_drew)); exact HO_9.out) (Kd.R_base ho0) hb); have n1_ := Aside0.mk (Kd.R_elder' (by (with_reducible repeat (first | apply Kd.R_alloc | apply Kd.R_drewN | apply Kd.R_drew)); exact HO_10.out) (Kd.R_base ho0) hb); have n2_ := Aside0.mk (Kd.R_lower (Kd.R_new' (Kd.R_new' ho0 (Kd.R_lt (by (with_reducible repeat (first | apply Kd.R_alloc | apply Kd.R_drewN | apply Kd.R_drew)); exact HO_9.out))) (Kd.R_lt (by (with_reducible repeat (first | apply Kd.R_alloc | apply Kd.R_drewN | apply Kd.R_drew)); exact HO_10.out))) (below_size (by repeat (first | (with_reducible first | exact HB.out | apply below_alloc | apply pw_below_drewN | apply below_drew1) | exact HB.out)))); have n3_ := Aside0.mk (below_step (by repeat (first | (with_reducible first | exact HB.out | apply below_alloc | apply pw_below_drewN | apply below_drew1) | exact HB.out)) hb); clear HO_9; clear HO_10; clear HB; have HO_9 := n0_; have HO_10 := n1_; have HO237 := n2_; have HB := n3_; clear n0_ n1_ n2_ n3_; (try clear hb); (try clear hb2); (try clear hk); (try clear hi); (try clear ho0); obtain ⟨Ao20, co20, eo20⟩ := Kd.R_slice HO237.out; subst eo20) | ((with_reducible refine gate_builtin (b := .append) (xs := #[.tmp 39, .tmp 43]) rfl ?_); (try (refine gate_guard (by rfl) ?_; dsimp only)); at_builtin; refine Kd.R_append_rows Kd.string (w0 := w) w.heap.size rfl (.tmp 39) (.tmp 43) 24 9 (.string ⟨#[]⟩) 16 rfl Tryd.underlying24 info9 rfl (by decide) (by omega) u9 x9_2 t235 _ _ _ (fun k_ => some k_ ≠ (u10 : Value).ownBlock ∧ some k_ ≠ (.slice Ao20 t235.length co20 : Value).ownBlock) (fun _ => False) rfl rfl ?aO ?aR (fun _ _ h => h) (fun _ h => h.elim) ?aF ?aB ?aS ?aL ?_; (case aR => repeat (first | exact (Kd.R_reads' HO237.out).2.2 | (with_reducible refine Kd.C_alloc ?_ _) | (with_reducible refine Kd.C_drewN ?_ _) | (with_reducible refine Kd.C_drew ?_))); (case aB => exact (by repeat (first | (with_reducible first | exact HB.out | apply below_alloc | apply pw_below_drewN | apply below_drew1) | exact HB.out))); (case aF => exact (fun k_ hk => ⟨Kd.fresh' (Kd.R_lt (by (with_reducible repeat (first | apply Kd.R_alloc | apply Kd.R_drewN | apply Kd.R_drew)); exact HO_10.out)) k_ hk, Kd.fresh' (Kd.R_lt (by (with_reducible repeat (first | apply Kd.R_alloc | apply Kd.R_drewN | apply Kd.R_drew)); exact HO237.out)) k_ hk⟩)); (case aO => exact (by (with_reducible repeat (first | apply Kd.R_alloc | apply Kd.R_drewN | apply Kd.R_drew)); exact HO_9.out)); (case aS => exact (below_size (by repeat (first | (with_reducible first | exact HB.out | apply below_alloc | apply pw_below_drewN | apply below_drew1) | exact HB.out)))); (case aL => have := LMc15.out; omega); intro v239 w19 ho hb hg hat; rw [← Ny238.out] at ho; have n0_ := Aside0.mk (Kd.R_after (ok := (fun k_ => some k_ ≠ (.slice Ao20 t235.length co20 : Value).ownBlock)) (by (with_reducible repeat (first | apply Kd.R_alloc | apply Kd.R_drewN | apply Kd.R_drew)); exact Kd.R_mono HO_10.out (fun _ hk => ⟨hk.2, hk.1⟩)) hg hat); have n1_ := Aside0.mk (Kd.R_after (ok := (fun k_ => some k_ ≠ (u10 : Value).ownBlock)) (by (with_reducible repeat (first | apply Kd.R_alloc | apply Kd.R_drewN | apply Kd.R_drew)); exact Kd.R_mono HO237.out (fun _ hk => ⟨hk.2, hk.1.2⟩)) hg hat); have n2_ := Aside0.mk (hb); have n3_ := Aside0.mk (ho); clear HO_10; clear HO237; clear HB; clear HO_9; have HO_10 := n0_; have HO237 := n1_; have HB := n2_; have HO240 := n3_; clear n0_ n1_ n2_ n3_; clear ho hb hg hat) | ((with_reducible refine gate_callee (f := 16) rfl ?_); refine goesL_ (some 48) rfl rfl Tryd.func16 (by kernel_rfl) rfl #[.int .u8 11, .int .i64 x34_2, .string (rdOf ByteArray.empty l0 x34_2)] rfl (by (try simp only [List.map_toArray, List.map_cons, List.map_nil]); first | done | rfl | (simp only [List.length_drop, List.length_take]; rfl)) ?_; (with_reducible refine (laws_whole.calls k2 11 x34_2 (rdOf ByteArray.empty l0 x34_2) t241 _ A16.out).mono ?_); rintro e w21 ⟨rfl, hb⟩; refine ⟨_, rfl, ?_⟩; have n0_ := Aside0.mk (Kd.R_below (by (with_reducible repeat (first | apply Kd.R_alloc | apply Kd.R_drewN | apply Kd.R_drew)); exact HO_10.out) hb); have n1_ := Aside0.mk (Kd.R_below (by (with_reducible repeat (first | apply Kd.R_alloc | apply Kd.R_drewN | apply Kd.R_drew)); exact HO237.out) hb); have n2_ := Aside0.mk (Kd.R_below (by (with_reducible repeat (first | apply Kd.R_alloc | apply Kd.R_drewN | apply Kd.R_drew)); exact HO240.out) hb); have n3_ := Aside0.mk (below_step (by repeat (first | (with_reducible first | exact HB.out | apply below_alloc | apply pw_below_drewN | apply below_drew1) | exact HB.out)) hb); clear HO_10; clear HO237; clear HO240; clear HB; have HO_10 := n0_; have HO237 := n1_; have HO240 := n2_; have HB := n3_; clear n0_ n1_ n2_ n3_; (try clear hb); (try clear hb2); (try clear hk); (try clear hi)) | ((with_reducible refine gate_builtin (b := .append) (xs := #[.tmp 45, .tmp 49]) rfl ?_); (try (refine gate_guard (by rfl) ?_; dsimp only)); at_builtin; refine Kd.R_append Kd.string (w0 := w) w.heap.size rfl (.tmp 45) (.tmp 49) 24 9 (.string ⟨#[]⟩) 16 rfl Tryd.underlying24 info9 rfl (by decide) (by omega) u10 x10_2 t241 [.string t241] (fun k_ => some k_ ≠ (.slice Ao20 t235.length co20 : Value).ownBlock ∧ some k_ ≠ (v239 : Value).ownBlock) (fun _ => False) rfl rfl ?aP (fun _ hk => hk.elim) ?aF ?aO ?aB ?aS ?aL ?_; (case aP => exact rfl); (case aB => exact (by repeat (first | (with_reducible first | exact HB.out | apply below_alloc | apply pw_below_drewN | apply below_drew1) | exact HB.out))); (case aF => exact (fun k_ hk => ⟨Kd.fresh' (Kd.R_lt (by (with_reducible repeat (first | apply Kd.R_alloc | apply Kd.R_drewN | apply Kd.R_drew)); exact HO237.out)) k_ hk, Kd.fresh' (Kd.R_lt (by (with_reducible repeat (first | apply Kd.R_alloc | apply Kd.R_drewN | apply Kd.R_drew)); exact HO240.out)) k_ hk⟩)); (case aO => exact (by (with_reducible repeat (first | apply Kd.R_alloc | apply Kd.R_drewN | apply Kd.R_drew)); exact HO_10.out)); (case aS => exact (below_size (by repeat (first | (with_reducible first | exact HB.out | apply below_alloc | apply pw_below_drewN | apply below_drew1) | exact HB.out)))); (case aL => have := LMc17.out; omega); intro v243 w22 ho hb hg hat; rw [← Ny242.out] at ho; have n0_ := Aside0.mk (Kd.R_after (ok := (fun k_ => some k_ ≠ (v239 : Value).ownBlock)) (by (with_reducible repeat (first | apply Kd.R_alloc | apply Kd.R_drewN | apply Kd.R_drew)); exact Kd.R_mono HO237.out (fun _ hk => ⟨hk.2, hk.1⟩)) hg hat); have n1_ := Aside0.mk (Kd.R_after (ok := (fun k_ => some k_ ≠ (.slice Ao20 t235.length co20 : Value).ownBlock)) (by (with_reducible repeat (first | apply Kd.R_alloc | apply Kd.R_drewN | apply Kd.R_drew)); exact Kd.R_mono HO240.out (fun _ hk => ⟨hk.2, hk.1⟩)) hg hat); have n2_ := Aside0.mk (hb); have n3_ := Aside0.mk (ho); clear HO237; clear HO240; clear HB; clear HO_10; have HO237 := n0_; have HO240 := n1_; have HB := n2_; have HO244 := n3_; clear n0_ n1_ n2_ n3_; clear ho hb hg hat))
                        go_roundg k2
                        case measure => have := HJ4.out; have := HK2.out; omega
                        case rel => exact ⟨(y238), (y242), (wrap64 (x34_2 + 1)), (by first | rfl | (simp; done) | (simp [*]; done)), H', ⟨by have := HJ4.out; have := HK2.out; omega⟩, ⟨by (with_reducible repeat (first | apply Kd.R_alloc | apply Kd.R_drewN | apply Kd.R_drew)); exact Kd.R_mono HO240.out (fun _ hk => hk.2)⟩, ⟨by (with_reducible repeat (first | apply Kd.R_alloc | apply Kd.R_drewN | apply Kd.R_drew)); exact Kd.R_mono HO244.out (fun _ hk => hk.2)⟩, ⟨by repeat (first | (with_reducible first | exact HB.out | apply below_alloc | apply pw_below_drewN | apply below_drew1) | exact HB.out)⟩⟩
                      · rw [if_neg c17] at H
                        exact absurd H (by simp)
                    · rw [if_neg c15] at H
                      exact absurd H (by simp)
                  · rw [if_neg c13] at H
                    exact absurd H (by simp)
                · rw [if_neg c12] at H
                  exact absurd H (by simp)
              · rw [if_neg c11] at H
                have c11b0 : decide (x34_2 < (l0.length : Int)) = false := decide_eq_false c11
                clear c11
                replace H := Option.bind_eq_some_iff.mp H
                obtain ⟨t245, A230, H⟩ := H
                replace H : (laws_FnPiecesEpoch.l1 k2 l0 a3 t245 x10_2 (t245.length : Int) 0) = some r := H
                have A23 := Aside0.mk A230
                clear A230
                have H' := Aside0.mk H
                clear H
                obtain ⟨Ao24, co24, eo24⟩ := Kd.R_slice HO_9.out
                subst eo24
                go_wp2_with (first | ((with_reducible refine gate_callee (f := 9) rfl ?_); refine goesL_ (some 54) rfl rfl Tryd.func9 (by kernel_rfl) rfl #[.slice Ao24 x9_2.length co24, .slice A2 l2.length c2] rfl (by (try simp only [List.map_toArray, List.map_cons, List.map_nil]); first | done | rfl | (simp only [List.length_drop, List.length_take]; rfl)) ?_; (with_reducible refine (laws_shuffle.calls k2 _ _ x9_2 _ _ l2 t245 _ ?side1 ?side2 ?side3 ?side4 A23.out).mono ?_); (case side1 => repeat (first | exact (Kd.R_reads' HO_9.out).2.2 | (with_reducible refine Kd.C_alloc ?_ _) | (with_reducible refine Kd.C_drewN ?_ _) | (with_reducible refine Kd.C_drew ?_))); (case side2 => exact (Kd.R_reads' HO_9.out).2.1); (case side3 => repeat (first | exact (Kd.C_below HR2.out HB.out) | (with_reducible refine Kd.C_alloc ?_ _) | (with_reducible refine Kd.C_drewN ?_ _) | (with_reducible refine Kd.C_drew ?_))); (case side4 => exact HC2.out); rintro e w25 ⟨v246, rfl, ho0, hb⟩; refine ⟨_, rfl, ?_⟩; have n0_ := Aside0.mk (Kd.R_elder' (by (with_reducible repeat (first | apply Kd.R_alloc | apply Kd.R_drewN | apply Kd.R_drew)); exact HO_9.out) (Kd.R_base ho0) hb); have n1_ := Aside0.mk (Kd.R_elder' (by (with_reducible repeat (first | apply Kd.R_alloc | apply Kd.R_drewN | apply Kd.R_drew)); exact HO_10.out) (Kd.R_base ho0) hb); have n2_ := Aside0.mk (Kd.R_lower (Kd.R_new' (Kd.R_new' ho0 (Kd.R_lt (by (with_reducible repeat (first | apply Kd.R_alloc | apply Kd.R_drewN | apply Kd.R_drew)); exact HO_9.out))) (Kd.R_lt (by (with_reducible repeat (first | apply Kd.R_alloc | apply Kd.R_drewN | apply Kd.R_drew)); exact HO_10.out))) (below_size (by repeat (first | (with_reducible first | exact HB.out | apply below_alloc | apply pw_below_drewN | apply below_drew1) | exact HB.out)))); have n3_ := Aside0.mk (below_step (by repeat (first | (with_reducible first | exact HB.out | apply below_alloc | apply pw_below_drewN | apply below_drew1) | exact HB.out)) hb); clear HO_9; clear HO_10; clear HB; have HO_9 := n0_; have HO_10 := n1_; have HO247 := n2_; have HB := n3_; clear n0_ n1_ n2_ n3_; (try clear hb); (try clear hb2); (try clear hk); (try clear hi); (try clear ho0); obtain ⟨Ao26, co26, eo26⟩ := Kd.R_slice HO247.out; subst eo26))
                go_loopg [57] k2 (fun kq v57 w' => ∃ (x9_3 : List ByteArray) (x57_3 : Int), v57 = .int .i64 x57_3 ∧ Aside0 (laws_FnPiecesEpoch.l1 kq l0 a3 x9_3 x10_2 (t245.length : Int) x57_3 = some r) ∧ Aside0 (kq ≤ k2) ∧ Aside0 (Kd.R Kd.string 9 w' w.heap.size (fun k_ => some k_ ≠ (u10 : Value).ownBlock) (.slice Ao26 t245.length co26) x9_3) ∧ Aside0 (Kd.R Kd.string 9 w' w.heap.size (fun k_ => some k_ ≠ ((.slice Ao26 t245.length co26) : Value).ownBlock) u10 x10_2) ∧ Aside0 (Below w.heap.size w w'))
                case atStart => exact ⟨(t245), (0), (by first | rfl | (simp; done) | (simp [*]; done)), H', ⟨Nat.le_refl _⟩, ⟨by (with_reducible repeat (first | apply Kd.R_alloc | apply Kd.R_drewN | apply Kd.R_drew)); exact Kd.R_mono HO247.out (fun _ hk => hk.2)⟩, ⟨by (with_reducible repeat (first | apply Kd.R_alloc | apply Kd.R_drewN | apply Kd.R_drew)); exact Kd.R_mono HO_10.out (fun _ hk => hk.2)⟩, ⟨by repeat (first | (with_reducible first | exact HB.out | apply below_alloc | apply pw_below_drewN | apply below_drew1) | exact HB.out)⟩⟩
                case round =>
                  clear H'
                  try clear c1
                  try clear c2
                  try clear p2
                  try clear q2
                  try clear hx2
                  try clear c6
                  try clear p6
                  try clear c7
                  try clear c8
                  try clear c9
                  try clear c10
                  try clear c11
                  try clear c11b0
                  try clear c12
                  try clear c12b0
                  try clear c13
                  try clear c13b0
                  try clear c15
                  try clear c16
                  try clear c17
                  try clear c20
                  try clear p23
                  try clear q23
                  try clear hx23
                  try clear hx234_0
                  try clear p2
                  try clear p234
                  try clear q234
                  obtain ⟨x9_3, x57_3, rfl, HA, HK3, HO_9, HO_10, HB⟩ := hrel
                  have hl9_3 := (Kd.R_reads' HO_9.out).1
                  rw [hl9_3] at HO_9
                  (try simp only [hl9_3])
                  (try simp only [hl9_3] at HO_10)
                  cases gk with
                  | zero => exact absurd HA.out (by simp [laws_FnPiecesEpoch.l1])
                  | succ k3 =>
                    have H := HA.out
                    clear HA
                    simp only [laws_FnPiecesEpoch.l1] at H
                    by_cases c27 : x57_3 < (t245.length : Int)
                    · rw [if_pos c27] at H
                      have c27b0 : decide (x57_3 < (t245.length : Int)) = true := decide_eq_true c27
                      clear c27
                      by_cases c28 : 0 ≤ x57_3
                      · rw [if_pos c28] at H
                        have c28b0 : decide (0 ≤ x57_3) = true := decide_eq_true c28
                        clear c28
                        by_cases c29 : x57_3 < (x9_3.length : Int)
                        · rw [if_pos c29] at H
                          have c29b0 : decide (x57_3 < (x9_3.length : Int)) = true := decide_eq_true c29
                          clear c29
                          replace H := Option.bind_eq_some_iff.mp H
                          obtain ⟨t249, A300, H⟩ := H
                          replace H : (laws_FnPiecesEpoch.l1 k3 l0 a3 (x9_3.set (x57_3 : Int).toNat t249) x10_2 (t245.length : Int) (wrap64 (x57_3 + 1))) = some r := H
                          have A30 := Aside0.mk A300
                          clear A300
                          obtain ⟨y250, hy250⟩ : ∃ y_ : List ByteArray, y_ = (x9_3.set (x57_3 : Int).toNat t249) := ⟨_, rfl⟩
                          replace H : (laws_FnPiecesEpoch.l1 k3 l0 a3 y250 x10_2 (t245.length : Int) (wrap64 (x57_3 + 1))) = some r := by first | (rw [hy250]; with_reducible exact H) | (have H2_ := (Option.bind_some _ _).symm.trans H; rw [hy250]; with_reducible exact H2_) | (have H2_ := (Option.bind_some _ _).symm.trans H; with_reducible exact H2_) | with_reducible exact H | (rw [hy250]; exact H) | exact H
                          have Ny250 := Aside0.mk hy250
                          clear hy250
                          have H' := Aside0.mk H
                          clear H
                          have p248 : 0 ≤ (x57_3 : Int) := of_decide_eq_true (by first | (with_reducible assumption) | assumption)
                          have q248 : x57_3 < (x9_3.length : Int) := of_decide_eq_true (by first | (with_reducible assumption) | assumption)
                          obtain ⟨ad248, e248, hx248_0⟩ := Kd.at_string (Kd.R_reads' HO_9.out).2.2 x57_3 p248 q248
                          cases e248
                          replace p248 := eq_true p248
                          replace q248 := eq_true q248
                          go_wp2_with (first | ((with_reducible refine gate_callee (f := 21) rfl ?_); refine goesL_ (some 68) rfl rfl Tryd.func21 (by kernel_rfl) rfl #[.int .u16 a3, .int .i64 x57_3, .string (rdOf ByteArray.empty x9_3 x57_3)] rfl (by (try simp only [List.map_toArray, List.map_cons, List.map_nil]); first | done | rfl | (simp only [List.length_drop, List.length_take]; rfl)) ?_; (with_reducible refine (laws_later.calls k3 a3 x57_3 (rdOf ByteArray.empty x9_3 x57_3) t249 _ A30.out).mono ?_); rintro e w32 ⟨rfl, hb⟩; refine ⟨_, rfl, ?_⟩; have n0_ := Aside0.mk (Kd.R_below (by (with_reducible repeat (first | apply Kd.R_alloc | apply Kd.R_drewN | apply Kd.R_drew)); exact HO_9.out) hb); have n1_ := Aside0.mk (Kd.R_below (by (with_reducible repeat (first | apply Kd.R_alloc | apply Kd.R_drewN | apply Kd.R_drew)); exact HO_10.out) hb); have n2_ := Aside0.mk (below_step (by repeat (first | (with_reducible first | exact HB.out | apply below_alloc | apply pw_below_drewN | apply below_drew1) | exact HB.out)) hb); clear HO_9; clear HO_10; clear HB; have HO_9 := n0_; have HO_10 := n1_; have HB := n2_; clear n0_ n1_ n2_; (try clear hb); (try clear hb2); (try clear hk); (try clear hi); have p31 : 0 ≤ (x57_3 : Int) := of_decide_eq_true (by first | (with_reducible assumption) | assumption); have q31 : (x57_3 : Int) < ((x9_3.length : Int) : Int) := of_decide_eq_true (by first | (with_reducible assumption) | assumption); obtain ⟨go31, co31, eo31, gb31, gl31, cl31, HG31⟩ := Kd.R_form HO_9.out (by omega); (first | cases eo31 | (injection eo31 with ea_ en_ ec_; (first | subst ea_ | (injection ea_ with ea_; subst ea_)); subst ec_; clear en_)); have GB31 := Aside0.mk gb31; have GG31 := Aside0.mk HG31; clear gb31 gl31 HG31; (first | simp only [add_plain] at hx248_0 | skip); obtain ⟨hx31_0, hf31_0⟩ := Kd.R_celln (⟨#[]⟩ : ByteArray) HO_9.out (x57_3 : Int) p31 q31; replace p31 := eq_true p31; replace q31 := eq_true q31; obtain ⟨hy33_, hz33_⟩ := Kd.R_celln (⟨#[]⟩ : ByteArray) HO_9.out (x57_3 : Int) (of_decide_eq_true (by first | (with_reducible assumption) | assumption)) (of_decide_eq_true (by first | (with_reducible assumption) | assumption)); have HP33 := Kd.R_putg HO_9.out (x57_3 : Int) t249) | ((with_reducible refine gate_store (t := 9) (p := 69) rfl ?_); refine store_event (t := 9) (p := 69) (v := ?vo_w34) (w1 := (w32.setCell ⟨go31, (x57_3 : Int).toNat, none⟩ (.string t249))) ?hg ?ho ?hn ?hr ?_; (case ho => rfl); (case hg => rfl); (case hn => rfl); (case hr => first | (go_simp; done) | (go_simp; rfl)); intro w34 hw; have hg : w32.grownBy w34 (some go31) := (by rw [hw]; exact HP33.2); have hp_ : Kd.R Kd.string 9 w34 w.heap.size (fun k_ => some k_ ≠ (u10 : Value).ownBlock) (.slice (some ⟨go31, 0, none⟩) x9_3.length co26) y250 := (by rw [hw, Ny250.out]; exact HP33.1); clear HP33; have n0_ := Aside0.mk (hp_); have n1_ := Aside0.mk (Kd.R_after (v := (.slice (some ⟨go31, 0, none⟩) x9_3.length co26)) (v1 := (.slice (some ⟨go31, 0, none⟩) x9_3.length co26)) (ok := (fun _ => True)) (by (with_reducible repeat (first | apply Kd.R_alloc | apply Kd.R_drewN | apply Kd.R_drew)); exact Kd.R_mono HO_10.out (fun _ hk => ⟨trivial, hk⟩)) hg (.inl rfl)); have n2_ := Aside0.mk ((by rw [hw]; exact below_set (HB.out) GB31.out : Below w.heap.size w w34)); clear HO_9; clear HO_10; clear HB; have HO_9 := n0_; have HO_10 := n1_; have HB := n2_; clear n0_ n1_ n2_; clear hg hw hp_))
                          (try simp only [← hl9_3])
                          go_roundg k3
                          case measure => have := HJ4.out; have := HK2.out; have := HK3.out; omega
                          case rel => exact ⟨(y250), (wrap64 (x57_3 + 1)), (by first | rfl | (simp; done) | (simp [*]; done)), H', ⟨by have := HJ4.out; have := HK2.out; have := HK3.out; omega⟩, ⟨by (try simp only [hl9_3]); (with_reducible repeat (first | apply Kd.R_alloc | apply Kd.R_drewN | apply Kd.R_drew)); exact HO_9.out⟩, ⟨by (try simp only [hl9_3]); (with_reducible repeat (first | apply Kd.R_alloc | apply Kd.R_drewN | apply Kd.R_drew)); exact Kd.R_mono HO_10.out (fun _ hk => hk.2)⟩, ⟨by repeat (first | (with_reducible first | exact HB.out | apply below_alloc | apply pw_below_drewN | apply below_drew1) | exact HB.out)⟩⟩
                        · rw [if_neg c29] at H
                          exact absurd H (by simp)
                      · rw [if_neg c28] at H
                        exact absurd H (by simp)
                    · rw [if_neg c27] at H
                      have c27b0 : decide (x57_3 < (t245.length : Int)) = false := decide_eq_false c27
                      have c27b9_ := c27b0
                      (try rw [hl9_3] at c27b9_)
                      clear c27
                      replace H := Option.bind_eq_some_iff.mp H
                      obtain ⟨t251, A350, H⟩ := H
                      replace H : ((impl_Fragments.f t251).bind fun t254 => ((laws_come.f k3 t251 t254).bind fun bt257 => (if bt257.2 = true then ((laws_texts.f k3 bt257.1 x10_2).bind fun t261 => (laws_FnPiecesEpoch.j3 k3 a3 t251 t254 (!t261))) else (laws_FnPiecesEpoch.j3 k3 a3 t251 t254 true)))) = some r := H
                      have A35 := Aside0.mk A350
                      clear A350
                      replace H := Option.bind_eq_some_iff.mp H
                      obtain ⟨t254, A360, H⟩ := H
                      replace H : ((laws_come.f k3 t251 t254).bind fun bt257 => (if bt257.2 = true then ((laws_texts.f k3 bt257.1 x10_2).bind fun t261 => (laws_FnPiecesEpoch.j3 k3 a3 t251 t254 (!t261))) else (laws_FnPiecesEpoch.j3 k3 a3 t251 t254 true))) = some r := H
                      have A36 := Aside0.mk A360
                      clear A360
                      replace H := Option.bind_eq_some_iff.mp H
                      obtain ⟨⟨t257, t258⟩, A370, H⟩ := H
                      replace H : (if t258 = true then ((laws_texts.f k3 t257 x10_2).bind fun t261 => (laws_FnPiecesEpoch.j3 k3 a3 t251 t254 (!t261))) else (laws_FnPiecesEpoch.j3 k3 a3 t251 t254 true)) = some r := H
                      have A37 := Aside0.mk A370
                      clear A370
                      have HC38 := Aside0.mk H
                      clear H
                      go_upto_region 21 with (first | ((with_reducible refine gate_callee (f := 12) rfl ?_); refine goesL_ (some 74) rfl rfl Tryd.func12 (by kernel_rfl) rfl #[.slice Ao26 x9_3.length co26, .int .i64 (l0.length : Int)] rfl (by (try simp only [List.map_toArray, List.map_cons, List.map_nil]); first | done | rfl | (simp only [List.length_drop, List.length_take]; rfl)) ?_; (with_reducible refine (laws_pops.calls k3 _ _ x9_3 (l0.length : Int) t251 _ ?side1 ?side2 A35.out).mono ?_); (case side1 => repeat (first | exact (Kd.R_reads' HO_9.out).2.2 | (with_reducible refine Kd.C_alloc ?_ _) | (with_reducible refine Kd.C_drewN ?_ _) | (with_reducible refine Kd.C_drew ?_))); (case side2 => exact (Kd.R_reads' HO_9.out).2.1); rintro e w39 ⟨v252, rfl, ho0, hb⟩; refine ⟨_, rfl, ?_⟩; have n0_ := Aside0.mk (Kd.R_below (by (with_reducible repeat (first | apply Kd.R_alloc | apply Kd.R_drewN | apply Kd.R_drew)); exact HO_9.out) hb); have n1_ := Aside0.mk (Kd.R_below (by (with_reducible repeat (first | apply Kd.R_alloc | apply Kd.R_drewN | apply Kd.R_drew)); exact HO_10.out) hb); have n2_ := Aside0.mk (Kd.R_lower ho0 (below_size (by repeat (first | (with_reducible first | exact HB.out | apply below_alloc | apply pw_below_drewN | apply below_drew1) | exact HB.out)))); have n3_ := Aside0.mk (below_step (by repeat (first | (with_reducible first | exact HB.out | apply below_alloc | apply pw_below_drewN | apply below_drew1) | exact HB.out)) hb); clear HO_9; clear HO_10; clear HB; have HO_9 := n0_; have HO_10 := n1_; have HO253 := n2_; have HB := n3_; clear n0_ n1_ n2_ n3_; (try clear hb); (try clear hb2); (try clear hk); (try clear hi); (try clear ho0); obtain ⟨Ao40, co40, eo40⟩ := Kd.R_slice HO253.out; subst eo40) | ((with_reducible refine gate_callee (f := 14) rfl ?_); refine goesL_ (some 76) rfl rfl Tryd.func14 (by kernel_rfl) rfl #[.slice Ao40 t251.length co40] rfl (by (try simp only [List.map_toArray, List.map_cons, List.map_nil]); first | done | rfl | (simp only [List.length_drop, List.length_take]; rfl)) ?_; (with_reducible refine (impl_Fragments.calls _ _ t251 t254 _ ?side1 ?side2 A36.out ?sideL).mono ?_); (case side1 => repeat (first | exact (Kd.R_reads' HO253.out).2.2 | (with_reducible refine Kd.C_alloc ?_ _) | (with_reducible refine Kd.C_drewN ?_ _) | (with_reducible refine Kd.C_drew ?_))); (case side2 => exact (Kd.R_reads' HO253.out).2.1); (case sideL => exact HLW.out.below (by repeat (first | (with_reducible first | exact HB.out | apply below_alloc | apply pw_below_drewN | apply below_drew1) | exact HB.out))); rintro e w41 ⟨v255, rfl, ho0, hb⟩; refine ⟨_, rfl, ?_⟩; have n0_ := Aside0.mk (Kd.R_below (by (with_reducible repeat (first | apply Kd.R_alloc | apply Kd.R_drewN | apply Kd.R_drew)); exact HO_9.out) hb); have n1_ := Aside0.mk (Kd.R_below (by (with_reducible repeat (first | apply Kd.R_alloc | apply Kd.R_drewN | apply Kd.R_drew)); exact HO_10.out) hb); have n2_ := Aside0.mk (Kd.R_below (by (with_reducible repeat (first | apply Kd.R_alloc | apply Kd.R_drewN | apply Kd.R_drew)); exact HO253.out) hb); have n3_ := Aside0.mk (Kd.R_lower ho0 (below_size (by repeat (first | (with_reducible first | exact HB.out | apply below_alloc | apply pw_below_drewN | apply below_drew1) | exact HB.out)))); have n4_ := Aside0.mk (below_step (by repeat (first | (with_reducible first | exact HB.out | apply below_alloc | apply pw_below_drewN | apply below_drew1) | exact HB.out)) hb); clear HO_9; clear HO_10; clear HO253; clear HB; have HO_9 := n0_; have HO_10 := n1_; have HO253 := n2_; have HO256 := n3_; have HB := n4_; clear n0_ n1_ n2_ n3_ n4_; (try clear hb); (try clear hb2); (try clear hk); (try clear hi); (try clear ho0); obtain ⟨Ao42, co42, eo42⟩ := Kd.R_slice HO256.out; subst eo42) | ((with_reducible refine gate_callee (f := 13) rfl ?_); refine goesL_ (some 80) rfl rfl Tryd.func13 (by kernel_rfl) rfl #[.slice Ao40 t251.length co40, .slice Ao42 t254.length co42] rfl (by (try simp only [List.map_toArray, List.map_cons, List.map_nil]); first | done | rfl | (simp only [List.length_drop, List.length_take]; rfl)) ?_; (with_reducible refine (laws_come.calls k3 _ _ t251 _ _ t254 t257 t258 _ ?side1 ?side2 ?side3 ?side4 A37.out).mono ?_); (case side1 => repeat (first | exact (Kd.R_reads' HO253.out).2.2 | (with_reducible refine Kd.C_alloc ?_ _) | (with_reducible refine Kd.C_drewN ?_ _) | (with_reducible refine Kd.C_drew ?_))); (case side2 => exact (Kd.R_reads' HO253.out).2.1); (case side3 => repeat (first | exact (Kd.R_reads' HO256.out).2.2 | (with_reducible refine Kd.C_alloc ?_ _) | (with_reducible refine Kd.C_drewN ?_ _) | (with_reducible refine Kd.C_drew ?_))); (case side4 => exact (Kd.R_reads' HO256.out).2.1); rintro e w43 ⟨v259, rfl, ho0, hb⟩; refine ⟨_, rfl, ?_⟩; have n0_ := Aside0.mk (Kd.R_elder' (by (with_reducible repeat (first | apply Kd.R_alloc | apply Kd.R_drewN | apply Kd.R_drew)); exact HO_9.out) (Kd.R_base ho0) hb); have n1_ := Aside0.mk (Kd.R_elder' (by (with_reducible repeat (first | apply Kd.R_alloc | apply Kd.R_drewN | apply Kd.R_drew)); exact HO_10.out) (Kd.R_base ho0) hb); have n2_ := Aside0.mk (Kd.R_below (by (with_reducible repeat (first | apply Kd.R_alloc | apply Kd.R_drewN | apply Kd.R_drew)); exact HO253.out) hb); have n3_ := Aside0.mk (Kd.R_below (by (with_reducible repeat (first | apply Kd.R_alloc | apply Kd.R_drewN | apply Kd.R_drew)); exact HO256.out) hb); have n4_ := Aside0.mk (Kd.R_lower (Kd.R_new' (Kd.R_new' ho0 (Kd.R_lt (by (with_reducible repeat (first | apply Kd.R_alloc | apply Kd.R_drewN | apply Kd.R_drew)); exact HO_9.out))) (Kd.R_lt (by (with_reducible repeat (first | apply Kd.R_alloc | apply Kd.R_drewN | apply Kd.R_drew)); exact HO_10.out))) (below_size (by repeat (first | (with_reducible first | exact HB.out | apply below_alloc | apply pw_below_drewN | apply below_drew1) | exact HB.out)))); have n5_ := Aside0.mk (below_step (by repeat (first | (with_reducible first | exact HB.out | apply below_alloc | apply pw_below_drewN | apply below_drew1) | exact HB.out)) hb); clear HO_9; clear HO_10; clear HO253; clear HO256; clear HB; have HO_9 := n0_; have HO_10 := n1_; have HO253 := n2_; have HO256 := n3_; have HO260 := n4_; have HB := n5_; clear n0_ n1_ n2_ n3_ n4_ n5_; (try clear hb); (try clear hb2); (try clear hk); (try clear hi); (try clear ho0)))
                      (try simp only [Act.put, List.setIfInBounds_toArray, List.set_cons_zero, List.set_cons_succ])
                      go_cut [90] (fun v90 wc => ∃ (kq : Nat) (x90_37 : Bool), v90 = .bool x90_37 ∧ Aside0 (laws_FnPiecesEpoch.j3 kq a3 t251 t254 x90_37 = some r) ∧ Aside0 (kq ≤ k3) ∧ Aside0 (Kd.R k45 45 wc w.heap.size (fun _ => True) (.slice Ao40 t251.length co40) t251) ∧ Aside0 (Kd.R k40 40 wc w.heap.size (fun _ => True) (.slice Ao42 t254.length co42) t254) ∧ Aside0 (Below w.heap.size w wc))
                      case first =>
                        have H := HC38.out
                        clear HC38
                        by_cases c44 : t258 = true
                        · subst c44
                          have H1 : ((laws_texts.f k3 t257 x10_2).bind fun t261 => (laws_FnPiecesEpoch.j3 k3 a3 t251 t254 (!t261))) = some r := by rw [if_pos rfl] at H; exact H
                          clear H
                          have H := H1
                          clear H1
                          replace H := Option.bind_eq_some_iff.mp H
                          obtain ⟨t261, A450, H⟩ := H
                          replace H : (laws_FnPiecesEpoch.j3 k3 a3 t251 t254 (!t261)) = some r := H
                          have A45 := Aside0.mk A450
                          clear A450
                          have H' := Aside0.mk H
                          clear H
                          obtain ⟨Ao46, co46, eo46⟩ := Kd.R_slice HO260.out
                          subst eo46
                          obtain ⟨Ao47, co47, eo47⟩ := Kd.R_slice HO_10.out
                          subst eo47
                          go_wp2_with (first | (go_at_call 15; (with_reducible refine (laws_texts.calls k3 _ _ t257 _ _ x10_2 t261 _ ?side1 ?side2 ?side3 ?side4 A45.out).mono ?_); (case side1 => repeat (first | exact (Kd.R_reads' HO260.out).2.2 | (with_reducible refine Kd.C_alloc ?_ _) | (with_reducible refine Kd.C_drewN ?_ _) | (with_reducible refine Kd.C_drew ?_))); (case side2 => exact (Kd.R_reads' HO260.out).2.1); (case side3 => repeat (first | exact (Kd.R_reads' HO_10.out).2.2 | (with_reducible refine Kd.C_alloc ?_ _) | (with_reducible refine Kd.C_drewN ?_ _) | (with_reducible refine Kd.C_drew ?_))); (case side4 => exact (Kd.R_reads' HO_10.out).2.1); rintro e w' ⟨rfl, ⟨nd, rfl⟩⟩))
                          go_meet
                          case rel => exact ⟨_, (!t261), (by first | rfl | (simp; done) | (simp [*]; done)), H', ⟨by have := HJ4.out; have := HK2.out; have := HK3.out; first | omega | exact Nat.le_refl _⟩, ⟨by (try simp only [hl9_3]); (with_reducible repeat (first | apply Kd.R_alloc | apply Kd.R_drewN | apply Kd.R_drew)); exact HO253.out⟩, ⟨by (try simp only [hl9_3]); (with_reducible repeat (first | apply Kd.R_alloc | apply Kd.R_drewN | apply Kd.R_drew)); exact HO256.out⟩, ⟨by repeat (first | (with_reducible first | exact HB.out | apply below_alloc | apply pw_below_drewN | apply below_drew1) | exact HB.out)⟩⟩
                        · replace c44 := Bool.eq_false_iff.mpr c44
                          subst c44
                          have H1 : (laws_FnPiecesEpoch.j3 k3 a3 t251 t254 true) = some r := by rw [if_neg (show ¬ (false = true) by decide)] at H; exact H
                          clear H
                          have H := H1
                          clear H1
                          have H' := Aside0.mk H
                          clear H
                          go_wp2
                          go_meet
                          case rel => exact ⟨_, (true), (by first | rfl | (simp; done) | (simp [*]; done)), H', ⟨by have := HJ4.out; have := HK2.out; have := HK3.out; first | omega | exact Nat.le_refl _⟩, ⟨by (try simp only [hl9_3]); (with_reducible repeat (first | apply Kd.R_alloc | apply Kd.R_drewN | apply Kd.R_drew)); exact HO253.out⟩, ⟨by (try simp only [hl9_3]); (with_reducible repeat (first | apply Kd.R_alloc | apply Kd.R_drewN | apply Kd.R_drew)); exact HO256.out⟩, ⟨by repeat (first | (with_reducible first | exact HB.out | apply below_alloc | apply pw_below_drewN | apply below_drew1) | exact HB.out)⟩⟩
                      case rest =>
                        clear HC38
                        try clear c1
                        try clear c2
                        try clear p2
                        try clear q2
                        try clear hx2
                        try clear p3
                        try clear q3
                        try clear hx3
                        try clear c4
                        try clear c6
                        try clear p6
                        try clear c7
                        try clear c8
                        try clear c9
                        try clear c10
                        try clear c11
                        try clear c11b0
                        try clear c12
                        try clear c12b0
                        try clear c13
                        try clear c13b0
                        try clear c14
                        try clear c15
                        try clear c16
                        try clear c17
                        try clear c20
                        try clear c21
                        try clear p23
                        try clear q23
                        try clear hx23
                        try clear p24
                        try clear q24
                        try clear hx24
                        try clear c27
                        try clear c27b0
                        try clear c28
                        try clear c28b0
                        try clear c29
                        try clear c29b0
                        try clear p31
                        try clear q31
                        try clear hx31
                        try clear hf31
                        try clear c44
                        try clear hx234_0
                        try clear hx248_0
                        try clear hx31_0
                        try clear p2
                        try clear p23
                        try clear p234
                        try clear p248
                        try clear p31
                        try clear p6
                        try clear q2
                        try clear q23
                        try clear q234
                        try clear q248
                        try clear q31
                        obtain ⟨kq, x90_37, rfl, HA, HJ37, HO_14, HO_15, HB⟩ := hcut
                        cases kq with
                        | zero => exact absurd HA.out (by simp [laws_FnPiecesEpoch.j3])
                        | succ kj37 =>
                          have H := HA.out
                          clear HA
                          simp only [laws_FnPiecesEpoch.j3] at H
                          by_cases c48 : x90_37 = true
                          · subst c48
                            have H1 : (some false) = some r := by rw [if_pos rfl] at H; exact H
                            clear H
                            have H := H1
                            clear H1
                            obtain rfl := Option.some.inj H
                            go_wp2
                            go_ret
                            exact ⟨by first | rfl | (simp [errW_none, errW_some] <;> rfl) | (simp [*, errW_none, errW_some] <;> rfl), by repeat (first | (with_reducible first | exact HB.out | apply below_alloc | apply pw_below_drewN | apply below_drew1) | exact HB.out)⟩
                          · replace c48 := Bool.eq_false_iff.mpr c48
                            subst c48
                            have H1 : (laws_FnPiecesEpoch.l2 kj37 a3 t251 t254 (t254.length : Int) 0) = some r := by rw [if_neg (show ¬ (false = true) by decide)] at H; exact H
                            clear H
                            have H := H1
                            clear H1
                            have H' := Aside0.mk H
                            clear H
                            go_wp2
                            go_loopg [93] kj37 (fun kq v93 w' => ∃ (x93_5 : Int), v93 = .int .i64 x93_5 ∧ Aside0 (laws_FnPiecesEpoch.l2 kq a3 t251 t254 (t254.length : Int) x93_5 = some r) ∧ Aside0 (kq ≤ kj37) ∧ Aside0 (Kd.R k45 45 w' w.heap.size (fun _ => True) (.slice Ao40 t251.length co40) t251) ∧ Aside0 (Kd.R k40 40 w' w.heap.size (fun _ => True) (.slice Ao42 t254.length co42) t254) ∧ Aside0 (Below w.heap.size w w'))
                            case atStart => exact ⟨(0), (by first | rfl | (simp; done) | (simp [*]; done)), H', ⟨Nat.le_refl _⟩, ⟨by (try simp only [hl9_3]); (with_reducible repeat (first | apply Kd.R_alloc | apply Kd.R_drewN | apply Kd.R_drew)); exact HO_14.out⟩, ⟨by (try simp only [hl9_3]); (with_reducible repeat (first | apply Kd.R_alloc | apply Kd.R_drewN | apply Kd.R_drew)); exact HO_15.out⟩, ⟨by repeat (first | (with_reducible first | exact HB.out | apply below_alloc | apply pw_below_drewN | apply below_drew1) | exact HB.out)⟩⟩
                            case round =>
                              clear H'
                              try clear c1
                              try clear c2
                              try clear p2
                              try clear q2
                              try clear hx2
                              try clear p3
                              try clear q3
                              try clear hx3
                              try clear c4
                              try clear c6
                              try clear p6
                              try clear c7
                              try clear c8
                              try clear c9
                              try clear c10
                              try clear c11
                              try clear c11b0
                              try clear c12
                              try clear c12b0
                              try clear c13
                              try clear c13b0
                              try clear c14
                              try clear c15
                              try clear c16
                              try clear c17
                              try clear c20
                              try clear c21
                              try clear p23
                              try clear q23
                              try clear hx23
                              try clear p24
                              try clear q24
                              try clear hx24
                              try clear c27
                              try clear c27b0
                              try clear c28
                              try clear c28b0
                              try clear c29
                              try clear c29b0
                              try clear p31
                              try clear q31
                              try clear hx31
                              try clear hf31
                              try clear c44
                              try clear c48
                              try clear hx234_0
                              try clear hx248_0
                              try clear hx31_0
                              try clear p2
                              try clear p23
                              try clear p234
                              try clear p24
                              try clear p248
                              try clear p3
                              try clear p31
                              try clear p6
                              try clear q2
                              try clear q23
                              try clear q234
                              try clear q24
                              try clear q248
                              try clear q3
                              try clear q31
                              obtain ⟨x93_5, rfl, HA, HK5, HO_14, HO_91, HB⟩ := hrel
                              cases gk with
                              | zero => exact absurd HA.out (by simp [laws_FnPiecesEpoch.l2])
                              | succ k5 =>
                                have H := HA.out
                                clear HA
                                simp only [laws_FnPiecesEpoch.l2] at H
                                by_cases c49 : x93_5 < (t254.length : Int)
                                · rw [if_pos c49] at H
                                  have c49b0 : decide (x93_5 < (t254.length : Int)) = true := decide_eq_true c49
                                  clear c49
                                  by_cases c50 : 0 ≤ x93_5
                                  · rw [if_pos c50] at H
                                    have c50b0 : decide (0 ≤ x93_5) = true := decide_eq_true c50
                                    clear c50
                                    by_cases c51 : x93_5 < (t254.length : Int)
                                    · rw [if_pos c51] at H
                                      have c51b0 : decide (x93_5 < (t254.length : Int)) = true := decide_eq_true c51
                                      clear c51
                                      by_cases c52 : x93_5 < (t251.length : Int)
                                      · rw [if_pos c52] at H
                                        have c52b0 : decide (x93_5 < (t251.length : Int)) = true := decide_eq_true c52
                                        clear c52
                                        obtain ⟨bq53, hbq53⟩ : ∃ b_ : Bool, b_ = ((rd_T45 t251 x93_5).f0) := ⟨_, rfl⟩
                                        replace H : (if (bq53 = true) then (laws_FnPiecesEpoch.l2 k5 a3 t251 t254 (t254.length : Int) (wrap64 (x93_5 + 1))) else (if ((rd_T40 t254 x93_5).f5) = a3 then (laws_FnPiecesEpoch.l2 k5 a3 t251 t254 (t254.length : Int) (wrap64 (x93_5 + 1))) else (some false))) = some r := by rw [← hbq53] at H; exact H
                                        have Nbq53 := Aside0.mk hbq53
                                        clear hbq53
                                        by_cases c54 : (bq53 = true)
                                        · subst c54
                                          have H1 : (laws_FnPiecesEpoch.l2 k5 a3 t251 t254 (t254.length : Int) (wrap64 (x93_5 + 1))) = some r := by rw [if_pos rfl] at H; exact H
                                          clear H
                                          have H := H1
                                          clear H1
                                          have H' := Aside0.mk H
                                          clear H
                                          have p262 : 0 ≤ (x93_5 : Int) := of_decide_eq_true (by first | (with_reducible assumption) | assumption)
                                          have q262 : x93_5 < (t254.length : Int) := of_decide_eq_true (by first | (with_reducible assumption) | assumption)
                                          obtain ⟨ad262, e262, hx262_0, hx262_1, hx262_2, hx262_3, hx262_4, hx262_5, hx262_6⟩ := at_T40 (Kd.R_reads' HO_91.out).2.2 x93_5 p262 q262
                                          (try rw [← Nbq53.out] at hx262_0)
                                          (try rw [← Nbq53.out] at hx262_1)
                                          (try rw [← Nbq53.out] at hx262_2)
                                          (try rw [← Nbq53.out] at hx262_3)
                                          cases e262
                                          replace p262 := eq_true p262
                                          replace q262 := eq_true q262
                                          go_wp2_with (first | ((with_reducible refine gate_dst (N := 19) rfl ?_); (try (refine gate_guard (by rfl) ?_; dsimp only)); refine box_event ?hg (N := 19) ?hd (cs := #[.bool false, .bool false, .bool false, .bool false, .string (⟨#[]⟩ : ByteArray), .int .u16 0, .int .i64 0]) (t := 40) ?hr ?_; (case hd => rfl); (case hg => rfl); (case hr => first | (go_simp; done) | (go_simp; rfl)); intro gb263 hg w55 hbox hb; have n0_ := Aside0.mk (Kd.R_below (by (with_reducible repeat (first | apply Kd.R_alloc | apply Kd.R_drewN | apply Kd.R_drew)); exact HO_14.out) hb); have n1_ := Aside0.mk (Kd.R_below (Kd.R_elderB (by (with_reducible repeat (first | apply Kd.R_alloc | apply Kd.R_drewN | apply Kd.R_drew)); exact HO_91.out) gb263 (Nat.le_of_eq hg.symm)) hb); have n2_ := Aside0.mk (below_step (by repeat (first | (with_reducible first | exact HB.out | apply below_alloc | apply pw_below_drewN | apply below_drew1) | exact HB.out)) hb); have n3_ := Aside0.mk (hbox); have n4_ := Aside0.mk ((by rw [hg]; exact (below_size (by repeat (first | (with_reducible first | exact HB.out | apply below_alloc | apply pw_below_drewN | apply below_drew1) | exact HB.out))) : w.heap.size ≤ gb263)); have n5_ := Aside0.mk ((by rw [hg]; exact (below_size (by repeat (first | (with_reducible first | exact HB.out | apply below_alloc | apply pw_below_drewN | apply below_drew1) | exact HB.out))) : w.heap.size ≤ gb263)); clear HO_14; clear HO_91; clear HB; have HO_14 := n0_; have HO_91 := n1_; have HB := n2_; have BK263 := n3_; have GW263 := n4_; have GE263 := n5_; clear n0_ n1_ n2_ n3_ n4_ n5_; clear hb hbox hg; have hcz56_0 : w55.cell? ⟨gb263, 0, none⟩ = some (.bool false) := (blk_cell BK263.out 0).trans rfl; have hcz56_1 : w55.cell? ⟨gb263, 1, none⟩ = some (.bool false) := (blk_cell BK263.out 1).trans rfl; have hcz56_2 : w55.cell? ⟨gb263, 2, none⟩ = some (.bool false) := (blk_cell BK263.out 2).trans rfl; have hcz56_3 : w55.cell? ⟨gb263, 3, none⟩ = some (.bool false) := (blk_cell BK263.out 3).trans rfl; have hcz56_4 : w55.cell? ⟨gb263, 4, none⟩ = some (.string (⟨#[]⟩ : ByteArray)) := (blk_cell BK263.out 4).trans rfl; have hcz56_5 : w55.cell? ⟨gb263, 5, none⟩ = some (.int .u16 0) := (blk_cell BK263.out 5).trans rfl; have hcz56_6 : w55.cell? ⟨gb263, 6, none⟩ = some (.int .i64 0) := (blk_cell BK263.out 6).trans rfl; have hfz56_0 := blk_frozen BK263.out 0; have hfz56_1 := blk_frozen BK263.out 1; have hfz56_2 := blk_frozen BK263.out 2; have hfz56_3 := blk_frozen BK263.out 3; have hfz56_4 := blk_frozen BK263.out 4; have hfz56_5 := blk_frozen BK263.out 5; have hfz56_6 := blk_frozen BK263.out 6; have p264 : 0 ≤ (x93_5 : Int) := of_decide_eq_true (by first | (with_reducible assumption) | assumption); have q264 : x93_5 < (t251.length : Int) := of_decide_eq_true (by first | (with_reducible assumption) | assumption); obtain ⟨ad264, e264, hx264_0, hx264_1⟩ := at_T45 (Kd.R_reads' HO_14.out).2.2 x93_5 p264 q264; (try rw [← Nbq53.out] at hx264_0); cases e264; have hn264_0 : ad264.block ≠ gb263 := Kd.own_blk (Kd.R_ne HO_14.out BK263.out (by decide)); have hn264_1 : ad264.block ≠ gb263 := Kd.own_blk (Kd.R_ne HO_14.out BK263.out (by decide)); have hn264_2 : ad264.block ≠ gb263 := Kd.own_blk (Kd.R_ne HO_14.out BK263.out (by decide)); have hn264_3 : ad264.block ≠ gb263 := Kd.own_blk (Kd.R_ne HO_14.out BK263.out (by decide)); have hn264_4 : ad264.block ≠ gb263 := Kd.own_blk (Kd.R_ne HO_14.out BK263.out (by decide)); have hn264_5 : ad264.block ≠ gb263 := Kd.own_blk (Kd.R_ne HO_14.out BK263.out (by decide)); have hn264_6 : ad264.block ≠ gb263 := Kd.own_blk (Kd.R_ne HO_14.out BK263.out (by decide)); replace hx264_0 := (cell_far (p := ⟨gb263, 0, none⟩) (by first | (rw [add_block]; exact hn264_0) | (show (Addr.add _ _).block ≠ _; rw [add_block]; exact hn264_0) | exact hn264_0) (.bool ((rd_T40 t254 x93_5).f0))).trans hx264_0; replace hx264_1 := (cell_far (p := ⟨gb263, 0, none⟩) (by first | (rw [add_block]; exact hn264_0) | (show (Addr.add _ _).block ≠ _; rw [add_block]; exact hn264_0) | exact hn264_0) (.bool ((rd_T40 t254 x93_5).f0))).trans hx264_1; replace hx264_0 := (cell_far (p := ⟨gb263, 1, none⟩) (by first | (rw [add_block]; exact hn264_1) | (show (Addr.add _ _).block ≠ _; rw [add_block]; exact hn264_1) | exact hn264_1) (.bool ((rd_T40 t254 x93_5).f1))).trans hx264_0; replace hx264_1 := (cell_far (p := ⟨gb263, 1, none⟩) (by first | (rw [add_block]; exact hn264_1) | (show (Addr.add _ _).block ≠ _; rw [add_block]; exact hn264_1) | exact hn264_1) (.bool ((rd_T40 t254 x93_5).f1))).trans hx264_1; replace hx264_0 := (cell_far (p := ⟨gb263, 2, none⟩) (by first | (rw [add_block]; exact hn264_2) | (show (Addr.add _ _).block ≠ _; rw [add_block]; exact hn264_2) | exact hn264_2) (.bool ((rd_T40 t254 x93_5).f2))).trans hx264_0; replace hx264_1 := (cell_far (p := ⟨gb263, 2, none⟩) (by first | (rw [add_block]; exact hn264_2) | (show (Addr.add _ _).block ≠ _; rw [add_block]; exact hn264_2) | exact hn264_2) (.bool ((rd_T40 t254 x93_5).f2))).trans hx264_1; replace hx264_0 := (cell_far (p := ⟨gb263, 3, none⟩) (by first | (rw [add_block]; exact hn264_3) | (show (Addr.add _ _).block ≠ _; rw [add_block]; exact hn264_3) | exact hn264_3) (.bool ((rd_T40 t254 x93_5).f3))).trans hx264_0; replace hx264_1 := (cell_far (p := ⟨gb263, 3, none⟩) (by first | (rw [add_block]; exact hn264_3) | (show (Addr.add _ _).block ≠ _; rw [add_block]; exact hn264_3) | exact hn264_3) (.bool ((rd_T40 t254 x93_5).f3))).trans hx264_1; replace hx264_0 := (cell_far (p := ⟨gb263, 4, none⟩) (by first | (rw [add_block]; exact hn264_4) | (show (Addr.add _ _).block ≠ _; rw [add_block]; exact hn264_4) | exact hn264_4) (.string ((rd_T40 t254 x93_5).f4))).trans hx264_0; replace hx264_1 := (cell_far (p := ⟨gb263, 4, none⟩) (by first | (rw [add_block]; exact hn264_4) | (show (Addr.add _ _).block ≠ _; rw [add_block]; exact hn264_4) | exact hn264_4) (.string ((rd_T40 t254 x93_5).f4))).trans hx264_1; replace hx264_0 := (cell_far (p := ⟨gb263, 5, none⟩) (by first | (rw [add_block]; exact hn264_5) | (show (Addr.add _ _).block ≠ _; rw [add_block]; exact hn264_5) | exact hn264_5) (.int .u16 ((rd_T40 t254 x93_5).f5))).trans hx264_0; replace hx264_1 := (cell_far (p := ⟨gb263, 5, none⟩) (by first | (rw [add_block]; exact hn264_5) | (show (Addr.add _ _).block ≠ _; rw [add_block]; exact hn264_5) | exact hn264_5) (.int .u16 ((rd_T40 t254 x93_5).f5))).trans hx264_1; replace hx264_0 := (cell_far (p := ⟨gb263, 6, none⟩) (by first | (rw [add_block]; exact hn264_6) | (show (Addr.add _ _).block ≠ _; rw [add_block]; exact hn264_6) | exact hn264_6) (.int .i64 ((rd_T40 t254 x93_5).f6))).trans hx264_0; replace hx264_1 := (cell_far (p := ⟨gb263, 6, none⟩) (by first | (rw [add_block]; exact hn264_6) | (show (Addr.add _ _).block ≠ _; rw [add_block]; exact hn264_6) | exact hn264_6) (.int .i64 ((rd_T40 t254 x93_5).f6))).trans hx264_1; clear hn264_0; clear hn264_1; clear hn264_2; clear hn264_3; clear hn264_4; clear hn264_5; clear hn264_6; replace p264 := eq_true p264; replace q264 := eq_true q264))
                                          go_roundg k5
                                          case measure => have := HJ4.out; have := HK2.out; have := HK3.out; have := HJ37.out; have := HK5.out; omega
                                          case rel => exact ⟨(wrap64 (x93_5 + 1)), (by first | rfl | (simp; done) | (simp [*]; done)), H', ⟨by have := HJ4.out; have := HK2.out; have := HK3.out; have := HJ37.out; have := HK5.out; omega⟩, ⟨by (try simp only [hl9_3]); (with_reducible repeat (first | apply Kd.R_alloc | apply Kd.R_drewN | apply Kd.R_drew)); exact Kd.R_mono (Kd.R_far (p := ⟨gb263, 6, none⟩) (Kd.R_far (p := ⟨gb263, 5, none⟩) (Kd.R_far (p := ⟨gb263, 4, none⟩) (Kd.R_far (p := ⟨gb263, 3, none⟩) (Kd.R_far (p := ⟨gb263, 2, none⟩) (Kd.R_far (p := ⟨gb263, 1, none⟩) (Kd.R_far (p := ⟨gb263, 0, none⟩) (Kd.R_types HO_14.out BK263.out (by decide)) (fun _ hk => hk.2) (.bool ((rd_T40 t254 x93_5).f0))) (fun _ hk => hk.2) (.bool ((rd_T40 t254 x93_5).f1))) (fun _ hk => hk.2) (.bool ((rd_T40 t254 x93_5).f2))) (fun _ hk => hk.2) (.bool ((rd_T40 t254 x93_5).f3))) (fun _ hk => hk.2) (.string ((rd_T40 t254 x93_5).f4))) (fun _ hk => hk.2) (.int .u16 ((rd_T40 t254 x93_5).f5))) (fun _ hk => hk.2) (.int .i64 ((rd_T40 t254 x93_5).f6))) (fun _ hk => trivial)⟩, ⟨by (try simp only [hl9_3]); (with_reducible repeat (first | apply Kd.R_alloc | apply Kd.R_drewN | apply Kd.R_drew)); exact Kd.R_mono (Kd.R_far (p := ⟨gb263, 6, none⟩) (Kd.R_far (p := ⟨gb263, 5, none⟩) (Kd.R_far (p := ⟨gb263, 4, none⟩) (Kd.R_far (p := ⟨gb263, 3, none⟩) (Kd.R_far (p := ⟨gb263, 2, none⟩) (Kd.R_far (p := ⟨gb263, 1, none⟩) (Kd.R_far (p := ⟨gb263, 0, none⟩) (Kd.R_mono HO_91.out (fun k_ hk => (⟨hk, hk.2⟩ : _ ∧ k_ ≠ gb263))) (fun _ hk => hk.2) (.bool ((rd_T40 t254 x93_5).f0))) (fun _ hk => hk.2) (.bool ((rd_T40 t254 x93_5).f1))) (fun _ hk => hk.2) (.bool ((rd_T40 t254 x93_5).f2))) (fun _ hk => hk.2) (.bool ((rd_T40 t254 x93_5).f3))) (fun _ hk => hk.2) (.string ((rd_T40 t254 x93_5).f4))) (fun _ hk => hk.2) (.int .u16 ((rd_T40 t254 x93_5).f5))) (fun _ hk => hk.2) (.int .i64 ((rd_T40 t254 x93_5).f6))) (fun _ hk => trivial)⟩, ⟨by repeat (first | (with_reducible first | exact HB.out | apply below_alloc | apply pw_below_drewN | apply below_drew1 | refine below_set ?_ GE263.out) | exact HB.out)⟩⟩
                                        · replace c54 := Bool.eq_false_iff.mpr c54
                                          subst c54
                                          have H1 : (if ((rd_T40 t254 x93_5).f5) = a3 then (laws_FnPiecesEpoch.l2 k5 a3 t251 t254 (t254.length : Int) (wrap64 (x93_5 + 1))) else (some false)) = some r := by rw [if_neg (show ¬ (false = true) by decide)] at H; exact H
                                          clear H
                                          have H := H1
                                          clear H1
                                          by_cases c57 : ((rd_T40 t254 x93_5).f5) = a3
                                          · rw [if_pos c57] at H
                                            have c57b0 : (((rd_T40 t254 x93_5).f5) == a3) = true := beq_iff_eq.mpr c57
                                            have c57b1 : (((rd_T40 t254 x93_5).f5) != a3) = false := bne_eq_false_iff_eq.mpr c57
                                            clear c57
                                            have H' := Aside0.mk H
                                            clear H
                                            have p262 : 0 ≤ (x93_5 : Int) := of_decide_eq_true (by first | (with_reducible assumption) | assumption)
                                            have q262 : x93_5 < (t254.length : Int) := of_decide_eq_true (by first | (with_reducible assumption) | assumption)
                                            obtain ⟨ad262, e262, hx262_0, hx262_1, hx262_2, hx262_3, hx262_4, hx262_5, hx262_6⟩ := at_T40 (Kd.R_reads' HO_91.out).2.2 x93_5 p262 q262
                                            (try rw [← Nbq53.out] at hx262_0)
                                            (try rw [← Nbq53.out] at hx262_1)
                                            (try rw [← Nbq53.out] at hx262_2)
                                            (try rw [← Nbq53.out] at hx262_3)
                                            cases e262
                                            replace p262 := eq_true p262
                                            replace q262 := eq_true q262
                                            go_wp2_with (first | ((with_reducible refine gate_dst (N := 19) rfl ?_); (try (refine gate_guard (by rfl) ?_; dsimp only)); refine box_event ?hg (N := 19) ?hd (cs := #[.bool false, .bool false, .bool false, .bool false, .string (⟨#[]⟩ : ByteArray), .int .u16 0, .int .i64 0]) (t := 40) ?hr ?_; (case hd => rfl); (case hg => rfl); (case hr => first | (go_simp; done) | (go_simp; rfl)); intro gb263 hg w58 hbox hb; have n0_ := Aside0.mk (Kd.R_below (by (with_reducible repeat (first | apply Kd.R_alloc | apply Kd.R_drewN | apply Kd.R_drew)); exact HO_14.out) hb); have n1_ := Aside0.mk (Kd.R_below (Kd.R_elderB (by (with_reducible repeat (first | apply Kd.R_alloc | apply Kd.R_drewN | apply Kd.R_drew)); exact HO_91.out) gb263 (Nat.le_of_eq hg.symm)) hb); have n2_ := Aside0.mk (below_step (by repeat (first | (with_reducible first | exact HB.out | apply below_alloc | apply pw_below_drewN | apply below_drew1) | exact HB.out)) hb); have n3_ := Aside0.mk (hbox); have n4_ := Aside0.mk ((by rw [hg]; exact (below_size (by repeat (first | (with_reducible first | exact HB.out | apply below_alloc | apply pw_below_drewN | apply below_drew1) | exact HB.out))) : w.heap.size ≤ gb263)); have n5_ := Aside0.mk ((by rw [hg]; exact (below_size (by repeat (first | (with_reducible first | exact HB.out | apply below_alloc | apply pw_below_drewN | apply below_drew1) | exact HB.out))) : w.heap.size ≤ gb263)); clear HO_14; clear HO_91; clear HB; have HO_14 := n0_; have HO_91 := n1_; have HB := n2_; have BK263 := n3_; have GW263 := n4_; have GE263 := n5_; clear n0_ n1_ n2_ n3_ n4_ n5_; clear hb hbox hg; have hcz59_0 : w58.cell? ⟨gb263, 0, none⟩ = some (.bool false) := (blk_cell BK263.out 0).trans rfl; have hcz59_1 : w58.cell? ⟨gb263, 1, none⟩ = some (.bool false) := (blk_cell BK263.out 1).trans rfl; have hcz59_2 : w58.cell? ⟨gb263, 2, none⟩ = some (.bool false) := (blk_cell BK263.out 2).trans rfl; have hcz59_3 : w58.cell? ⟨gb263, 3, none⟩ = some (.bool false) := (blk_cell BK263.out 3).trans rfl; have hcz59_4 : w58.cell? ⟨gb263, 4, none⟩ = some (.string (⟨#[]⟩ : ByteArray)) := (blk_cell BK263.out 4).trans rfl; have hcz59_5 : w58.cell? ⟨gb263, 5, none⟩ = some (.int .u16 0) := (blk_cell BK263.out 5).trans rfl; have hcz59_6 : w58.cell? ⟨gb263, 6, none⟩ = some (.int .i64 0) := (blk_cell BK263.out 6).trans rfl; have hfz59_0 := blk_frozen BK263.out 0; have hfz59_1 := blk_frozen BK263.out 1; have hfz59_2 := blk_frozen BK263.out 2; have hfz59_3 := blk_frozen BK263.out 3; have hfz59_4 := blk_frozen BK263.out 4; have hfz59_5 := blk_frozen BK263.out 5; have hfz59_6 := blk_frozen BK263.out 6; have p264 : 0 ≤ (x93_5 : Int) := of_decide_eq_true (by first | (with_reducible assumption) | assumption); have q264 : x93_5 < (t251.length : Int) := of_decide_eq_true (by first | (with_reducible assumption) | assumption); obtain ⟨ad264, e264, hx264_0, hx264_1⟩ := at_T45 (Kd.R_reads' HO_14.out).2.2 x93_5 p264 q264; (try rw [← Nbq53.out] at hx264_0); cases e264; have hn264_0 : ad264.block ≠ gb263 := Kd.own_blk (Kd.R_ne HO_14.out BK263.out (by decide)); have hn264_1 : ad264.block ≠ gb263 := Kd.own_blk (Kd.R_ne HO_14.out BK263.out (by decide)); have hn264_2 : ad264.block ≠ gb263 := Kd.own_blk (Kd.R_ne HO_14.out BK263.out (by decide)); have hn264_3 : ad264.block ≠ gb263 := Kd.own_blk (Kd.R_ne HO_14.out BK263.out (by decide)); have hn264_4 : ad264.block ≠ gb263 := Kd.own_blk (Kd.R_ne HO_14.out BK263.out (by decide)); have hn264_5 : ad264.block ≠ gb263 := Kd.own_blk (Kd.R_ne HO_14.out BK263.out (by decide)); have hn264_6 : ad264.block ≠ gb263 := Kd.own_blk (Kd.R_ne HO_14.out BK263.out (by decide)); replace hx264_0 := (cell_far (p := ⟨gb263, 0, none⟩) (by first | (rw [add_block]; exact hn264_0) | (show (Addr.add _ _).block ≠ _; rw [add_block]; exact hn264_0) | exact hn264_0) (.bool ((rd_T40 t254 x93_5).f0))).trans hx264_0; replace hx264_1 := (cell_far (p := ⟨gb263, 0, none⟩) (by first | (rw [add_block]; exact hn264_0) | (show (Addr.add _ _).block ≠ _; rw [add_block]; exact hn264_0) | exact hn264_0) (.bool ((rd_T40 t254 x93_5).f0))).trans hx264_1; replace hx264_0 := (cell_far (p := ⟨gb263, 1, none⟩) (by first | (rw [add_block]; exact hn264_1) | (show (Addr.add _ _).block ≠ _; rw [add_block]; exact hn264_1) | exact hn264_1) (.bool ((rd_T40 t254 x93_5).f1))).trans hx264_0; replace hx264_1 := (cell_far (p := ⟨gb263, 1, none⟩) (by first | (rw [add_block]; exact hn264_1) | (show (Addr.add _ _).block ≠ _; rw [add_block]; exact hn264_1) | exact hn264_1) (.bool ((rd_T40 t254 x93_5).f1))).trans hx264_1; replace hx264_0 := (cell_far (p := ⟨gb263, 2, none⟩) (by first | (rw [add_block]; exact hn264_2) | (show (Addr.add _ _).block ≠ _; rw [add_block]; exact hn264_2) | exact hn264_2) (.bool ((rd_T40 t254 x93_5).f2))).trans hx264_0; replace hx264_1 := (cell_far (p := ⟨gb263, 2, none⟩) (by first | (rw [add_block]; exact hn264_2) | (show (Addr.add _ _).block ≠ _; rw [add_block]; exact hn264_2) | exact hn264_2) (.bool ((rd_T40 t254 x93_5).f2))).trans hx264_1; replace hx264_0 := (cell_far (p := ⟨gb263, 3, none⟩) (by first | (rw [add_block]; exact hn264_3) | (show (Addr.add _ _).block ≠ _; rw [add_block]; exact hn264_3) | exact hn264_3) (.bool ((rd_T40 t254 x93_5).f3))).trans hx264_0; replace hx264_1 := (cell_far (p := ⟨gb263, 3, none⟩) (by first | (rw [add_block]; exact hn264_3) | (show (Addr.add _ _).block ≠ _; rw [add_block]; exact hn264_3) | exact hn264_3) (.bool ((rd_T40 t254 x93_5).f3))).trans hx264_1; replace hx264_0 := (cell_far (p := ⟨gb263, 4, none⟩) (by first | (rw [add_block]; exact hn264_4) | (show (Addr.add _ _).block ≠ _; rw [add_block]; exact hn264_4) | exact hn264_4) (.string ((rd_T40 t254 x93_5).f4))).trans hx264_0; replace hx264_1 := (cell_far (p := ⟨gb263, 4, none⟩) (by first | (rw [add_block]; exact hn264_4) | (show (Addr.add _ _).block ≠ _; rw [add_block]; exact hn264_4) | exact hn264_4) (.string ((rd_T40 t254 x93_5).f4))).trans hx264_1; replace hx264_0 := (cell_far (p := ⟨gb263, 5, none⟩) (by first | (rw [add_block]; exact hn264_5) | (show (Addr.add _ _).block ≠ _; rw [add_block]; exact hn264_5) | exact hn264_5) (.int .u16 ((rd_T40 t254 x93_5).f5))).trans hx264_0; replace hx264_1 := (cell_far (p := ⟨gb263, 5, none⟩) (by first | (rw [add_block]; exact hn264_5) | (show (Addr.add _ _).block ≠ _; rw [add_block]; exact hn264_5) | exact hn264_5) (.int .u16 ((rd_T40 t254 x93_5).f5))).trans hx264_1; replace hx264_0 := (cell_far (p := ⟨gb263, 6, none⟩) (by first | (rw [add_block]; exact hn264_6) | (show (Addr.add _ _).block ≠ _; rw [add_block]; exact hn264_6) | exact hn264_6) (.int .i64 ((rd_T40 t254 x93_5).f6))).trans hx264_0; replace hx264_1 := (cell_far (p := ⟨gb263, 6, none⟩) (by first | (rw [add_block]; exact hn264_6) | (show (Addr.add _ _).block ≠ _; rw [add_block]; exact hn264_6) | exact hn264_6) (.int .i64 ((rd_T40 t254 x93_5).f6))).trans hx264_1; clear hn264_0; clear hn264_1; clear hn264_2; clear hn264_3; clear hn264_4; clear hn264_5; clear hn264_6; replace p264 := eq_true p264; replace q264 := eq_true q264))
                                            go_roundg k5
                                            case measure => have := HJ4.out; have := HK2.out; have := HK3.out; have := HJ37.out; have := HK5.out; omega
                                            case rel => exact ⟨(wrap64 (x93_5 + 1)), (by first | rfl | (simp; done) | (simp [*]; done)), H', ⟨by have := HJ4.out; have := HK2.out; have := HK3.out; have := HJ37.out; have := HK5.out; omega⟩, ⟨by (try simp only [hl9_3]); (with_reducible repeat (first | apply Kd.R_alloc | apply Kd.R_drewN | apply Kd.R_drew)); exact Kd.R_mono (Kd.R_far (p := ⟨gb263, 6, none⟩) (Kd.R_far (p := ⟨gb263, 5, none⟩) (Kd.R_far (p := ⟨gb263, 4, none⟩) (Kd.R_far (p := ⟨gb263, 3, none⟩) (Kd.R_far (p := ⟨gb263, 2, none⟩) (Kd.R_far (p := ⟨gb263, 1, none⟩) (Kd.R_far (p := ⟨gb263, 0, none⟩) (Kd.R_types HO_14.out BK263.out (by decide)) (fun _ hk => hk.2) (.bool ((rd_T40 t254 x93_5).f0))) (fun _ hk => hk.2) (.bool ((rd_T40 t254 x93_5).f1))) (fun _ hk => hk.2) (.bool ((rd_T40 t254 x93_5).f2))) (fun _ hk => hk.2) (.bool ((rd_T40 t254 x93_5).f3))) (fun _ hk => hk.2) (.string ((rd_T40 t254 x93_5).f4))) (fun _ hk => hk.2) (.int .u16 ((rd_T40 t254 x93_5).f5))) (fun _ hk => hk.2) (.int .i64 ((rd_T40 t254 x93_5).f6))) (fun _ hk => trivial)⟩, ⟨by (try simp only [hl9_3]); (with_reducible repeat (first | apply Kd.R_alloc | apply Kd.R_drewN | apply Kd.R_drew)); exact Kd.R_mono (Kd.R_far (p := ⟨gb263, 6, none⟩) (Kd.R_far (p := ⟨gb263, 5, none⟩) (Kd.R_far (p := ⟨gb263, 4, none⟩) (Kd.R_far (p := ⟨gb263, 3, none⟩) (Kd.R_far (p := ⟨gb263, 2, none⟩) (Kd.R_far (p := ⟨gb263, 1, none⟩) (Kd.R_far (p := ⟨gb263, 0, none⟩) (Kd.R_mono HO_91.out (fun k_ hk => (⟨hk, hk.2⟩ : _ ∧ k_ ≠ gb263))) (fun _ hk => hk.2) (.bool ((rd_T40 t254 x93_5).f0))) (fun _ hk => hk.2) (.bool ((rd_T40 t254 x93_5).f1))) (fun _ hk => hk.2) (.bool ((rd_T40 t254 x93_5).f2))) (fun _ hk => hk.2) (.bool ((rd_T40 t254 x93_5).f3))) (fun _ hk => hk.2) (.string ((rd_T40 t254 x93_5).f4))) (fun _ hk => hk.2) (.int .u16 ((rd_T40 t254 x93_5).f5))) (fun _ hk => hk.2) (.int .i64 ((rd_T40 t254 x93_5).f6))) (fun _ hk => trivial)⟩, ⟨by repeat (first | (with_reducible first | exact HB.out | apply below_alloc | apply pw_below_drewN | apply below_drew1 | refine below_set ?_ GE263.out) | exact HB.out)⟩⟩
                                          · rw [if_neg c57] at H
                                            have c57b0 : (((rd_T40 t254 x93_5).f5) == a3) = false := beq_eq_false_iff_ne.mpr c57
                                            have c57b1 : (((rd_T40 t254 x93_5).f5) != a3) = true := bne_iff_ne.mpr c57
                                            obtain rfl := Option.some.inj H
                                            have p262 : 0 ≤ (x93_5 : Int) := of_decide_eq_true (by first | (with_reducible assumption) | assumption)
                                            have q262 : x93_5 < (t254.length : Int) := of_decide_eq_true (by first | (with_reducible assumption) | assumption)
                                            obtain ⟨ad262, e262, hx262_0, hx262_1, hx262_2, hx262_3, hx262_4, hx262_5, hx262_6⟩ := at_T40 (Kd.R_reads' HO_91.out).2.2 x93_5 p262 q262
                                            (try rw [← Nbq53.out] at hx262_0)
                                            (try rw [← Nbq53.out] at hx262_1)
                                            (try rw [← Nbq53.out] at hx262_2)
                                            (try rw [← Nbq53.out] at hx262_3)
                                            cases e262
                                            replace p262 := eq_true p262
                                            replace q262 := eq_true q262
                                            go_wp2_with (first | ((with_reducible refine gate_dst (N := 19) rfl ?_); (try (refine gate_guard (by rfl) ?_; dsimp only)); refine box_event ?hg (N := 19) ?hd (cs := #[.bool false, .bool false, .bool false, .bool false, .string (⟨#[]⟩ : ByteArray), .int .u16 0, .int .i64 0]) (t := 40) ?hr ?_; (case hd => rfl); (case hg => rfl); (case hr => first | (go_simp; done) | (go_simp; rfl)); intro gb263 hg w60 hbox hb; have n0_ := Aside0.mk (Kd.R_below (by (with_reducible repeat (first | apply Kd.R_alloc | apply Kd.R_drewN | apply Kd.R_drew)); exact HO_14.out) hb); have n1_ := Aside0.mk (Kd.R_below (Kd.R_elderB (by (with_reducible repeat (first | apply Kd.R_alloc | apply Kd.R_drewN | apply Kd.R_drew)); exact HO_91.out) gb263 (Nat.le_of_eq hg.symm)) hb); have n2_ := Aside0.mk (below_step (by repeat (first | (with_reducible first | exact HB.out | apply below_alloc | apply pw_below_drewN | apply below_drew1) | exact HB.out)) hb); have n3_ := Aside0.mk (hbox); have n4_ := Aside0.mk ((by rw [hg]; exact (below_size (by repeat (first | (with_reducible first | exact HB.out | apply below_alloc | apply pw_below_drewN | apply below_drew1) | exact HB.out))) : w.heap.size ≤ gb263)); have n5_ := Aside0.mk ((by rw [hg]; exact (below_size (by repeat (first | (with_reducible first | exact HB.out | apply below_alloc | apply pw_below_drewN | apply below_drew1) | exact HB.out))) : w.heap.size ≤ gb263)); clear HO_14; clear HO_91; clear HB; have HO_14 := n0_; have HO_91 := n1_; have HB := n2_; have BK263 := n3_; have GW263 := n4_; have GE263 := n5_; clear n0_ n1_ n2_ n3_ n4_ n5_; clear hb hbox hg; have hcz61_0 : w60.cell? ⟨gb263, 0, none⟩ = some (.bool false) := (blk_cell BK263.out 0).trans rfl; have hcz61_1 : w60.cell? ⟨gb263, 1, none⟩ = some (.bool false) := (blk_cell BK263.out 1).trans rfl; have hcz61_2 : w60.cell? ⟨gb263, 2, none⟩ = some (.bool false) := (blk_cell BK263.out 2).trans rfl; have hcz61_3 : w60.cell? ⟨gb263, 3, none⟩ = some (.bool false) := (blk_cell BK263.out 3).trans rfl; have hcz61_4 : w60.cell? ⟨gb263, 4, none⟩ = some (.string (⟨#[]⟩ : ByteArray)) := (blk_cell BK263.out 4).trans rfl; have hcz61_5 : w60.cell? ⟨gb263, 5, none⟩ = some (.int .u16 0) := (blk_cell BK263.out 5).trans rfl; have hcz61_6 : w60.cell? ⟨gb263, 6, none⟩ = some (.int .i64 0) := (blk_cell BK263.out 6).trans rfl; have hfz61_0 := blk_frozen BK263.out 0; have hfz61_1 := blk_frozen BK263.out 1; have hfz61_2 := blk_frozen BK263.out 2; have hfz61_3 := blk_frozen BK263.out 3; have hfz61_4 := blk_frozen BK263.out 4; have hfz61_5 := blk_frozen BK263.out 5; have hfz61_6 := blk_frozen BK263.out 6; have p264 : 0 ≤ (x93_5 : Int) := of_decide_eq_true (by first | (with_reducible assumption) | assumption); have q264 : x93_5 < (t251.length : Int) := of_decide_eq_true (by first | (with_reducible assumption) | assumption); obtain ⟨ad264, e264, hx264_0, hx264_1⟩ := at_T45 (Kd.R_reads' HO_14.out).2.2 x93_5 p264 q264; (try rw [← Nbq53.out] at hx264_0); cases e264; have hn264_0 : ad264.block ≠ gb263 := Kd.own_blk (Kd.R_ne HO_14.out BK263.out (by decide)); have hn264_1 : ad264.block ≠ gb263 := Kd.own_blk (Kd.R_ne HO_14.out BK263.out (by decide)); have hn264_2 : ad264.block ≠ gb263 := Kd.own_blk (Kd.R_ne HO_14.out BK263.out (by decide)); have hn264_3 : ad264.block ≠ gb263 := Kd.own_blk (Kd.R_ne HO_14.out BK263.out (by decide)); have hn264_4 : ad264.block ≠ gb263 := Kd.own_blk (Kd.R_ne HO_14.out BK263.out (by decide)); have hn264_5 : ad264.block ≠ gb263 := Kd.own_blk (Kd.R_ne HO_14.out BK263.out (by decide)); have hn264_6 : ad264.block ≠ gb263 := Kd.own_blk (Kd.R_ne HO_14.out BK263.out (by decide)); replace hx264_0 := (cell_far (p := ⟨gb263, 0, none⟩) (by first | (rw [add_block]; exact hn264_0) | (show (Addr.add _ _).block ≠ _; rw [add_block]; exact hn264_0) | exact hn264_0) (.bool ((rd_T40 t254 x93_5).f0))).trans hx264_0; replace hx264_1 := (cell_far (p := ⟨gb263, 0, none⟩) (by first | (rw [add_block]; exact hn264_0) | (show (Addr.add _ _).block ≠ _; rw [add_block]; exact hn264_0) | exact hn264_0) (.bool ((rd_T40 t254 x93_5).f0))).trans hx264_1; replace hx264_0 := (cell_far (p := ⟨gb263, 1, none⟩) (by first | (rw [add_block]; exact hn264_1) | (show (Addr.add _ _).block ≠ _; rw [add_block]; exact hn264_1) | exact hn264_1) (.bool ((rd_T40 t254 x93_5).f1))).trans hx264_0; replace hx264_1 := (cell_far (p := ⟨gb263, 1, none⟩) (by first | (rw [add_block]; exact hn264_1) | (show (Addr.add _ _).block ≠ _; rw [add_block]; exact hn264_1) | exact hn264_1) (.bool ((rd_T40 t254 x93_5).f1))).trans hx264_1; replace hx264_0 := (cell_far (p := ⟨gb263, 2, none⟩) (by first | (rw [add_block]; exact hn264_2) | (show (Addr.add _ _).block ≠ _; rw [add_block]; exact hn264_2) | exact hn264_2) (.bool ((rd_T40 t254 x93_5).f2))).trans hx264_0; replace hx264_1 := (cell_far (p := ⟨gb263, 2, none⟩) (by first | (rw [add_block]; exact hn264_2) | (show (Addr.add _ _).block ≠ _; rw [add_block]; exact hn264_2) | exact hn264_2) (.bool ((rd_T40 t254 x93_5).f2))).trans hx264_1; replace hx264_0 := (cell_far (p := ⟨gb263, 3, none⟩) (by first | (rw [add_block]; exact hn264_3) | (show (Addr.add _ _).block ≠ _; rw [add_block]; exact hn264_3) | exact hn264_3) (.bool ((rd_T40 t254 x93_5).f3))).trans hx264_0; replace hx264_1 := (cell_far (p := ⟨gb263, 3, none⟩) (by first | (rw [add_block]; exact hn264_3) | (show (Addr.add _ _).block ≠ _; rw [add_block]; exact hn264_3) | exact hn264_3) (.bool ((rd_T40 t254 x93_5).f3))).trans hx264_1; replace hx264_0 := (cell_far (p := ⟨gb263, 4, none⟩) (by first | (rw [add_block]; exact hn264_4) | (show (Addr.add _ _).block ≠ _; rw [add_block]; exact hn264_4) | exact hn264_4) (.string ((rd_T40 t254 x93_5).f4))).trans hx264_0; replace hx264_1 := (cell_far (p := ⟨gb263, 4, none⟩) (by first | (rw [add_block]; exact hn264_4) | (show (Addr.add _ _).block ≠ _; rw [add_block]; exact hn264_4) | exact hn264_4) (.string ((rd_T40 t254 x93_5).f4))).trans hx264_1; replace hx264_0 := (cell_far (p := ⟨gb263, 5, none⟩) (by first | (rw [add_block]; exact hn264_5) | (show (Addr.add _ _).block ≠ _; rw [add_block]; exact hn264_5) | exact hn264_5) (.int .u16 ((rd_T40 t254 x93_5).f5))).trans hx264_0; replace hx264_1 := (cell_far (p := ⟨gb263, 5, none⟩) (by first | (rw [add_block]; exact hn264_5) | (show (Addr.add _ _).block ≠ _; rw [add_block]; exact hn264_5) | exact hn264_5) (.int .u16 ((rd_T40 t254 x93_5).f5))).trans hx264_1; replace hx264_0 := (cell_far (p := ⟨gb263, 6, none⟩) (by first | (rw [add_block]; exact hn264_6) | (show (Addr.add _ _).block ≠ _; rw [add_block]; exact hn264_6) | exact hn264_6) (.int .i64 ((rd_T40 t254 x93_5).f6))).trans hx264_0; replace hx264_1 := (cell_far (p := ⟨gb263, 6, none⟩) (by first | (rw [add_block]; exact hn264_6) | (show (Addr.add _ _).block ≠ _; rw [add_block]; exact hn264_6) | exact hn264_6) (.int .i64 ((rd_T40 t254 x93_5).f6))).trans hx264_1; clear hn264_0; clear hn264_1; clear hn264_2; clear hn264_3; clear hn264_4; clear hn264_5; clear hn264_6; replace p264 := eq_true p264; replace q264 := eq_true q264))
                                            go_ret
                                            exact ⟨by first | rfl | (simp [errW_none, errW_some] <;> rfl) | (simp [*, errW_none, errW_some] <;> rfl), by repeat (first | (with_reducible first | exact HB.out | apply below_alloc | apply pw_below_drewN | apply below_drew1 | refine below_set ?_ GE263.out) | exact HB.out)⟩
                                      · rw [if_neg c52] at H
                                        exact absurd H (by simp)
                                    · rw [if_neg c51] at H
                                      exact absurd H (by simp)
                                  · rw [if_neg c50] at H
                                    exact absurd H (by simp)
                                · rw [if_neg c49] at H
                                  have c49b0 : decide (x93_5 < (t254.length : Int)) = false := decide_eq_false c49
                                  have c49b9_ := c49b0
                                  (try rw [hl9_3] at c49b9_)
                                  clear c49
                                  obtain rfl := Option.some.inj H
                                  go_wp2
                                  go_ret
                                  exact ⟨by first | rfl | (simp [errW_none, errW_some] <;> rfl) | (simp [*, errW_none, errW_some] <;> rfl), by repeat (first | (with_reducible first | exact HB.out | apply below_alloc | apply pw_below_drewN | apply below_drew1) | exact HB.out)⟩
        · replace c10 := Bool.eq_false_iff.mpr c10
          subst c10
          have H1 : (some true) = some r := by rw [if_neg (show ¬ (false = true) by decide)] at H; exact H
          clear H
          have H := H1
          clear H1
          obtain rfl := Option.some.inj H
          go_wp2_with (first | ((with_reducible refine gate_callee (f := 8) rfl ?_); refine goesL_ (some 30) rfl rfl Tryd.func8 (by kernel_rfl) rfl #[.slice A0 l0.length c0, .int .i64 a1] rfl (by (try simp only [List.map_toArray, List.map_cons, List.map_nil]); first | done | rfl | (simp only [List.length_drop, List.length_take]; rfl)) ?_; (with_reducible refine (laws_light.calls kj4 _ _ l0 a1 false _ ?side1 ?side2 A9.out).mono ?_); (case side1 => repeat (first | exact (Kd.C_below HR0.out HB.out) | (with_reducible refine Kd.C_alloc ?_ _) | (with_reducible refine Kd.C_drewN ?_ _) | (with_reducible refine Kd.C_drew ?_))); (case side2 => exact HC0.out); rintro e w' ⟨rfl, ⟨nd, rfl⟩⟩; refine ⟨_, rfl, ?_⟩))
          go_ret
          exact ⟨by first | rfl | (simp [errW_none, errW_some] <;> rfl) | (simp [*, errW_none, errW_some] <;> rfl), by repeat (first | (with_reducible first | exact HB.out | apply below_alloc | apply pw_below_drewN | apply below_drew1) | exact HB.out)⟩

end Go.Proofs.YtjflijebcpcbmaaDoor.G
