/- What is proved: Go functions answer as the Lean functions of this text (written by a program of this session over the print of the kit). Conditions: those in the hypotheses. -/
import Derived.Test.YtjflijebcpcbmaaDoorG0
import Derived.Test.YtjflijebcpcbmaaDoorG1
import Derived.Test.YtjflijebcpcbmaaDoorWGuard
import Derived.Test.YtjflijebcpcbmaaDoorG3
import Derived.Test.YtjflijebcpcbmaaDoorG4
import Derived.Test.YtjflijebcpcbmaaDoorFrag
namespace Go.Proofs.YtjflijebcpcbmaaDoor.G
open Go.RowKit Go.Proofs.YtjflijebcpcbmaaDoorW.PrintWords Go.Proofs.YtjflijebcpcbmaaDoorW.PrintLast Go.Proofs.YtjflijebcpcbmaaDoorW.PrintMore
attribute [local go_sem] max2_int min2_int max_two min_two max_three min_three max_four min_four   -- for this text's walks alone
set_option linter.unusedVariables false
set_option linter.unusedSimpArgs false

/-! ### laws_FnCutAnew: function 3 -/
mutual
def laws_FnCutAnew.j0 : Nat → ByteArray → Int → Int → List Int → Bool → Option (Bool)
 | 0, _, _, _, _, _ => none
 | k + 1, x0, x1, x2, x3, x21 => if x21 = true then (some true) else ((laws_light.f k (([x0] : List ByteArray)) x1).bind fun t162 => (if t162 = true then ((laws_light.f k (([x0] : List ByteArray)) x2).bind fun t166 => (laws_FnCutAnew.j1 k x0 x1 x2 x3 (!t166))) else (laws_FnCutAnew.j1 k x0 x1 x2 x3 true)))
def laws_FnCutAnew.j1 : Nat → ByteArray → Int → Int → List Int → Bool → Option (Bool)
 | 0, _, _, _, _, _ => none
 | k + 1, x0, x1, x2, x3, x33 => if x33 = true then (some true) else ((laws_cutting.f k 11 0 x0 x1).bind fun t167 => ((laws_cutting.f k 11 0 x0 x2).bind fun t170 => (if t167.length + t170.length < 8796093022208 then ((laws_shuffle.f k (t167 ++ t170) x3).bind fun t176 => (laws_FnCutAnew.l0 k x0 t176 (t176.length : Int) 0)) else (none))))
def laws_FnCutAnew.l0 : Nat → ByteArray → List ByteArray → Int → Int → Option (Bool)
 | 0, _, _, _, _ => none
 | k + 1, x0, x9, x44, x45 => if x45 < x44 then (if 0 ≤ x45 then (if x45 < (x9.length : Int) then ((laws_record.f k x45 (rdOf ByteArray.empty x9 x45)).bind fun t180 => (laws_FnCutAnew.l0 k x0 (x9.set (x45 : Int).toNat t180) x44 (wrap64 (x45 + 1)))) else (none)) else (none)) else ((laws_pops.f k x9 3).bind fun t182 => ((impl_Fragments.f t182).bind fun t185 => ((laws_come.f k t182 t185).bind fun bt188 => (if bt188.2 = true then ((laws_whole.f k 11 0 x0).bind fun t192 => ((laws_texts.f k bt188.1 (([t192] : List ByteArray))).bind fun t196 => (some t196))) else (some false)))))
end
def laws_FnCutAnew.f (k : Nat) (a0 : ByteArray) (a1 : Int) (a2 : Int) (l3 : List Int) : Option (Bool) := if (a0.size : Int) > 2147483647 then (laws_FnCutAnew.j0 k a0 a1 a2 l3 true) else (laws_FnCutAnew.j0 k a0 a1 a2 l3 (decide ((l3.length : Int) > 2147483647)))
theorem laws_FnCutAnew.mono_l : ∀ k, (∀ y0 y1 y2 y3 y4, LeO (laws_FnCutAnew.j0 k y0 y1 y2 y3 y4) (laws_FnCutAnew.j0 (k + 1) y0 y1 y2 y3 y4)) ∧ (∀ y0 y1 y2 y3 y4, LeO (laws_FnCutAnew.j1 k y0 y1 y2 y3 y4) (laws_FnCutAnew.j1 (k + 1) y0 y1 y2 y3 y4)) ∧ (∀ y0 y1 y2 y3, LeO (laws_FnCutAnew.l0 k y0 y1 y2 y3) (laws_FnCutAnew.l0 (k + 1) y0 y1 y2 y3))
 | 0 => ⟨fun _ _ _ _ _ r h => by simp [laws_FnCutAnew.j0] at h, fun _ _ _ _ _ r h => by simp [laws_FnCutAnew.j1] at h, fun _ _ _ _ r h => by simp [laws_FnCutAnew.l0] at h⟩
 | k + 1 => by
  obtain ⟨ih0, ih1, ih2⟩ := laws_FnCutAnew.mono_l k
  refine ⟨?_, ?_, ?_⟩
  ·intro y0 y1 y2 y3 y4
   unfold laws_FnCutAnew.j0
   repeat' first
   | (with_reducible exact ih0 _ _ _ _ _)
   | (with_reducible exact ih1 _ _ _ _ _)
   | (with_reducible exact ih2 _ _ _ _)
   | (with_reducible exact laws_come.mono _ _ _)
   | (with_reducible exact laws_cutting.mono _ _ _ _ _)
   | (with_reducible exact laws_light.mono _ _ _)
   | (with_reducible exact laws_pops.mono _ _ _)
   | (with_reducible exact laws_record.mono _ _ _)
   | (with_reducible exact laws_shuffle.mono _ _ _)
   | (with_reducible exact laws_texts.mono _ _ _)
   | (with_reducible exact laws_whole.mono _ _ _ _)
   | (with_reducible exact LeO.refl _)
   | (with_reducible exact LeO.none _)
   | (with_reducible refine LeO.ite ?_ ?_)
   | (with_reducible refine LeO.bind ?_ (fun _ => ?_))
   | exact ih0 _ _ _ _ _
   | exact ih1 _ _ _ _ _
   | exact ih2 _ _ _ _
   | exact laws_come.mono _ _ _
   | exact laws_cutting.mono _ _ _ _ _
   | exact laws_light.mono _ _ _
   | exact laws_pops.mono _ _ _
   | exact laws_record.mono _ _ _
   | exact laws_shuffle.mono _ _ _
   | exact laws_texts.mono _ _ _
   | exact laws_whole.mono _ _ _ _
   | exact LeO.none _
   | refine LeO.ite ?_ ?_
   | refine LeO.bind ?_ (fun _ => ?_)
  ·intro y0 y1 y2 y3 y4
   unfold laws_FnCutAnew.j1
   repeat' first
   | (with_reducible exact ih0 _ _ _ _ _)
   | (with_reducible exact ih1 _ _ _ _ _)
   | (with_reducible exact ih2 _ _ _ _)
   | (with_reducible exact laws_come.mono _ _ _)
   | (with_reducible exact laws_cutting.mono _ _ _ _ _)
   | (with_reducible exact laws_light.mono _ _ _)
   | (with_reducible exact laws_pops.mono _ _ _)
   | (with_reducible exact laws_record.mono _ _ _)
   | (with_reducible exact laws_shuffle.mono _ _ _)
   | (with_reducible exact laws_texts.mono _ _ _)
   | (with_reducible exact laws_whole.mono _ _ _ _)
   | (with_reducible exact LeO.refl _)
   | (with_reducible exact LeO.none _)
   | (with_reducible refine LeO.ite ?_ ?_)
   | (with_reducible refine LeO.bind ?_ (fun _ => ?_))
   | exact ih0 _ _ _ _ _
   | exact ih1 _ _ _ _ _
   | exact ih2 _ _ _ _
   | exact laws_come.mono _ _ _
   | exact laws_cutting.mono _ _ _ _ _
   | exact laws_light.mono _ _ _
   | exact laws_pops.mono _ _ _
   | exact laws_record.mono _ _ _
   | exact laws_shuffle.mono _ _ _
   | exact laws_texts.mono _ _ _
   | exact laws_whole.mono _ _ _ _
   | exact LeO.none _
   | refine LeO.ite ?_ ?_
   | refine LeO.bind ?_ (fun _ => ?_)
  ·intro y0 y1 y2 y3
   unfold laws_FnCutAnew.l0
   repeat' first
   | (with_reducible exact ih0 _ _ _ _ _)
   | (with_reducible exact ih1 _ _ _ _ _)
   | (with_reducible exact ih2 _ _ _ _)
   | (with_reducible exact laws_come.mono _ _ _)
   | (with_reducible exact laws_cutting.mono _ _ _ _ _)
   | (with_reducible exact laws_light.mono _ _ _)
   | (with_reducible exact laws_pops.mono _ _ _)
   | (with_reducible exact laws_record.mono _ _ _)
   | (with_reducible exact laws_shuffle.mono _ _ _)
   | (with_reducible exact laws_texts.mono _ _ _)
   | (with_reducible exact laws_whole.mono _ _ _ _)
   | (with_reducible exact LeO.refl _)
   | (with_reducible exact LeO.none _)
   | (with_reducible refine LeO.ite ?_ ?_)
   | (with_reducible refine LeO.bind ?_ (fun _ => ?_))
   | exact ih0 _ _ _ _ _
   | exact ih1 _ _ _ _ _
   | exact ih2 _ _ _ _
   | exact laws_come.mono _ _ _
   | exact laws_cutting.mono _ _ _ _ _
   | exact laws_light.mono _ _ _
   | exact laws_pops.mono _ _ _
   | exact laws_record.mono _ _ _
   | exact laws_shuffle.mono _ _ _
   | exact laws_texts.mono _ _ _
   | exact laws_whole.mono _ _ _ _
   | exact LeO.none _
   | refine LeO.ite ?_ ?_
   | refine LeO.bind ?_ (fun _ => ?_)
theorem laws_FnCutAnew.mono : ∀ a0 a1 a2 a3 k, LeO (laws_FnCutAnew.f k a0 a1 a2 a3) (laws_FnCutAnew.f (k + 1) a0 a1 a2 a3) := by
 intro a0 a1 a2 a3 k
 obtain ⟨ih0, ih1, ih2⟩ := laws_FnCutAnew.mono_l k
 unfold laws_FnCutAnew.f
 repeat' first
   | (with_reducible exact ih0 _ _ _ _ _)
   | (with_reducible exact ih1 _ _ _ _ _)
   | (with_reducible exact ih2 _ _ _ _)
   | (with_reducible exact laws_come.mono _ _ _)
   | (with_reducible exact laws_cutting.mono _ _ _ _ _)
   | (with_reducible exact laws_light.mono _ _ _)
   | (with_reducible exact laws_pops.mono _ _ _)
   | (with_reducible exact laws_record.mono _ _ _)
   | (with_reducible exact laws_shuffle.mono _ _ _)
   | (with_reducible exact laws_texts.mono _ _ _)
   | (with_reducible exact laws_whole.mono _ _ _ _)
   | (with_reducible exact LeO.refl _)
   | (with_reducible exact LeO.none _)
   | (with_reducible refine LeO.ite ?_ ?_)
   | (with_reducible refine LeO.bind ?_ (fun _ => ?_))
   | exact ih0 _ _ _ _ _
   | exact ih1 _ _ _ _ _
   | exact ih2 _ _ _ _
   | exact laws_come.mono _ _ _
   | exact laws_cutting.mono _ _ _ _ _
   | exact laws_light.mono _ _ _
   | exact laws_pops.mono _ _ _
   | exact laws_record.mono _ _ _
   | exact laws_shuffle.mono _ _ _
   | exact laws_texts.mono _ _ _
   | exact laws_whole.mono _ _ _ _
   | exact LeO.none _
   | refine LeO.ite ?_ ?_
   | refine LeO.bind ?_ (fun _ => ?_)
set_option maxHeartbeats 8000000 in
set_option maxRecDepth 100000 in
theorem laws_FnCutAnew.calls (k : Nat) (a0 : ByteArray) (a1 : Int) (a2 : Int) (A3 : Option Addr) (c3 : Nat) (l3 : List Int) (r : Bool) (w : World) (hr3 : Kd.C (Kd.int .i64) w A3 l3.length l3) (hc3 : l3.length ≤ c3) (h : laws_FnCutAnew.f k a0 a1 a2 l3 = some r) (HL : Laid w) :
  Calls Tryd.prog 3 #[.string a0, .int .i64 a1, .int .i64 a2, .slice A3 l3.length c3] w fun e w' => e = .returned (.bool r) ∧ Below w.heap.size w w' := by
 have HR3 := Aside0.mk hr3
 have HC3 := Aside0.mk hc3
 clear hr3 hc3
 have HB := Aside0.mk (Below.refl w.heap.size w)
 have HLW := Aside0.mk HL
 clear HL
 have H : (if (a0.size : Int) > 2147483647 then (laws_FnCutAnew.j0 k a0 a1 a2 l3 true) else (laws_FnCutAnew.j0 k a0 a1 a2 l3 (decide ((l3.length : Int) > 2147483647)))) = some r := h
 clear h
 have HC5 := Aside0.mk H
 clear H
 go_enter Tryd.func3, Tryd.ntmps3
 go_upto_region 1 with (fail)
 go_cut [21] (fun v21 wc => ∃ (kq : Nat) (x21_4 : Bool), v21 = .bool x21_4 ∧ Aside0 (laws_FnCutAnew.j0 kq a0 a1 a2 l3 x21_4 = some r) ∧ Aside0 (kq ≤ k) ∧ Aside0 (Below w.heap.size w wc))
 case first =>
  have H := HC5.out
  clear HC5
  by_cases c6 : (a0.size : Int) > 2147483647
  ·rw [if_pos c6] at H
   have c6b0 : decide (2147483647 < (a0.size : Int)) = true := decide_eq_true c6
   have c6b1 : decide (2147483647 < a0.size) = true := decide_eq_true (by omega)
   clear c6
   (first | rw [c6b0] | (simp only [i64_w, i32_w]; rw [c6b0]) | skip)
   have H' := Aside0.mk H
   clear H
   go_wp2
   go_meet
   case rel => exact ⟨_, (true), (by first | rfl | (simp; done) | (simp [*]; done)), H', ⟨by first | omega | exact Nat.le_refl _⟩, ⟨by repeat (first | (with_reducible first | exact HB.out | apply below_alloc | apply pw_below_drewN | apply below_drew1) | exact HB.out)⟩⟩
  ·rw [if_neg c6] at H
   have c6b0 : decide (2147483647 < (a0.size : Int)) = false := decide_eq_false c6
   have c6b1 : decide (2147483647 < a0.size) = false := decide_eq_false (by omega)
   clear c6
   (first | rw [c6b0] | (simp only [i64_w, i32_w]; rw [c6b0]) | skip)
   have H' := Aside0.mk H
   clear H
   go_wp2
   go_meet
   case rel => exact ⟨_, (decide ((l3.length : Int) > 2147483647)), (by first | rfl | (simp; done) | (simp [*]; done)), H', ⟨by first | omega | exact Nat.le_refl _⟩, ⟨by repeat (first | (with_reducible first | exact HB.out | apply below_alloc | apply pw_below_drewN | apply below_drew1) | exact HB.out)⟩⟩
 case rest =>
  clear HC5
  try clear p2
  try clear c3
  try clear c6
  try clear c6b0
  try clear c6b1
  obtain ⟨kq, x21_4, rfl, HA, HJ4, HB⟩ := hcut
  cases kq with
  | zero => exact absurd HA.out (by simp [laws_FnCutAnew.j0])
  | succ kj4 =>
   have H := HA.out
   clear HA
   simp only [laws_FnCutAnew.j0] at H
   by_cases c7 : x21_4 = true
   ·subst c7
    have H1 : (some true) = some r := by rw [if_pos rfl] at H; exact H
    clear H
    have H := H1
    clear H1
    obtain rfl := Option.some.inj H
    go_wp2
    go_ret
    exact ⟨by first | rfl | (simp [errW_none, errW_some] <;> rfl) | (simp [*, errW_none, errW_some] <;> rfl), by repeat (first | (with_reducible first | exact HB.out | apply below_alloc | apply pw_below_drewN | apply below_drew1) | exact HB.out)⟩
   ·replace c7 := Bool.eq_false_iff.mpr c7
    subst c7
    have H1 : ((laws_light.f kj4 (([a0] : List ByteArray)) a1).bind fun t162 => (if t162 = true then ((laws_light.f kj4 (([a0] : List ByteArray)) a2).bind fun t166 => (laws_FnCutAnew.j1 kj4 a0 a1 a2 l3 (!t166))) else (laws_FnCutAnew.j1 kj4 a0 a1 a2 l3 true))) = some r := by rw [if_neg (show ¬ (false = true) by decide)] at H; exact H
    clear H
    have H := H1
    clear H1
    have HC8 := Aside0.mk H
    clear H
    go_upto_region 3 with (fail)
    go_cut [33] (fun v33 wc => ∃ (kq : Nat) (x33_7 : Bool), v33 = .bool x33_7 ∧ Aside0 (laws_FnCutAnew.j1 kq a0 a1 a2 l3 x33_7 = some r) ∧ Aside0 (kq ≤ kj4) ∧ Aside0 (Below w.heap.size w wc))
    case first =>
     have H := HC8.out
     clear HC8
     obtain ⟨y159, hy159⟩ : ∃ y_ : List ByteArray, y_ = (([a0] : List ByteArray)) := ⟨_, rfl⟩
     replace H : ((laws_light.f kj4 y159 a1).bind fun t162 => (if t162 = true then ((laws_light.f kj4 (([a0] : List ByteArray)) a2).bind fun t166 => (laws_FnCutAnew.j1 kj4 a0 a1 a2 l3 (!t166))) else (laws_FnCutAnew.j1 kj4 a0 a1 a2 l3 true))) = some r := by first | (rw [hy159]; with_reducible exact H) | (have H2_ := (Option.bind_some _ _).symm.trans H; rw [hy159]; with_reducible exact H2_) | (have H2_ := (Option.bind_some _ _).symm.trans H; with_reducible exact H2_) | with_reducible exact H | (rw [hy159]; exact H) | exact H
     have Ny159 := Aside0.mk hy159
     clear hy159
     replace H := Option.bind_eq_some_iff.mp H
     obtain ⟨t162, A90, H⟩ := H
     replace H : (if t162 = true then ((laws_light.f kj4 (([a0] : List ByteArray)) a2).bind fun t166 => (laws_FnCutAnew.j1 kj4 a0 a1 a2 l3 (!t166))) else (laws_FnCutAnew.j1 kj4 a0 a1 a2 l3 true)) = some r := H
     have A9 := Aside0.mk A90
     clear A90
     by_cases c10 : t162 = true
     ·subst c10
      have H1 : ((laws_light.f kj4 (([a0] : List ByteArray)) a2).bind fun t166 => (laws_FnCutAnew.j1 kj4 a0 a1 a2 l3 (!t166))) = some r := by rw [if_pos rfl] at H; exact H
      clear H
      have H := H1
      clear H1
      obtain ⟨y163, hy163⟩ : ∃ y_ : List ByteArray, y_ = (([a0] : List ByteArray)) := ⟨_, rfl⟩
      replace H : ((laws_light.f kj4 y163 a2).bind fun t166 => (laws_FnCutAnew.j1 kj4 a0 a1 a2 l3 (!t166))) = some r := by first | (rw [hy163]; with_reducible exact H) | (have H2_ := (Option.bind_some _ _).symm.trans H; rw [hy163]; with_reducible exact H2_) | (have H2_ := (Option.bind_some _ _).symm.trans H; with_reducible exact H2_) | with_reducible exact H | (rw [hy163]; exact H) | exact H
      have Ny163 := Aside0.mk hy163
      clear hy163
      replace H := Option.bind_eq_some_iff.mp H
      obtain ⟨t166, A110, H⟩ := H
      replace H : (laws_FnCutAnew.j1 kj4 a0 a1 a2 l3 (!t166)) = some r := H
      have A11 := Aside0.mk A110
      clear A110
      have H' := Aside0.mk H
      clear H
      go_wp2_with (first | ((with_reducible refine gate_dst (N := 23) rfl ?_); (try (refine gate_guard (by rfl) ?_; dsimp only)); refine Kd.R_lit Kd.string _ 9 ?hg (N := 23) ?hd (xs := ([a0] : List ByteArray)) (inner := [.string a0]) (ok := fun _ => True) (okp := fun _ => True) ?hr ?hp (fun _ hk => hk) trivial (Below.refl _ _) (Nat.le_refl _) (by simp) ?_; (case hd => rfl); (case hg => rfl); (case hr => first | (go_simp; done) | (go_simp; rfl)); (case hp => exact (Reps.one (show Kd.M Kd.string _ _ _ a0 [.string a0] from rfl) (Reps.none _ _))); intro v160 w12 ho13 hb hg_ hnew_; clear hg_ hnew_; (first | rw [← Ny159.out] at ho13 | (simp only [Int.reduceToNat] at ho13; rw [← Ny159.out] at ho13)); have n0_ := Aside0.mk (Kd.R_lower ho13 (below_size (by repeat (first | (with_reducible first | exact HB.out | apply below_alloc | apply pw_below_drewN | apply below_drew1) | exact HB.out)))); have n1_ := Aside0.mk (below_step (by repeat (first | (with_reducible first | exact HB.out | apply below_alloc | apply pw_below_drewN | apply below_drew1) | exact HB.out)) hb); clear HB; have HO161 := n0_; have HB := n1_; clear n0_ n1_; clear hb ho13; obtain ⟨Ao14, co14, eo14⟩ := Kd.R_slice HO161.out; subst eo14) | ((with_reducible refine gate_callee (f := 8) rfl ?_); refine goesL_ (some 25) rfl rfl Tryd.func8 (by kernel_rfl) rfl #[.slice Ao14 y159.length co14, .int .i64 a1] rfl (by (try simp only [List.map_toArray, List.map_cons, List.map_nil]); first | done | rfl | (simp only [List.length_drop, List.length_take]; rfl)) ?_; (with_reducible refine (laws_light.calls kj4 _ _ y159 a1 true _ ?side1 ?side2 A9.out).mono ?_); (case side1 => repeat (first | exact (Kd.R_reads' HO161.out).2.2 | (with_reducible refine Kd.C_alloc ?_ _) | (with_reducible refine Kd.C_drewN ?_ _) | (with_reducible refine Kd.C_drew ?_))); (case side2 => exact (Kd.R_reads' HO161.out).2.1); rintro e w' ⟨rfl, ⟨nd, rfl⟩⟩; refine ⟨_, rfl, ?_⟩) | ((with_reducible refine gate_dst (N := 29) rfl ?_); (try (refine gate_guard (by rfl) ?_; dsimp only)); refine Kd.R_lit Kd.string _ 9 ?hg (N := 29) ?hd (xs := ([a0] : List ByteArray)) (inner := [.string a0]) (ok := fun _ => True) (okp := fun _ => True) ?hr ?hp (fun _ hk => hk) trivial (Below.refl _ _) (Nat.le_refl _) (by simp) ?_; (case hd => rfl); (case hg => rfl); (case hr => first | (go_simp; done) | (go_simp; rfl)); (case hp => exact (Reps.one (show Kd.M Kd.string _ _ _ a0 [.string a0] from rfl) (Reps.none _ _))); intro v164 w15 ho16 hb hg_ hnew_; clear hg_ hnew_; (first | rw [← Ny163.out] at ho16 | (simp only [Int.reduceToNat] at ho16; rw [← Ny163.out] at ho16)); have n0_ := Aside0.mk (Kd.R_elder' (by (with_reducible repeat (first | apply Kd.R_alloc | apply Kd.R_drewN | apply Kd.R_drew)); exact HO161.out) (Kd.R_base ho16) hb); have n1_ := Aside0.mk (Kd.R_lower (Kd.R_new' ho16 (Kd.R_lt (by (with_reducible repeat (first | apply Kd.R_alloc | apply Kd.R_drewN | apply Kd.R_drew)); exact HO161.out))) (below_size (by repeat (first | (with_reducible first | exact HB.out | apply below_alloc | apply pw_below_drewN | apply below_drew1) | exact HB.out)))); have n2_ := Aside0.mk (below_step (by repeat (first | (with_reducible first | exact HB.out | apply below_alloc | apply pw_below_drewN | apply below_drew1) | exact HB.out)) hb); clear HO161; clear HB; have HO161 := n0_; have HO165 := n1_; have HB := n2_; clear n0_ n1_ n2_; clear hb ho16; obtain ⟨Ao17, co17, eo17⟩ := Kd.R_slice HO165.out; subst eo17) | (go_at_call 8; (with_reducible refine (laws_light.calls kj4 _ _ y163 a2 t166 _ ?side1 ?side2 A11.out).mono ?_); (case side1 => repeat (first | exact (Kd.R_reads' HO165.out).2.2 | (with_reducible refine Kd.C_alloc ?_ _) | (with_reducible refine Kd.C_drewN ?_ _) | (with_reducible refine Kd.C_drew ?_))); (case side2 => exact (Kd.R_reads' HO165.out).2.1); rintro e w' ⟨rfl, ⟨nd, rfl⟩⟩))
      go_meet
      case rel => exact ⟨_, (!t166), (by first | rfl | (simp; done) | (simp [*]; done)), H', ⟨by have := HJ4.out; first | omega | exact Nat.le_refl _⟩, ⟨by repeat (first | (with_reducible first | exact HB.out | apply below_alloc | apply pw_below_drewN | apply below_drew1) | exact HB.out)⟩⟩
     ·replace c10 := Bool.eq_false_iff.mpr c10
      subst c10
      have H1 : (laws_FnCutAnew.j1 kj4 a0 a1 a2 l3 true) = some r := by rw [if_neg (show ¬ (false = true) by decide)] at H; exact H
      clear H
      have H := H1
      clear H1
      have H' := Aside0.mk H
      clear H
      go_wp2_with (first | ((with_reducible refine gate_dst (N := 23) rfl ?_); (try (refine gate_guard (by rfl) ?_; dsimp only)); refine Kd.R_lit Kd.string _ 9 ?hg (N := 23) ?hd (xs := ([a0] : List ByteArray)) (inner := [.string a0]) (ok := fun _ => True) (okp := fun _ => True) ?hr ?hp (fun _ hk => hk) trivial (Below.refl _ _) (Nat.le_refl _) (by simp) ?_; (case hd => rfl); (case hg => rfl); (case hr => first | (go_simp; done) | (go_simp; rfl)); (case hp => exact (Reps.one (show Kd.M Kd.string _ _ _ a0 [.string a0] from rfl) (Reps.none _ _))); intro v160 w18 ho19 hb hg_ hnew_; clear hg_ hnew_; (first | rw [← Ny159.out] at ho19 | (simp only [Int.reduceToNat] at ho19; rw [← Ny159.out] at ho19)); have n0_ := Aside0.mk (Kd.R_lower ho19 (below_size (by repeat (first | (with_reducible first | exact HB.out | apply below_alloc | apply pw_below_drewN | apply below_drew1) | exact HB.out)))); have n1_ := Aside0.mk (below_step (by repeat (first | (with_reducible first | exact HB.out | apply below_alloc | apply pw_below_drewN | apply below_drew1) | exact HB.out)) hb); clear HB; have HO161 := n0_; have HB := n1_; clear n0_ n1_; clear hb ho19; obtain ⟨Ao20, co20, eo20⟩ := Kd.R_slice HO161.out; subst eo20) | ((with_reducible refine gate_callee (f := 8) rfl ?_); refine goesL_ (some 25) rfl rfl Tryd.func8 (by kernel_rfl) rfl #[.slice Ao20 y159.length co20, .int .i64 a1] rfl (by (try simp only [List.map_toArray, List.map_cons, List.map_nil]); first | done | rfl | (simp only [List.length_drop, List.length_take]; rfl)) ?_; (with_reducible refine (laws_light.calls kj4 _ _ y159 a1 false _ ?side1 ?side2 A9.out).mono ?_); (case side1 => repeat (first | exact (Kd.R_reads' HO161.out).2.2 | (with_reducible refine Kd.C_alloc ?_ _) | (with_reducible refine Kd.C_drewN ?_ _) | (with_reducible refine Kd.C_drew ?_))); (case side2 => exact (Kd.R_reads' HO161.out).2.1); rintro e w' ⟨rfl, ⟨nd, rfl⟩⟩; refine ⟨_, rfl, ?_⟩))
      go_meet
      case rel => exact ⟨_, (true), (by first | rfl | (simp; done) | (simp [*]; done)), H', ⟨by have := HJ4.out; first | omega | exact Nat.le_refl _⟩, ⟨by repeat (first | (with_reducible first | exact HB.out | apply below_alloc | apply pw_below_drewN | apply below_drew1) | exact HB.out)⟩⟩
    case rest =>
     clear HC8
     try clear c1
     try clear p2
     try clear c3
     try clear c6
     try clear c6b0
     try clear c6b1
     try clear c7
     try clear c8
     try clear c10
     try clear p2
     obtain ⟨kq, x33_7, rfl, HA, HJ7, HB⟩ := hcut
     cases kq with
     | zero => exact absurd HA.out (by simp [laws_FnCutAnew.j1])
     | succ kj7 =>
      have H := HA.out
      clear HA
      simp only [laws_FnCutAnew.j1] at H
      by_cases c21 : x33_7 = true
      ·subst c21
       have H1 : (some true) = some r := by rw [if_pos rfl] at H; exact H
       clear H
       have H := H1
       clear H1
       obtain rfl := Option.some.inj H
       go_wp2
       go_ret
       exact ⟨by first | rfl | (simp [errW_none, errW_some] <;> rfl) | (simp [*, errW_none, errW_some] <;> rfl), by repeat (first | (with_reducible first | exact HB.out | apply below_alloc | apply pw_below_drewN | apply below_drew1) | exact HB.out)⟩
      ·replace c21 := Bool.eq_false_iff.mpr c21
       subst c21
       have H1 : ((laws_cutting.f kj7 11 0 a0 a1).bind fun t167 => ((laws_cutting.f kj7 11 0 a0 a2).bind fun t170 => (if t167.length + t170.length < 8796093022208 then ((laws_shuffle.f kj7 (t167 ++ t170) l3).bind fun t176 => (laws_FnCutAnew.l0 kj7 a0 t176 (t176.length : Int) 0)) else (none)))) = some r := by rw [if_neg (show ¬ (false = true) by decide)] at H; exact H
       clear H
       have H := H1
       clear H1
       replace H := Option.bind_eq_some_iff.mp H
       obtain ⟨t167, A220, H⟩ := H
       replace H : ((laws_cutting.f kj7 11 0 a0 a2).bind fun t170 => (if t167.length + t170.length < 8796093022208 then ((laws_shuffle.f kj7 (t167 ++ t170) l3).bind fun t176 => (laws_FnCutAnew.l0 kj7 a0 t176 (t176.length : Int) 0)) else (none))) = some r := H
       have A22 := Aside0.mk A220
       clear A220
       replace H := Option.bind_eq_some_iff.mp H
       obtain ⟨t170, A230, H⟩ := H
       replace H : (if t167.length + t170.length < 8796093022208 then ((laws_shuffle.f kj7 (t167 ++ t170) l3).bind fun t176 => (laws_FnCutAnew.l0 kj7 a0 t176 (t176.length : Int) 0)) else (none)) = some r := H
       have A23 := Aside0.mk A230
       clear A230
       by_cases c24 : t167.length + t170.length < 8796093022208
       ·rw [if_pos c24] at H
        have LMc24 := Aside0.mk c24
        clear c24
        obtain ⟨y173, hy173⟩ : ∃ y_ : List ByteArray, y_ = (t167 ++ t170) := ⟨_, rfl⟩
        replace H : ((laws_shuffle.f kj7 y173 l3).bind fun t176 => (laws_FnCutAnew.l0 kj7 a0 t176 (t176.length : Int) 0)) = some r := by first | (rw [hy173]; with_reducible exact H) | (have H2_ := (Option.bind_some _ _).symm.trans H; rw [hy173]; with_reducible exact H2_) | (have H2_ := (Option.bind_some _ _).symm.trans H; with_reducible exact H2_) | with_reducible exact H | (rw [hy173]; exact H) | exact H
        have Ny173 := Aside0.mk hy173
        clear hy173
        replace H := Option.bind_eq_some_iff.mp H
        obtain ⟨t176, A250, H⟩ := H
        replace H : (laws_FnCutAnew.l0 kj7 a0 t176 (t176.length : Int) 0) = some r := H
        have A25 := Aside0.mk A250
        clear A250
        have H' := Aside0.mk H
        clear H
        go_wp2_with (first | ((with_reducible refine gate_callee (f := 10) rfl ?_); refine goesL_ (some 36) rfl rfl Tryd.func10 (by kernel_rfl) rfl #[.int .u8 11, .int .i64 0, .string a0, .int .i64 a1] rfl (by (try simp only [List.map_toArray, List.map_cons, List.map_nil]); first | done | rfl | (simp only [List.length_drop, List.length_take]; rfl)) ?_; (with_reducible refine (laws_cutting.calls kj7 11 0 a0 a1 t167 _ A22.out).mono ?_); rintro e w26 ⟨v168, rfl, ho0, hb⟩; refine ⟨_, rfl, ?_⟩; have n0_ := Aside0.mk (Kd.R_lower ho0 (below_size (by repeat (first | (with_reducible first | exact HB.out | apply below_alloc | apply pw_below_drewN | apply below_drew1) | exact HB.out)))); have n1_ := Aside0.mk (below_step (by repeat (first | (with_reducible first | exact HB.out | apply below_alloc | apply pw_below_drewN | apply below_drew1) | exact HB.out)) hb); clear HB; have HO169 := n0_; have HB := n1_; clear n0_ n1_; (try clear hb); (try clear hb2); (try clear hk); (try clear hi); (try clear ho0)) | ((with_reducible refine gate_callee (f := 10) rfl ?_); refine goesL_ (some 39) rfl rfl Tryd.func10 (by kernel_rfl) rfl #[.int .u8 11, .int .i64 0, .string a0, .int .i64 a2] rfl (by (try simp only [List.map_toArray, List.map_cons, List.map_nil]); first | done | rfl | (simp only [List.length_drop, List.length_take]; rfl)) ?_; (with_reducible refine (laws_cutting.calls kj7 11 0 a0 a2 t170 _ A23.out).mono ?_); rintro e w27 ⟨v171, rfl, ho0, hb⟩; refine ⟨_, rfl, ?_⟩; have n0_ := Aside0.mk (Kd.R_elder' (by (with_reducible repeat (first | apply Kd.R_alloc | apply Kd.R_drewN | apply Kd.R_drew)); exact HO169.out) (Kd.R_base ho0) hb); have n1_ := Aside0.mk (Kd.R_lower (Kd.R_new' ho0 (Kd.R_lt (by (with_reducible repeat (first | apply Kd.R_alloc | apply Kd.R_drewN | apply Kd.R_drew)); exact HO169.out))) (below_size (by repeat (first | (with_reducible first | exact HB.out | apply below_alloc | apply pw_below_drewN | apply below_drew1) | exact HB.out)))); have n2_ := Aside0.mk (below_step (by repeat (first | (with_reducible first | exact HB.out | apply below_alloc | apply pw_below_drewN | apply below_drew1) | exact HB.out)) hb); clear HO169; clear HB; have HO169 := n0_; have HO172 := n1_; have HB := n2_; clear n0_ n1_ n2_; (try clear hb); (try clear hb2); (try clear hk); (try clear hi); (try clear ho0); obtain ⟨Ao29, co29, eo29⟩ := Kd.R_slice HO172.out; subst eo29) | ((with_reducible refine gate_builtin (b := .append) (xs := #[.tmp 36, .tmp 39]) rfl ?_); (try (refine gate_guard (by rfl) ?_; dsimp only)); at_builtin; refine Kd.R_append_rows Kd.string (w0 := w) w.heap.size rfl (.tmp 36) (.tmp 39) 24 9 (.string ⟨#[]⟩) 16 rfl Tryd.underlying24 info9 rfl (by decide) (by omega) v168 t167 t170 _ _ _ (fun k_ => some k_ ≠ (.slice Ao29 t170.length co29 : Value).ownBlock) (fun _ => False) rfl rfl ?aO ?aR (fun _ _ h => h) (fun _ h => h.elim) ?aF ?aB ?aS ?aL ?_; (case aR => repeat (first | exact (Kd.R_reads' HO172.out).2.2 | (with_reducible refine Kd.C_alloc ?_ _) | (with_reducible refine Kd.C_drewN ?_ _) | (with_reducible refine Kd.C_drew ?_))); (case aB => exact (by repeat (first | (with_reducible first | exact HB.out | apply below_alloc | apply pw_below_drewN | apply below_drew1) | exact HB.out))); (case aF => exact (fun k_ hk => Kd.fresh' (Kd.R_lt (by (with_reducible repeat (first | apply Kd.R_alloc | apply Kd.R_drewN | apply Kd.R_drew)); exact HO172.out)) k_ hk)); (case aO => exact (by (with_reducible repeat (first | apply Kd.R_alloc | apply Kd.R_drewN | apply Kd.R_drew)); exact Kd.R_mono HO169.out (fun _ hk => hk.2))); (case aS => exact (below_size (by repeat (first | (with_reducible first | exact HB.out | apply below_alloc | apply pw_below_drewN | apply below_drew1) | exact HB.out)))); (case aL => have := LMc24.out; omega); intro v174 w28 ho hb hg hat; rw [← Ny173.out] at ho; have n0_ := Aside0.mk (Kd.R_after (ok := (fun _ => True)) (by (with_reducible repeat (first | apply Kd.R_alloc | apply Kd.R_drewN | apply Kd.R_drew)); exact HO172.out) hg hat); have n1_ := Aside0.mk (hb); have n2_ := Aside0.mk (ho); clear HO172; clear HB; clear HO169; have HO172 := n0_; have HB := n1_; have HO175 := n2_; clear n0_ n1_ n2_; clear ho hb hg hat; obtain ⟨Ao30, co30, eo30⟩ := Kd.R_slice HO175.out; subst eo30) | ((with_reducible refine gate_callee (f := 9) rfl ?_); refine goesL_ (some 42) rfl rfl Tryd.func9 (by kernel_rfl) rfl #[.slice Ao30 y173.length co30, .slice A3 l3.length c3] rfl (by (try simp only [List.map_toArray, List.map_cons, List.map_nil]); first | done | rfl | (simp only [List.length_drop, List.length_take]; rfl)) ?_; (with_reducible refine (laws_shuffle.calls kj7 _ _ y173 _ _ l3 t176 _ ?side1 ?side2 ?side3 ?side4 A25.out).mono ?_); (case side1 => repeat (first | exact (Kd.R_reads' HO175.out).2.2 | (with_reducible refine Kd.C_alloc ?_ _) | (with_reducible refine Kd.C_drewN ?_ _) | (with_reducible refine Kd.C_drew ?_))); (case side2 => exact (Kd.R_reads' HO175.out).2.1); (case side3 => repeat (first | exact (Kd.C_below HR3.out HB.out) | (with_reducible refine Kd.C_alloc ?_ _) | (with_reducible refine Kd.C_drewN ?_ _) | (with_reducible refine Kd.C_drew ?_))); (case side4 => exact HC3.out); rintro e w31 ⟨v177, rfl, ho0, hb⟩; refine ⟨_, rfl, ?_⟩; have n0_ := Aside0.mk (Kd.R_elder' (by (with_reducible repeat (first | apply Kd.R_alloc | apply Kd.R_drewN | apply Kd.R_drew)); exact HO172.out) (Kd.R_base ho0) hb); have n1_ := Aside0.mk (Kd.R_elder' (by (with_reducible repeat (first | apply Kd.R_alloc | apply Kd.R_drewN | apply Kd.R_drew)); exact HO175.out) (Kd.R_base ho0) hb); have n2_ := Aside0.mk (Kd.R_lower (Kd.R_new' (Kd.R_new' ho0 (Kd.R_lt (by (with_reducible repeat (first | apply Kd.R_alloc | apply Kd.R_drewN | apply Kd.R_drew)); exact HO172.out))) (Kd.R_lt (by (with_reducible repeat (first | apply Kd.R_alloc | apply Kd.R_drewN | apply Kd.R_drew)); exact HO175.out))) (below_size (by repeat (first | (with_reducible first | exact HB.out | apply below_alloc | apply pw_below_drewN | apply below_drew1) | exact HB.out)))); have n3_ := Aside0.mk (below_step (by repeat (first | (with_reducible first | exact HB.out | apply below_alloc | apply pw_below_drewN | apply below_drew1) | exact HB.out)) hb); clear HO172; clear HO175; clear HB; have HO172 := n0_; have HO175 := n1_; have HO178 := n2_; have HB := n3_; clear n0_ n1_ n2_ n3_; (try clear hb); (try clear hb2); (try clear hk); (try clear hi); (try clear ho0); obtain ⟨Ao32, co32, eo32⟩ := Kd.R_slice HO178.out; subst eo32))
        go_loopg [45] kj7 (fun kq v45 w' => ∃ (x9_3 : List ByteArray) (x45_3 : Int), v45 = .int .i64 x45_3 ∧ Aside0 (laws_FnCutAnew.l0 kq a0 x9_3 (t176.length : Int) x45_3 = some r) ∧ Aside0 (kq ≤ kj7) ∧ Aside0 (Kd.R Kd.string 9 w' w.heap.size (fun _ => True) (.slice Ao32 t176.length co32) x9_3) ∧ Aside0 (Below w.heap.size w w'))
        case atStart => exact ⟨(t176), (0), (by first | rfl | (simp; done) | (simp [*]; done)), H', ⟨Nat.le_refl _⟩, ⟨by (with_reducible repeat (first | apply Kd.R_alloc | apply Kd.R_drewN | apply Kd.R_drew)); exact Kd.R_mono HO178.out (fun _ hk => trivial)⟩, ⟨by repeat (first | (with_reducible first | exact HB.out | apply below_alloc | apply pw_below_drewN | apply below_drew1) | exact HB.out)⟩⟩
        case round =>
         clear H'
         try clear c1
         try clear c2
         try clear p2
         try clear c3
         try clear c6
         try clear c6b0
         try clear c6b1
         try clear c7
         try clear c8
         try clear c9
         try clear c10
         try clear c21
         try clear c24
         try clear p2
         obtain ⟨x9_3, x45_3, rfl, HA, HK3, HO_9, HB⟩ := hrel
         have hl9_3 := (Kd.R_reads' HO_9.out).1
         rw [hl9_3] at HO_9
         (try simp only [hl9_3])
         cases gk with
         | zero => exact absurd HA.out (by simp [laws_FnCutAnew.l0])
         | succ k3 =>
          have H := HA.out
          clear HA
          simp only [laws_FnCutAnew.l0] at H
          by_cases c33 : x45_3 < (t176.length : Int)
          ·rw [if_pos c33] at H
           have c33b0 : decide (x45_3 < (t176.length : Int)) = true := decide_eq_true c33
           clear c33
           by_cases c34 : 0 ≤ x45_3
           ·rw [if_pos c34] at H
            have c34b0 : decide (0 ≤ x45_3) = true := decide_eq_true c34
            clear c34
            by_cases c35 : x45_3 < (x9_3.length : Int)
            ·rw [if_pos c35] at H
             have c35b0 : decide (x45_3 < (x9_3.length : Int)) = true := decide_eq_true c35
             clear c35
             replace H := Option.bind_eq_some_iff.mp H
             obtain ⟨t180, A360, H⟩ := H
             replace H : (laws_FnCutAnew.l0 k3 a0 (x9_3.set (x45_3 : Int).toNat t180) (t176.length : Int) (wrap64 (x45_3 + 1))) = some r := H
             have A36 := Aside0.mk A360
             clear A360
             obtain ⟨y181, hy181⟩ : ∃ y_ : List ByteArray, y_ = (x9_3.set (x45_3 : Int).toNat t180) := ⟨_, rfl⟩
             replace H : (laws_FnCutAnew.l0 k3 a0 y181 (t176.length : Int) (wrap64 (x45_3 + 1))) = some r := by first | (rw [hy181]; with_reducible exact H) | (have H2_ := (Option.bind_some _ _).symm.trans H; rw [hy181]; with_reducible exact H2_) | (have H2_ := (Option.bind_some _ _).symm.trans H; with_reducible exact H2_) | with_reducible exact H | (rw [hy181]; exact H) | exact H
             have Ny181 := Aside0.mk hy181
             clear hy181
             have H' := Aside0.mk H
             clear H
             have p179 : 0 ≤ (x45_3 : Int) := of_decide_eq_true (by first | (with_reducible assumption) | assumption)
             have q179 : x45_3 < (x9_3.length : Int) := of_decide_eq_true (by first | (with_reducible assumption) | assumption)
             obtain ⟨ad179, e179, hx179_0⟩ := Kd.at_string (Kd.R_reads' HO_9.out).2.2 x45_3 p179 q179
             cases e179
             replace p179 := eq_true p179
             replace q179 := eq_true q179
             go_wp2_with (first | ((with_reducible refine gate_callee (f := 11) rfl ?_); refine goesL_ (some 55) rfl rfl Tryd.func11 (by kernel_rfl) rfl #[.int .i64 x45_3, .string (rdOf ByteArray.empty x9_3 x45_3)] rfl (by (try simp only [List.map_toArray, List.map_cons, List.map_nil]); first | done | rfl | (simp only [List.length_drop, List.length_take]; rfl)) ?_; (with_reducible refine (laws_record.calls k3 x45_3 (rdOf ByteArray.empty x9_3 x45_3) t180 _ A36.out).mono ?_); rintro e w38 ⟨rfl, hb⟩; refine ⟨_, rfl, ?_⟩; have n0_ := Aside0.mk (Kd.R_below (by (with_reducible repeat (first | apply Kd.R_alloc | apply Kd.R_drewN | apply Kd.R_drew)); exact HO_9.out) hb); have n1_ := Aside0.mk (below_step (by repeat (first | (with_reducible first | exact HB.out | apply below_alloc | apply pw_below_drewN | apply below_drew1) | exact HB.out)) hb); clear HO_9; clear HB; have HO_9 := n0_; have HB := n1_; clear n0_ n1_; (try clear hb); (try clear hb2); (try clear hk); (try clear hi); have p37 : 0 ≤ (x45_3 : Int) := of_decide_eq_true (by first | (with_reducible assumption) | assumption); have q37 : (x45_3 : Int) < ((x9_3.length : Int) : Int) := of_decide_eq_true (by first | (with_reducible assumption) | assumption); obtain ⟨go37, co37, eo37, gb37, gl37, cl37, HG37⟩ := Kd.R_form HO_9.out (by omega); (first | cases eo37 | (injection eo37 with ea_ en_ ec_; (first | subst ea_ | (injection ea_ with ea_; subst ea_)); subst ec_; clear en_)); have GB37 := Aside0.mk gb37; have GG37 := Aside0.mk HG37; clear gb37 gl37 HG37; (first | simp only [add_plain] at hx179_0 | skip); obtain ⟨hx37_0, hf37_0⟩ := Kd.R_celln (⟨#[]⟩ : ByteArray) HO_9.out (x45_3 : Int) p37 q37; replace p37 := eq_true p37; replace q37 := eq_true q37; obtain ⟨hy39_, hz39_⟩ := Kd.R_celln (⟨#[]⟩ : ByteArray) HO_9.out (x45_3 : Int) (of_decide_eq_true (by first | (with_reducible assumption) | assumption)) (of_decide_eq_true (by first | (with_reducible assumption) | assumption)); have HP39 := Kd.R_putg HO_9.out (x45_3 : Int) t180) | ((with_reducible refine gate_store (t := 9) (p := 56) rfl ?_); refine store_event (t := 9) (p := 56) (v := ?vo_w40) (w1 := (w38.setCell ⟨go37, (x45_3 : Int).toNat, none⟩ (.string t180))) ?hg ?ho ?hn ?hr ?_; (case ho => rfl); (case hg => rfl); (case hn => rfl); (case hr => first | (go_simp; done) | (go_simp; rfl)); intro w40 hw; have hg : w38.grownBy w40 (some go37) := (by rw [hw]; exact HP39.2); have hp_ : Kd.R Kd.string 9 w40 w.heap.size (fun _ => True) (.slice (some ⟨go37, 0, none⟩) x9_3.length co32) y181 := (by rw [hw, Ny181.out]; exact HP39.1); clear HP39; have n0_ := Aside0.mk (hp_); have n1_ := Aside0.mk ((by rw [hw]; exact below_set (HB.out) GB37.out : Below w.heap.size w w40)); clear HO_9; clear HB; have HO_9 := n0_; have HB := n1_; clear n0_ n1_; clear hg hw hp_))
             (try simp only [← hl9_3])
             go_roundg k3
             case measure => have := HJ4.out; have := HJ7.out; have := HK3.out; omega
             case rel => exact ⟨(y181), (wrap64 (x45_3 + 1)), (by first | rfl | (simp; done) | (simp [*]; done)), H', ⟨by have := HJ4.out; have := HJ7.out; have := HK3.out; omega⟩, ⟨by (try simp only [hl9_3]); (with_reducible repeat (first | apply Kd.R_alloc | apply Kd.R_drewN | apply Kd.R_drew)); exact HO_9.out⟩, ⟨by repeat (first | (with_reducible first | exact HB.out | apply below_alloc | apply pw_below_drewN | apply below_drew1) | exact HB.out)⟩⟩
            ·rw [if_neg c35] at H
             exact absurd H (by simp)
           ·rw [if_neg c34] at H
            exact absurd H (by simp)
          ·rw [if_neg c33] at H
           have c33b0 : decide (x45_3 < (t176.length : Int)) = false := decide_eq_false c33
           have c33b9_ := c33b0
           (try rw [hl9_3] at c33b9_)
           clear c33
           replace H := Option.bind_eq_some_iff.mp H
           obtain ⟨t182, A410, H⟩ := H
           replace H : ((impl_Fragments.f t182).bind fun t185 => ((laws_come.f k3 t182 t185).bind fun bt188 => (if bt188.2 = true then ((laws_whole.f k3 11 0 a0).bind fun t192 => ((laws_texts.f k3 bt188.1 (([t192] : List ByteArray))).bind fun t196 => (some t196))) else (some false)))) = some r := H
           have A41 := Aside0.mk A410
           clear A410
           replace H := Option.bind_eq_some_iff.mp H
           obtain ⟨t185, A420, H⟩ := H
           replace H : ((laws_come.f k3 t182 t185).bind fun bt188 => (if bt188.2 = true then ((laws_whole.f k3 11 0 a0).bind fun t192 => ((laws_texts.f k3 bt188.1 (([t192] : List ByteArray))).bind fun t196 => (some t196))) else (some false))) = some r := H
           have A42 := Aside0.mk A420
           clear A420
           replace H := Option.bind_eq_some_iff.mp H
           obtain ⟨⟨t188, t189⟩, A430, H⟩ := H
           replace H : (if t189 = true then ((laws_whole.f k3 11 0 a0).bind fun t192 => ((laws_texts.f k3 t188 (([t192] : List ByteArray))).bind fun t196 => (some t196))) else (some false)) = some r := H
           have A43 := Aside0.mk A430
           clear A430
           by_cases c44 : t189 = true
           ·subst c44
            have H1 : ((laws_whole.f k3 11 0 a0).bind fun t192 => ((laws_texts.f k3 t188 (([t192] : List ByteArray))).bind fun t196 => (some t196))) = some r := by rw [if_pos rfl] at H; exact H
            clear H
            have H := H1
            clear H1
            replace H := Option.bind_eq_some_iff.mp H
            obtain ⟨t192, A450, H⟩ := H
            replace H : ((laws_texts.f k3 t188 (([t192] : List ByteArray))).bind fun t196 => (some t196)) = some r := H
            have A45 := Aside0.mk A450
            clear A450
            obtain ⟨y193, hy193⟩ : ∃ y_ : List ByteArray, y_ = (([t192] : List ByteArray)) := ⟨_, rfl⟩
            replace H : ((laws_texts.f k3 t188 y193).bind fun t196 => (some t196)) = some r := by first | (rw [hy193]; with_reducible exact H) | (have H2_ := (Option.bind_some _ _).symm.trans H; rw [hy193]; with_reducible exact H2_) | (have H2_ := (Option.bind_some _ _).symm.trans H; with_reducible exact H2_) | with_reducible exact H | (rw [hy193]; exact H) | exact H
            have Ny193 := Aside0.mk hy193
            clear hy193
            replace H := Option.bind_eq_some_iff.mp H
            obtain ⟨t196, A460, H⟩ := H
            replace H : (some t196) = some r := H
            have A46 := Aside0.mk A460
            clear A460
            obtain rfl := Option.some.inj H
            go_wp2_with (first | ((with_reducible refine gate_callee (f := 12) rfl ?_); refine goesL_ (some 59) rfl rfl Tryd.func12 (by kernel_rfl) rfl #[.slice Ao32 x9_3.length co32, .int .i64 3] rfl (by (try simp only [List.map_toArray, List.map_cons, List.map_nil]); first | done | rfl | (simp only [List.length_drop, List.length_take]; rfl)) ?_; (with_reducible refine (laws_pops.calls k3 _ _ x9_3 3 t182 _ ?side1 ?side2 A41.out).mono ?_); (case side1 => repeat (first | exact (Kd.R_reads' HO_9.out).2.2 | (with_reducible refine Kd.C_alloc ?_ _) | (with_reducible refine Kd.C_drewN ?_ _) | (with_reducible refine Kd.C_drew ?_))); (case side2 => exact (Kd.R_reads' HO_9.out).2.1); rintro e w47 ⟨v183, rfl, ho0, hb⟩; refine ⟨_, rfl, ?_⟩; have n0_ := Aside0.mk (Kd.R_below (by (with_reducible repeat (first | apply Kd.R_alloc | apply Kd.R_drewN | apply Kd.R_drew)); exact HO_9.out) hb); have n1_ := Aside0.mk (Kd.R_lower ho0 (below_size (by repeat (first | (with_reducible first | exact HB.out | apply below_alloc | apply pw_below_drewN | apply below_drew1) | exact HB.out)))); have n2_ := Aside0.mk (below_step (by repeat (first | (with_reducible first | exact HB.out | apply below_alloc | apply pw_below_drewN | apply below_drew1) | exact HB.out)) hb); clear HO_9; clear HB; have HO_9 := n0_; have HO184 := n1_; have HB := n2_; clear n0_ n1_ n2_; (try clear hb); (try clear hb2); (try clear hk); (try clear hi); (try clear ho0); obtain ⟨Ao48, co48, eo48⟩ := Kd.R_slice HO184.out; subst eo48) | ((with_reducible refine gate_callee (f := 14) rfl ?_); refine goesL_ (some 63) rfl rfl Tryd.func14 (by kernel_rfl) rfl #[.slice Ao48 t182.length co48] rfl (by (try simp only [List.map_toArray, List.map_cons, List.map_nil]); first | done | rfl | (simp only [List.length_drop, List.length_take]; rfl)) ?_; (with_reducible refine (impl_Fragments.calls _ _ t182 t185 _ ?side1 ?side2 A42.out ?sideL).mono ?_); (case side1 => repeat (first | exact (Kd.R_reads' HO184.out).2.2 | (with_reducible refine Kd.C_alloc ?_ _) | (with_reducible refine Kd.C_drewN ?_ _) | (with_reducible refine Kd.C_drew ?_))); (case side2 => exact (Kd.R_reads' HO184.out).2.1); (case sideL => exact HLW.out.below (by repeat (first | (with_reducible first | exact HB.out | apply below_alloc | apply pw_below_drewN | apply below_drew1) | exact HB.out))); rintro e w49 ⟨v186, rfl, ho0, hb⟩; refine ⟨_, rfl, ?_⟩; have n0_ := Aside0.mk (Kd.R_below (by (with_reducible repeat (first | apply Kd.R_alloc | apply Kd.R_drewN | apply Kd.R_drew)); exact HO_9.out) hb); have n1_ := Aside0.mk (Kd.R_below (by (with_reducible repeat (first | apply Kd.R_alloc | apply Kd.R_drewN | apply Kd.R_drew)); exact HO184.out) hb); have n2_ := Aside0.mk (Kd.R_lower ho0 (below_size (by repeat (first | (with_reducible first | exact HB.out | apply below_alloc | apply pw_below_drewN | apply below_drew1) | exact HB.out)))); have n3_ := Aside0.mk (below_step (by repeat (first | (with_reducible first | exact HB.out | apply below_alloc | apply pw_below_drewN | apply below_drew1) | exact HB.out)) hb); clear HO_9; clear HO184; clear HB; have HO_9 := n0_; have HO184 := n1_; have HO187 := n2_; have HB := n3_; clear n0_ n1_ n2_ n3_; (try clear hb); (try clear hb2); (try clear hk); (try clear hi); (try clear ho0); obtain ⟨Ao50, co50, eo50⟩ := Kd.R_slice HO187.out; subst eo50) | ((with_reducible refine gate_callee (f := 13) rfl ?_); refine goesL_ (some 64) rfl rfl Tryd.func13 (by kernel_rfl) rfl #[.slice Ao48 t182.length co48, .slice Ao50 t185.length co50] rfl (by (try simp only [List.map_toArray, List.map_cons, List.map_nil]); first | done | rfl | (simp only [List.length_drop, List.length_take]; rfl)) ?_; (with_reducible refine (laws_come.calls k3 _ _ t182 _ _ t185 t188 true _ ?side1 ?side2 ?side3 ?side4 A43.out).mono ?_); (case side1 => repeat (first | exact (Kd.R_reads' HO184.out).2.2 | (with_reducible refine Kd.C_alloc ?_ _) | (with_reducible refine Kd.C_drewN ?_ _) | (with_reducible refine Kd.C_drew ?_))); (case side2 => exact (Kd.R_reads' HO184.out).2.1); (case side3 => repeat (first | exact (Kd.R_reads' HO187.out).2.2 | (with_reducible refine Kd.C_alloc ?_ _) | (with_reducible refine Kd.C_drewN ?_ _) | (with_reducible refine Kd.C_drew ?_))); (case side4 => exact (Kd.R_reads' HO187.out).2.1); rintro e w51 ⟨v190, rfl, ho0, hb⟩; refine ⟨_, rfl, ?_⟩; have n0_ := Aside0.mk (Kd.R_elder' (by (with_reducible repeat (first | apply Kd.R_alloc | apply Kd.R_drewN | apply Kd.R_drew)); exact HO_9.out) (Kd.R_base ho0) hb); have n1_ := Aside0.mk (Kd.R_below (by (with_reducible repeat (first | apply Kd.R_alloc | apply Kd.R_drewN | apply Kd.R_drew)); exact HO184.out) hb); have n2_ := Aside0.mk (Kd.R_below (by (with_reducible repeat (first | apply Kd.R_alloc | apply Kd.R_drewN | apply Kd.R_drew)); exact HO187.out) hb); have n3_ := Aside0.mk (Kd.R_lower (Kd.R_new' ho0 (Kd.R_lt (by (with_reducible repeat (first | apply Kd.R_alloc | apply Kd.R_drewN | apply Kd.R_drew)); exact HO_9.out))) (below_size (by repeat (first | (with_reducible first | exact HB.out | apply below_alloc | apply pw_below_drewN | apply below_drew1) | exact HB.out)))); have n4_ := Aside0.mk (below_step (by repeat (first | (with_reducible first | exact HB.out | apply below_alloc | apply pw_below_drewN | apply below_drew1) | exact HB.out)) hb); clear HO_9; clear HO184; clear HO187; clear HB; have HO_9 := n0_; have HO184 := n1_; have HO187 := n2_; have HO191 := n3_; have HB := n4_; clear n0_ n1_ n2_ n3_ n4_; (try clear hb); (try clear hb2); (try clear hk); (try clear hi); (try clear ho0)) | (go_at_call 16; (with_reducible refine (laws_whole.calls k3 11 0 a0 t192 _ A45.out).mono ?_); rintro e w52 ⟨rfl, hb⟩; have n0_ := Aside0.mk (Kd.R_below (by (with_reducible repeat (first | apply Kd.R_alloc | apply Kd.R_drewN | apply Kd.R_drew)); exact HO_9.out) hb); have n1_ := Aside0.mk (Kd.R_below (by (with_reducible repeat (first | apply Kd.R_alloc | apply Kd.R_drewN | apply Kd.R_drew)); exact HO184.out) hb); have n2_ := Aside0.mk (Kd.R_below (by (with_reducible repeat (first | apply Kd.R_alloc | apply Kd.R_drewN | apply Kd.R_drew)); exact HO187.out) hb); have n3_ := Aside0.mk (Kd.R_below (by (with_reducible repeat (first | apply Kd.R_alloc | apply Kd.R_drewN | apply Kd.R_drew)); exact HO191.out) hb); have n4_ := Aside0.mk (below_step (by repeat (first | (with_reducible first | exact HB.out | apply below_alloc | apply pw_below_drewN | apply below_drew1) | exact HB.out)) hb); clear HO_9; clear HO184; clear HO187; clear HO191; clear HB; have HO_9 := n0_; have HO184 := n1_; have HO187 := n2_; have HO191 := n3_; have HB := n4_; clear n0_ n1_ n2_ n3_ n4_; (try clear hb); (try clear hb2); (try clear hk); (try clear hi)) | ((with_reducible refine gate_dst (N := 72) rfl ?_); (try (refine gate_guard (by rfl) ?_; dsimp only)); refine Kd.R_lit Kd.string _ 9 ?hg (N := 72) ?hd (xs := ([t192] : List ByteArray)) (inner := [.string t192]) (ok := fun _ => True) (okp := fun _ => True) ?hr ?hp (fun _ hk => hk) trivial (Below.refl _ _) (Nat.le_refl _) (by simp) ?_; (case hd => rfl); (case hg => rfl); (case hr => first | (go_simp; done) | (go_simp; rfl)); (case hp => exact (Reps.one (show Kd.M Kd.string _ _ _ t192 [.string t192] from rfl) (Reps.none _ _))); intro v194 w53 ho54 hb hg_ hnew_; clear hg_ hnew_; (first | rw [← Ny193.out] at ho54 | (simp only [Int.reduceToNat] at ho54; rw [← Ny193.out] at ho54)); have n0_ := Aside0.mk (Kd.R_elder' (by (with_reducible repeat (first | apply Kd.R_alloc | apply Kd.R_drewN | apply Kd.R_drew)); exact HO_9.out) (Kd.R_base ho54) hb); have n1_ := Aside0.mk (Kd.R_below (by (with_reducible repeat (first | apply Kd.R_alloc | apply Kd.R_drewN | apply Kd.R_drew)); exact HO184.out) hb); have n2_ := Aside0.mk (Kd.R_below (by (with_reducible repeat (first | apply Kd.R_alloc | apply Kd.R_drewN | apply Kd.R_drew)); exact HO187.out) hb); have n3_ := Aside0.mk (Kd.R_elder' (by (with_reducible repeat (first | apply Kd.R_alloc | apply Kd.R_drewN | apply Kd.R_drew)); exact HO191.out) (Kd.R_base ho54) hb); have n4_ := Aside0.mk (Kd.R_lower (Kd.R_new' (Kd.R_new' ho54 (Kd.R_lt (by (with_reducible repeat (first | apply Kd.R_alloc | apply Kd.R_drewN | apply Kd.R_drew)); exact HO_9.out))) (Kd.R_lt (by (with_reducible repeat (first | apply Kd.R_alloc | apply Kd.R_drewN | apply Kd.R_drew)); exact HO191.out))) (below_size (by repeat (first | (with_reducible first | exact HB.out | apply below_alloc | apply pw_below_drewN | apply below_drew1) | exact HB.out)))); have n5_ := Aside0.mk (below_step (by repeat (first | (with_reducible first | exact HB.out | apply below_alloc | apply pw_below_drewN | apply below_drew1) | exact HB.out)) hb); clear HO_9; clear HO184; clear HO187; clear HO191; clear HB; have HO_9 := n0_; have HO184 := n1_; have HO187 := n2_; have HO191 := n3_; have HO195 := n4_; have HB := n5_; clear n0_ n1_ n2_ n3_ n4_ n5_; clear hb ho54; obtain ⟨Ao55, co55, eo55⟩ := Kd.R_slice HO191.out; subst eo55; obtain ⟨Ao56, co56, eo56⟩ := Kd.R_slice HO195.out; subst eo56) | (go_at_call 15; (with_reducible refine (laws_texts.calls k3 _ _ t188 _ _ y193 t196 _ ?side1 ?side2 ?side3 ?side4 A46.out).mono ?_); (case side1 => repeat (first | exact (Kd.R_reads' HO191.out).2.2 | (with_reducible refine Kd.C_alloc ?_ _) | (with_reducible refine Kd.C_drewN ?_ _) | (with_reducible refine Kd.C_drew ?_))); (case side2 => exact (Kd.R_reads' HO191.out).2.1); (case side3 => repeat (first | exact (Kd.R_reads' HO195.out).2.2 | (with_reducible refine Kd.C_alloc ?_ _) | (with_reducible refine Kd.C_drewN ?_ _) | (with_reducible refine Kd.C_drew ?_))); (case side4 => exact (Kd.R_reads' HO195.out).2.1); rintro e w' ⟨rfl, ⟨nd, rfl⟩⟩))
            go_ret
            exact ⟨by first | rfl | (simp [errW_none, errW_some] <;> rfl) | (simp [*, errW_none, errW_some] <;> rfl), by repeat (first | (with_reducible first | exact HB.out | apply below_alloc | apply pw_below_drewN | apply below_drew1) | exact HB.out)⟩
           ·replace c44 := Bool.eq_false_iff.mpr c44
            subst c44
            have H1 : (some false) = some r := by rw [if_neg (show ¬ (false = true) by decide)] at H; exact H
            clear H
            have H := H1
            clear H1
            obtain rfl := Option.some.inj H
            go_wp2_with (first | ((with_reducible refine gate_callee (f := 12) rfl ?_); refine goesL_ (some 59) rfl rfl Tryd.func12 (by kernel_rfl) rfl #[.slice Ao32 x9_3.length co32, .int .i64 3] rfl (by (try simp only [List.map_toArray, List.map_cons, List.map_nil]); first | done | rfl | (simp only [List.length_drop, List.length_take]; rfl)) ?_; (with_reducible refine (laws_pops.calls k3 _ _ x9_3 3 t182 _ ?side1 ?side2 A41.out).mono ?_); (case side1 => repeat (first | exact (Kd.R_reads' HO_9.out).2.2 | (with_reducible refine Kd.C_alloc ?_ _) | (with_reducible refine Kd.C_drewN ?_ _) | (with_reducible refine Kd.C_drew ?_))); (case side2 => exact (Kd.R_reads' HO_9.out).2.1); rintro e w57 ⟨v183, rfl, ho0, hb⟩; refine ⟨_, rfl, ?_⟩; have n0_ := Aside0.mk (Kd.R_below (by (with_reducible repeat (first | apply Kd.R_alloc | apply Kd.R_drewN | apply Kd.R_drew)); exact HO_9.out) hb); have n1_ := Aside0.mk (Kd.R_lower ho0 (below_size (by repeat (first | (with_reducible first | exact HB.out | apply below_alloc | apply pw_below_drewN | apply below_drew1) | exact HB.out)))); have n2_ := Aside0.mk (below_step (by repeat (first | (with_reducible first | exact HB.out | apply below_alloc | apply pw_below_drewN | apply below_drew1) | exact HB.out)) hb); clear HO_9; clear HB; have HO_9 := n0_; have HO184 := n1_; have HB := n2_; clear n0_ n1_ n2_; (try clear hb); (try clear hb2); (try clear hk); (try clear hi); (try clear ho0); obtain ⟨Ao58, co58, eo58⟩ := Kd.R_slice HO184.out; subst eo58) | ((with_reducible refine gate_callee (f := 14) rfl ?_); refine goesL_ (some 63) rfl rfl Tryd.func14 (by kernel_rfl) rfl #[.slice Ao58 t182.length co58] rfl (by (try simp only [List.map_toArray, List.map_cons, List.map_nil]); first | done | rfl | (simp only [List.length_drop, List.length_take]; rfl)) ?_; (with_reducible refine (impl_Fragments.calls _ _ t182 t185 _ ?side1 ?side2 A42.out ?sideL).mono ?_); (case side1 => repeat (first | exact (Kd.R_reads' HO184.out).2.2 | (with_reducible refine Kd.C_alloc ?_ _) | (with_reducible refine Kd.C_drewN ?_ _) | (with_reducible refine Kd.C_drew ?_))); (case side2 => exact (Kd.R_reads' HO184.out).2.1); (case sideL => exact HLW.out.below (by repeat (first | (with_reducible first | exact HB.out | apply below_alloc | apply pw_below_drewN | apply below_drew1) | exact HB.out))); rintro e w59 ⟨v186, rfl, ho0, hb⟩; refine ⟨_, rfl, ?_⟩; have n0_ := Aside0.mk (Kd.R_below (by (with_reducible repeat (first | apply Kd.R_alloc | apply Kd.R_drewN | apply Kd.R_drew)); exact HO_9.out) hb); have n1_ := Aside0.mk (Kd.R_below (by (with_reducible repeat (first | apply Kd.R_alloc | apply Kd.R_drewN | apply Kd.R_drew)); exact HO184.out) hb); have n2_ := Aside0.mk (Kd.R_lower ho0 (below_size (by repeat (first | (with_reducible first | exact HB.out | apply below_alloc | apply pw_below_drewN | apply below_drew1) | exact HB.out)))); have n3_ := Aside0.mk (below_step (by repeat (first | (with_reducible first | exact HB.out | apply below_alloc | apply pw_below_drewN | apply below_drew1) | exact HB.out)) hb); clear HO_9; clear HO184; clear HB; have HO_9 := n0_; have HO184 := n1_; have HO187 := n2_; have HB := n3_; clear n0_ n1_ n2_ n3_; (try clear hb); (try clear hb2); (try clear hk); (try clear hi); (try clear ho0); obtain ⟨Ao60, co60, eo60⟩ := Kd.R_slice HO187.out; subst eo60) | ((with_reducible refine gate_callee (f := 13) rfl ?_); refine goesL_ (some 64) rfl rfl Tryd.func13 (by kernel_rfl) rfl #[.slice Ao58 t182.length co58, .slice Ao60 t185.length co60] rfl (by (try simp only [List.map_toArray, List.map_cons, List.map_nil]); first | done | rfl | (simp only [List.length_drop, List.length_take]; rfl)) ?_; (with_reducible refine (laws_come.calls k3 _ _ t182 _ _ t185 t188 false _ ?side1 ?side2 ?side3 ?side4 A43.out).mono ?_); (case side1 => repeat (first | exact (Kd.R_reads' HO184.out).2.2 | (with_reducible refine Kd.C_alloc ?_ _) | (with_reducible refine Kd.C_drewN ?_ _) | (with_reducible refine Kd.C_drew ?_))); (case side2 => exact (Kd.R_reads' HO184.out).2.1); (case side3 => repeat (first | exact (Kd.R_reads' HO187.out).2.2 | (with_reducible refine Kd.C_alloc ?_ _) | (with_reducible refine Kd.C_drewN ?_ _) | (with_reducible refine Kd.C_drew ?_))); (case side4 => exact (Kd.R_reads' HO187.out).2.1); rintro e w61 ⟨v190, rfl, ho0, hb⟩; refine ⟨_, rfl, ?_⟩; have n0_ := Aside0.mk (Kd.R_elder' (by (with_reducible repeat (first | apply Kd.R_alloc | apply Kd.R_drewN | apply Kd.R_drew)); exact HO_9.out) (Kd.R_base ho0) hb); have n1_ := Aside0.mk (Kd.R_below (by (with_reducible repeat (first | apply Kd.R_alloc | apply Kd.R_drewN | apply Kd.R_drew)); exact HO184.out) hb); have n2_ := Aside0.mk (Kd.R_below (by (with_reducible repeat (first | apply Kd.R_alloc | apply Kd.R_drewN | apply Kd.R_drew)); exact HO187.out) hb); have n3_ := Aside0.mk (Kd.R_lower (Kd.R_new' ho0 (Kd.R_lt (by (with_reducible repeat (first | apply Kd.R_alloc | apply Kd.R_drewN | apply Kd.R_drew)); exact HO_9.out))) (below_size (by repeat (first | (with_reducible first | exact HB.out | apply below_alloc | apply pw_below_drewN | apply below_drew1) | exact HB.out)))); have n4_ := Aside0.mk (below_step (by repeat (first | (with_reducible first | exact HB.out | apply below_alloc | apply pw_below_drewN | apply below_drew1) | exact HB.out)) hb); clear HO_9; clear HO184; clear HO187; clear HB; have HO_9 := n0_; have HO184 := n1_; have HO187 := n2_; have HO191 := n3_; have HB := n4_; clear n0_ n1_ n2_ n3_ n4_; (try clear hb); (try clear hb2); (try clear hk); (try clear hi); (try clear ho0)))
            go_ret
            exact ⟨by first | rfl | (simp [errW_none, errW_some] <;> rfl) | (simp [*, errW_none, errW_some] <;> rfl), by repeat (first | (with_reducible first | exact HB.out | apply below_alloc | apply pw_below_drewN | apply below_drew1) | exact HB.out)⟩
       ·rw [if_neg c24] at H
        exact absurd H (by simp)

/-- THE ONE PURE STATEMENT of laws_FnCutAnew: yours. -/
def laws_FnCutAnew.Pure : Prop := ∀ (a0 : ByteArray) (a1 : Int) (a2 : Int) (l3 : List Int), a0.size ≤ 140737488351232 → (Lit.int .i64 a1).wf = true → (Lit.int .i64 a2).wf = true → l3.length ≤ maxLen → l3.length * 8 ≤ 140737488351232 → (∀ x ∈ l3, (Lit.int .i64 x).wf = true) → ∃ k, laws_FnCutAnew.f k a0 a1 a2 l3 = some true
theorem laws_FnCutAnew.walk (P : laws_FnCutAnew.Pure) (a0 : ByteArray) (a1 : Int) (a2 : Int) (a3 : Option Addr) (len3 cap3 : Nat) (z3 : List Int) (w : World) (HL : Laid w) (w0 : a0.size ≤ 140737488351232) (w1 : (Lit.int .i64 a1).wf = true) (w2 : (Lit.int .i64 a2).wf = true) (w3 : (a3 = none ∧ len3 = 0 ∧ cap3 = 0 ∧ z3 = []) ∨ ∃ x, a3 = some x ∧ len3 ≤ cap3 ∧ cap3 ≤ maxLen ∧ z3.length = cap3 ∧ (∀ i, i < z3.length → w.cell? (x.add i) = some (.int .i64 (z3.getD i 0))) ∧ ∀ n ∈ z3, (Lit.int .i64 n).wf = true) (y3 : len3 * 8 ≤ 140737488351232) :
  Calls Tryd.prog 3 #[.string a0, .int .i64 a1, .int .i64 a2, .slice a3 len3 cap3] w fun e w' => e = .returned (.bool true) ∧ Below w.heap.size w w' := by
 obtain ⟨l3, rfl, hr3, hm3, hw3, hc3⟩ := ReadsInt.ofRowC w3
 obtain ⟨k, h⟩ := P a0 a1 a2 l3 w0 w1 w2 hm3 y3 hw3
 refine (laws_FnCutAnew.calls k a0 a1 a2 _ _ l3 true w (Kd.C_of_reads (d := (0 : Int)) (h1 := fun _ => rfl) hr3) hc3 h HL).mono ?_
 rintro e w' ⟨rfl, hd⟩
 exact ⟨rfl, hd⟩

end Go.Proofs.YtjflijebcpcbmaaDoor.G
