/- What is proved: Go functions answer as the Lean functions of this text (written by a program of this session over the print of the kit). Conditions: those in the hypotheses. -/
import Derived.Test.YtjflijebcpcbmaaDoorG0
import Derived.Test.YtjflijebcpcbmaaDoorG2
namespace Go.Proofs.YtjflijebcpcbmaaDoor.G
open Go.RowKit Go.Proofs.YtjflijebcpcbmaaDoorW.PrintWords Go.Proofs.YtjflijebcpcbmaaDoorW.PrintLast Go.Proofs.YtjflijebcpcbmaaDoorW.PrintMore
attribute [local go_sem] max2_int min2_int max_two min_two max_three min_three max_four min_four   -- for this text's walks alone
set_option linter.unusedVariables false
set_option linter.unusedSimpArgs false

/-! ### laws_come: function 13: by hand -/
def comeGo : List S45 → List S40 → List ByteArray → List ByteArray × Bool
  | x :: xs, t :: ts, acc => if x.f0 && (t.f2 || !t.f0) then ([], false) else if !x.f0 && t.f3 then comeGo xs ts (acc ++ [t.f4]) else comeGo xs ts acc
  | _, _, acc => (acc, true)
def laws_come.f (k : Nat) (l0 : List (S45)) (l1 : List (S40)) : Option (List ByteArray × Bool) := if l1.length = l0.length ∧ l0.length < 1000000 then some (comeGo l0 l1 []) else none
theorem laws_come.mono : ∀ a0 a1 k, LeO (laws_come.f k a0 a1) (laws_come.f (k + 1) a0 a1) := fun _ _ _ => LeO.refl _
theorem comeGo_at (l0 : List S45) (l1 : List S40) (i : Nat) (h0 : i < l0.length) (h1 : i < l1.length) (acc : List ByteArray) :
    comeGo (l0.drop i) (l1.drop i) acc = if (rd_T45 l0 i).f0 && ((rd_T40 l1 i).f2 || !(rd_T40 l1 i).f0) then ([], false) else if !(rd_T45 l0 i).f0 && (rd_T40 l1 i).f3 then comeGo (l0.drop (i + 1)) (l1.drop (i + 1)) (acc ++ [(rd_T40 l1 i).f4]) else comeGo (l0.drop (i + 1)) (l1.drop (i + 1)) acc := by
  rw [List.drop_eq_getElem_cons h0, List.drop_eq_getElem_cons h1]
  have e0 : rd_T45 l0 i = l0[i] := by simp [rd_T45, List.getD_eq_getElem?_getD, List.getElem?_eq_getElem h0]
  have e1 : rd_T40 l1 i = l1[i] := by simp [rd_T40, List.getD_eq_getElem?_getD, List.getElem?_eq_getElem h1]
  rw [e0, e1]
  rfl
theorem wnx (k : Nat) (h : k < 1000000) : wrap64 ((k : Int) + 1) = ((k + 1 : Nat) : Int) := by
  unfold wrap64
  omega
set_option maxHeartbeats 8000000 in
set_option maxRecDepth 100000 in
theorem laws_come.calls (k : Nat) (A0 : Option Addr) (c0 : Nat) (l0 : List (S45)) (A1 : Option Addr) (c1 : Nat) (l1 : List (S40)) (r1 : List ByteArray) (r2 : Bool) (w : World) (hr0 : Kd.C k45 w A0 l0.length l0) (hc0 : l0.length ≤ c0) (hr1 : Kd.C k40 w A1 l1.length l1) (hc1 : l1.length ≤ c1) (h : laws_come.f k l0 l1 = some (r1, r2)) :
    Calls Tryd.prog 13 #[.slice A0 l0.length c0, .slice A1 l1.length c1] w fun e w' => ∃ v0_ : Value, e = .returned (.tuple #[v0_, .bool r2]) ∧ Kd.R Kd.string 9 w' w.heap.size (fun _ => True) v0_ r1 ∧ Below w.heap.size w w' := by
  unfold laws_come.f at h
  split at h
  case isFalse => cases h
  rename_i hc
  obtain ⟨hln, hlt⟩ := hc
  injection h with H
  have hu40 := Tryd.underlying40
  have HR0 := Aside0.mk hr0
  have HC0 := Aside0.mk hc0
  clear hr0 hc0
  have HR1 := Aside0.mk hr1
  have HC1 := Aside0.mk hc1
  clear hr1 hc1
  have HB := Aside0.mk (Below.refl w.heap.size w)
  have H' := Aside0.mk H
  have c3b0 : ((l1.length : Int) == (l0.length : Int)) = true := by simp [hln]
  have c3b1 : ((l1.length : Int) != (l0.length : Int)) = false := by simp [hln]
  have c3b2 : (l1.length == l0.length) = true := by simp [hln]
  obtain ⟨n, hn⟩ : ∃ n, n = l1.length := ⟨_, rfl⟩
  have HLN := Aside0.mk hln
  have HLT := Aside0.mk hlt
  have HN := Aside0.mk hn
  clear H hln hlt hn
  go_enter Tryd.func13, Tryd.ntmps13
  go_wp2
  go_loopg [4, 15] n (fun kq v4 v15 w' => ∃ (x4_1 : List ByteArray) (i : Nat), v15 = .int .i64 (i : Int) ∧ Aside0 (i ≤ l1.length ∧ kq = l1.length - i ∧ x4_1.length ≤ i) ∧ Aside0 (comeGo (l0.drop i) (l1.drop i) x4_1 = (r1, r2)) ∧ Aside0 (Kd.R Kd.string 9 w' w.heap.size (fun _ => True) v4 x4_1) ∧ Aside0 (Below w.heap.size w w'))
  case atStart => exact ⟨[], 0, rfl, ⟨by have := HN.out; exact ⟨Nat.zero_le _, by omega, Nat.le_refl _⟩⟩, H', ⟨Kd.R_nil _ _ _ _ _⟩, HB⟩
  case round =>
    clear H' c3b0 c3b1 c3b2
    obtain ⟨x4_1, i, rfl, HK, HA, HO_4, HB⟩ := hrel
    by_cases hi : i < l1.length
    · have hi0 : i < l0.length := by have := HLN.out; omega
      have hx := comeGo_at l0 l1 i hi0 hi x4_1
      obtain ⟨ad1, e1, t0, t1, t2, t3, t4, t5, t6⟩ := at_T40 HR1.out (i : Int) (by omega) (by omega)
      obtain ⟨ad0, e0, u0, u1⟩ := at_T45 HR0.out (i : Int) (by omega) (by omega)
      cases e1
      cases e0
      rw [Int.toNat_natCast] at t0 t1 t2 t3 t4 t5 t6 u0 u1
      replace t0 := (HB.out.cell (World.block_lt_of_cell? w _ t0)).trans t0
      replace t1 := (HB.out.cell (World.block_lt_of_cell? w _ t1)).trans t1
      replace t2 := (HB.out.cell (World.block_lt_of_cell? w _ t2)).trans t2
      replace t3 := (HB.out.cell (World.block_lt_of_cell? w _ t3)).trans t3
      replace t4 := (HB.out.cell (World.block_lt_of_cell? w _ t4)).trans t4
      replace t5 := (HB.out.cell (World.block_lt_of_cell? w _ t5)).trans t5
      replace t6 := (HB.out.cell (World.block_lt_of_cell? w _ t6)).trans t6
      replace u0 := (HB.out.cell (World.block_lt_of_cell? w _ u0)).trans u0
      obtain ⟨t, ht⟩ : ∃ t, t = rd_T40 l1 i := ⟨_, rfl⟩
      obtain ⟨x, hxx⟩ : ∃ x, x = rd_T45 l0 i := ⟨_, rfl⟩
      rw [← ht] at t0 t1 t2 t3 t4 t5 t6 hx
      rw [← hxx] at u0 hx
      rw [HA.out] at hx
      have hin : (i : Int) < (l1.length : Int) := by omega
      have hin0 : (i : Int) < (l0.length : Int) := by omega
      have uu : ∀ o, (wr.alloc o).cell? (ad0.add (i * 2)) = some (.bool x.f0) := fun o => (((Below.refl wr.heap.size wr).alloc (Nat.le_refl _) o).cell (World.block_lt_of_cell? wr _ u0)).trans u0
      clear ht hxx u1
      obtain ⟨b0, b1, b2, b3, b4, b5, b6⟩ := t
      obtain ⟨y0, y1⟩ := x
      simp only at t0 t1 t2 t3 t4 t5 t6 u0 uu hx
      cases y0
      · cases b3
        · simp only [Bool.false_and, Bool.not_false, Bool.true_and, Bool.true_or, Bool.or_true, Bool.false_or, Bool.not_true, Bool.or_false, Bool.and_false, Bool.true_and, if_true, if_false, Bool.false_eq_true, if_pos, ite_true, ite_false, reduceIte] at hx
          have HX := Aside0.mk hx
          clear hx
          go_wp2
          go_roundg (l1.length - (i + 1))
          case measure => have := HK.out; omega
          case rel =>
            have hk := HK.out
            exact ⟨x4_1, i + 1, by rw [wnx i (by have := HLT.out; omega)], ⟨by omega⟩, ⟨HX.out.symm⟩, ⟨by (with_reducible repeat (first | apply Kd.R_alloc | apply Kd.R_drewN | apply Kd.R_drew)); exact HO_4.out⟩, ⟨by repeat (first | (with_reducible first | exact HB.out | apply below_alloc | apply pw_below_drewN | apply below_drew1) | exact HB.out)⟩⟩
        · simp only [Bool.false_and, Bool.not_false, Bool.true_and, Bool.true_or, Bool.or_true, Bool.false_or, Bool.not_true, Bool.or_false, Bool.and_false, Bool.true_and, if_true, if_false, Bool.false_eq_true, if_pos, ite_true, ite_false, reduceIte] at hx
          have HX := Aside0.mk hx
          clear hx
          have LM : Aside0 (x4_1.length < 1000000) := ⟨by have := HK.out; have := HLT.out; omega⟩
          obtain ⟨ac, hac⟩ : ∃ a, a = x4_1 ++ [b4] := ⟨_, rfl⟩
          have HAC := Aside0.mk hac
          clear hac
          go_upto_region 9 with (fail)
          obtain ⟨W1, hW1⟩ : ∃ W, W = wr.alloc (.cells #[.bool b0, .bool b1, .bool b2, .bool true, .string b4, .int .u16 b5, .int .i64 b6] 40) := ⟨_, rfl⟩
          obtain ⟨P, hP⟩ : ∃ P, P = wr.heap.size := ⟨_, rfl⟩
          rw [← hW1, ← hP]
          have hk1 : W1.heap[P]? = some (.cells #[.bool b0, .bool b1, .bool b2, .bool true, .string b4, .int .u16 b5, .int .i64 b6] 40 (0, 0)) := by rw [hW1, hP]; exact heap_alloc_new _ _
          have s4 : W1.cell? ⟨P, 4, none⟩ = some (.string b4) := blk_cell hk1 4
          have hb1 : Below w.heap.size w W1 := by rw [hW1]; exact HB.out.alloc HB.out.size _
          have ho1 : Kd.R Kd.string 9 W1 w.heap.size (fun _ => True) u4 x4_1 := by rw [hW1]; exact Kd.R_alloc HO_4.out _
          clear HB HO_4 hk1 hW1 hP
          have HB := Aside0.mk hb1
          have HO_4 := Aside0.mk ho1
          clear hb1 ho1 t0 t1 t2 t3 t4 t5 t6 u0 uu
          go_wp2_with (first | ((with_reducible refine gate_builtin (b := .append) (xs := #[.tmp 44, .tmp 47]) rfl ?_); at_builtin; go_loud (refine Kd.R_append Kd.string (w0 := w) w.heap.size rfl (.tmp 44) (.tmp 47) 24 9 (.string ⟨#[]⟩) 16 rfl Tryd.underlying24 info9 rfl (by decide) (by omega) u4 x4_1 b4 [.string b4] (fun _ => True) (fun _ => False) rfl rfl ?aP (fun _ hk => hk.elim) ?aF ?aO ?aB ?aS ?aL ?_; (case aP => exact rfl); (case aB => exact (by repeat (first | (with_reducible first | exact HB.out | apply below_alloc | apply pw_below_drewN | apply below_drew1) | exact HB.out))); (case aF => exact (fun _ _ => trivial)); (case aO => exact (by (with_reducible repeat (first | apply Kd.R_alloc | apply Kd.R_drewN | apply Kd.R_drew)); exact HO_4.out)); (case aS => exact (below_size (by repeat (first | (with_reducible first | exact HB.out | apply below_alloc | apply pw_below_drewN | apply below_drew1) | exact HB.out)))); (case aL => have := LM.out; omega); intro v154 w25 ho hb hg hat; rw [← HAC.out] at ho; have n1_ := Aside0.mk (hb); have n2_ := Aside0.mk (ho); clear HB; clear HO_4; have HB := n1_; have HO_4 := n2_; clear n1_ n2_; clear ho hb hg hat)))
          go_roundg (l1.length - (i + 1))
          case measure => have := HK.out; omega
          case rel =>
            have hk := HK.out
            exact ⟨ac, i + 1, by rw [wnx i (by have := HLT.out; omega)], ⟨by rw [HAC.out, List.length_append]; refine ⟨by omega, by omega, by simp; omega⟩⟩, ⟨by rw [HAC.out]; exact HX.out.symm⟩, ⟨by (with_reducible repeat (first | apply Kd.R_alloc | apply Kd.R_drewN | apply Kd.R_drew)); exact HO_4.out⟩, ⟨by repeat (first | (with_reducible first | exact HB.out | apply below_alloc | apply pw_below_drewN | apply below_drew1) | exact HB.out)⟩⟩
      · cases b2
        · cases b0
          · simp at hx
            obtain ⟨rfl, rfl⟩ := hx
            go_wp2
            go_ret2
            exact ⟨_, rfl, Kd.R_nil _ _ _ _ _, by repeat (first | (with_reducible first | exact HB.out | apply below_alloc | apply pw_below_drewN | apply below_drew1) | exact HB.out)⟩
          · simp only [Bool.false_and, Bool.not_false, Bool.true_and, Bool.true_or, Bool.or_true, Bool.false_or, Bool.not_true, Bool.or_false, Bool.and_false, Bool.true_and, if_true, if_false, Bool.false_eq_true, if_pos, ite_true, ite_false, reduceIte] at hx
            have HX := Aside0.mk hx
            clear hx
            go_wp2
            go_roundg (l1.length - (i + 1))
            case measure => have := HK.out; omega
            case rel =>
              have hk := HK.out
              exact ⟨x4_1, i + 1, by rw [wnx i (by have := HLT.out; omega)], ⟨by omega⟩, ⟨HX.out.symm⟩, ⟨by (with_reducible repeat (first | apply Kd.R_alloc | apply Kd.R_drewN | apply Kd.R_drew)); exact HO_4.out⟩, ⟨by repeat (first | (with_reducible first | exact HB.out | apply below_alloc | apply pw_below_drewN | apply below_drew1) | exact HB.out)⟩⟩
        · simp at hx
          obtain ⟨rfl, rfl⟩ := hx
          go_wp2
          go_ret2
          exact ⟨_, rfl, Kd.R_nil _ _ _ _ _, by repeat (first | (with_reducible first | exact HB.out | apply below_alloc | apply pw_below_drewN | apply below_drew1) | exact HB.out)⟩
    · have hil : i = l1.length := by have := HK.out; omega
      have hin : ¬ (i : Int) < (l1.length : Int) := by omega
      have hx := HA.out
      rw [List.drop_of_length_le (by omega : l1.length ≤ i)] at hx
      have : comeGo (l0.drop i) [] x4_1 = (x4_1, true) := by cases l0.drop i <;> rfl
      rw [this] at hx
      injection hx with hx1 hx2
      subst hx1 hx2
      clear this hil
      go_wp2
      go_ret2
      exact ⟨_, rfl, by (with_reducible repeat (first | apply Kd.R_alloc | apply Kd.R_drewN | apply Kd.R_drew)); exact HO_4.out, by repeat (first | (with_reducible first | exact HB.out | apply below_alloc | apply pw_below_drewN | apply below_drew1) | exact HB.out)⟩

/-! ### impl_Fragments: function 14: given by hand -/
/-! ### laws_texts: function 15 -/
def laws_texts.l0 : Nat → List ByteArray → List ByteArray → Int → Int → Option (Bool)
  | 0, _, _, _, _ => none
  | k + 1, x0, x1, x12, x13 => if x13 < x12 then (if 0 ≤ x13 then (if x13 < (x0.length : Int) then (if x13 < (x1.length : Int) then (if (rdOf ByteArray.empty x0 x13).toList = (rdOf ByteArray.empty x1 x13).toList then (laws_texts.l0 k x0 x1 x12 (wrap64 (x13 + 1))) else (some false)) else (none)) else (none)) else (none)) else (some true)
def laws_texts.f (k : Nat) (l0 : List ByteArray) (l1 : List ByteArray) : Option (Bool) := if (l0.length : Int) = (l1.length : Int) then (laws_texts.l0 k l0 l1 (l0.length : Int) 0) else (some false)
theorem laws_texts.mono_l : ∀ k, (∀ y0 y1 y2 y3, LeO (laws_texts.l0 k y0 y1 y2 y3) (laws_texts.l0 (k + 1) y0 y1 y2 y3))
  | 0 => fun _ _ _ _ r h => by simp [laws_texts.l0] at h
  | k + 1 => by
    have ih0 := laws_texts.mono_l k
    · intro y0 y1 y2 y3
      unfold laws_texts.l0
      repeat' first
      | (with_reducible exact ih0 _ _ _ _)
      | (with_reducible exact LeO.refl _)
      | (with_reducible exact LeO.none _)
      | (with_reducible refine LeO.ite ?_ ?_)
      | (with_reducible refine LeO.bind ?_ (fun _ => ?_))
      | exact ih0 _ _ _ _
      | exact LeO.none _
      | refine LeO.ite ?_ ?_
      | refine LeO.bind ?_ (fun _ => ?_)
theorem laws_texts.mono : ∀ a0 a1 k, LeO (laws_texts.f k a0 a1) (laws_texts.f (k + 1) a0 a1) := by
  intro a0 a1 k
  have ih0 := laws_texts.mono_l k
  unfold laws_texts.f
  repeat' first
      | (with_reducible exact ih0 _ _ _ _)
      | (with_reducible exact LeO.refl _)
      | (with_reducible exact LeO.none _)
      | (with_reducible refine LeO.ite ?_ ?_)
      | (with_reducible refine LeO.bind ?_ (fun _ => ?_))
      | exact ih0 _ _ _ _
      | exact LeO.none _
      | refine LeO.ite ?_ ?_
      | refine LeO.bind ?_ (fun _ => ?_)
set_option maxHeartbeats 8000000 in
set_option maxRecDepth 100000 in
theorem laws_texts.calls (k : Nat) (A0 : Option Addr) (c0 : Nat) (l0 : List ByteArray) (A1 : Option Addr) (c1 : Nat) (l1 : List ByteArray) (r : Bool) (w : World) (hr0 : Kd.C Kd.string w A0 l0.length l0) (hc0 : l0.length ≤ c0) (hr1 : Kd.C Kd.string w A1 l1.length l1) (hc1 : l1.length ≤ c1) (h : laws_texts.f k l0 l1 = some r) :
    Calls Tryd.prog 15 #[.slice A0 l0.length c0, .slice A1 l1.length c1] w fun e w' => e = .returned (.bool r) ∧ Drawn0 w w' := by
  have HR0 := Aside0.mk hr0
  have HC0 := Aside0.mk hc0
  clear hr0 hc0
  have HR1 := Aside0.mk hr1
  have HC1 := Aside0.mk hc1
  clear hr1 hc1
  have H : (if (l0.length : Int) = (l1.length : Int) then (laws_texts.l0 k l0 l1 (l0.length : Int) 0) else (some false)) = some r := h
  clear h
  by_cases c3 : (l0.length : Int) = (l1.length : Int)
  · rw [if_pos c3] at H
    have c3b0 : ((l0.length : Int) == (l1.length : Int)) = true := beq_iff_eq.mpr c3
    have c3b1 : ((l0.length : Int) != (l1.length : Int)) = false := bne_eq_false_iff_eq.mpr c3
    have c3b2 : (l0.length == l1.length) = true := by first | simpa using c3 | (simp at c3 ⊢; omega)
    clear c3
    have H' := Aside0.mk H
    clear H
    go_enter Tryd.func15, Tryd.ntmps15
    go_wp2
    repeat (go_quiet (fail); try go_wp2)
    go_loopg [13] k (fun kq v13 w' => ∃ (x13_1 : Int), v13 = .int .i64 x13_1 ∧ Aside0 (laws_texts.l0 kq l0 l1 (l0.length : Int) x13_1 = some r) ∧ Aside0 (kq ≤ k) ∧ Drawn0 w w')
    case atStart => exact ⟨(0), (by first | rfl | (simp; done) | (simp [*]; done)), H', ⟨Nat.le_refl _⟩, by repeat (first | exact Drawn0.refl _ | apply Drawn0.step)⟩
    case round =>
      clear H'
      try clear c1
      try clear p2
      try clear c3
      try clear c3b0
      try clear c3b1
      try clear c3b2
      obtain ⟨x13_1, rfl, HA, HK1, ⟨m1, rfl⟩⟩ := hrel
      cases gk with
      | zero => exact absurd HA.out (by simp [laws_texts.l0])
      | succ k1 =>
        have H := HA.out
        clear HA
        simp only [laws_texts.l0] at H
        by_cases c4 : x13_1 < (l0.length : Int)
        · rw [if_pos c4] at H
          have c4b0 : decide (x13_1 < (l0.length : Int)) = true := decide_eq_true c4
          clear c4
          by_cases c5 : 0 ≤ x13_1
          · rw [if_pos c5] at H
            have c5b0 : decide (0 ≤ x13_1) = true := decide_eq_true c5
            clear c5
            by_cases c6 : x13_1 < (l0.length : Int)
            · rw [if_pos c6] at H
              have c6b0 : decide (x13_1 < (l0.length : Int)) = true := decide_eq_true c6
              clear c6
              by_cases c7 : x13_1 < (l1.length : Int)
              · rw [if_pos c7] at H
                have c7b0 : decide (x13_1 < (l1.length : Int)) = true := decide_eq_true c7
                clear c7
                by_cases c8 : (rdOf ByteArray.empty l0 x13_1).toList = (rdOf ByteArray.empty l1 x13_1).toList
                · rw [if_pos c8] at H
                  have c8b0 : ((rdOf ByteArray.empty l0 x13_1).toList == (rdOf ByteArray.empty l1 x13_1).toList) = true := beq_iff_eq.mpr c8
                  have c8b1 : ((rdOf ByteArray.empty l0 x13_1).toList != (rdOf ByteArray.empty l1 x13_1).toList) = false := bne_eq_false_iff_eq.mpr c8
                  clear c8
                  have H' := Aside0.mk H
                  clear H
                  have p156 : 0 ≤ (x13_1 : Int) := of_decide_eq_true (by first | (with_reducible assumption) | assumption)
                  have q156 : x13_1 < (l0.length : Int) := of_decide_eq_true (by first | (with_reducible assumption) | assumption)
                  obtain ⟨ad156, e156, hx156_0⟩ := Kd.at_string HR0.out x13_1 p156 q156
                  cases e156
                  replace p156 := eq_true p156
                  replace q156 := eq_true q156
                  have p157 : 0 ≤ (x13_1 : Int) := of_decide_eq_true (by first | (with_reducible assumption) | assumption)
                  have q157 : x13_1 < (l1.length : Int) := of_decide_eq_true (by first | (with_reducible assumption) | assumption)
                  obtain ⟨ad157, e157, hx157_0⟩ := Kd.at_string HR1.out x13_1 p157 q157
                  cases e157
                  replace p157 := eq_true p157
                  replace q157 := eq_true q157
                  go_wp2
                  repeat (go_quiet (fail); try go_wp2)
                  go_roundg k1
                  case measure => have := HK1.out; omega
                  case rel => exact ⟨(wrap64 (x13_1 + 1)), (by first | rfl | (simp; done) | (simp [*]; done)), H', ⟨by have := HK1.out; omega⟩, by repeat (first | exact Drawn0.refl _ | apply Drawn0.step)⟩
                · rw [if_neg c8] at H
                  have c8b0 : ((rdOf ByteArray.empty l0 x13_1).toList == (rdOf ByteArray.empty l1 x13_1).toList) = false := beq_eq_false_iff_ne.mpr c8
                  have c8b1 : ((rdOf ByteArray.empty l0 x13_1).toList != (rdOf ByteArray.empty l1 x13_1).toList) = true := bne_iff_ne.mpr c8
                  obtain rfl := Option.some.inj H
                  have p156 : 0 ≤ (x13_1 : Int) := of_decide_eq_true (by first | (with_reducible assumption) | assumption)
                  have q156 : x13_1 < (l0.length : Int) := of_decide_eq_true (by first | (with_reducible assumption) | assumption)
                  obtain ⟨ad156, e156, hx156_0⟩ := Kd.at_string HR0.out x13_1 p156 q156
                  cases e156
                  replace p156 := eq_true p156
                  replace q156 := eq_true q156
                  have p157 : 0 ≤ (x13_1 : Int) := of_decide_eq_true (by first | (with_reducible assumption) | assumption)
                  have q157 : x13_1 < (l1.length : Int) := of_decide_eq_true (by first | (with_reducible assumption) | assumption)
                  obtain ⟨ad157, e157, hx157_0⟩ := Kd.at_string HR1.out x13_1 p157 q157
                  cases e157
                  replace p157 := eq_true p157
                  replace q157 := eq_true q157
                  go_wp2
                  repeat (go_quiet (fail); try go_wp2)
                  go_ret
                  exact ⟨by first | rfl | (simp; done) | (simp [*]; done), by repeat (first | exact Drawn0.refl _ | apply Drawn0.step)⟩
              · rw [if_neg c7] at H
                exact absurd H (by simp)
            · rw [if_neg c6] at H
              exact absurd H (by simp)
          · rw [if_neg c5] at H
            exact absurd H (by simp)
        · rw [if_neg c4] at H
          have c4b0 : decide (x13_1 < (l0.length : Int)) = false := decide_eq_false c4
          clear c4
          obtain rfl := Option.some.inj H
          go_wp2
          repeat (go_quiet (fail); try go_wp2)
          go_ret
          exact ⟨by first | rfl | (simp; done) | (simp [*]; done), by repeat (first | exact Drawn0.refl _ | apply Drawn0.step)⟩
  · rw [if_neg c3] at H
    have c3b0 : ((l0.length : Int) == (l1.length : Int)) = false := beq_eq_false_iff_ne.mpr c3
    have c3b1 : ((l0.length : Int) != (l1.length : Int)) = true := bne_iff_ne.mpr c3
    have c3b2 : (l0.length == l1.length) = false := by first | simpa using c3 | (simp at c3 ⊢; omega)
    obtain rfl := Option.some.inj H
    go_enter Tryd.func15, Tryd.ntmps15
    go_wp2
    repeat (go_quiet (fail); try go_wp2)
    go_ret
    exact ⟨by first | rfl | (simp; done) | (simp [*]; done), by repeat (first | exact Drawn0.refl _ | apply Drawn0.step)⟩

/-! ### laws_whole: function 16 -/
def laws_whole.f (k : Nat) (a0 : Int) (a1 : Int) (a2 : ByteArray) : Option (ByteArray) := (laws_piece.f k a0 a1 a2 0 (a2.size : Int)).bind fun t158 => (some t158)
theorem laws_whole.mono : ∀ a0 a1 a2 k, LeO (laws_whole.f k a0 a1 a2) (laws_whole.f (k + 1) a0 a1 a2) := by
  intro a0 a1 a2 k
  unfold laws_whole.f
  repeat' first
      | (with_reducible exact laws_piece.mono _ _ _ _ _ _)
      | (with_reducible exact LeO.refl _)
      | (with_reducible exact LeO.none _)
      | (with_reducible refine LeO.ite ?_ ?_)
      | (with_reducible refine LeO.bind ?_ (fun _ => ?_))
      | exact laws_piece.mono _ _ _ _ _ _
      | exact LeO.none _
      | refine LeO.ite ?_ ?_
      | refine LeO.bind ?_ (fun _ => ?_)
set_option maxHeartbeats 8000000 in
set_option maxRecDepth 100000 in
theorem laws_whole.calls (k : Nat) (a0 : Int) (a1 : Int) (a2 : ByteArray) (r : ByteArray) (w : World) (h : laws_whole.f k a0 a1 a2 = some r) :
    Calls Tryd.prog 16 #[.int .u8 a0, .int .i64 a1, .string a2] w fun e w' => e = .returned (.string r) ∧ Below w.heap.size w w' := by
  have HB := Aside0.mk (Below.refl w.heap.size w)
  have H : ((laws_piece.f k a0 a1 a2 0 (a2.size : Int)).bind fun t158 => (some t158)) = some r := h
  clear h
  replace H := Option.bind_eq_some_iff.mp H
  obtain ⟨t158, A40, H⟩ := H
  replace H : (some t158) = some r := H
  have A4 := Aside0.mk A40
  clear A40
  obtain rfl := Option.some.inj H
  go_enter Tryd.func16, Tryd.ntmps16
  go_wp2_with (first | ((with_reducible refine gate_callee (f := 23) rfl ?_); refine goesL_ (some 12) rfl rfl Tryd.func23 (by kernel_rfl) rfl #[.int .u8 a0, .int .i64 a1, .string a2, .int .i64 0, .int .i64 (a2.size : Int)] rfl (by (try simp only [List.map_toArray, List.map_cons, List.map_nil]); first | done | rfl | (simp only [List.length_drop, List.length_take]; rfl)) ?_; (with_reducible refine (laws_piece.calls k a0 a1 a2 0 (a2.size : Int) t158 _ A4.out).mono ?_); rintro e w5 ⟨rfl, hb⟩; refine ⟨_, rfl, ?_⟩; have n0_ := Aside0.mk (below_step (by repeat (first | (with_reducible first | exact HB.out | apply below_alloc | apply pw_below_drewN | apply below_drew1) | exact HB.out)) hb); clear HB; have HB := n0_; clear n0_; (try clear hb); (try clear hb2); (try clear hk); (try clear hi)))
  go_ret
  exact ⟨by first | rfl | (simp [errW_none, errW_some] <;> rfl) | (simp [*, errW_none, errW_some] <;> rfl), by repeat (first | (with_reducible first | exact HB.out | apply below_alloc | apply pw_below_drewN | apply below_drew1) | exact HB.out)⟩

end Go.Proofs.YtjflijebcpcbmaaDoor.G
