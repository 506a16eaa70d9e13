/-
 What is proved: slices.Replace of some ranges by one. Conditions: at most 1000 ranges.
-/
import Derived.Test.YtjflijebcpcbmaaDoorXGrow
import Derived.Shelf.Spec.SlicesInsert
namespace Go.Proofs.YtjflijebcpcbmaaDoor.G
open Go.RowKit Go.Proofs.YtjflijebcpcbmaaDoorW.PrintWords Go.Proofs.YtjflijebcpcbmaaDoorW.PrintLast Go.Proofs.YtjflijebcpcbmaaDoorW.PrintMore
set_option linter.unusedVariables false
set_option linter.unusedSimpArgs false

def Put (w : World) (b m : Nat) (rs : List Rv) (e : Ending) (w' : World) : Prop :=
 ∃ b' c', e = .returned (.slice (some ⟨b', 0, none⟩) m c') ∧ (∃ sp', RS w' b' c' rs sp') ∧ c' ≤ maxLen ∧ (b' = b ∨ w.heap.size ≤ b') ∧ w.grownBy w' (some b)

theorem grown_some {w w' : World} {b : Nat} (h : w.grownBy w' none) : w.grownBy w' (some b) := ⟨h.os, h.tape, h.output, h.size, fun k hk _ => h.block k hk (by simp)⟩

theorem ins_calls (b c i vb : Nat) (r : Rv) (rs : List Rv) (sp : List Value) (w : World) (hr : RS w b c rs sp) (hc : c ≤ maxLen) (hv : w.heap[vb]? = some (.cells (rcells [r]).toArray 108 (0, 0))) (hne : vb ≠ b) (hn : rs.length ≤ 1000) (hi : i ≤ rs.length) :
 Calls Tryd.prog 62 #[.slice (some ⟨b, 0, none⟩) rs.length c, .int .i64 (i : Int), .slice (some ⟨vb, 0, none⟩) 1 1] w (Put w b (rs.length + 1) (rs.take i ++ r :: rs.drop i)) := by
 by_cases h1 : i = rs.length
 ·subst h1
  rw [List.take_length, List.drop_length]
  exact ins_end b c vb r rs sp w hr hc hv hn
 ·by_cases h2 : rs.length + 1 ≤ c
  ·exact (ins_room b c i vb r rs sp w hr hc hv hne hn (by omega) h2).mono fun e w' ⟨q1, q2, q3⟩ => ⟨b, c, q1, q2, hc, .inl rfl, q3⟩
  ·exact (ins_grow b c i vb r rs sp w hr hc hv hn (by omega) (by omega)).mono fun e w' ⟨b', c', q1, q2, q3, q4, q5⟩ => ⟨b', c', q1, q2, q3, .inr q4, grown_some q5⟩

def zs (n : Nat) : List Value := (Builtin.zeroCells z108.cells n).toList
theorem zs_length (n : Nat) : (zs n).length = 2 * n := by unfold zs; rw [Array.length_toList, zero_size]
theorem zs_one (n : Nat) : ∀ v ∈ zs n, v.oneCell' = true := by
 intro v hv
 unfold zs at hv
 rw [Array.mem_toList_iff] at hv
 simp only [Builtin.zeroCells, Value.cells, z108] at hv
 obtain ⟨i, hi, rfl⟩ := Array.mem_iff_getElem.1 hv
 simp
 have : i % 2 = 0 ∨ i % 2 = 1 := by omega
 rcases this with h | h <;> simp [h] <;> rfl
theorem zero108 : ∀ w, (zeroValue 108).run Tryd.prog w = .ok z108 w := fun w => by kernel_rfl
theorem run_clear2 (w : World) (ty b o n c : Nat) (hc : ∀ j, j < 2 * n → (w.cell? ⟨b, o + j, none⟩).isSome = true) (hf : ∀ j, w.frozen? ⟨b, o + j, none⟩ = false) :
 (Builtin.clear_ #[100] ty #[.slice (some ⟨b, o, none⟩) n c]).run Tryd.prog w = .ok (.tuple #[]) (w.setCells b o (zs n)) := by
 cases n with
 | zero =>
   have h0 : zs 0 = [] := List.eq_nil_of_length_eq_zero (by rw [zs_length])
   rw [h0]
   simp [Builtin.clear_, run_underlying Tryd.underlying100]
   rfl
 | succ m =>
   have hst := run_storeCells_cells (P := Tryd.prog) b o (zs (m + 1)) 0 w (by rw [zs_length]; simpa using hc) (by intro j _; simpa using hf j) (zs_one _)
   simp only [Nat.add_zero] at hst
   have hz : (Builtin.zeroCells z108.cells (m + 1)).toList = zs (m + 1) := rfl
   simp [Builtin.clear_, run_underlying Tryd.underlying100, zero108]
   rw [show (Builtin.zeroCells (Value.agg #[Value.int IntKind.u32 0, Value.slice none 0 0]).cells (m + 1)).toList = zs (m + 1) from rfl, hst]
   rfl
theorem at_clear {P : Program} (w : World) {ops : Array Oper} {rest : List Oper} {o : Oper} {a : Act} {Q : Exit → Act → World → Prop} (hgd : o.guard = none) (s : Operand) (t : TypeId)
 (ho : o.op = .call { callee := .builtin .clear, args := #[s], argTypes := #[t] }) (v : Value) (hs : a.eval s = v) {v' : Value} {w' : World}
 (hr : (Builtin.clear_ #[t] o.type #[v]).run P w = .ok v' w') (h : wpList P ops Q rest (a.put o.dst v') w') : wpList P ops Q (o :: rest) a w := by
 refine wpList_plain hgd fun K hK => ?_
 unfold Oper.wp
 simp only [execOp, ho, resolve, invoke, builtin, Sem.run_bind, Sem.run_pure, Result.andThen_ok, List.map_toArray, List.map_cons, List.map_nil, hs, hr]
 exact hK _ _ h

set_option maxHeartbeats 8000000 in
set_option maxRecDepth 100000 in
theorem rep_same (b c i vb : Nat) (r : Rv) (rs : List Rv) (sp : List Value) (w : World) (hr : RS w b c rs sp) (hc : c ≤ maxLen) (hv : w.heap[vb]? = some (.cells (rcells [r]).toArray 108 (0, 0))) (hne : vb ≠ b) (hn : rs.length ≤ 1000) (hi : i ≤ rs.length) :
 Calls Tryd.prog 57 #[.slice (some ⟨b, 0, none⟩) rs.length c, .int .i64 (i : Int), .int .i64 (i : Int), .slice (some ⟨vb, 0, none⟩) 1 1] w (Put w b (rs.length + 1) (rs.take i ++ r :: rs.drop i)) := by
 have HI := Aside0.mk (ins_calls b c i vb r rs sp w hr hc hv hne hn hi)
 obtain ⟨n, hnn⟩ : ∃ n, n = rs.length := ⟨_, rfl⟩
 have hle := hr.le
 have h1 : i ≤ c := by omega
 have h2 : (i : Int) ≤ (c : Int) := by omega
 rw [← hnn] at HI ⊢
 clear hr hc hv hne hn hi hnn hle
 go_enter Tryd.func57, Tryd.ntmps57
 go_wp2_with (go_at_call 62; go_loud ((with_reducible refine (HI.out).mono ?_); rintro e w1 ⟨b', c', rfl, q2, q3, q4, q5⟩; have HQ := Aside0.mk q2; have H3 := Aside0.mk q3; have H4 := Aside0.mk q4; have H5 := Aside0.mk q5; clear q2 q3 q4 q5))
 all_goals
  go_ret
  exact ⟨b', c', rfl, HQ.out, H3.out, H4.out, H5.out⟩

set_option maxHeartbeats 8000000 in
set_option maxRecDepth 100000 in
theorem rep_nil (vb : Nat) (r : Rv) (w : World) (hv : w.heap[vb]? = some (.cells (rcells [r]).toArray 108 (0, 0))) :
 Calls Tryd.prog 57 #[.slice none 0 0, .int .i64 0, .int .i64 0, .slice (some ⟨vb, 0, none⟩) 1 1] w fun e w' => ∃ b' c', e = .returned (.slice (some ⟨b', 0, none⟩) 1 c') ∧ (∃ sp', RS w' b' c' [r] sp') ∧ c' ≤ maxLen ∧ w.heap.size ≤ b' ∧ w.grownBy w' none := by
 have HI := Aside0.mk (ins_nil vb r w hv)
 clear hv
 go_enter Tryd.func57, Tryd.ntmps57
 go_wp2_with (go_at_call 62; go_loud ((with_reducible refine (HI.out).mono ?_); rintro e w1 ⟨b', c', rfl, q2, q3, q4, q5⟩; have HQ := Aside0.mk q2; have H3 := Aside0.mk q3; have H4 := Aside0.mk q4; have H5 := Aside0.mk q5; clear q2 q3 q4 q5))
 all_goals
  go_ret
  exact ⟨b', c', rfl, HQ.out, H3.out, H4.out, H5.out⟩

theorem RS.front {w : World} {b c : Nat} {rs : List Rv} {sp : List Value} (h : RS w b c rs sp) (i : Nat) : RS w b c (rs.take i) (rcells (rs.drop i) ++ sp) := by
 have e : rcells (rs.take i) ++ (rcells (rs.drop i) ++ sp) = rcells rs ++ sp := by rw [← List.append_assoc, ← rcells_append, List.take_append_drop]
 exact ⟨by rw [e]; exact h.h, by rw [e]; exact h.l⟩
theorem RS.isSome {w : World} {b c : Nat} {rs : List Rv} {sp : List Value} (h : RS w b c rs sp) (j : Nat) (hj : j < 2 * c) : (w.cell? ⟨b, j, none⟩).isSome = true := by
 rw [blk_cell h.h, List.getElem?_toArray, List.getElem?_eq_getElem (by rw [h.l]; exact hj)]
 rfl
/-- Cells of the spare part are written. -/
theorem RS.spare {w : World} {b c : Nat} {rs : List Rv} {sp : List Value} (h : RS w b c rs sp) (vs : List Value) (hv : vs.length ≤ sp.length) : ∃ sp', RS (w.setCells b (rs.length * 2) vs) b c rs sp' := by
 have hb : w.heap[b]? = some (.cells (rcells rs ++ sp.take vs.length ++ sp.drop vs.length).toArray 108 (0, 0)) := by
  rw [List.append_assoc, List.take_append_drop]; exact h.h
 have := setCells_blk b 108 vs (rs.length * 2) w _ _ _ hb (by rw [rcells_length]; omega) (by rw [List.length_take]; omega)
 refine ⟨vs ++ sp.drop vs.length, by rw [this, List.append_assoc], ?_⟩
 have hl := h.l
 rw [List.length_append] at hl ⊢
 rw [List.length_append, List.length_drop]
 omega
theorem grown_cells {w W : World} {b : Nat} (h : w.grownBy W (some b)) (o : Nat) (vs : List Value) : w.grownBy (W.setCells b o vs) (some b) := by
 obtain ⟨h1, h2, h3, h4⟩ := setCells_rest b vs o W
 exact ⟨h1.trans h.os, h2.trans h.tape, h3.trans h.output, by rw [h4]; exact h.size, fun k hk hr => (setCells_other b vs o W k (fun e => hr (by rw [e]))).trans (h.block k hk hr)⟩

set_option maxHeartbeats 8000000 in
set_option maxRecDepth 100000 in
theorem rep_last (b c i vb : Nat) (r : Rv) (rs : List Rv) (sp : List Value) (w : World) (hr : RS w b c rs sp) (hc : c ≤ maxLen) (hv : w.heap[vb]? = some (.cells (rcells [r]).toArray 108 (0, 0))) (hn : rs.length ≤ 1000) (hi : i < rs.length) :
 Calls Tryd.prog 57 #[.slice (some ⟨b, 0, none⟩) rs.length c, .int .i64 (i : Int), .int .i64 (rs.length : Int), .slice (some ⟨vb, 0, none⟩) 1 1] w (Put w b (i + 1) (rs.take i ++ [r])) := by
 obtain ⟨i0, hi0, hz0, hzs, hzb⟩ := info_parts info108
 have hle := hr.le
 have hpre := hr.front i
 have hpl : (rs.take i).length = i := by rw [List.length_take]; omega
 have hown := hpre.own hc
 rw [hpl] at hown
 have hvs : ∀ j u, (rcells [r])[j]? = some u → w.cell? ((⟨vb, 0, none⟩ : Addr).add j) = some u := fun j u hu => by
  rw [Addr.add_lit, Nat.zero_add, blk_cell hv]
  simpa using hu
 obtain ⟨w1, hrun, h2, h3⟩ := run_append_fits (P := Tryd.prog) w 0 100 100 108 i0 2 Tryd.underlying100 hi0 hzs b i c (rcells (rs.take i)) hown ⟨vb, 0, none⟩ 1 1 (rcells [r]) rfl hvs (rcells_one [r]) (by omega)
 rw [← rcells_append] at h2
 obtain ⟨h6, _, sp1, h8⟩ := RS.of_own h2
 have hl8 : (rs.take i ++ [r]).length = i + 1 := by rw [List.length_append, hpl]; rfl
 have hsp1 : sp1.length = 2 * c - 2 * (i + 1) := by
  have := h8.l
  rw [List.length_append, rcells_length, hl8] at this
  omega
 obtain ⟨n, hnn⟩ : ∃ n, n = rs.length := ⟨_, rfl⟩
 have HRUN : Aside0 (∀ ty, (Builtin.append_ #[100, 100] ty #[.slice (some ⟨b, 0, none⟩) i c, .slice (some ⟨vb, 0, none⟩) 1 1]).run Tryd.prog w = .ok (.slice (some ⟨b, 0, none⟩) (i + 1) c) w1) := ⟨fun ty => hrun⟩
 obtain ⟨sp2, h9⟩ := h8.spare (zs (n - (i + 1))) (by rw [zs_length, hsp1]; omega)
 rw [hl8] at h9
 have HCL : Aside0 (∀ ty cc, (Builtin.clear_ #[100] ty #[.slice (some ⟨b, (i + 1) * 2, none⟩) (n - (i + 1)) cc]).run Tryd.prog w1 = .ok (.tuple #[]) (w1.setCells b ((i + 1) * 2) (zs (n - (i + 1))))) := ⟨fun ty cc => run_clear2 w1 ty b ((i + 1) * 2) (n - (i + 1)) cc (fun j hj => h8.isSome _ (by omega)) (fun j => blk_frozen h8.h _)⟩
 have H8 := Aside0.mk h8
 have H9 := Aside0.mk h9
 have H3 := Aside0.mk h3
 have HG := Aside0.mk (grown_cells h3 ((i + 1) * 2) (zs (n - (i + 1))))
 have HC := Aside0.mk hc
 have a1 : i ≤ c := by omega
 have a2 : (i : Int) ≤ (c : Int) := by omega
 have a3 : i < n := by omega
 have a4 : (i : Int) < (n : Int) := by omega
 have a5 : (n : Int) ≤ (c : Int) := by omega
 have a5' : n ≤ c := by omega
 have a6 : ¬ ((i : Int) = (n : Int)) := by omega
 have a6' : ¬ i = n := by omega
 have a7 : (i : Int) ≤ (n : Int) := by omega
 have a8 : ¬ (c = i) := by omega
 have a9 : n ≤ 1000 := by omega
 rw [← hnn]
 by_cases hin : i + 1 < n
 ·have b1 : ((i : Int) + 1 < (n : Int)) := by omega
  have b2 : ¬ (c = i + 1) := by omega
  have b3 : ((i : Int) + 1 ≤ (n : Int)) := by omega
  clear hr hc hv hn hi hle hpre hpl hown hvs hrun h2 h3 h6 h8 hl8 hsp1 hnn h9 hzs hzb hz0 hi0
  go_enter Tryd.func57, Tryd.ntmps57
  go_wp2_with (first | ((with_reducible refine gate_builtin (b := .append) (xs := #[.tmp 32, .tmp 33]) rfl ?_); go_loud (refine Lib.wpList_append_run _ rfl _ _ _ _ rfl _ _ rfl rfl _ _ (HRUN.out 100) ?_)) | ((with_reducible refine gate_builtin (b := .clear) (xs := #[.tmp 43]) rfl ?_); go_loud (refine at_clear _ rfl _ 100 rfl _ rfl (HCL.out 0 (c - (i + 1))) ?_)))
  all_goals
   go_ret
   exact ⟨b, c, rfl, ⟨sp2, H9.out⟩, HC.out, .inl rfl, HG.out⟩
 ·have b1 : ¬ ((i : Int) + 1 < (n : Int)) := by omega
  have b4 : n = i + 1 := by omega
  have B4 := Aside0.mk b4
  clear hr hc hv hn hi hle hpre hpl hown hvs hrun h2 h3 h6 h8 hl8 hsp1 hnn h9 b4 hzs hzb hz0 hi0
  go_enter Tryd.func57, Tryd.ntmps57
  go_wp2_with (first | ((with_reducible refine gate_builtin (b := .append) (xs := #[.tmp 32, .tmp 33]) rfl ?_); go_loud (refine Lib.wpList_append_run _ rfl _ _ _ _ rfl _ _ rfl rfl _ _ (HRUN.out 100) ?_)))
  all_goals
   go_ret
   exact ⟨b, c, rfl, ⟨sp1, H8.out⟩, HC.out, .inl rfl, H3.out⟩

/-- Ranges are laid behind those that stand. -/
theorem RS.fill {w : World} {b c : Nat} {rs : List Rv} {sp : List Value} (h : RS w b c rs sp) (qs : List Rv) (hv : 2 * qs.length ≤ sp.length) : ∃ sp', RS (w.setCells b (rs.length * 2) (rcells qs)) b c (rs ++ qs) sp' := by
 have hq := rcells_length qs
 have hb : w.heap[b]? = some (.cells (rcells rs ++ sp.take (rcells qs).length ++ sp.drop (rcells qs).length).toArray 108 (0, 0)) := by
  rw [List.append_assoc, List.take_append_drop]; exact h.h
 have := setCells_blk b 108 (rcells qs) (rs.length * 2) w _ _ _ hb (by rw [rcells_length]; omega) (by rw [List.length_take]; omega)
 refine ⟨sp.drop (rcells qs).length, by rw [this, rcells_append], ?_⟩
 have hl := h.l
 rw [rcells_append]
 simp only [List.length_append, List.length_drop] at hl ⊢
 omega
theorem run_clear0 (w : World) (ty c : Nat) (A : Option Addr) : (Builtin.clear_ #[100] ty #[.slice A 0 c]).run Tryd.prog w = .ok (.tuple #[]) w := by
 cases A <;> simp [Builtin.clear_, run_underlying Tryd.underlying100]

set_option maxHeartbeats 8000000 in
set_option maxRecDepth 100000 in
theorem rep_mid (b c i j vb : Nat) (r : Rv) (rs : List Rv) (sp : List Value) (w : World) (hr : RS w b c rs sp) (hc : c ≤ maxLen) (hv : w.heap[vb]? = some (.cells (rcells [r]).toArray 108 (0, 0))) (hne : vb ≠ b) (hn : rs.length ≤ 1000) (hij : i < j) (hj : j < rs.length) :
 Calls Tryd.prog 57 #[.slice (some ⟨b, 0, none⟩) rs.length c, .int .i64 (i : Int), .int .i64 (j : Int), .slice (some ⟨vb, 0, none⟩) 1 1] w (Put w b (i + 1 + (rs.length - j)) (rs.take i ++ r :: rs.drop j)) := by
 have hle := hr.le
 have hrd : RS w.drew b c rs sp := ⟨hr.h, hr.l⟩
 have hvd : w.drew.heap[vb]? = some (.cells (rcells [r]).toArray 108 (0, 0)) := hv
 have hpre := hrd.front i
 have hpl : (rs.take i).length = i := by rw [List.length_take]; omega
 obtain ⟨sp1, h1⟩ := hpre.fill [r] (by rw [List.length_append, rcells_length, List.length_drop]; simp; omega)
 rw [hpl] at h1
 have hl1 : (rs.take i ++ [r]).length = i + 1 := by rw [List.length_append, hpl]; rfl
 have hsp1 : sp1.length = 2 * c - 2 * (i + 1) := by
  have := h1.l
  rw [List.length_append, rcells_length, hl1] at this
  omega
 obtain ⟨n, hnn⟩ : ∃ n, n = rs.length := ⟨_, rfl⟩
 obtain ⟨t, ht⟩ : ∃ t, t = i + 1 + (n - j) := ⟨_, rfl⟩
 have hdl : (rcells (rs.drop j)).length = 2 * (n - j) := by rw [rcells_length, List.length_drop, hnn]
 obtain ⟨W1, hW1⟩ : ∃ W1, W1 = w.drew.setCells b (i * 2) (rcells [r]) := ⟨_, rfl⟩
 rw [← hW1] at h1
 have hcpA : ∀ ty dc, (Builtin.copy_ #[100, 100] ty #[.slice (some ⟨b, i * 2, none⟩) (t - i) dc, .slice (some ⟨vb, 0, none⟩) 1 1]).run Tryd.prog w.drew = .ok (goInt (Nat.min 1 (t - i))) W1 := fun ty dc => by
  rw [hW1]
  exact run_copy2 w.drew 100 100 ty 108 b (i * 2) (t - i) dc ⟨vb, 0, none⟩ 1 1 (rcells [r]) Tryd.underlying100 size108 (by rw [ht]; simp only [Nat.min_def]; split <;> simp [rcells] <;> omega)
   (fun k v hk => by rw [Addr.add_lit, Nat.zero_add, blk_cell hvd, List.getElem?_toArray]; exact hk)
   (fun k hk => hrd.isSome _ (by have : k < 2 := hk; omega)) (fun k hk => blk_frozen hrd.h _) (rcells_one _)
 have hr' : RS W1.drew b c (rs.take i ++ [r]) sp1 := ⟨h1.h, h1.l⟩
 obtain ⟨sp2, h2⟩ := hr'.fill (rs.drop j) (by rw [List.length_drop, hsp1]; omega)
 rw [hl1] at h2
 have hcpB : ∀ ty dc sc, (Builtin.copy_ #[100, 100] ty #[.slice (some ⟨b, (i + 1) * 2, none⟩) (t - (i + 1)) dc, .slice (some ⟨b, j * 2, none⟩) (n - j) sc]).run Tryd.prog W1.drew = .ok (goInt (Nat.min (n - j) (t - (i + 1)))) (W1.drew.setCells b ((i + 1) * 2) (rcells (rs.drop j))) := fun ty dc sc =>
  run_copy2 W1.drew 100 100 ty 108 b ((i + 1) * 2) (t - (i + 1)) dc ⟨b, j * 2, none⟩ (n - j) sc (rcells (rs.drop j)) Tryd.underlying100 size108 (by rw [hdl, ht]; simp only [Nat.min_def]; split <;> omega)
   (fun k v hk => by
    have e : rcells rs = rcells (rs.take j) ++ rcells (rs.drop j) := by rw [← rcells_append, List.take_append_drop]
    have el : (rcells (rs.take j)).length = j * 2 := by rw [rcells_length, List.length_take]; omega
    have hw : w.drew.cell? ⟨b, j * 2 + k, none⟩ = some v := by
     rw [blk_cell hrd.h, List.getElem?_toArray, e, List.append_assoc, List.getElem?_append_right (by omega), show j * 2 + k - (rcells (rs.take j)).length = k by omega, List.getElem?_append_left (List.getElem?_eq_some_iff.1 hk).1]
     exact hk
    rw [Addr.add_lit]
    refine Eq.trans ?_ hw
    show W1.cell? _ = _
    rw [hW1]
    exact World.cell?_setCells_out b _ _ _ _ (fun _ _ => by right; show i * 2 + 2 ≤ j * 2 + k; omega))
   (fun k hk => hr'.isSome _ (by rw [hdl] at hk; omega)) (fun k hk => blk_frozen hr'.h _) (rcells_one _)
 obtain ⟨W2, hW2⟩ : ∃ W2, W2 = W1.drew.setCells b ((i + 1) * 2) (rcells (rs.drop j)) := ⟨_, rfl⟩
 rw [← hW2] at hcpB h2
 have hl2 : (rs.take i ++ [r] ++ rs.drop j).length = t := by rw [List.length_append, hl1, List.length_drop, ht, hnn]
 have hsp2 : sp2.length = 2 * c - 2 * t := by
  have := h2.l
  rw [List.length_append, rcells_length, hl2] at this
  omega
 obtain ⟨sp3, h3⟩ := h2.spare (zs (n - t)) (by rw [zs_length, hsp2]; omega)
 rw [hl2] at h3
 have g1 : w.grownBy W1 (some b) := by rw [hW1]; exact grown_cells (gstep (World.grownBy.refl w _) (Below.refl _ _).drew) _ _
 have g2 : w.grownBy W2 (some b) := by rw [hW2]; exact grown_cells (gstep g1 (Below.refl _ _).drew) _ _
 have HCL : Aside0 (∀ ty cc, (Builtin.clear_ #[100] ty #[.slice (some ⟨b, t * 2, none⟩) (n - t) cc]).run Tryd.prog W2 = .ok (.tuple #[]) (W2.setCells b (t * 2) (zs (n - t)))) := ⟨fun ty cc => run_clear2 W2 ty b (t * 2) (n - t) cc (fun k hk => h2.isSome _ (by omega)) (fun k => blk_frozen h2.h _)⟩
 have HC0 : Aside0 (∀ ty cc A, (Builtin.clear_ #[100] ty #[.slice A 0 cc]).run Tryd.prog W2 = .ok (.tuple #[]) W2) := ⟨fun ty cc A => run_clear0 W2 ty cc A⟩
 have HCPA := Aside0.mk hcpA
 have HCPB := Aside0.mk hcpB
 have H2 : Aside0 (RS W2 b c (rs.take i ++ r :: rs.drop j) sp2) := ⟨by rw [List.append_assoc] at h2; exact h2⟩
 have H3 : Aside0 (RS (W2.setCells b (t * 2) (zs (n - t))) b c (rs.take i ++ r :: rs.drop j) sp3) := ⟨by rw [List.append_assoc] at h3; exact h3⟩
 have G2 := Aside0.mk g2
 have G3 := Aside0.mk (grown_cells g2 (t * 2) (zs (n - t)))
 have HC := Aside0.mk hc
 have HT := Aside0.mk ht
 have a1 : i ≤ c := by omega
 have a2 : (i : Int) ≤ (c : Int) := by omega
 have a3 : i < j := hij
 have a4 : (i : Int) < (j : Int) := by omega
 have a5 : (j : Int) ≤ (c : Int) := by omega
 have a5' : j ≤ c := by omega
 have a6 : ¬ ((i : Int) = (j : Int)) := by omega
 have a6' : ¬ i = j := by omega
 have a7 : (i : Int) ≤ (j : Int) := by omega
 have a8 : ¬ (c = i) := by omega
 have a9 : n ≤ 1000 := by omega
 have a10 : ¬ ((j : Int) = (n : Int)) := by omega
 have a10' : ¬ j = n := by omega
 have a11 : (j : Int) ≤ (n : Int) := by omega
 have a11' : j ≤ n := by omega
 have a12 : ¬ (c = j) := by omega
 have e1 : IntKind.i64.wrap ((i : Int) + 1) = (i : Int) + 1 := IntWalk.i64_in _ (by omega)
 have e2 : IntKind.i64.wrap ((i : Int) + 1 + ((n - j : Nat) : Int)) = (t : Int) := by rw [IntWalk.i64_in _ (by omega)]; omega
 have e3 : (i : Int) + 1 + ((n - j : Nat) : Int) = (t : Int) := by omega
 have a13 : ¬ ((c : Int) < (t : Int)) := by omega
 have a13' : ¬ (c < t) := by omega
 have a14 : (t : Int) ≤ (c : Int) := by omega
 have a14' : t ≤ c := by omega
 have a15 : (i : Int) + 1 ≤ (j : Int) := by omega
 have a16 : i ≤ t := by omega
 have a16' : (i : Int) ≤ (t : Int) := by omega
 have a17 : (i : Int) + 1 ≤ (t : Int) := by omega
 have a18 : ¬ (c = i + 1) := by omega
 have a19 : t ≤ n := by omega
 have a20 : n ≤ c := by omega
 have a21 : (0 : Int) ≤ (i : Int) + 1 := by omega
 have a22 : ((i : Int) + 1).toNat = i + 1 := by omega
 have mixed : Tryd.prog.follows Departure.mixedOrders = true := by kernel_rfl
 have a19' : (t : Int) ≤ (n : Int) := by omega
 rw [← hnn, ← ht]
 clear hrd hvd hr hc hv hn hij hj hle hpre hpl h1 hl1 hsp1 hnn hdl hW1 hcpA hr' h2 hcpB hW2 hl2 hsp2 h3 g1 g2 hne ht
 go_enter Tryd.func57, Tryd.ntmps57
 go_wp2
 go_region
 by_cases hnt : n = t
 ·have hz : n - t = 0 := by omega
  clear hnt
  by_cases hct : c = t
  ·subst hct
   go_wp2_with (((with_reducible refine gate_builtin (b := .copy) (xs := #[.tmp 95, .tmp 96]) rfl ?_); go_loud (refine at_copy _ rfl _ _ 100 100 rfl _ _ rfl rfl (HCPA.out 3 (c - i)) ?_)))
   go_region_law_o (refine step_copy_runI rfl _ _ 100 100 rfl (.slice (some ⟨b, (i + 1) * 2, none⟩) (c - (i + 1)) (c - (i + 1))) (.slice (some ⟨b, j * 2, none⟩) (n - j) (c - j)) (by simp [Act.eval, Act.put]) (by simp [Act.eval, Act.put]) (HCPB.out 3 (c - (i + 1)) (c - j)) ?_)
   go_wp2_with (first | ((with_reducible refine gate_builtin (b := .clear) (xs := #[.tmp 110]) rfl ?_); go_loud (refine at_clear _ rfl _ 100 rfl _ rfl (HC0.out 0 _ _) ?_)))
   all_goals
    go_ret
    exact ⟨b, c, rfl, ⟨sp2, H2.out⟩, HC.out, .inl rfl, G2.out⟩
  ·have hz' : ¬ (c = t) := hct
   go_wp2_with (((with_reducible refine gate_builtin (b := .copy) (xs := #[.tmp 95, .tmp 96]) rfl ?_); go_loud (refine at_copy _ rfl _ _ 100 100 rfl _ _ rfl rfl (HCPA.out 3 (c - i)) ?_)))
   go_region_law_o (refine step_copy_runI rfl _ _ 100 100 rfl (.slice (some ⟨b, (i + 1) * 2, none⟩) (t - (i + 1)) (c - (i + 1))) (.slice (some ⟨b, j * 2, none⟩) (n - j) (c - j)) (by simp [Act.eval, Act.put]) (by simp [Act.eval, Act.put]) (HCPB.out 3 (c - (i + 1)) (c - j)) ?_)
   go_wp2_with (first | ((with_reducible refine gate_builtin (b := .clear) (xs := #[.tmp 110]) rfl ?_); go_loud (refine at_clear _ rfl _ 100 rfl _ rfl (HC0.out 0 (c - t) _) ?_)))
   all_goals
    go_ret
    exact ⟨b, c, rfl, ⟨sp2, H2.out⟩, HC.out, .inl rfl, G2.out⟩
 ·have hz : ¬ (c = t) := by omega
  go_wp2_with (((with_reducible refine gate_builtin (b := .copy) (xs := #[.tmp 95, .tmp 96]) rfl ?_); go_loud (refine at_copy _ rfl _ _ 100 100 rfl _ _ rfl rfl (HCPA.out 3 (c - i)) ?_)))
  go_region_law_o (refine step_copy_runI rfl _ _ 100 100 rfl (.slice (some ⟨b, (i + 1) * 2, none⟩) (t - (i + 1)) (c - (i + 1))) (.slice (some ⟨b, j * 2, none⟩) (n - j) (c - j)) (by simp [Act.eval, Act.put]) (by simp [Act.eval, Act.put]) (HCPB.out 3 (c - (i + 1)) (c - j)) ?_)
  go_wp2_with (first | ((with_reducible refine gate_builtin (b := .clear) (xs := #[.tmp 110]) rfl ?_); go_loud (refine at_clear _ rfl _ 100 rfl _ rfl (HCL.out 0 (c - t)) ?_)))
  all_goals
   go_ret
   exact ⟨b, c, rfl, ⟨sp3, H3.out⟩, HC.out, .inl rfl, G3.out⟩
end Go.Proofs.YtjflijebcpcbmaaDoor.G
