/-
 What is proved: slices.Insert of one fragment's range where there is no room. Conditions: at most 1000 ranges.
-/
import Derived.Test.YtjflijebcpcbmaaDoorXIns
namespace Go.Proofs.YtjflijebcpcbmaaDoor.G
open Go.RowKit Go.Proofs.YtjflijebcpcbmaaDoorW.PrintWords Go.Proofs.YtjflijebcpcbmaaDoorW.PrintLast Go.Proofs.YtjflijebcpcbmaaDoorW.PrintMore
set_option linter.unusedVariables false
set_option linter.unusedSimpArgs false

def z108 : Value := .agg #[.int .u32 0, .slice none 0 0]
theorem zero_size (k : Nat) : (Builtin.zeroCells z108.cells k).size = 2 * k := by
 simp [Builtin.zeroCells, Value.cells, z108]
 omega

set_option maxHeartbeats 8000000 in
set_option maxRecDepth 100000 in
theorem ins_grow (b c i vb : Nat) (r : Rv) (rs : List Rv) (sp : List Value) (w : World) (hr : RS w b c rs sp) (hc : c ≤ maxLen) (hv : w.heap[vb]? = some (.cells (rcells [r]).toArray 108 (0, 0))) (hn : rs.length ≤ 1000) (hi : i < rs.length) (hroom : c < rs.length + 1) :
 Calls Tryd.prog 62 #[.slice (some ⟨b, 0, none⟩) rs.length c, .int .i64 (i : Int), .slice (some ⟨vb, 0, none⟩) 1 1] w fun e w' => ∃ b' c', e = .returned (.slice (some ⟨b', 0, none⟩) (rs.length + 1) c') ∧ (∃ sp', RS w' b' c' (rs.take i ++ r :: rs.drop i) sp') ∧ c' ≤ maxLen ∧ w.heap.size ≤ b' ∧ w.grownBy w' none := by
 obtain ⟨i0, hi0, hz0, hzs, hzb⟩ := info_parts info108
 obtain ⟨n, hnn⟩ : ∃ n, n = rs.length := ⟨_, rfl⟩
 have hle := hr.le
 have hblk := hr.h
 have hbw := blk_lt hblk
 have hvw := blk_lt hv
 have el : (rcells (rs.take i)).length = i * 2 := by rw [rcells_length, List.length_take]; omega
 have e : rcells rs = rcells (rs.take i) ++ rcells (rs.drop i) := by rw [← rcells_append, List.take_append_drop]
 have hcl : (rcells (rs.drop i)).length = 2 * (rs.length - i) := by rw [rcells_length, List.length_drop]
 have hold : (Builtin.firstCells i0.size i (.slice (some ⟨b, 0, none⟩) i c)).run Tryd.prog w.drew = .ok (rcells (rs.take i)).toArray w.drew := by
  rw [hzs]
  exact run_firstCells_some w.drew 2 i ⟨b, 0, none⟩ i c (rcells (rs.take i)) (by rw [el]) (fun j v hj => by
   rw [Addr.add_lit, Nat.zero_add]
   have : w.drew.cell? ⟨b, j, none⟩ = _ := blk_cell hblk j
   rw [this, List.getElem?_toArray, e, List.append_assoc, List.getElem?_append_left (List.getElem?_eq_some_iff.1 hj).1]
   exact hj)
 have hkk : (n : Int) + 1 - (i : Int) = ((n + 1 - i : Nat) : Int) := by omega
 have hik : i + (n + 1 - i) = n + 1 := by omega
 have hrz : ∀ ty, (Builtin.append_ #[100, 3] ty #[.slice (some ⟨b, 0, none⟩) i c, .int .i64 ((n : Int) + 1 - (i : Int))]).run Tryd.prog w =
  .ok (.slice (some ⟨w.heap.size, 0, none⟩) (n + 1) (grownCap w (n + 1) c 108)) (w.drew.alloc (.cells ((rcells (rs.take i)).toArray ++ Builtin.zeroCells z108.cells (n + 1 - i) ++ Builtin.zeroCells z108.cells (grownCap w (n + 1) c 108 - (n + 1))) 108)) := fun ty => by
  have h := Lib.run_append_grow_zeros w 100 3 ty 108 i0 z108 .i64 .i64 Tryd.underlying100 Tryd.underlying3 hi0 hz0 (some ⟨b, 0, none⟩) i c (rcells (rs.take i)) hold (n + 1 - i) (by omega) (by omega) (by omega) (by omega) (by rw [hzb]; omega) (by rw [hzb, hik]; exact growslice_fits (by omega) (by omega))
  rw [hik] at h
  rw [hkk]
  exact h
 obtain ⟨G, hG⟩ : ∃ G, G = grownCap w (n + 1) c 108 := ⟨_, rfl⟩
 rw [← hG] at hrz
 have hGn : n + 1 ≤ G := by rw [hG]; exact grownCap_ge w _ _ _
 have hG63 : G ≤ maxLen := by rw [hG]; exact grownCap_le_maxLen w (n + 1) c 108 (by simp [maxLen]; omega)
 obtain ⟨zl, hzl⟩ : ∃ zl, zl = (Builtin.zeroCells z108.cells (n + 1 - i)).toList := ⟨_, rfl⟩
 obtain ⟨zr, hzr⟩ : ∃ zr, zr = (Builtin.zeroCells z108.cells (G - (n + 1))).toList := ⟨_, rfl⟩
 have hzll : zl.length = 2 * (n + 1 - i) := by rw [hzl, Array.length_toList, zero_size]
 have hzrl : zr.length = 2 * (G - (n + 1)) := by rw [hzr, Array.length_toList, zero_size]
 obtain ⟨ROW, hROW⟩ : ∃ ROW : Array Value, ROW = (rcells (rs.take i)).toArray ++ Builtin.zeroCells z108.cells (n + 1 - i) ++ Builtin.zeroCells z108.cells (G - (n + 1)) := ⟨_, rfl⟩
 rw [← hROW] at hrz
 have hROW2 : ROW = (rcells (rs.take i) ++ zl.take 2 ++ (zl.drop 2 ++ zr)).toArray := by
  rw [hROW]
  apply Array.toList_inj.1
  simp only [Array.toList_append, List.toList_toArray, ← hzl, ← hzr]
  rw [List.append_assoc, List.append_assoc, ← List.append_assoc (zl.take 2), List.take_append_drop]
 obtain ⟨H, hH⟩ : ∃ H, H = w.heap.size := ⟨_, rfl⟩
 obtain ⟨W1, hW1⟩ : ∃ W1, W1 = w.drew.alloc (.cells ROW 108) := ⟨_, rfl⟩
 have hb1 : W1.heap[H]? = some (.cells (rcells (rs.take i) ++ zl.take 2 ++ (zl.drop 2 ++ zr)).toArray 108 (0, 0)) := by rw [hW1, hH, ← hROW2]; exact heap_alloc_new w.drew _
 have hbel1 : Below w.heap.size w W1 := by rw [hW1]; exact (Below.refl _ _).drew.alloc (Nat.le_refl _) _
 have hv1 : W1.heap[vb]? = some (.cells (rcells [r]).toArray 108 (0, 0)) := (hbel1.block vb hvw).trans hv
 have hcpA : ∀ (W : World), W.heap = W1.heap → ∀ ty dc, (Builtin.copy_ #[100, 100] ty #[.slice (some ⟨H, i * 2, none⟩) (n + 1 - i) dc, .slice (some ⟨vb, 0, none⟩) 1 1]).run Tryd.prog W = .ok (goInt (Nat.min 1 (n + 1 - i))) (W.setCells H (i * 2) (rcells [r])) := fun W hW ty dc =>
  run_copy2 W 100 100 ty 108 H (i * 2) (n + 1 - i) dc ⟨vb, 0, none⟩ 1 1 (rcells [r]) Tryd.underlying100 size108 (by rw [hnn]; simp only [Nat.min_def]; split <;> simp [rcells] <;> omega)
   (fun j v hj => by
    have hv2 : W.heap[vb]? = _ := (congrArg (fun h => h[vb]?) hW).trans hv1
    rw [Addr.add_lit, Nat.zero_add, blk_cell hv2, List.getElem?_toArray]
    exact hj)
   (fun j hj => by
    have hb2 : W.heap[H]? = _ := (congrArg (fun h => h[H]?) hW).trans hb1
    have hj2 : j < 2 := hj
    rw [blk_cell hb2, List.getElem?_toArray, List.getElem?_eq_getElem (by simp [el, hzll, hzrl]; omega)]
    rfl)
   (fun j hj => blk_frozen ((congrArg (fun h => h[H]?) hW).trans hb1) _) (rcells_one _)
 obtain ⟨W2, hW2⟩ : ∃ W2, W2 = W1.setCells H (i * 2) (rcells [r]) := ⟨_, rfl⟩
 have hb3 : W2.heap[H]? = some (.cells (rcells (rs.take i) ++ rcells [r] ++ (zl.drop 2 ++ zr)).toArray 108 (0, 0)) := by
  rw [hW2]
  exact setCells_blk H 108 (rcells [r]) (i * 2) W1 _ _ _ hb1 el (by simp [rcells, hzll]; omega)
 have hbel2 : Below w.heap.size w W2 := by rw [hW2]; exact below_setCells hbel1 (by omega) _ _
 have hbb : W2.heap[b]? = some (.cells (rcells rs ++ sp).toArray 108 (0, 0)) := (hbel2.block b hbw).trans hblk
 have hb3' : W2.heap[H]? = some (.cells ((rcells (rs.take i) ++ rcells [r]) ++ zl.drop 2 ++ zr).toArray 108 (0, 0)) := by rw [hb3]; simp
 have el2 : (rcells (rs.take i) ++ rcells [r]).length = (i + 1) * 2 := by rw [List.length_append, el]; simp [rcells]; omega
 have hcpB : ∀ (W : World), W.heap = W2.heap → ∀ ty dc sc, (Builtin.copy_ #[100, 100] ty #[.slice (some ⟨H, (i + 1) * 2, none⟩) (n - i) dc, .slice (some ⟨b, i * 2, none⟩) (n - i) sc]).run Tryd.prog W = .ok (goInt (Nat.min (n - i) (n - i))) (W.setCells H ((i + 1) * 2) (rcells (rs.drop i))) := fun W hW ty dc sc =>
  run_copy2 W 100 100 ty 108 H ((i + 1) * 2) (n - i) dc ⟨b, i * 2, none⟩ (n - i) sc (rcells (rs.drop i)) Tryd.underlying100 size108 (by rw [hcl, hnn]; simp only [Nat.min_def]; split <;> omega)
   (fun j v hj => by
    have hv2 : W.heap[b]? = _ := (congrArg (fun h => h[b]?) hW).trans hbb
    rw [Addr.add_lit, blk_cell hv2, List.getElem?_toArray, e, List.append_assoc, List.getElem?_append_right (by omega), show i * 2 + j - (rcells (rs.take i)).length = j by omega, List.getElem?_append_left (List.getElem?_eq_some_iff.1 hj).1]
    exact hj)
   (fun j hj => by
    have hb2 : W.heap[H]? = _ := (congrArg (fun h => h[H]?) hW).trans hb3'
    rw [hcl] at hj
    rw [blk_cell hb2, List.getElem?_toArray, List.getElem?_eq_getElem (by simp only [List.length_append, List.length_drop, hzll, hzrl, el]; simp [rcells]; omega)]
    rfl)
   (fun j hj => blk_frozen ((congrArg (fun h => h[H]?) hW).trans hb3') _) (rcells_one _)
 have hfin : ∀ W : World, W.heap = W2.heap → (W.setCells H ((i + 1) * 2) (rcells (rs.drop i))).heap[H]? = some (.cells ((rcells (rs.take i) ++ rcells [r]) ++ rcells (rs.drop i) ++ zr).toArray 108 (0, 0)) := fun W hW =>
  setCells_blk H 108 (rcells (rs.drop i)) ((i + 1) * 2) W _ _ _ ((congrArg (fun h => h[H]?) hW).trans hb3') el2 (by simp only [List.length_drop, hzll, hcl]; omega)
 have hrs : ∀ W : World, W.heap = W2.heap → RS (W.setCells H ((i + 1) * 2) (rcells (rs.drop i))) H G (rs.take i ++ r :: rs.drop i) zr := fun W hW => by
  refine ⟨?_, ?_⟩
  ·rw [hfin W hW, show rs.take i ++ r :: rs.drop i = rs.take i ++ [r] ++ rs.drop i by simp, rcells_append, rcells_append]
  ·rw [List.length_append, rcells_length, hzrl]
   simp only [List.length_append, List.length_cons, List.length_take, List.length_drop]
   omega
 have hgr : ∀ W : World, W.os = w.os → W.tape = w.tape → W.output = w.output → W.heap = W2.heap → w.grownBy (W.setCells H ((i + 1) * 2) (rcells (rs.drop i))) none := fun W a1 a2 a3 a4 => by
  obtain ⟨c1, c2, c3, c4⟩ := setCells_rest H (rcells (rs.drop i)) ((i + 1) * 2) W
  refine ⟨c1.trans a1, c2.trans a2, c3.trans a3, by rw [c4, a4]; exact hbel2.size, fun k hk _ => ?_⟩
  rw [setCells_other H _ _ _ k (by omega), a4]
  exact hbel2.block k hk
 have hnle : n ≤ 1000 := by omega
 have hic : i ≤ c := by omega
 have hic' : (i : Int) ≤ (c : Int) := by omega
 have hnle' : (n : Int) ≤ 1000 := by omega
 subst hH
 have HRS := Aside0.mk (hrs (W2.drew) rfl)
 have HGR := Aside0.mk (hgr W2.drew hbel2.os hbel2.tape hbel2.output rfl)
 have HCPB := Aside0.mk (hcpB W2.drew rfl)
 have hA := hcpA W1 rfl
 rw [← hW2] at hA
 rw [← hW1] at hrz
 have HCPA := Aside0.mk hA
 have HRZ := Aside0.mk hrz
 have hz2 : ¬ ((i : Int) = (n : Int)) := by omega
 have hz2' : ¬ i = n := by omega
 have hw1 : IntKind.i64.wrap ((i : Int) + 1) = (i : Int) + 1 := IntWalk.i64_in _ (by omega)
 have hb1' : (0 : Int) ≤ (i : Int) + 1 := by omega
 have hin : i ≤ n := by omega
 have hin' : (i : Int) ≤ (n : Int) := by omega
 have htn : ((i : Int) + 1).toNat = i + 1 := by omega
 have hb3'' : (i : Int) ≤ (n : Int) + 1 := by omega
 have hb4' : ¬ (c = i) := by omega
 have hGi : ¬ (G = i) := by omega
 have hGim : ¬ (G = i + 1) := by omega
 have hnc : (c : Int) < (n : Int) + 1 := by omega
 have HG63 := Aside0.mk hG63
 rw [← hnn]
 clear hA hrs hgr hfin hW2 hb3 hb3' hbb hbel2 hbel1 hv1 hb1 hW1 hROW2 hROW hzll hzrl hzl hzr hG hGn hG63 hrz hold hkk hik hcpA hcpB el2 el e hcl hblk hv hr hle hbw hvw hnn hn hi hc hroom hzs hzb hz0 hi0
 go_enter Tryd.func62, Tryd.ntmps62
 go_wp2_with (first | ((with_reducible refine gate_builtin (b := .append) (xs := #[.tmp 34, .tmp 39]) rfl ?_); go_loud (refine Lib.wpList_append_run _ rfl _ _ _ _ rfl _ _ rfl rfl _ _ (HRZ.out 100) ?_)) | ((with_reducible refine gate_builtin (b := .copy) (xs := #[.tmp 43, .tmp 44]) rfl ?_); go_loud (refine at_copy _ rfl _ _ 100 100 rfl _ _ rfl rfl (HCPA.out 3 (G - i)) ?_)))
 go_still_tail 8, (by kernel_rfl)
 change wpList _ _ _ _ _ W2.drew
 go_wp2_with (((with_reducible refine gate_builtin (b := .copy) (xs := #[.tmp 50, .tmp 53]) rfl ?_); go_loud (refine at_copy _ rfl _ _ 100 100 rfl _ _ rfl rfl (HCPB.out 3 (G - (i + 1)) (c - i)) ?_)))
 all_goals
  go_ret
  exact ⟨_, G, rfl, ⟨_, HRS.out⟩, HG63.out, Nat.le_refl _, HGR.out⟩
end Go.Proofs.YtjflijebcpcbmaaDoor.G
