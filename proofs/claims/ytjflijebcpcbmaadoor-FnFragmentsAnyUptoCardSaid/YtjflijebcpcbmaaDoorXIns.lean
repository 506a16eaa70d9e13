/-
 What is proved: slices.Insert of one fragment's range. Conditions: at most 1000 ranges.
-/
import Derived.Test.YtjflijebcpcbmaaDoorXRng
import Derived.Deep.AppendLies
import Derived.Lib.AppendZerosOnto
import Derived.Lib.Overlaps
import Derived.Lib.JoinLaws
import Derived.Lib.SliceRun
import Derived.Shelf.RegionOpenPlain
import Derived.Laws.Externs
namespace Go.Proofs.YtjflijebcpcbmaaDoor.G
open Go.RowKit Go.Proofs.YtjflijebcpcbmaaDoorW.PrintWords Go.Proofs.YtjflijebcpcbmaaDoorW.PrintLast Go.Proofs.YtjflijebcpcbmaaDoorW.PrintMore
set_option linter.unusedVariables false
set_option linter.unusedSimpArgs false

theorem info108 : (Tryd.prog.info? 108).map (fun i => (i.zero, i.size, i.bytes)) = some (some (.agg #[.int .u32 0, .slice none 0 0]), 2, 32) := by kernel_rfl
theorem size108 : (Tryd.prog.info? 108).map (·.size) = some 2 := by kernel_rfl

/-- copy at elements of two cells each: all is read before anything is written. -/
theorem run_copy2 (w : World) (dT sT ty elem : TypeId) (b o dLen dCap : Nat) (a : Addr) (sLen sCap : Nat) (cs : List Value)
 (hu : Tryd.prog.underlying dT = some (.slice elem)) (hs : (Tryd.prog.info? elem).map (·.size) = some 2) (hn : cs.length = 2 * Nat.min sLen dLen)
 (hsrc : ∀ j v, cs[j]? = some v → w.cell? (a.add j) = some v) (hc : ∀ j, j < cs.length → (w.cell? ⟨b, o + j, none⟩).isSome = true) (hf : ∀ j, j < cs.length → w.frozen? ⟨b, o + j, none⟩ = false) (h1 : ∀ v ∈ cs, v.oneCell' = true) :
 (Builtin.copy_ #[dT, sT] ty #[.slice (some ⟨b, o, none⟩) dLen dCap, .slice (some a) sLen sCap]).run Tryd.prog w = .ok (goInt (Nat.min sLen dLen)) (w.setCells b o cs) := by
 have hl := run_loadCells_list (P := Tryd.prog) w a cs hsrc
 have hst := run_storeCells_cells (P := Tryd.prog) b o cs 0 w (by simpa using hc) (by simpa using hf) h1
 cases hq : Tryd.prog.info? elem with
 | none => simp [hq] at hs
 | some i =>
   have hi : i.size = 2 := by simpa [hq] using hs
   have hn' : Nat.min sLen dLen * 2 = cs.length := by omega
   have hn'' : 2 * Nat.min sLen dLen = cs.length := by omega
   simp [Builtin.copy_, run_underlying hu, Builtin.lenOf, Builtin.firstCells, sizeOf, typeInfo, hq, hi, hn', hn'', hl, hst]

theorem dat_one (r : Rv) : (Rv.dat r).oneCell' = true := rfl
theorem rcells_one : ∀ (rs : List Rv), ∀ v ∈ rcells rs, v.oneCell' = true
 | [], v, h => by simp [rcells] at h
 | r :: rs, v, h => by
   simp only [rcells, List.mem_cons] at h
   rcases h with rfl | rfl | h
   ·rfl
   ·exact dat_one r
   ·exact rcells_one rs v h

theorem RS.own {w : World} {b c : Nat} {rs : List Rv} {sp : List Value} (h : RS w b c rs sp) (hc : c ≤ maxLen) : w.ownsRow 0 108 2 (.slice (some ⟨b, 0, none⟩) rs.length c) rs.length (rcells rs) := by
 refine ⟨by rw [rcells_length]; omega, .inr ⟨b, c, _, rfl, Nat.zero_le _, h.h, h.le, hc, by rw [List.size_toArray, h.l]; omega, ?_⟩⟩
 rw [List.toList_toArray]
 have := rcells_length rs
 rw [show rs.length * 2 = (rcells rs).length by omega, List.take_left]
theorem RS.of_own {w : World} {b c n : Nat} {rs : List Rv} (h : w.ownsRow 0 108 2 (.slice (some ⟨b, 0, none⟩) n c) n (rcells rs)) : n = rs.length ∧ c ≤ maxLen ∧ ∃ sp, RS w b c rs sp := by
 obtain ⟨h1, h2⟩ := h
 rw [rcells_length] at h1
 have hn : n = rs.length := by omega
 rcases h2 with ⟨h2, _⟩ | ⟨g, cap, cur, h3, _, h4, h5, h6, h7, h8⟩
 ·cases h2
 ·injection h3 with h3 h9 h10
  injection h3 with h3
  injection h3 with h3
  subst h3 h10
  refine ⟨hn, h6, cur.toList.drop (n * 2), ?_, ?_⟩
  ·rw [h4, ← h8, List.take_append_drop]
  ·rw [← h8, List.take_append_drop]
   simp [h7]
   omega

set_option maxHeartbeats 8000000 in
set_option maxRecDepth 100000 in
theorem ins_end (b c vb : Nat) (r : Rv) (rs : List Rv) (sp : List Value) (w : World) (hr : RS w b c rs sp) (hc : c ≤ maxLen) (hv : w.heap[vb]? = some (.cells (rcells [r]).toArray 108 (0, 0))) (hn : rs.length ≤ 1000) :
 Calls Tryd.prog 62 #[.slice (some ⟨b, 0, none⟩) rs.length c, .int .i64 (rs.length : Int), .slice (some ⟨vb, 0, none⟩) 1 1] w fun e w' => ∃ b' c', e = .returned (.slice (some ⟨b', 0, none⟩) (rs.length + 1) c') ∧ (∃ sp', RS w' b' c' (rs ++ [r]) sp') ∧ c' ≤ maxLen ∧ (b' = b ∨ w.heap.size ≤ b') ∧ w.grownBy w' (some b) := by
 obtain ⟨i0, hi0, hz0, hzs, hzb⟩ := info_parts info108
 have hown := hr.own hc
 obtain ⟨n, hnn⟩ : ∃ n, n = rs.length := ⟨_, rfl⟩
 have hnc : (n : Int) ≤ (c : Int) := by have := hr.le; omega
 have hnc' : n ≤ c := by have := hr.le; omega
 have HNN := Aside0.mk hnn
 have HN := Aside0.mk hn
 have HOWN := Aside0.mk hown
 have hvs : ∀ j u, (rcells [r])[j]? = some u → w.cell? ((⟨vb, 0, none⟩ : Addr).add j) = some u := fun j u hu => by
  rw [Addr.add_lit, Nat.zero_add, blk_cell hv]
  simpa using hu
 have HVS := Aside0.mk hvs
 obtain ⟨g, cap, w', hrun, h2, h3, h4, h5⟩ := run_append_lies (P := Tryd.prog) w 100 100 0 108 i0 _ 2 32 Tryd.underlying100 hi0 hz0 hzs hzb rfl (by omega) _ rs.length (rcells rs) hown ⟨vb, 0, none⟩ 1 1 (rcells [r]) rfl hvs (rcells_one [r]) (by omega) (by simp [maxLen]; omega) (by omega) (Nat.zero_le _) w.heap.size rfl
 rw [← rcells_append] at h2
 obtain ⟨h6, h7, sp', h8⟩ := RS.of_own h2
 have HRUN : Aside0 (∀ ty, (Builtin.append_ #[100, 100] ty #[.slice (some ⟨b, 0, none⟩) n c, .slice (some ⟨vb, 0, none⟩) 1 1]).run Tryd.prog w = .ok (.slice (some ⟨g, 0, none⟩) (n + 1) cap) w') := ⟨fun ty => by
  have : (Builtin.append_ #[100, 100] ty #[.slice (some ⟨b, 0, none⟩) n c, .slice (some ⟨vb, 0, none⟩) 1 1]) = (Builtin.append_ #[100, 100] 100 #[.slice (some ⟨b, 0, none⟩) n c, .slice (some ⟨vb, 0, none⟩) 1 1]) := rfl
  rw [this, hnn]
  exact hrun⟩
 rw [← hnn]
 have H8 := Aside0.mk h8
 have H7 := Aside0.mk h7
 have H4 := Aside0.mk h4
 have H3 := Aside0.mk h3
 clear hr hv hown hvs hrun h2 h3 h4 h5 h6 h7 h8 hnn hn hc
 go_enter Tryd.func62, Tryd.ntmps62
 go_wp2_with (((with_reducible refine gate_builtin (b := .append) (xs := #[.tmp 23, .tmp 24]) rfl ?_); go_loud (refine Lib.wpList_append_run _ rfl _ _ _ _ rfl _ _ rfl rfl _ _ (HRUN.out _) ?_)))
 all_goals
  go_ret
  refine ⟨g, cap, rfl, ⟨sp', H8.out⟩, H7.out, ?_, H3.out⟩
  rcases H4.out with h | h
  ·left
   injection h with h
   exact h.symm
  ·right
   omega

set_option maxHeartbeats 8000000 in
set_option maxRecDepth 100000 in
theorem ins_nil (vb : Nat) (r : Rv) (w : World) (hv : w.heap[vb]? = some (.cells (rcells [r]).toArray 108 (0, 0))) :
 Calls Tryd.prog 62 #[.slice none 0 0, .int .i64 0, .slice (some ⟨vb, 0, none⟩) 1 1] w fun e w' => ∃ b' c', e = .returned (.slice (some ⟨b', 0, none⟩) 1 c') ∧ (∃ sp', RS w' b' c' [r] sp') ∧ c' ≤ maxLen ∧ w.heap.size ≤ b' ∧ w.grownBy w' none := by
 obtain ⟨i0, hi0, hz0, hzs, hzb⟩ := info_parts info108
 have hown : w.ownsRow 0 108 2 (.slice none 0 0) 0 (rcells []) := own_nil w 0 108 2
 have hvs : ∀ j u, (rcells [r])[j]? = some u → w.cell? ((⟨vb, 0, none⟩ : Addr).add j) = some u := fun j u hu => by
  rw [Addr.add_lit, Nat.zero_add, blk_cell hv]
  simpa using hu
 obtain ⟨g, cap, w', hrun, h2, h3, h4, h5⟩ := run_append_lies (P := Tryd.prog) w 100 100 0 108 i0 _ 2 32 Tryd.underlying100 hi0 hz0 hzs hzb rfl (by omega) _ 0 (rcells []) hown ⟨vb, 0, none⟩ 1 1 (rcells [r]) rfl hvs (rcells_one [r]) (by omega) (by simp [maxLen]) (by omega) (Nat.zero_le _) w.heap.size rfl
 rw [← rcells_append] at h2
 obtain ⟨h6, h7, sp', h8⟩ := RS.of_own h2
 have HRUN : Aside0 (∀ ty, (Builtin.append_ #[100, 100] ty #[.slice none 0 0, .slice (some ⟨vb, 0, none⟩) 1 1]).run Tryd.prog w = .ok (.slice (some ⟨g, 0, none⟩) 1 cap) w') := ⟨fun ty => hrun⟩
 have H8 := Aside0.mk h8
 have H7 := Aside0.mk h7
 have H4 := Aside0.mk h4
 have H3 := Aside0.mk h3
 clear hv hown hvs hrun h2 h3 h4 h5 h6 h7 h8
 go_enter Tryd.func62, Tryd.ntmps62
 go_wp2_with (((with_reducible refine gate_builtin (b := .append) (xs := #[.tmp 23, .tmp 24]) rfl ?_); go_loud (refine Lib.wpList_append_run _ rfl _ _ _ _ rfl _ _ rfl rfl _ _ (HRUN.out _) ?_)))
 all_goals
  go_ret
  refine ⟨g, cap, rfl, ⟨sp', H8.out⟩, H7.out, ?_, H3.out⟩
  rcases H4.out with h | h
  ·cases h
  ·omega

set_option maxHeartbeats 8000000 in
set_option maxRecDepth 100000 in
/-- There is room, not at the end: in place. -/
theorem ins_room (b c i vb : Nat) (r : Rv) (rs : List Rv) (sp : List Value) (w : World) (hr : RS w b c rs sp) (hc : c ≤ maxLen) (hv : w.heap[vb]? = some (.cells (rcells [r]).toArray 108 (0, 0))) (hne : vb ≠ b) (hn : rs.length ≤ 1000) (hi : i < rs.length) (hroom : rs.length + 1 ≤ c) :
 Calls Tryd.prog 62 #[.slice (some ⟨b, 0, none⟩) rs.length c, .int .i64 (i : Int), .slice (some ⟨vb, 0, none⟩) 1 1] w fun e w' => e = .returned (.slice (some ⟨b, 0, none⟩) (rs.length + 1) c) ∧ (∃ sp', RS w' b c (rs.take i ++ r :: rs.drop i) sp') ∧ w.grownBy w' (some b) := by
 obtain ⟨n, hnn⟩ : ∃ n, n = rs.length := ⟨_, rfl⟩
 have hl := hr.l
 rw [List.length_append, rcells_length] at hl
 obtain ⟨s1, s2, sp2, rfl⟩ : ∃ s1 s2 sp2, sp = s1 :: s2 :: sp2 := by
  match sp, hl with
  | s1 :: s2 :: sp2, _ => exact ⟨s1, s2, sp2, rfl⟩
  | [_], hl => simp at hl; omega
  | [], hl => simp at hl; omega
 have hblk := hr.h
 have hsplit : rcells rs ++ s1 :: s2 :: sp2 = (rcells (rs.take (i + 1)) ++ (rcells (rs.drop (i + 1)) ++ [s1, s2]) ++ sp2) := by
  rw [← List.append_assoc, ← rcells_append, List.take_append_drop]
  simp
 have hcl : (rcells (rs.drop i)).length = 2 * (rs.length - i) := by rw [rcells_length, List.length_drop]
 have HC63 : c ≤ 9223372036854775807 := by simpa [maxLen] using hc
 have hblk1 : w.drew.heap[b]? = some (.cells (rcells (rs.take (i + 1)) ++ (rcells (rs.drop (i + 1)) ++ [s1, s2]) ++ sp2).toArray 108 (0, 0)) := by rw [← hsplit]; exact hblk
 have hcell : ∀ j, j < 2 * c → (w.cell? ⟨b, j, none⟩).isSome = true := fun j hj => by
  rw [blk_cell hblk, List.getElem?_toArray, List.getElem?_eq_getElem (by rw [hr.l]; exact hj)]
  rfl
 have hcp1 : ∀ ty dc sc, (Builtin.copy_ #[100, 100] ty #[.slice (some ⟨b, (i + 1) * 2, none⟩) (n - i) dc, .slice (some ⟨b, i * 2, none⟩) (n + 1 - i) sc]).run Tryd.prog w.drew = .ok (goInt (Nat.min (n + 1 - i) (n - i))) (w.drew.setCells b ((i + 1) * 2) (rcells (rs.drop i))) := fun ty dc sc =>
  run_copy2 w.drew 100 100 ty 108 b ((i + 1) * 2) (n - i) dc ⟨b, i * 2, none⟩ (n + 1 - i) sc (rcells (rs.drop i)) Tryd.underlying100 size108 (by rw [hcl, hnn]; simp only [Nat.min_def]; split <;> omega)
   (fun j v hj => by
    rw [Addr.add_lit]
    have : w.drew.cell? ⟨b, i * 2 + j, none⟩ = _ := blk_cell hblk (i * 2 + j)
    rw [this, List.getElem?_toArray]
    have e : rcells rs = rcells (rs.take i) ++ rcells (rs.drop i) := by rw [← rcells_append, List.take_append_drop]
    have el : (rcells (rs.take i)).length = i * 2 := by rw [rcells_length, List.length_take]; omega
    rw [e, List.append_assoc, List.getElem?_append_right (by omega), show i * 2 + j - (rcells (rs.take i)).length = j by omega, List.getElem?_append_left (List.getElem?_eq_some_iff.1 hj).1]
    exact hj)
   (fun j hj => hcell _ (by rw [hcl] at hj; omega)) (fun j hj => blk_frozen hblk _) (rcells_one _)
 have hlen1 : (rcells (rs.take (i + 1))).length = (i + 1) * 2 := by rw [rcells_length, List.length_take]; omega
 have hb2 := setCells_blk b 108 (rcells (rs.drop i)) ((i + 1) * 2) w.drew _ _ _ hblk1 hlen1 (by rw [hcl, List.length_append, rcells_length, List.length_drop]; simp; omega)
 obtain ⟨W1, hW1⟩ : ∃ W1, W1 = w.drew.setCells b ((i + 1) * 2) (rcells (rs.drop i)) := ⟨_, rfl⟩
 rw [← hW1] at hcp1 hb2
 have hv1 : W1.heap[vb]? = some (.cells (rcells [r]).toArray 108 (0, 0)) := by rw [hW1, setCells_other b _ _ _ vb hne]; exact hv
 have htk : rcells (rs.take (i + 1)) = rcells (rs.take i) ++ rcells [rs[i]] := by rw [← rcells_append, List.take_append_getElem]
 have hb3 : W1.heap[b]? = some (.cells (rcells (rs.take i) ++ rcells [rs[i]] ++ (rcells (rs.drop i) ++ sp2)).toArray 108 (0, 0)) := by rw [hb2, htk]; simp
 have hlen2 : (rcells (rs.take i)).length = i * 2 := by rw [rcells_length, List.length_take]; omega
 have hcp2 : ∀ ty dc, (Builtin.copy_ #[100, 100] ty #[.slice (some ⟨b, i * 2, none⟩) (n + 1 - i) dc, .slice (some ⟨vb, 0, none⟩) 1 1]).run Tryd.prog W1 = .ok (goInt (Nat.min 1 (n + 1 - i))) (W1.setCells b (i * 2) (rcells [r])) := fun ty dc =>
  run_copy2 W1 100 100 ty 108 b (i * 2) (n + 1 - i) dc ⟨vb, 0, none⟩ 1 1 (rcells [r]) Tryd.underlying100 size108 (by rw [hnn]; simp only [Nat.min_def]; split <;> simp [rcells] <;> omega)
   (fun j v hj => by rw [Addr.add_lit, Nat.zero_add, blk_cell hv1, List.getElem?_toArray]; exact hj)
   (fun j hj => by
    have hj2 : j < 2 := hj
    rw [blk_cell hb3, List.getElem?_toArray, List.getElem?_eq_getElem (by simp [hlen2, rcells]; omega)]
    rfl)
   (fun j hj => blk_frozen hb3 _) (rcells_one _)
 have hb4 := setCells_blk b 108 (rcells [r]) (i * 2) W1 _ _ _ hb3 hlen2 rfl
 have hrs : RS (W1.setCells b (i * 2) (rcells [r])) b c (rs.take i ++ r :: rs.drop i) sp2 := by
  refine ⟨?_, ?_⟩
  ·rw [hb4, show rs.take i ++ r :: rs.drop i = rs.take i ++ [r] ++ rs.drop i by simp, rcells_append, rcells_append]
   simp
  ·rw [List.length_append, rcells_length]
   simp only [List.length_append, List.length_cons, List.length_take, List.length_drop] at hl ⊢
   omega
 have hgr : w.grownBy (W1.setCells b (i * 2) (rcells [r])) (some b) := by
  obtain ⟨a1, a2, a3, a4⟩ := setCells_rest b (rcells [r]) (i * 2) W1
  obtain ⟨c1, c2, c3, c4⟩ := setCells_rest b (rcells (rs.drop i)) ((i + 1) * 2) w.drew
  rw [← hW1] at c1 c2 c3 c4
  refine ⟨a1.trans c1, a2.trans c2, a3.trans c3, by rw [a4, c4]; exact Nat.le_refl _, fun k _ hk => ?_⟩
  have hk' : k ≠ b := fun e => hk (by rw [e])
  rw [setCells_other b _ _ _ k hk', hW1, setCells_other b _ _ _ k hk']
  rfl
 have hov : ∀ lb cb, (callFunc 63 #[.slice (some ⟨vb, 0, none⟩) 1 1, .slice (some ⟨b, (i + 1) * 2, none⟩) lb cb]).run Tryd.prog w = .ok (.value (.bool false)) w := fun lb cb => by
  rw [run_callFunc_extern Tryd.func63 (by kernel_rfl) (by kernel_rfl) (by kernel_rfl) (e := Extern.SlicesOverlaps.overlaps #[100, 100] #[4]) (by kernel_rfl),
   Lib.run_overlaps_apart w 100 4 108 Tryd.underlying100 2 (fun w => by kernel_rfl) ⟨vb, 0, none⟩ ⟨b, (i + 1) * 2, none⟩ 1 1 lb cb hne 108 108 2 (2 * c) (by simp [World.shape?, hv, rcells]) (by simp only [World.shape?, hblk]; rw [List.size_toArray, hr.l]) (by omega) (blk_frozen hv _) (blk_frozen hv _)]
  rfl
 obtain ⟨W2, hW2⟩ : ∃ W2, W2 = W1.setCells b (i * 2) (rcells [r]) := ⟨_, rfl⟩
 rw [← hW2] at hcp2 hrs hgr
 have HRS := Aside0.mk hrs
 have HGR := Aside0.mk hgr
 have hz2 : ¬ ((i : Int) = (n : Int)) := by omega
 have hz2' : ¬ i = n := by omega
 have hw1 : IntKind.i64.wrap ((i : Int) + 1) = (i : Int) + 1 := IntWalk.i64_in _ (by omega)
 have hb1 : (0 : Int) ≤ (i : Int) + 1 := by omega
 have hin : i ≤ n := by omega
 have hin' : (i : Int) ≤ (n : Int) := by omega
 have htn : ((i : Int) + 1).toNat = i + 1 := by omega
 have hb2' : ¬ (c = i + 1) := by omega
 have hb3' : (i : Int) ≤ (n : Int) + 1 := by omega
 have hb4' : ¬ (c = i) := by omega
 have hnc : (n : Int) + 1 ≤ (c : Int) := by omega
 have hnc' : n + 1 ≤ c := by omega
 have HR := Aside0.mk hroom
 rw [← hnn]
 clear hrs hgr hW2 hb4 hb3 hb2 hv1 htk hblk1 hcell hblk hsplit hv hr hl hlen1 hlen2 hcl hnn hn hi hc hroom
 go_enter Tryd.func62, Tryd.ntmps62
 go_wp2_with (simp only [hov])
 have HCP1 := Aside0.mk hcp1
 have HCP2 := Aside0.mk hcp2
 clear hcp1 hcp2 hov hW1
 go_still_tail 8, (by kernel_rfl)
 change wpList _ _ _ _ _ w.drew
 go_wp2_with (first | ((with_reducible refine gate_builtin (b := .copy) (xs := #[.tmp 73, .tmp 76]) rfl ?_); go_loud (refine at_copy _ rfl _ _ 100 100 rfl _ _ rfl rfl (HCP1.out 3 (c - (i + 1)) (c - i)) ?_)) | ((with_reducible refine gate_builtin (b := .copy) (xs := #[.tmp 80, .tmp 81]) rfl ?_); go_loud (refine at_copy _ rfl _ _ 100 100 rfl _ _ rfl rfl (HCP2.out 3 (c - i)) ?_)))
 all_goals
  go_ret
  exact ⟨rfl, ⟨_, HRS.out⟩, HGR.out⟩
end Go.Proofs.YtjflijebcpcbmaaDoor.G
