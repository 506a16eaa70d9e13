/-
 What is proved: a new fragment buffer, and its size. Conditions: none.
-/
import Derived.Test.YtjflijebcpcbmaaDoorXCache
namespace Go.Proofs.YtjflijebcpcbmaaDoor.G
open Go.RowKit Go.Proofs.YtjflijebcpcbmaaDoorW.PrintWords Go.Proofs.YtjflijebcpcbmaaDoorW.PrintLast Go.Proofs.YtjflijebcpcbmaaDoorW.PrintMore
set_option linter.unusedVariables false
set_option linter.unusedSimpArgs false

/-- The block of a buffer. -/
def bcells (rm cur : Nat) (size count : Int) : Array Value := #[.map (some rm), .int .u16 (cur : Int), .int .i64 size, .int .i64 count]

set_option maxHeartbeats 4000000 in
set_option maxRecDepth 100000 in
theorem newbuf_calls (w : World) :
 Calls Tryd.prog 34 #[] w fun e w' => e = .returned (.pointer (some ⟨w.heap.size + 1, 0, none⟩)) ∧ w'.heap[w.heap.size + 1]? = some (.cells (bcells w.heap.size 0 0 0) 87 (0, 0)) ∧ CM w' w.heap.size 0 (fun _ => none) ∧ Below w.heap.size w w' := by
 have hm : ∀ w : World, (Instr.makeMap 85 none).run Tryd.prog w = .ok (.map (some w.heap.size)) (w.alloc (.map #[] 0)) := fun w => by kernel_rfl
 have hc := CM.made w
 have HC := Aside0.mk ((hc.kept (w' := (w.alloc (.map #[] 0)).alloc (.cells (bcells w.heap.size 0 0 0) 87)) (heap_alloc_old _ _ (by simp))))
 have HB := Aside0.mk ((((Below.refl w.heap.size w).alloc (Nat.le_refl _) (.map #[] 0)).alloc (by simp) (.cells (bcells w.heap.size 0 0 0) 87)))
 clear hc
 go_enter Tryd.func34, Tryd.ntmps34
 go_wp2
 go_ret
 exact ⟨rfl, heap_alloc2_new w _ _, HC.out, HB.out⟩

set_option maxHeartbeats 4000000 in
set_option maxRecDepth 100000 in
theorem zznew_calls (w : World) :
 Calls Tryd.prog 25 #[] w fun e w' => ∃ g rm, e = .returned (.agg #[.pointer (some ⟨g, 0, none⟩)]) ∧ w'.heap[g]? = some (.cells (bcells rm 0 0 0) 87 (0, 0)) ∧ CM w' rm 0 (fun _ => none) ∧ w.heap.size ≤ g ∧ w.heap.size ≤ rm ∧ Below w.heap.size w w' := by
 go_enter Tryd.func25, Tryd.ntmps25
 go_wp2_with (fail)
 obtain ⟨W1, hW1⟩ : ∃ W, W = w.alloc (.cells #[.pointer none] 53) := ⟨_, rfl⟩
 obtain ⟨p, hp⟩ : ∃ p, p = w.heap.size := ⟨_, rfl⟩
 rw [← hW1, ← hp]
 have hb1 : Below w.heap.size w W1 := by rw [hW1]; exact (Below.refl _ _).alloc (Nat.le_refl _) _
 have hk : W1.heap[p]? = some (.cells #[.pointer none] 53 (0, 0)) := by rw [hW1, hp]; exact heap_alloc_new _ _
 have hsz : W1.heap.size = p + 1 := by rw [hW1, hp]; simp
 refine (newbuf_calls W1).mono ?_
 rintro e w2 ⟨rfl, q1, q2, q3⟩
 have hk2 := (q3.block p (blk_lt hk)).trans hk
 have c0 : w2.cell? ⟨p, 0, none⟩ = some (.pointer none) := blk_cell hk2 0
 have f0 := blk_frozen hk2 0
 obtain ⟨g, hg⟩ : ∃ g, g = W1.heap.size + 1 := ⟨_, rfl⟩
 obtain ⟨rm, hrm⟩ : ∃ g, g = W1.heap.size := ⟨_, rfl⟩
 rw [← hrm] at q1 q2
 have hg' : g = rm + 1 := by omega
 rw [← hg'] at q1
 have HG := Aside0.mk (blk_far q1 (p := ⟨p, 0, none⟩) (by show g ≠ p; omega) (.pointer (some ⟨g, 0, none⟩)))
 have HC := Aside0.mk (q2.kept (w' := w2.setCell ⟨p, 0, none⟩ (.pointer (some ⟨g, 0, none⟩))) (Below.heap_setCell _ ⟨p, 0, none⟩ _ rm (by show rm ≠ p; omega)))
 have HB := Aside0.mk ((below_then hb1 hb1.size q3).setCell (p := ⟨p, 0, none⟩) (by show w.heap.size ≤ p; omega) (.pointer (some ⟨g, 0, none⟩)))
 have HSZ : Aside0 (w.heap.size ≤ g ∧ w.heap.size ≤ rm) := ⟨by omega⟩
 rw [← hg]
 clear q1 q2 q3 hb1 hk hk2 hsz hg hrm hg' hW1 hp
 go_wp2
 first
  | (go_ret; exact ⟨g, rm, rfl, HG.out, HC.out, HSZ.out.1, HSZ.out.2, HB.out⟩)
  | (go_returns; exact ⟨g, rm, rfl, HG.out, HC.out, HSZ.out.1, HSZ.out.2, HB.out⟩)
  | exact bodyPost_ret (v := .agg #[.pointer (some ⟨g, 0, none⟩)]) (by simp [results, Tryd.results25, go_sem, c0, f0]) rfl ⟨g, rm, rfl, HG.out, HC.out, HSZ.out.1, HSZ.out.2, HB.out⟩

set_option maxHeartbeats 4000000 in
set_option maxRecDepth 100000 in
theorem size_calls (g rm cur : Nat) (size count : Int) (w : World) (h : w.heap[g]? = some (.cells (bcells rm cur size count) 87 (0, 0))) :
 Calls Tryd.prog 37 #[.pointer (some ⟨g, 0, none⟩)] w fun e w' => e = .returned (.int .i64 size) ∧ w = w' := by
 have c2 : w.cell? ⟨g, 2, none⟩ = some (.int .i64 size) := blk_cell h 2
 clear h
 go_enter Tryd.func37, Tryd.ntmps37
 go_wp2
 go_ret
 exact ⟨rfl, rfl⟩

set_option maxHeartbeats 4000000 in
set_option maxRecDepth 100000 in
theorem zzsize_calls (g rm cur : Nat) (size count : Int) (w : World) (h : w.heap[g]? = some (.cells (bcells rm cur size count) 87 (0, 0))) :
 Calls Tryd.prog 28 #[.agg #[.pointer (some ⟨g, 0, none⟩)]] w fun e w' => e = .returned (.int .i64 size) ∧ Below w.heap.size w w' := by
 have hb := (Below.refl w.heap.size w).alloc (Nat.le_refl _) (.cells #[.pointer (some ⟨g, 0, none⟩)] 53)
 have HS := Aside0.mk (size_calls g rm cur size count (w.alloc (.cells #[.pointer (some ⟨g, 0, none⟩)] 53)) ((hb.block g (blk_lt h)).trans h))
 have HB := Aside0.mk hb
 clear h hb
 go_enter Tryd.func28, Tryd.ntmps28
 go_wp2_with (go_at_call 37; go_loud ((with_reducible refine (HS.out).mono ?_); rintro e w1 ⟨rfl, rfl⟩))
 go_ret
 exact ⟨rfl, HB.out⟩
end Go.Proofs.YtjflijebcpcbmaaDoor.G
