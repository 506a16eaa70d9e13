/-
 What is proved: the small functions below the fragment buffer: numbers in bytes, the two headers. Conditions: as many bytes as are read.
-/
import Derived.Test.YtjflijebcpcbmaaDoorXG0
import Derived.Laws.BitsAllLaws
import Derived.RegionTactic
import Derived.BigRegion
import Derived.StillTailTactics
import Derived.Deep.QuietTactic
import Derived.BigQuiet
import Derived.Deep.RegionWith
import Derived.Outline
import Derived.Handy
import Derived.Laws.IdiomCopy
namespace Go.Proofs.YtjflijebcpcbmaaDoor.G
open Go.RowKit Go.Proofs.YtjflijebcpcbmaaDoorW.PrintWords Go.Proofs.YtjflijebcpcbmaaDoorW.PrintLast Go.Proofs.YtjflijebcpcbmaaDoorW.PrintMore
set_option linter.unusedVariables false
set_option linter.unusedSimpArgs false

theorem blk_ne' {w : World} {g g' : Nat} {t t' : TypeId} {cs cs' : Array Value} {z z' : Nat × Nat} (h : w.heap[g]? = some (.cells cs t z)) (h' : w.heap[g']? = some (.cells cs' t' z')) (hne : t ≠ t') : g ≠ g' := fun e => by
 rw [e, h'] at h
 injection h with h
 injection h with _ h _
 exact hne h.symm
theorem blk_cell' {w : World} {g : Nat} {t : TypeId} {cs : Array Value} {z : Nat × Nat} (h : w.heap[g]? = some (.cells cs t z)) (i : Nat) : w.cell? ⟨g, i, none⟩ = cs[i]? := cell_of_row w g i cs t z h
/-- Block b holds these bytes from place o on. -/
def Bytes (w : World) (b o : Nat) (bs : List Nat) : Prop := ∃ (arr : Array Value) (fz : Nat × Nat), w.heap[b]? = some (.cells arr 5 fz) ∧ ∀ (i x : Nat), bs[i]? = some x → arr[o + i]? = some (Value.int .u8 (x : Int))

theorem Bytes.cell {w : World} {b o : Nat} {bs : List Nat} (h : Bytes w b o bs) (i : Nat) (hi : i < bs.length) : w.cell? ⟨b, o + i, none⟩ = some (.int .u8 ((bs.getD i 0 : Nat) : Int)) := by
 obtain ⟨arr, fz, h1, h2⟩ := h
 rw [blk_cell' h1]
 have := h2 i bs[i] (List.getElem?_eq_getElem hi)
 rw [List.getD_eq_getElem?_getD, List.getElem?_eq_getElem hi]
 exact this
theorem Bytes.drop {w : World} {b o : Nat} {bs : List Nat} (h : Bytes w b o bs) (k : Nat) : Bytes w b (o + k) (bs.drop k) := by
 obtain ⟨arr, fz, h1, h2⟩ := h
 refine ⟨arr, fz, h1, fun i x hx => ?_⟩
 rw [List.getElem?_drop] at hx
 have := h2 _ _ hx
 rwa [Nat.add_assoc]
theorem Bytes.take {w : World} {b o : Nat} {bs : List Nat} (h : Bytes w b o bs) (k : Nat) : Bytes w b o (bs.take k) := by
 obtain ⟨arr, fz, h1, h2⟩ := h
 refine ⟨arr, fz, h1, fun i x hx => ?_⟩
 rw [List.getElem?_take] at hx
 split at hx
 ·exact h2 _ _ hx
 ·cases hx
theorem Bytes.kept {w w' : World} {b o : Nat} {bs : List Nat} (h : Bytes w b o bs) (hb : w'.heap[b]? = w.heap[b]?) : Bytes w' b o bs := by
 obtain ⟨arr, fz, h1, h2⟩ := h
 exact ⟨arr, fz, hb.trans h1, h2⟩

theorem Below.drewN {B : Nat} {a w : World} (h : Below B a w) (n : Nat) : Below B a (w.drewN n) := ⟨h.os, h.tape, h.output, h.size, h.block⟩
theorem or_add (k a y : Nat) (h : y < 2 ^ k) : y ||| (a * 2 ^ k) = a * 2 ^ k + y := by
 rw [Nat.or_comm, Nat.mul_comm, ← Nat.two_pow_add_eq_or_of_lt h]
theorem or16 (x y : Nat) (hx : x < 256) (hy : y < 256) : bits .or .u16 (y : Int) ((x : Int) * 256) = ((x * 256 + y : Nat) : Int) := by
 rw [show (x : Int) * 256 = ((x * 256 : Nat) : Int) by omega, u16_or_nat y (x * 256) (by omega) (by omega), show x * 256 = x * 2 ^ 8 by omega, or_add 8 x y (by omega)]
theorem or32_zero (n : Nat) (h : n < 4294967296) : bits .or .u32 (n : Int) 0 = (n : Int) := by
 have h1 := u32_or_nat n 0 h (by omega)
 rw [Nat.or_zero] at h1
 exact h1
theorem or32_add (k a y : Nat) (hy : y < 2 ^ k) (h1 : y < 4294967296) (h2 : a * 2 ^ k < 4294967296) : bits .or .u32 (y : Int) ((a * 2 ^ k : Nat) : Int) = ((a * 2 ^ k + y : Nat) : Int) := by
 rw [u32_or_nat y _ h1 h2, or_add k a y hy]
theorem or32 (x y z : Nat) (hx : x < 256) (hy : y < 256) (hz : z < 256) : bits .or .u32 (bits .or .u32 (bits .or .u32 (z : Int) ((y : Int) * 256)) ((x : Int) * 65536)) 0 = ((x * 65536 + y * 256 + z : Nat) : Int) := by
 have e1 := or32_add 8 y z (by omega) (by omega) (by omega)
 have e2 := or32_add 16 x (y * 2 ^ 8 + z) (by omega) (by omega) (by omega)
 have e3 := or32_zero (x * 2 ^ 16 + (y * 2 ^ 8 + z)) (by omega)
 have f1 : (y : Int) * 256 = ((y * 2 ^ 8 : Nat) : Int) := by omega
 have f2 : (x : Int) * 65536 = ((x * 2 ^ 16 : Nat) : Int) := by omega
 rw [f1, e1, f2, e2, e3]
 omega

def u16of (bs : List Nat) : Nat := bs.getD 0 0 * 256 + bs.getD 1 0
def u24of (bs : List Nat) : Nat := bs.getD 0 0 * 65536 + bs.getD 1 0 * 256 + bs.getD 2 0

theorem Bytes.alloc {w : World} {b o : Nat} {bs : List Nat} (h : Bytes w b o bs) (ob : Obj) : Bytes (w.alloc ob) b o bs := by
 obtain ⟨arr, fz, h1, h2⟩ := h
 exact ⟨arr, fz, by rw [heap_alloc_old _ _ (blk_lt h1)]; exact h1, h2⟩
theorem Bytes.drewN {w : World} {b o : Nat} {bs : List Nat} (h : Bytes w b o bs) (n : Nat) : Bytes (w.drewN n) b o bs := h

set_option maxHeartbeats 4000000 in
set_option maxRecDepth 100000 in
theorem u16_calls (e : Value) (b o n c : Nat) (bs : List Nat) (w : World) (h : Bytes w b o bs) (hl : 2 ≤ bs.length) (hb : ∀ x ∈ bs, x < 256) (hn : 2 ≤ n) :
 Calls Tryd.prog 50 #[.agg #[], .slice (some ⟨b, o, none⟩) n c] w fun e w' => e = .returned (.int .u16 (u16of bs : Int)) ∧ Below w.heap.size w w' := by
 obtain ⟨W, hW⟩ : ∃ W, W = w.alloc (.cells #[] 112) := ⟨_, rfl⟩
 have h' : Bytes W b o bs := by rw [hW]; exact h.alloc _
 have c0 := h'.cell 0 (by omega)
 have c1 := h'.cell 1 (by omega)
 rw [Nat.add_zero] at c0
 rw [hW] at c0 c1
 obtain ⟨x, hx⟩ : ∃ x, x = bs.getD 0 0 := ⟨_, rfl⟩
 obtain ⟨y, hy⟩ : ∃ x, x = bs.getD 1 0 := ⟨_, rfl⟩
 rw [← hx] at c0
 rw [← hy] at c1
 have hxl : x < 256 := by rw [hx, List.getD_eq_getElem?_getD, List.getElem?_eq_getElem (by omega)]; exact hb _ (List.getElem_mem _)
 have hyl : y < 256 := by rw [hy, List.getD_eq_getElem?_getD, List.getElem?_eq_getElem (by omega)]; exact hb _ (List.getElem_mem _)
 have wx : IntKind.u16.wrap (x : Int) = (x : Int) := by rw [IntKind.wrap_u16]; omega
 have wy : IntKind.u16.wrap (y : Int) = (y : Int) := by rw [IntKind.wrap_u16]; omega
 have HB := Aside0.mk ((Below.refl w.heap.size w).alloc (Nat.le_refl _) (.cells #[] 112))
 have HU : Aside0 (u16of bs = x * 256 + y) := ⟨by unfold u16of; rw [← hx, ← hy]⟩
 clear h h' hx hy hb
 go_enter Tryd.func50, Tryd.ntmps50
 go_wp2
 go_quiet (fail)
 go_wp2
 go_ret
 exact ⟨by rw [HU.out, ← or16 x y hxl hyl]; rfl, Below.drewN HB.out _⟩

set_option maxHeartbeats 4000000 in
set_option maxRecDepth 100000 in
theorem u32_calls (b : Nat) (bs : List Nat) (w : World) (h : Bytes w b 0 bs) (hl : bs.length = 4) (hb : ∀ x ∈ bs, x < 256) (h0 : bs.getD 0 0 = 0) :
 Calls Tryd.prog 61 #[.agg #[], .slice (some ⟨b, 0, none⟩) 4 4] w fun e w' => e = .returned (.int .u32 ((bs.getD 1 0 * 65536 + bs.getD 2 0 * 256 + bs.getD 3 0 : Nat) : Int)) ∧ Below w.heap.size w w' := by
 obtain ⟨W, hW⟩ : ∃ W, W = w.alloc (.cells #[] 112) := ⟨_, rfl⟩
 have h' : Bytes W b 0 bs := by rw [hW]; exact h.alloc _
 have c0 := h'.cell 0 (by omega)
 have c1 := h'.cell 1 (by omega)
 have c2 := h'.cell 2 (by omega)
 have c3 := h'.cell 3 (by omega)
 rw [Nat.zero_add, hW] at c0 c1 c2 c3
 rw [h0] at c0
 have hg : ∀ i, i < 4 → bs.getD i 0 < 256 := fun i hi => by rw [List.getD_eq_getElem?_getD, List.getElem?_eq_getElem (by omega)]; exact hb _ (List.getElem_mem _)
 have hxl := hg 1 (by omega)
 have hyl := hg 2 (by omega)
 have hzl := hg 3 (by omega)
 obtain ⟨x, hx⟩ : ∃ x, x = bs.getD 1 0 := ⟨_, rfl⟩
 obtain ⟨y, hy⟩ : ∃ x, x = bs.getD 2 0 := ⟨_, rfl⟩
 obtain ⟨z, hz⟩ : ∃ x, x = bs.getD 3 0 := ⟨_, rfl⟩
 rw [← hx] at c1 hxl ⊢
 rw [← hy] at c2 hyl ⊢
 rw [← hz] at c3 hzl ⊢
 have wx : IntKind.u32.wrap (x : Int) = (x : Int) := by rw [IntKind.wrap_u32]; omega
 have wy : IntKind.u32.wrap (y : Int) = (y : Int) := by rw [IntKind.wrap_u32]; omega
 have wz : IntKind.u32.wrap (z : Int) = (z : Int) := by rw [IntKind.wrap_u32]; omega
 have HB := Aside0.mk ((Below.refl w.heap.size w).alloc (Nat.le_refl _) (.cells #[] 112))
 clear h h' hx hy hz hb hg h0
 go_enter Tryd.func61, Tryd.ntmps61
 go_wp2
 go_quiet (fail)
 go_wp2
 go_ret
 exact ⟨by rw [← or32 x y z hxl hyl hzl]; rfl, Below.drewN HB.out _⟩

/-! ### Blocks under copies -/
theorem setCells_other (b : Nat) : ∀ (vs : List Value) (o : Nat) (w : World) (k : Nat), k ≠ b → (w.setCells b o vs).heap[k]? = w.heap[k]?
 | [], _, _, _, _ => rfl
 | v :: r, o, w, k, h => by
   rw [World.setCells, setCells_other b r (o + 1) _ k h]
   exact Below.heap_setCell w _ _ k h
theorem setCells_rest (b : Nat) : ∀ (vs : List Value) (o : Nat) (w : World), (w.setCells b o vs).os = w.os ∧ (w.setCells b o vs).tape = w.tape ∧ (w.setCells b o vs).output = w.output ∧ (w.setCells b o vs).heap.size = w.heap.size
 | [], _, _ => ⟨rfl, rfl, rfl, rfl⟩
 | v :: r, o, w => by
   obtain ⟨h1, h2, h3, h4⟩ := setCells_rest b r (o + 1) (w.setCell ⟨b, o, none⟩ v)
   rw [World.setCells]
   exact ⟨h1, h2, h3, h4.trans (by simp [World.setCell])⟩
theorem setCells_blk (b T : Nat) : ∀ (vs : List Value) (o : Nat) (w : World) (pre mid post : List Value), w.heap[b]? = some (.cells (pre ++ mid ++ post).toArray T (0, 0)) → pre.length = o → mid.length = vs.length →
 (w.setCells b o vs).heap[b]? = some (.cells (pre ++ vs ++ post).toArray T (0, 0))
 | [], o, w, pre, mid, post, h, hp, hm => by
   have : mid = [] := List.eq_nil_of_length_eq_zero (by simpa using hm)
   subst this
   exact h
 | v :: r, o, w, pre, mid, post, h, hp, hm => by
   cases mid with
   | nil => simp at hm
   | cons m ms =>
     rw [World.setCells]
     have h1 : (w.setCell ⟨b, o, none⟩ v).heap[b]? = some (.cells ((pre ++ [v]) ++ ms ++ post).toArray T (0, 0)) := by
      rw [blk_set h]
      congr 2
      subst hp
      simp
     have := setCells_blk b T r (o + 1) _ (pre ++ [v]) ms post h1 (by simp [hp]) (by simpa using hm)
     rw [this]
     simp
theorem below_setCells {B : Nat} {a w : World} (h : Below B a w) {b : Nat} (hb : B ≤ b) (o : Nat) (vs : List Value) : Below B a (w.setCells b o vs) := by
 obtain ⟨h1, h2, h3, h4⟩ := setCells_rest b vs o w
 exact ⟨h1.trans h.os, h2.trans h.tape, h3.trans h.output, by rw [h4]; exact h.size, fun k hk => (setCells_other b vs o w k (by omega)).trans (h.block k hk)⟩

theorem at_copy {P : Program} (w : World) {ops : Array Oper} {rest : List Oper} {o : Oper} {a : Act} {Q : Exit → Act → World → Prop} (hgd : o.guard = none) (d s : Operand) (t t' : TypeId)
 (ho : o.op = .call { callee := .builtin .copy, args := #[d, s], argTypes := #[t, t'] }) (v u : Value) (hd : a.eval d = v) (hs : a.eval s = u) {v' : Value} {w' : World}
 (hr : (Builtin.copy_ #[t, t'] o.type #[v, u]).run P w = .ok v' w') (h : wpList P ops Q rest (a.put o.dst v') w') : wpList P ops Q (o :: rest) a w := by
 refine wpList_plain hgd fun K hK => ?_
 unfold Oper.wp
 simp only [execOp, ho, resolve, invoke, builtin, Sem.run_bind, Sem.run_pure, Result.andThen_ok, List.map_toArray, List.map_cons, List.map_nil, hd, hs, hr]
 exact hK _ _ h

theorem make4 (w : World) : (Instr.makeSlice 59 (.int .i64 4) (.int .i64 4)).run Tryd.prog w = .ok (.slice (some ⟨w.heap.size, 0, none⟩) 4 4) (w.alloc (.cells #[.int .u8 0, .int .u8 0, .int .u8 0, .int .u8 0] 5)) := by kernel_rfl

def u8s (bs : List Nat) : List Value := bs.map fun x : Nat => .int .u8 (x : Int)
theorem Bytes.of_cells {w : World} {b : Nat} {bs : List Nat} (h : w.heap[b]? = some (.cells (u8s bs).toArray 5 (0, 0))) : Bytes w b 0 bs :=
 ⟨_, _, h, fun i x hx => by simp [u8s, hx]⟩
theorem size5 : (Tryd.prog.info? 5).map (·.size) = some 1 := by kernel_rfl

set_option maxHeartbeats 4000000 in
set_option maxRecDepth 100000 in
theorem u24_calls (b o n c : Nat) (bs : List Nat) (w : World) (h : Bytes w b o bs) (hl : 3 ≤ bs.length) (hb : ∀ x ∈ bs, x < 256) (hn : 3 ≤ n) (hbw : b < w.heap.size) :
 Calls Tryd.prog 53 #[.slice (some ⟨b, o, none⟩) n c] w fun e w' => e = .returned (.int .u32 (u24of bs : Int)) ∧ Below w.heap.size w w' := by
 obtain ⟨W1, hW1⟩ : ∃ W, W = w.alloc (.cells #[.int .u8 0, .int .u8 0, .int .u8 0, .int .u8 0] 5) := ⟨_, rfl⟩
 have h1 : Bytes W1 b o bs := by rw [hW1]; exact h.alloc _
 obtain ⟨H, hH⟩ : ∃ H, H = w.heap.size := ⟨_, rfl⟩
 have hblk : W1.heap[H]? = some (.cells (u8s [0] ++ u8s [0, 0, 0] ++ ([] : List Value)).toArray 5 (0, 0)) := by rw [hW1, hH]; exact heap_alloc_new w _
 have hg : ∀ i, i < 3 → bs.getD i 0 < 256 := fun i hi => by rw [List.getD_eq_getElem?_getD, List.getElem?_eq_getElem (by omega)]; exact hb _ (List.getElem_mem _)
 obtain ⟨cs, hcs⟩ : ∃ cs, cs = u8s [bs.getD 0 0, bs.getD 1 0, bs.getD 2 0] := ⟨_, rfl⟩
 have hcl : cs.length = 3 := by rw [hcs]; rfl
 have hcp : ∀ ty, (Builtin.copy_ #[59, 59] ty #[.slice (some ⟨H, 1, none⟩) 3 3, .slice (some ⟨b, o, none⟩) n c]).run Tryd.prog W1 = .ok (goInt cs.length) (W1.setCells H 1 cs) := fun ty =>
  run_copy_cells W1 59 59 ty 5 H 1 3 3 ⟨b, o, none⟩ n c cs Tryd.underlying59 size5 (by rw [hcl]; simp only [Nat.min_def]; split <;> omega)
   (fun j v hj => by
    have hj3 : j < 3 := by have := (List.getElem?_eq_some_iff.1 hj).1; omega
    have := h1.cell j (by omega)
    rw [Addr.add_lit, this, ← hj, hcs]
    obtain rfl | rfl | rfl : j = 0 ∨ j = 1 ∨ j = 2 := by omega
    all_goals rfl)
   (fun j hj => by rw [blk_cell hblk]; obtain rfl | rfl | rfl : j = 0 ∨ j = 1 ∨ j = 2 := by omega
                   all_goals rfl)
   (fun j hj => blk_frozen hblk _) (fun v hv => by rw [hcs] at hv; simp [u8s] at hv; rcases hv with rfl | rfl | rfl <;> rfl)
 have hblk2 := setCells_blk H 5 cs 1 W1 _ _ _ hblk rfl (by rw [hcl]; rfl)
 have hby : Bytes (W1.setCells H 1 cs) H 0 [0, bs.getD 0 0, bs.getD 1 0, bs.getD 2 0] := Bytes.of_cells (by rw [hblk2, hcs]; rfl)
 have h32 : Calls Tryd.prog 61 #[.agg #[], .slice (some ⟨H, 0, none⟩) 4 4] (W1.setCells H 1 cs) fun e w' => e = .returned (.int .u32 (u24of bs : Int)) ∧ Below (W1.setCells H 1 cs).heap.size (W1.setCells H 1 cs) w' := u32_calls H [0, bs.getD 0 0, bs.getD 1 0, bs.getD 2 0] (W1.setCells H 1 cs) hby rfl (fun x hx => by
  simp at hx
  rcases hx with rfl | rfl | rfl | rfl
  ·omega
  ·exact hg 0 (by omega)
  ·exact hg 1 (by omega)
  ·exact hg 2 (by omega)) rfl
 have hb1 : Below w.heap.size w W1 := by rw [hW1]; exact (Below.refl _ _).alloc (Nat.le_refl _) _
 have HB := Aside0.mk (below_setCells hb1 (b := H) (by omega) 1 cs)
 have H32 := Aside0.mk h32
 have hn0 : ¬ ((n : Int) < 3) := by omega
 subst hH hW1
 have HCP := Aside0.mk hcp
 have hm := make4 w
 clear h h1 hblk hg hcs hblk2 hby h32 hb1 hb hcp
 go_enter Tryd.func53, Tryd.ntmps53
 go_wp2_with (first | ((with_reducible refine gate_builtin (b := .copy) (xs := #[.tmp 9, .tmp 10]) rfl ?_); go_loud (refine at_copy _ rfl _ _ 59 59 rfl _ _ rfl rfl (HCP.out _) ?_)) | (go_at_call 61; go_loud ((with_reducible refine (H32.out).mono ?_); rintro e w2 ⟨rfl, h2⟩; have H2 := Aside0.mk h2; clear h2)))
 go_ret
 exact ⟨rfl, below_then HB.out HB.out.size H2.out⟩
end Go.Proofs.YtjflijebcpcbmaaDoor.G
