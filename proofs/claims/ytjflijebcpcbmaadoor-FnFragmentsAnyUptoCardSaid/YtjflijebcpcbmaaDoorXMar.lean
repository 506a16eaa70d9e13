/-
 What is proved: numbers are written as their bytes. Conditions: numbers below 2^24 (three bytes) and 2^16 (two bytes).
-/
import Derived.Test.YtjflijebcpcbmaaDoorXHead
namespace Go.Proofs.YtjflijebcpcbmaaDoor.G
open Go.RowKit Go.Proofs.YtjflijebcpcbmaaDoorW.PrintWords Go.Proofs.YtjflijebcpcbmaaDoorW.PrintLast Go.Proofs.YtjflijebcpcbmaaDoorW.PrintMore
set_option linter.unusedVariables false
set_option linter.unusedSimpArgs false

/-- Block b holds these bytes and no others. -/
def Out (w : World) (b : Nat) (l : List Nat) : Prop := w.heap[b]? = some (.cells (u8s l).toArray 5 (0, 0))
theorem Out.cell {w : World} {b : Nat} {l : List Nat} (h : Out w b l) (i : Nat) (hi : i < l.length) : w.cell? ⟨b, i, none⟩ = some (.int .u8 ((l.getD i 0 : Nat) : Int)) := by
 rw [blk_cell h]
 simp [u8s, hi, List.getD_eq_getElem?_getD]
theorem Out.set {w : World} {b : Nat} {l : List Nat} (h : Out w b l) (i x : Nat) : Out (w.setCell ⟨b, i, none⟩ (.int .u8 (x : Int))) b (l.set i x) := by
 unfold Out
 rw [blk_set h]
 congr 2
 simp [u8s, List.map_set]
theorem Out.below {w w' : World} {b : Nat} {l : List Nat} (h : Out w b l) (hb : Below w.heap.size w w') : Out w' b l := (hb.block b (blk_lt h)).trans h

set_option maxHeartbeats 8000000 in
set_option maxRecDepth 100000 in
theorem put32_calls (b x : Nat) (l : List Nat) (w : World) (h : Out w b l) (hl : l.length = 4) (hx : x < 16777216) :
 Calls Tryd.prog 66 #[.agg #[], .slice (some ⟨b, 0, none⟩) 4 4, .int .u32 (x : Int)] w fun e w' => e = .returned (.tuple #[]) ∧ Out w' b [0, x / 65536, x / 256 % 256, x % 256] ∧ w.grownBy w' (some b) := by
 obtain ⟨W, hW⟩ : ∃ W, W = w.alloc (.cells #[] 112) := ⟨_, rfl⟩
 have hb : Below w.heap.size w W := by rw [hW]; exact (Below.refl _ _).alloc (Nat.le_refl _) _
 have h' := h.below hb
 have c0 := h'.cell 0 (by omega)
 have c1 := h'.cell 1 (by omega)
 have c2 := h'.cell 2 (by omega)
 have c3 := h'.cell 3 (by omega)
 have f : ∀ i, W.frozen? ⟨b, i, none⟩ = false := fun i => blk_frozen h' i
 have f0 := f 0
 have f1 := f 1
 have f2 := f 2
 have f3 := f 3
 rw [hW] at c0 c1 c2 c3 f0 f1 f2 f3
 have e0 : IntKind.u8.wrap ((x : Int) / 16777216) = 0 := by rw [IntKind.wrap_u8]; omega
 have e1 : IntKind.u8.wrap ((x : Int) / 65536) = ((x / 65536 : Nat) : Int) := by rw [IntKind.wrap_u8]; omega
 have e2 : IntKind.u8.wrap ((x : Int) / 256) = ((x / 256 % 256 : Nat) : Int) := by rw [IntKind.wrap_u8]; omega
 have e3 : IntKind.u8.wrap (x : Int) = ((x % 256 : Nat) : Int) := by rw [IntKind.wrap_u8]; omega
 have H := Aside0.mk h'
 have HB := Aside0.mk hb
 have HL := Aside0.mk hl
 clear h h' hb hl f
 go_enter Tryd.func66, Tryd.ntmps66
 go_wp2
 rw [← hW]
 have hf := (((H.out.set 0 0).set 1 (x / 65536)).set 2 (x / 256 % 256)).set 3 (x % 256)
 have hl4 : (((l.set 0 0).set 1 (x / 65536)).set 2 (x / 256 % 256)).set 3 (x % 256) = [0, x / 65536, x / 256 % 256, x % 256] := by
  have := HL.out
  match l, this with
  | [_, _, _, _], _ => rfl
 rw [hl4] at hf
 have hg := gset (gset (gset (gset (gstep (World.grownBy.refl w (some b)) HB.out) 0 (.int .u8 ((0 : Nat) : Int))) 1 (.int .u8 ((x / 65536 : Nat) : Int))) 2 (.int .u8 ((x / 256 % 256 : Nat) : Int))) 3 (.int .u8 ((x % 256 : Nat) : Int))
 go_end0
 exact ⟨rfl, hf, hg⟩

set_option maxHeartbeats 8000000 in
set_option maxRecDepth 100000 in
theorem put16_calls (b o n c x : Nat) (l : List Nat) (w : World) (h : Out w b l) (hn : 2 ≤ n) (hl : o + 2 ≤ l.length) (hx : x < 65536) :
 Calls Tryd.prog 60 #[.agg #[], .slice (some ⟨b, o, none⟩) n c, .int .u16 (x : Int)] w fun e w' => e = .returned (.tuple #[]) ∧ Out w' b ((l.set o (x / 256)).set (o + 1) (x % 256)) ∧ w.grownBy w' (some b) := by
 obtain ⟨W, hW⟩ : ∃ W, W = w.alloc (.cells #[] 112) := ⟨_, rfl⟩
 have hb : Below w.heap.size w W := by rw [hW]; exact (Below.refl _ _).alloc (Nat.le_refl _) _
 have h' := h.below hb
 have c0 := h'.cell o (by omega)
 have c1 := h'.cell (o + 1) (by omega)
 have f0 : W.frozen? ⟨b, o, none⟩ = false := blk_frozen h' o
 have f1 : W.frozen? ⟨b, o + 1, none⟩ = false := blk_frozen h' (o + 1)
 rw [hW] at c0 c1 f0 f1
 have e1 : IntKind.u8.wrap ((x : Int) / 256) = ((x / 256 : Nat) : Int) := by rw [IntKind.wrap_u8]; omega
 have e3 : IntKind.u8.wrap (x : Int) = ((x % 256 : Nat) : Int) := by rw [IntKind.wrap_u8]; omega
 have n1 : (1 : Int) < (n : Int) := by omega
 have n2 : 1 < n := by omega
 have H := Aside0.mk h'
 have HB := Aside0.mk hb
 clear h h' hb hl hn
 go_enter Tryd.func60, Tryd.ntmps60
 go_wp2
 rw [← hW]
 have hf := (H.out.set o (x / 256)).set (o + 1) (x % 256)
 have hg := gset (gset (gstep (World.grownBy.refl w (some b)) HB.out) o (.int .u8 ((x / 256 : Nat) : Int))) (o + 1) (.int .u8 ((x % 256 : Nat) : Int))
 go_end0
 exact ⟨rfl, hf, hg⟩

/-- Three bytes are written at place o. -/
def put3 (l : List Nat) (o x : Nat) : List Nat := l.take o ++ [x / 65536, x / 256 % 256, x % 256] ++ l.drop (o + 3)

theorem u8s_append (a b : List Nat) : u8s (a ++ b) = u8s a ++ u8s b := by simp [u8s]
theorem u8s_one (l : List Nat) : ∀ v ∈ u8s l, v.oneCell' = true := by
 intro v hv
 obtain ⟨x, _, hx⟩ := List.mem_map.1 hv
 rw [← hx]
 rfl

set_option maxHeartbeats 8000000 in
set_option maxRecDepth 100000 in
theorem put24_calls (b o n c x : Nat) (l : List Nat) (w : World) (h : Out w b l) (hn : 3 ≤ n) (hl : o + 3 ≤ l.length) (hx : x < 16777216) :
 Calls Tryd.prog 59 #[.slice (some ⟨b, o, none⟩) n c, .int .u32 (x : Int)] w fun e w' => e = .returned (.tuple #[]) ∧ Out w' b (put3 l o x) ∧ w.grownBy w' (some b) := by
 obtain ⟨W1, hW1⟩ : ∃ W, W = w.alloc (.cells #[.int .u8 0, .int .u8 0, .int .u8 0, .int .u8 0] 5) := ⟨_, rfl⟩
 obtain ⟨H, hH⟩ : ∃ H, H = w.heap.size := ⟨_, rfl⟩
 have hm := make4 w
 rw [← hW1, ← hH] at hm
 have hb1 : Below w.heap.size w W1 := by rw [hW1]; exact (Below.refl _ _).alloc (Nat.le_refl _) _
 have ht : Out W1 H [0, 0, 0, 0] := by rw [hW1, hH]; exact heap_alloc_new w _
 have h1 := h.below hb1
 have hbl := blk_lt h
 have HP := Aside0.mk (put32_calls H x [0, 0, 0, 0] W1 ht rfl hx)
 have hne : some b ≠ some H := fun e => by injection e with e; omega
 have hne' : H ≠ b := by omega
 have HB1 := Aside0.mk hb1
 have H1 := Aside0.mk h1
 have HNE := Aside0.mk hne
 have HBL : Aside0 (b < W1.heap.size) := ⟨blk_lt h1⟩
 have HHB : Aside0 (H = w.heap.size) := ⟨hH⟩
 have HCP : Aside0 (∀ w2, Out w2 H [0, x / 65536, x / 256 % 256, x % 256] → Out w2 b l → (∀ ty, (Builtin.copy_ #[59, 59] ty #[.slice (some ⟨b, o, none⟩) n c, .slice (some ⟨H, 1, none⟩) 3 3]).run Tryd.prog w2 = .ok (goInt 3) (w2.setCells b o (u8s [x / 65536, x / 256 % 256, x % 256]))) ∧ Out (w2.setCells b o (u8s [x / 65536, x / 256 % 256, x % 256])) b (put3 l o x)) := ⟨fun w2 q1 q2 => by
  refine ⟨fun ty => ?_, ?_⟩
  ·refine run_copy_cells w2 59 59 ty 5 b o n c ⟨H, 1, none⟩ 3 3 (u8s [x / 65536, x / 256 % 256, x % 256]) Tryd.underlying59 size5 (by simp [u8s, Nat.min_def]; omega) (fun j v hj => ?_) (fun j hj => ?_) (fun j hj => blk_frozen q2 _) (u8s_one _)
   ·rw [Addr.add_lit, blk_cell q1]
    have hj3 : j < 3 := by have := (List.getElem?_eq_some_iff.1 hj).1; simpa [u8s] using this
    rw [← hj]
    obtain rfl | rfl | rfl : j = 0 ∨ j = 1 ∨ j = 2 := by omega
    all_goals rfl
   ·have hj3 : j < 3 := by simpa [u8s] using hj
    rw [q2.cell (o + j) (by omega)]
    rfl
  ·have e : l = l.take o ++ (l.drop o).take 3 ++ l.drop (o + 3) := by
    rw [List.append_assoc, ← List.drop_drop, List.take_append_drop, List.take_append_drop]
   have q3 : w2.heap[b]? = some (.cells (u8s (l.take o) ++ u8s ((l.drop o).take 3) ++ u8s (l.drop (o + 3))).toArray 5 (0, 0)) := by
    rw [← u8s_append, ← u8s_append, ← e]
    exact q2
   have := setCells_blk b 5 (u8s [x / 65536, x / 256 % 256, x % 256]) o w2 _ _ _ q3 (by simp [u8s]; omega) (by simp [u8s]; omega)
   unfold Out put3
   rw [this, u8s_append, u8s_append]⟩
 clear hb1 ht h1 hbl hW1 hH h hne hl
 go_enter Tryd.func59, Tryd.ntmps59
 go_wp2_with (fail)
 refine (HP.out).mono ?_
 rintro e w2 ⟨rfl, q1, q2⟩
 obtain ⟨hcp, hfin⟩ := HCP.out w2 q1 ((q2.block b HBL.out HNE.out).trans H1.out)
 have HCP2 := Aside0.mk hcp
 have HFIN := Aside0.mk hfin
 have HGR : Aside0 (w.grownBy (w2.setCells b o (u8s [x / 65536, x / 256 % 256, x % 256])) (some b)) := ⟨by
  obtain ⟨c1, c2, c3, c4⟩ := setCells_rest b (u8s [x / 65536, x / 256 % 256, x % 256]) o w2
  have s1 := HB1.out.size
  have s2 := q2.size
  refine ⟨c1.trans (q2.os.trans HB1.out.os), c2.trans (q2.tape.trans HB1.out.tape), c3.trans (q2.output.trans HB1.out.output), by rw [c4]; omega, fun k hk hr => ?_⟩
  have hkb : k ≠ b := fun e => hr (by rw [e])
  rw [setCells_other b _ _ _ k hkb, q2.block k (by omega) (fun e => by injection e with e; have := HHB.out; omega)]
  exact HB1.out.block k hk⟩
 clear q1 q2 hcp hfin HCP
 go_wp2_with (((with_reducible refine gate_builtin (b := .copy) (xs := #[.tmp 10, .tmp 12]) rfl ?_); go_loud (refine at_copy _ rfl _ _ 59 59 rfl _ _ rfl rfl (HCP2.out 3) ?_)))
 go_end0
 exact ⟨rfl, HFIN.out, HGR.out⟩

def z12 : List Nat := [0, 0, 0, 0, 0, 0, 0, 0, 0, 0, 0, 0]
theorem make12 (w : World) : (Instr.makeSlice 59 (.int .i64 12) (.int .i64 12)).run Tryd.prog w = .ok (.slice (some ⟨w.heap.size, 0, none⟩) 12 12) (w.alloc (.cells (u8s z12).toArray 5)) := by kernel_rfl
theorem put3_length (l : List Nat) (o x : Nat) (h : o + 3 ≤ l.length) : (put3 l o x).length = l.length := by
 simp [put3]
 omega
/-- The twelve bytes of a handshake header. -/
def hdr12 (t l s o f : Nat) : List Nat := put3 (put3 (((put3 (z12.set 0 t) 1 l).set 4 (s / 256)).set 5 (s % 256)) 6 o) 9 f

theorem keep_own {w W W' : World} {H : Nat} (hb : Below w.heap.size w W) (hg : W.grownBy W' (some H)) (hH : w.heap.size ≤ H) : Below w.heap.size w W' :=
 ⟨hg.os.trans hb.os, hg.tape.trans hb.tape, hg.output.trans hb.output, Nat.le_trans hb.size hg.size, fun k hk => (hg.block k (Nat.lt_of_lt_of_le hk hb.size) (fun e => by injection e with e; omega)).trans (hb.block k hk)⟩

set_option maxHeartbeats 8000000 in
set_option maxRecDepth 100000 in
theorem marshal_calls (g t l s o f : Nat) (w : World) (h : w.heap[g]? = some (.cells (shead t l s o f) 97 (0, 0))) (ht : t < 256) (hl : l < 16777216) (hs : s < 65536) (ho : o < 16777216) (hf : f < 16777216) :
 Calls Tryd.prog 46 #[.pointer (some ⟨g, 0, none⟩)] w fun e w' => e = .returned (.tuple #[.slice (some ⟨w.heap.size, 0, none⟩) 12 12, .nilIface]) ∧ Out w' w.heap.size (hdr12 t l s o f) ∧ Below w.heap.size w w' := by
 obtain ⟨H, hH⟩ : ∃ H, H = w.heap.size := ⟨_, rfl⟩
 obtain ⟨W1, hW1⟩ : ∃ W, W = w.alloc (.cells (u8s z12).toArray 5) := ⟨_, rfl⟩
 have hm := make12 w
 rw [← hW1, ← hH] at hm
 have hb1 : Below w.heap.size w W1 := by rw [hW1]; exact (Below.refl _ _).alloc (Nat.le_refl _) _
 have ho1 : Out W1 H z12 := by rw [hW1, hH]; exact heap_alloc_new w _
 have hgl := blk_lt h
 obtain ⟨W2, hW2⟩ : ∃ W, W = W1.setCell ⟨H, 0, none⟩ (.int .u8 (t : Int)) := ⟨_, rfl⟩
 have ho2 : Out W2 H (z12.set 0 t) := by rw [hW2]; exact ho1.set 0 t
 have hb2 : Below w.heap.size w W2 := by rw [hW2]; exact keep_own hb1 (gset (World.grownBy.refl W1 (some H)) 0 _) (by omega)
 have c0 : W1.cell? ⟨H, 0, none⟩ = some (.int .u8 0) := ho1.cell 0 (by decide)
 have f0 : W1.frozen? ⟨H, 0, none⟩ = false := blk_frozen ho1 0
 have hG : ∀ W, Below w.heap.size w W → W.heap[g]? = some (.cells (shead t l s o f) 97 (0, 0)) := fun W hb => (hb.block g hgl).trans h
 have g0 : W1.cell? ⟨g, 0, none⟩ = some (.int .u8 (t : Int)) := blk_cell (hG W1 hb1) 0
 have g1 : W2.cell? ⟨g, 1, none⟩ = some (.int .u32 (l : Int)) := blk_cell (hG W2 hb2) 1
 have HG := Aside0.mk hG
 have HO2 := Aside0.mk ho2
 have HB2 := Aside0.mk hb2
 have HHH : Aside0 (w.heap.size ≤ H) := ⟨by omega⟩
 have L0 : (z12.set 0 t).length = 12 := by simp [z12]
 have L1 : (put3 (z12.set 0 t) 1 l).length = 12 := by rw [put3_length _ _ _ (by omega), L0]
 have L2 : (((put3 (z12.set 0 t) 1 l).set 4 (s / 256)).set 5 (s % 256)).length = 12 := by simp [L1]
 have L3 : (put3 (((put3 (z12.set 0 t) 1 l).set 4 (s / 256)).set 5 (s % 256)) 6 o).length = 12 := by rw [put3_length _ _ _ (by omega), L2]
 have P1 := Aside0.mk (put24_calls H 1 11 11 l (z12.set 0 t) W2.drew ho2 (by omega) (by omega) hl)
 have P2 : Aside0 (∀ W, Out W H (put3 (z12.set 0 t) 1 l) → Calls Tryd.prog 60 #[.agg #[], .slice (some ⟨H, 4, none⟩) 8 8, .int .u16 (s : Int)] W fun e w' => e = .returned (.tuple #[]) ∧ Out w' H (((put3 (z12.set 0 t) 1 l).set 4 (s / 256)).set 5 (s % 256)) ∧ W.grownBy w' (some H)) := ⟨fun W hW => put16_calls H 4 8 8 s _ W hW (by omega) (by omega) hs⟩
 have P3 : Aside0 (∀ W, Out W H (((put3 (z12.set 0 t) 1 l).set 4 (s / 256)).set 5 (s % 256)) → Calls Tryd.prog 59 #[.slice (some ⟨H, 6, none⟩) 6 6, .int .u32 (o : Int)] W fun e w' => e = .returned (.tuple #[]) ∧ Out w' H (put3 (((put3 (z12.set 0 t) 1 l).set 4 (s / 256)).set 5 (s % 256)) 6 o) ∧ W.grownBy w' (some H)) := ⟨fun W hW => put24_calls H 6 6 6 o _ W hW (by omega) (by omega) ho⟩
 have P4 : Aside0 (∀ W, Out W H (put3 (((put3 (z12.set 0 t) 1 l).set 4 (s / 256)).set 5 (s % 256)) 6 o) → Calls Tryd.prog 59 #[.slice (some ⟨H, 9, none⟩) 3 3, .int .u32 (f : Int)] W fun e w' => e = .returned (.tuple #[]) ∧ Out w' H (hdr12 t l s o f) ∧ W.grownBy w' (some H)) := ⟨fun W hW => put24_calls H 9 3 3 f _ W hW (by omega) (by omega) hf⟩
 rw [← hH]
 have HW2 := Aside0.mk hW2
 have HHE := Aside0.mk hH
 clear h hb1 ho1 hgl hW1 hb2 ho2 hG hH hl hs ho hf ht L0 L1 L2 L3 hW2
 go_enter Tryd.func46, Tryd.ntmps46
 go_wp2_with (fail)
 rw [← HW2.out]
 clear c0 f0 g0 hm
 go_still_tail 6, (by kernel_rfl)
 change wpList _ _ _ _ _ W2.drew
 clear g1
 go_wp2_with (go_at_call 59; go_loud ((with_reducible refine (P1.out).mono ?_); rintro e w3 ⟨rfl, q1, q2⟩; have O3 := Aside0.mk q1; have hb3 := keep_own HB2.out.drew q2 HHH.out; have g2 : w3.cell? ⟨g, 2, none⟩ = some (.int .u16 (s : Int)) := blk_cell (HG.out w3 hb3) 2; have B3 := Aside0.mk hb3; clear q1 q2 hb3))
 have O3d : Aside0 (Calls Tryd.prog 60 #[.agg #[], .slice (some ⟨H, 4, none⟩) 8 8, .int .u16 (s : Int)] w3.drew fun e w' => e = .returned (.tuple #[]) ∧ Out w' H (((put3 (z12.set 0 t) 1 l).set 4 (s / 256)).set 5 (s % 256)) ∧ w3.drew.grownBy w' (some H)) := ⟨P2.out w3.drew O3.out⟩
 go_still_tail 7, (by kernel_rfl)
 change wpList _ _ _ _ _ w3.drew
 clear g2
 go_wp2_with (go_at_call 60; go_loud ((with_reducible refine (O3d.out).mono ?_); rintro e w4 ⟨rfl, q1, q2⟩; have O4 := Aside0.mk q1; have hb4 := keep_own B3.out.drew q2 HHH.out; have g3 : w4.cell? ⟨g, 3, none⟩ = some (.int .u32 (o : Int)) := blk_cell (HG.out w4 hb4) 3; have B4 := Aside0.mk hb4; clear q1 q2 hb4))
 have O4d : Aside0 (Calls Tryd.prog 59 #[.slice (some ⟨H, 6, none⟩) 6 6, .int .u32 (o : Int)] w4.drew fun e w' => e = .returned (.tuple #[]) ∧ Out w' H (put3 (((put3 (z12.set 0 t) 1 l).set 4 (s / 256)).set 5 (s % 256)) 6 o) ∧ w4.drew.grownBy w' (some H)) := ⟨P3.out w4.drew O4.out⟩
 go_still_tail 6, (by kernel_rfl)
 change wpList _ _ _ _ _ w4.drew
 clear g3
 go_wp2_with (go_at_call 59; go_loud ((with_reducible refine (O4d.out).mono ?_); rintro e w5 ⟨rfl, q1, q2⟩; have O5 := Aside0.mk q1; have hb5 := keep_own B4.out.drew q2 HHH.out; have g4 : w5.cell? ⟨g, 4, none⟩ = some (.int .u32 (f : Int)) := blk_cell (HG.out w5 hb5) 4; have B5 := Aside0.mk hb5; clear q1 q2 hb5))
 have O5d : Aside0 (Calls Tryd.prog 59 #[.slice (some ⟨H, 9, none⟩) 3 3, .int .u32 (f : Int)] w5.drew fun e w' => e = .returned (.tuple #[]) ∧ Out w' H (hdr12 t l s o f) ∧ w5.drew.grownBy w' (some H)) := ⟨P4.out w5.drew O5.out⟩
 go_still_tail 6, (by kernel_rfl)
 change wpList _ _ _ _ _ w5.drew
 clear g4
 go_wp2_with (go_at_call 59; go_loud ((with_reducible refine (O5d.out).mono ?_); rintro e w6 ⟨rfl, q1, q2⟩; have O6 := Aside0.mk q1; have hb6 := keep_own B5.out.drew q2 HHH.out; have B6 := Aside0.mk hb6; clear q1 q2 hb6))
 exact bodyPost_ret (v := .tuple #[.slice (some ⟨H, 0, none⟩) 12 12, .nilIface]) (by simp [results, Tryd.results46, go_sem]) rfl ⟨rfl, O6.out, by have := B6.out; rwa [← HHE.out] at this⟩
end Go.Proofs.YtjflijebcpcbmaaDoor.G
