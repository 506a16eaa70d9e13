/-
  What is proved: a new sliding window detector, its method Check and the function that Check hands back. Conditions: a window of at most 500, numbers below 2^48.
-/
import Derived.Test.YtaifkiafoebgcaaDet
import Derived.Laws.MakeOwn
namespace Go.Proofs.Ytaifkiafoebgcaa.V
open Go.RowKit Go.Proofs.YtaifkiafoebgcaaW.PrintWords Go.Proofs.YtaifkiafoebgcaaW.PrintLast Go.Proofs.YtaifkiafoebgcaaW.PrintMore
set_option linter.unusedVariables false
set_option linter.unusedSimpArgs false

def msbOf (n : Nat) : Nat := 2 ^ (64 - n % 64) - 1
def zeros (n : Nat) : List Nat := List.replicate ((n + 63) / 64) 0

theorem make28 (c : Nat) (h : c ≤ 1000) (w : World) : (Instr.makeSlice 28 (.int .u64 (c : Int)) (.int .u64 (c : Int))).run Try.prog w = .ok (.slice (some ⟨w.heap.size, 0, none⟩) c c) (w.alloc (.cells (Array.replicate c (.int .u64 0)) 27)) := by
  have ht : Try.prog.underlying 28 = some (.slice 27) := by kernel_rfl
  have h1 : (Try.prog.info? 27).isSome = true := by kernel_rfl
  have h2 : (Try.prog.info? 27).bind (·.zero) = some (.int .u64 0) := by kernel_rfl
  have h3 : (Try.prog.info? 27).map (·.size) = some 1 := by kernel_rfl
  have h4 : (Try.prog.info? 27).map (·.bytes) = some 8 := by kernel_rfl
  obtain ⟨i, hi⟩ := Option.isSome_iff_exists.1 h1
  rw [hi] at h2 h3 h4
  have hz : i.zero = some (.int .u64 0) := h2
  have hs : i.size = 1 := Option.some.inj h3
  have hb : i.bytes = 8 := Option.some.inj h4
  clear h1 h2 h3 h4
  have := run_makeSlice (P := Try.prog) w 28 27 i (.int .u64 0) ht hi hz .u64 .u64 c c (by omega) (by omega) (by rw [hs]; omega) (by rw [hb]; omega) (by omega)
  have hm : madeCells (Value.cells (.int .u64 0)) c = Array.replicate c (.int .u64 0) := by
    apply Array.ext
    · simp [madeCells, Value.cells]
    · intro j h1 h2
      simp [madeCells, Value.cells, Nat.mod_one]
  rw [this, hs, Int.toNat_natCast, Nat.mul_one, hm]

theorem msb_wrap (r : Nat) (h1 : 1 ≤ r) (h2 : r ≤ 64) : IntKind.u64.wrap (IntKind.u64.wrap (2 ^ r) - 1) = ((2 ^ r - 1 : Nat) : Int) := by
  have h3 : (2 : Int) ^ r = ((2 ^ r : Nat) : Int) := by simp
  have h4 : 1 ≤ 2 ^ r := Nat.pow_pos (by omega)
  rw [IntKind.wrap_u64, IntKind.wrap_u64, h3]
  rcases Nat.lt_or_ge r 64 with h | h
  · have h5 : 2 ^ r < 2 ^ 64 := Nat.pow_lt_pow_right (by omega) h
    generalize 2 ^ r = x at *
    omega
  · have h6 : r = 64 := by omega
    subst h6
    rfl

theorem wcells_zeros (c : Nat) : (wcells (List.replicate c 0)).toArray = Array.replicate c (.int .u64 0) := by
  simp [wcells]

set_option maxHeartbeats 4000000 in
set_option maxRecDepth 100000 in
theorem fixed_calls (n : Nat) (hn0 : 0 < n) (hn : n ≤ 500) (w : World) :
    Calls Try.prog 20 #[.int .u64 (n : Int)] w fun e w' => ∃ gm gb, e = .returned (.pointer (some ⟨gm, 0, none⟩)) ∧ Mask w' gm gb n (msbOf n) (zeros n) ∧ w.heap.size ≤ gm ∧ w.heap.size ≤ gb ∧ Below w.heap.size w w' := by
  obtain ⟨c, hc⟩ : ∃ c, c = (n + 63) / 64 := ⟨_, rfl⟩
  obtain ⟨r, hr⟩ : ∃ r, r = 64 - n % 64 := ⟨_, rfl⟩
  have e1 : IntKind.u64.wrap ((n : Int) + 63) = (n : Int) + 63 := by rw [IntKind.wrap_u64]; omega
  have e2 : ((n : Int) + 63) / 64 = (c : Int) := by omega
  have e3 : ((((n : Int) + 63) / 64) == 0) = false := by simp; omega
  have e4 : (64 : Int) - (n : Int) % 64 = (r : Int) := by omega
  have e5 : IntKind.u64.wrap (r : Int) = (r : Int) := by rw [IntKind.wrap_u64]; omega
  have hm : ∀ w, (Instr.makeSlice 28 (.int .u64 (((n : Int) + 63) / 64)) (.int .u64 (((n : Int) + 63) / 64))).run Try.prog w = .ok (.slice (some ⟨w.heap.size, 0, none⟩) c c) (w.alloc (.cells (Array.replicate c (.int .u64 0)) 27)) := by
    rw [e2]
    exact make28 c (by omega)
  have HC := Aside0.mk hc
  have HR := Aside0.mk hr
  clear hc hr e2
  go_enter Try.func20, Try.ntmps20
  go_wp2
  go_ret
  rw [msb_wrap r (by have := HR.out; omega) (by have := HR.out; omega)]
  have hm0 : msbOf n = 2 ^ r - 1 := by unfold msbOf; rw [HR.out]
  have hzl : (zeros n).length = c := by unfold zeros; rw [List.length_replicate, HC.out]
  refine ⟨_, w.heap.size, rfl, ⟨?_, ?_⟩, by omega, Nat.le_refl _, ?_⟩
  · rw [hm0, hzl]
    exact heap_alloc2_new w _ _
  · rw [zeros, wcells_zeros, ← HC.out]
    exact heap_alloc2_old w _ _
  · exact ((Below.refl _ _).alloc (Nat.le_refl _) _).alloc (by simp) _

set_option maxHeartbeats 4000000 in
set_option maxRecDepth 100000 in
theorem new_calls (n most : Nat) (hn0 : 0 < n) (hn : n ≤ 500) (w : World) :
    Calls Try.prog 18 #[.int .u64 (n : Int), .int .u64 (most : Int)] w fun e w' => ∃ gd gm gb, e = .returned (.iface 74 (.pointer (some ⟨gd, 0, none⟩))) ∧ Det w' gd gm gb n (msbOf n) 0 most (zeros n) ∧ w.heap.size ≤ gd ∧ w.heap.size ≤ gb ∧ Below w.heap.size w w' := by
  go_enter Try.func18, Try.ntmps18
  go_wp2_with (go_at_call 20; go_loud ((with_reducible refine (fixed_calls n hn0 hn w).mono ?_); rintro e w1 ⟨gm, gb, rfl, h1, h2, h3, h4⟩; have H1 := Aside0.mk h1; have H3 := Aside0.mk h3; have H4 := Aside0.mk h4; clear h1 h2 h3 h4))
  go_ret
  have hgd : w.heap.size ≤ w1.heap.size := H4.out.size
  refine ⟨_, gm, gb, rfl, ⟨heap_alloc_new _ _, ⟨?_, ?_⟩⟩, hgd, H3.out, H4.out.alloc hgd _⟩
  · rw [heap_alloc_old _ _ (blk_lt H1.out.m)]; exact H1.out.m
  · rw [heap_alloc_old _ _ (blk_lt H1.out.b)]; exact H1.out.b

theorem Det.alloc {w : World} {gd gm gb win msb latest most : Nat} {bs : List Nat} (h : Det w gd gm gb win msb latest most bs) (o : Obj) : Det (w.alloc o) gd gm gb win msb latest most bs :=
  ⟨by rw [heap_alloc_old _ _ (blk_lt h.d)]; exact h.d, by rw [heap_alloc_old _ _ (blk_lt h.k.m)]; exact h.k.m, by rw [heap_alloc_old _ _ (blk_lt h.k.b)]; exact h.k.b⟩
theorem cell_drewN (w : World) (n : Nat) (p : Addr) : (w.drewN n).cell? p = w.cell? p := rfl
theorem Below.drewN {B : Nat} {a w : World} (h : Below B a w) (n : Nat) : Below B a (w.drewN n) := ⟨h.os, h.tape, h.output, h.size, h.block⟩

set_option maxHeartbeats 4000000 in
set_option maxRecDepth 100000 in
theorem ask_calls (gd gm gb win msb latest most : Nat) (bs : List Nat) (seq : Nat) (w : World) (h : Det w gd gm gb win msb latest most bs) (hb : Bd win msb latest most bs) (hs : W64 seq) :
    Calls Try.prog 42 #[.pointer (some ⟨gd, 0, none⟩), .int .u64 (seq : Int)] w fun e w' => ((fresh win latest most bs seq = false ∧ ∃ v, e = .returned (.tuple #[v, .bool false])) ∨ (fresh win latest most bs seq = true ∧ ∃ p q, e = .returned (.tuple #[.func (.func 46) #[] #[.pointer (some ⟨p, 0, none⟩), .pointer (some ⟨q, 0, none⟩)], .bool true]) ∧ w'.cell? ⟨p, 0, none⟩ = some (.pointer (some ⟨gd, 0, none⟩)) ∧ w'.cell? ⟨q, 0, none⟩ = some (.int .u64 (seq : Int)))) ∧ Det w' gd gm gb win msb latest most bs ∧ Below w.heap.size w w' := by
  have hck : ∀ w, Det w gd gm gb win msb latest most bs → _ := fun w h => check_calls gd gm gb win msb latest most bs seq w h hb hs
  obtain ⟨w2, hw2⟩ : ∃ w2, w2 = ((w.alloc (.cells #[.pointer (some ⟨gd, 0, none⟩)] 74)).alloc (.cells #[.int .u64 (seq : Int)] 27)) := ⟨_, rfl⟩
  have hck2 := hck w2 (by rw [hw2]; exact (h.alloc _).alloc _)
  have hd2 : Det w2 gd gm gb win msb latest most bs := by rw [hw2]; exact (h.alloc _).alloc _
  have hb2 : Below w.heap.size w w2 := by rw [hw2]; exact ((Below.refl _ _).alloc (Nat.le_refl _) _).alloc (by simp) _
  have hp2 : w2.cell? ⟨w.heap.size, 0, none⟩ = some (.pointer (some ⟨gd, 0, none⟩)) := by rw [hw2, blk_cell (heap_alloc2_old w _ _)]; rfl
  have hq2 : w2.cell? ⟨w.heap.size + 1, 0, none⟩ = some (.int .u64 (seq : Int)) := by rw [hw2, blk_cell (heap_alloc2_new w _ _)]; rfl
  have HCK := Aside0.mk hck2
  have H := Aside0.mk hd2
  have HB := Aside0.mk hb2
  have HP := Aside0.mk hp2
  have HQ := Aside0.mk hq2
  have HW := Aside0.mk hw2
  clear hck h hb hs hck2 hw2 hd2 hb2 hp2 hq2
  cases hf : fresh win latest most bs seq
  · rw [hf] at HCK
    go_enter Try.func42, Try.ntmps42
    go_wp2_with (go_at_call 44; go_loud (rw [← HW.out]; (with_reducible refine (HCK.out).mono ?_); rintro e w1 ⟨rfl, ⟨n, rfl⟩⟩))
    exact bodyPost_ret (v := .tuple #[.func (.func 45) #[] #[], .bool false]) (by simp [results, Try.results42, go_sem]) rfl ⟨.inl ⟨trivial, _, rfl⟩, H.out.drewN n, Below.drewN HB.out n⟩
  · rw [hf] at HCK
    go_enter Try.func42, Try.ntmps42
    go_wp2_with (go_at_call 44; go_loud (rw [← HW.out]; (with_reducible refine (HCK.out).mono ?_); rintro e w1 ⟨rfl, ⟨n, rfl⟩⟩))
    exact bodyPost_ret (v := .tuple #[.func (.func 46) #[] #[.pointer (some ⟨w.heap.size, 0, none⟩), .pointer (some ⟨w.heap.size + 1, 0, none⟩)], .bool true]) (by simp [results, Try.results42, go_sem]) rfl ⟨.inr ⟨trivial, _, _, rfl, HP.out, HQ.out⟩, H.out.drewN n, Below.drewN HB.out n⟩

set_option maxHeartbeats 4000000 in
set_option maxRecDepth 100000 in
theorem take_calls (p q gd gm gb win msb latest most : Nat) (bs : List Nat) (seq : Nat) (w : World) (hp : w.cell? ⟨p, 0, none⟩ = some (.pointer (some ⟨gd, 0, none⟩))) (hq : w.cell? ⟨q, 0, none⟩ = some (.int .u64 (seq : Int))) (h : Det w gd gm gb win msb latest most bs) (hb : Bd win msb latest most bs) (hs : seq ≤ most) :
    Calls Try.prog 46 #[.pointer (some ⟨p, 0, none⟩), .pointer (some ⟨q, 0, none⟩)] w fun e w' => (∃ b, e = .returned (.bool b)) ∧ Det w' gd gm gb win msb (max latest seq) most (taken win msb latest most bs seq) ∧ Only w w' gd gb := by
  have hc : Calls Try.prog 43 #[.pointer (some ⟨gd, 0, none⟩), .int .u64 (seq : Int)] w fun e w' => (∃ b, e = .returned (.bool b)) ∧ Det w' gd gm gb win msb (max latest seq) most (taken win msb latest most bs seq) ∧ Only w w' gd gb := by
    rcases Nat.lt_or_ge latest seq with hl | hl
    · rw [Nat.max_eq_right (by omega)]
      exact accept_new gd gm gb win msb latest most bs seq w h hb hs hl
    · rw [Nat.max_eq_left hl]
      exact accept_old gd gm gb win msb latest most bs seq w h hb hl
  have HC := Aside0.mk hc
  clear hc h hb hs
  go_enter Try.func46, Try.ntmps46
  go_wp2_with (go_at_call 43; go_loud ((with_reducible refine (HC.out).mono ?_); rintro e w1 ⟨⟨b, rfl⟩, h1, h2⟩; have H1 := Aside0.mk h1; have H2 := Aside0.mk h2; clear h1 h2))
  go_ret
  exact ⟨⟨_, rfl⟩, H1.out, H2.out⟩
end Go.Proofs.Ytaifkiafoebgcaa.V
