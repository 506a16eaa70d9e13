/-
  What is proved: the methods Bit, SetBit and Lsh of the fixed big integer of the replay detector answer as functions on lists of words. Conditions: words below 2^64, at least one.
-/
import Derived.Test.YtaifkiafoebgcaaV0
import Derived.Laws.BitsAllLaws
import Derived.RegionTactic
import Derived.BigRegion
import Derived.StillTailTactics
import Derived.Outline
namespace Go.Proofs.Ytaifkiafoebgcaa.V
open Go.RowKit Go.Proofs.YtaifkiafoebgcaaW.PrintWords Go.Proofs.YtaifkiafoebgcaaW.PrintLast Go.Proofs.YtaifkiafoebgcaaW.PrintMore
set_option linter.unusedVariables false
set_option linter.unusedSimpArgs false

def W64 (b : Nat) : Prop := b < 18446744073709551616
def wcells (bs : List Nat) : List Value := bs.map fun x : Nat => .int .u64 (x : Int)

structure Mask (w : World) (gm gb win msb : Nat) (bs : List Nat) : Prop where
  m : w.heap[gm]? = some (.cells #[.slice (some ⟨gb, 0, none⟩) bs.length bs.length, .int .u64 (win : Int), .int .u64 (msb : Int)] 80 (0, 0))
  b : w.heap[gb]? = some (.cells (wcells bs).toArray 27 (0, 0))

theorem Mask.c0 {w : World} {gm gb win msb : Nat} {bs : List Nat} (h : Mask w gm gb win msb bs) : w.cell? ⟨gm, 0, none⟩ = some (.slice (some ⟨gb, 0, none⟩) bs.length bs.length) := by rw [blk_cell h.m]; rfl
theorem Mask.c1 {w : World} {gm gb win msb : Nat} {bs : List Nat} (h : Mask w gm gb win msb bs) : w.cell? ⟨gm, 1, none⟩ = some (.int .u64 (win : Int)) := by rw [blk_cell h.m]; rfl
theorem Mask.c2 {w : World} {gm gb win msb : Nat} {bs : List Nat} (h : Mask w gm gb win msb bs) : w.cell? ⟨gm, 2, none⟩ = some (.int .u64 (msb : Int)) := by rw [blk_cell h.m]; rfl
theorem Mask.cb {w : World} {gm gb win msb : Nat} {bs : List Nat} (h : Mask w gm gb win msb bs) (i : Nat) (hi : i < bs.length) : w.cell? ⟨gb, i, none⟩ = some (.int .u64 ((bs.getD i 0 : Nat) : Int)) := by
  rw [blk_cell h.b]
  simp [wcells, hi, List.getD_eq_getElem?_getD]
theorem Mask.ne {w : World} {gm gb win msb : Nat} {bs : List Nat} (h : Mask w gm gb win msb bs) : gm ≠ gb := blk_ne h.m h.b (by decide)
theorem Mask.set {w : World} {gm gb win msb : Nat} {bs : List Nat} (h : Mask w gm gb win msb bs) (i x : Nat) (hi : i < bs.length) : Mask (w.setCell ⟨gb, i, none⟩ (.int .u64 (x : Int))) gm gb win msb (bs.set i x) := by
  refine ⟨?_, ?_⟩
  · rw [List.length_set]
    exact blk_far h.m (p := ⟨gb, i, none⟩) h.ne _
  · rw [blk_set h.b]
    congr 2
    simp [wcells, List.map_set]
theorem Mask.drew {w : World} {gm gb win msb : Nat} {bs : List Nat} (h : Mask w gm gb win msb bs) : Mask w.drew gm gb win msb bs := ⟨h.m, h.b⟩

/-- Is bit i set? -/
def bitAt (bs : List Nat) (win i : Nat) : Bool := decide (i < win) && (bs.getD (i / 64) 0).testBit (i % 64)

theorem and_bit (x i : Nat) (hx : x < 18446744073709551616) (hi : i < 64) : bits .and .u64 (x : Int) (IntKind.u64.wrap (2 ^ i)) = (((x.testBit i).toNat * 2 ^ i : Nat) : Int) := by
  have h2 : (2 : Int) ^ i = ((2 ^ i : Nat) : Int) := by simp
  have h3 : 2 ^ i < 2 ^ 64 := Nat.pow_lt_pow_right (by omega) hi
  rw [h2, IntKind.wrap_u64, Int.emod_eq_of_lt (Int.natCast_nonneg _) (by omega), u64_and_nat x (2 ^ i) hx (by omega)]
  congr 1
  apply Nat.eq_of_testBit_eq
  intro j
  rw [Nat.testBit_and, Nat.testBit_two_pow]
  by_cases hj : i = j
  · subst hj
    cases hb : x.testBit i <;> simp [Nat.testBit_two_pow]
  · cases hb : x.testBit i <;> simp [Nat.testBit_two_pow, hj]

theorem and_bit_ne (x i : Nat) (hx : x < 18446744073709551616) (hi : i < 64) : ∃ y : Int, bits .and .u64 (x : Int) (IntKind.u64.wrap (2 ^ i)) = y ∧ (y != 0) = x.testBit i := by
  refine ⟨_, and_bit x i hx hi, ?_⟩
  have h2 : 0 < 2 ^ i := Nat.pow_pos (by omega)
  cases x.testBit i
  · simp
  · show (((1 * 2 ^ i : Nat) : Int) != 0) = true
    rw [bne_iff_ne]
    omega

set_option maxHeartbeats 4000000 in
set_option maxRecDepth 100000 in
theorem bit_calls (gm gb win msb : Nat) (bs : List Nat) (i : Nat) (w : World) (h : Mask w gm gb win msb bs) (hb : ∀ b ∈ bs, W64 b) (hw : win ≤ bs.length * 64) (hi : W64 i) (hl : bs.length ≤ 1000) :
    Calls Try.prog 47 #[.pointer (some ⟨gm, 0, none⟩), .int .u64 (i : Int)] w fun e w' => e = .returned (.int .u64 ((bitAt bs win i).toNat : Int)) ∧ w = w' := by
  have c0 := h.c0
  have c1 := h.c1
  by_cases hiw : i < win
  · have hlt : i / 64 < bs.length := by omega
    have cb := h.cb (i / 64) hlt
    have hx : bs.getD (i / 64) 0 < 18446744073709551616 := by
      rw [List.getD_eq_getElem?_getD, List.getElem?_eq_getElem hlt]
      exact hb _ (List.getElem_mem hlt)
    obtain ⟨y, hab, hy⟩ := and_bit_ne (bs.getD (i / 64) 0) (i % 64) hx (by omega)
    obtain ⟨x, hxd⟩ : ∃ x, x = bs.getD (i / 64) 0 := ⟨_, rfl⟩
    rw [← hxd] at cb hab hy
    have hbit : bitAt bs win i = x.testBit (i % 64) := by unfold bitAt; rw [decide_eq_true hiw, ← hxd, Bool.true_and]
    have hi' : i < 18446744073709551616 := hi
    have HBIT := Aside0.mk hbit
    have H := Aside0.mk h
    clear hxd hbit h hb hx hi
    cases hxb : x.testBit (i % 64)
    · rw [hxb] at hy HBIT
      go_enter Try.func47, Try.ntmps47
      go_wp2
      go_ret
      exact ⟨by rw [HBIT.out]; rfl, rfl⟩
    · rw [hxb] at hy HBIT
      go_enter Try.func47, Try.ntmps47
      go_wp2
      go_ret
      exact ⟨by rw [HBIT.out]; rfl, rfl⟩
  · have hbit : bitAt bs win i = false := by unfold bitAt; rw [decide_eq_false hiw, Bool.false_and]
    rw [hbit]
    have H := Aside0.mk h
    have hf : win ≤ i := by omega
    clear h hb hbit
    go_enter Try.func47, Try.ntmps47
    go_wp2
    go_ret
    exact ⟨rfl, rfl⟩

theorem or_bit (x i : Nat) (hx : x < 18446744073709551616) (hi : i < 64) : bits .or .u64 (x : Int) (IntKind.u64.wrap (2 ^ i)) = ((x ||| 2 ^ i : Nat) : Int) := by
  have h2 : (2 : Int) ^ i = ((2 ^ i : Nat) : Int) := by simp
  have h3 : 2 ^ i < 2 ^ 64 := Nat.pow_lt_pow_right (by omega) hi
  rw [h2, IntKind.wrap_u64, Int.emod_eq_of_lt (Int.natCast_nonneg _) (by omega), u64_or_nat x (2 ^ i) hx (by omega)]

/-- The words behind SetBit. -/
def setAt (bs : List Nat) (win i : Nat) : List Nat := if i < win then bs.set (i / 64) (bs.getD (i / 64) 0 ||| 2 ^ (i % 64)) else bs

theorem mask_grown_drew {w : World} {gb : Nat} (a : Nat) (v : Value) : w.grownBy (w.setCell ⟨gb, a, none⟩ v).drew (some gb) := ⟨rfl, rfl, rfl, by simp [World.setCell, World.drew], fun k _ hk => Below.heap_setCell w _ _ k (fun e => hk (by rw [e]))⟩
theorem mask_grown {w : World} {gb : Nat} (a : Nat) (v : Value) : w.grownBy (w.setCell ⟨gb, a, none⟩ v) (some gb) := ⟨rfl, rfl, rfl, by simp [World.setCell], fun k _ hk => Below.heap_setCell w _ _ k (fun e => hk (by rw [e]))⟩

set_option maxHeartbeats 4000000 in
set_option maxRecDepth 100000 in
theorem setbit_calls (gm gb win msb : Nat) (bs : List Nat) (i : Nat) (w : World) (h : Mask w gm gb win msb bs) (hb : ∀ b ∈ bs, W64 b) (hw : win ≤ bs.length * 64) (hi : W64 i) (hl : bs.length ≤ 1000) :
    Calls Try.prog 49 #[.pointer (some ⟨gm, 0, none⟩), .int .u64 (i : Int)] w fun e w' => e = .returned (.tuple #[]) ∧ Mask w' gm gb win msb (setAt bs win i) ∧ w.grownBy w' (some gb) := by
  have c0 := h.c0
  have c1 := h.c1
  by_cases hiw : i < win
  · have hlt : i / 64 < bs.length := by omega
    have cb := h.cb (i / 64) hlt
    have hx : bs.getD (i / 64) 0 < 18446744073709551616 := by
      rw [List.getD_eq_getElem?_getD, List.getElem?_eq_getElem hlt]
      exact hb _ (List.getElem_mem hlt)
    have hab := or_bit (bs.getD (i / 64) 0) (i % 64) hx (by omega)
    obtain ⟨x, hxd⟩ : ∃ x, x = bs.getD (i / 64) 0 := ⟨_, rfl⟩
    obtain ⟨y, hyd⟩ : ∃ y, y = x ||| 2 ^ (i % 64) := ⟨_, rfl⟩
    rw [← hxd] at cb hab
    rw [← hyd] at hab
    have hs : setAt bs win i = bs.set (i / 64) y := by unfold setAt; rw [if_pos hiw, ← hxd, ← hyd]
    have hi' : i < 18446744073709551616 := hi
    have hfz := blk_frozen h.b (i / 64)
    have HS := Aside0.mk hs
    have H := Aside0.mk h
    have HLT := Aside0.mk hlt
    clear hxd hs h hb hx hi hyd
    go_enter Try.func49, Try.ntmps49
    go_wp2
    go_end0
    exact ⟨rfl, by rw [HS.out]; exact H.out.set (i / 64) y HLT.out, mask_grown _ _⟩
  · have hs : setAt bs win i = bs := by unfold setAt; rw [if_neg hiw]
    have HS := Aside0.mk hs
    have H := Aside0.mk h
    have hf : win ≤ i := by omega
    clear h hb hs
    go_enter Try.func49, Try.ntmps49
    go_wp2
    exact bodyPost_ret (v := .tuple #[]) (by simp [results, Try.results49, go_sem]) rfl ⟨rfl, by rw [HS.out]; exact H.out, World.grownBy.refl w _⟩

/-! ### Lsh -/
/-- What is carried into word i. -/
def carry (bs : List Nat) (n i : Nat) : Nat :=
  if n / 64 ≤ i then (if n / 64 < i then (bs.getD (i - n / 64) 0 * 2 ^ (n % 64)) % 18446744073709551616 ||| bs.getD (i - n / 64 - 1) 0 / 2 ^ (64 - n % 64) else (bs.getD (i - n / 64) 0 * 2 ^ (n % 64)) % 18446744073709551616) else 0
/-- The new word i. -/
def word (bs : List Nat) (n i : Nat) : Nat := (bs.getD i 0 * 2 ^ min n 64) % 18446744073709551616 ||| carry bs n i
/-- The words when those from j on are done. -/
def mid (bs : List Nat) (n j : Nat) : List Nat := (List.range bs.length).map fun i => if i < j then bs.getD i 0 else word bs n i
/-- The words behind Lsh. -/
def shifted (bs : List Nat) (n msb : Nat) : List Nat := (mid bs n 0).set (bs.length - 1) (word bs n (bs.length - 1) &&& msb)

theorem mid_length (bs : List Nat) (n j : Nat) : (mid bs n j).length = bs.length := by simp [mid]
theorem mid_getD (bs : List Nat) (n j i : Nat) (hi : i < bs.length) : (mid bs n j).getD i 0 = if i < j then bs.getD i 0 else word bs n i := by
  simp [mid, List.getD_eq_getElem?_getD, hi]
theorem mid_all (bs : List Nat) (n : Nat) : mid bs n bs.length = bs := by
  apply List.ext_getElem
  · simp [mid]
  · intro i h1 h2
    simp [mid, h2, List.getD_eq_getElem?_getD]
theorem mid_set (bs : List Nat) (n j : Nat) (hj : j < bs.length) : (mid bs n (j + 1)).set j (word bs n j) = mid bs n j := by
  apply List.ext_getElem
  · simp [mid]
  · intro i h1 h2
    have hi : i < bs.length := by simpa [mid] using h2
    rw [List.getElem_set]
    simp only [mid, List.getElem_map, List.getElem_range]
    by_cases e : j = i
    · subst e
      simp
    · rw [if_neg e]
      by_cases hlt : i < j
      · rw [if_pos (by omega), if_pos hlt]
      · rw [if_neg (by omega), if_neg hlt]
theorem carry_lt (bs : List Nat) (hb : ∀ b ∈ bs, W64 b) (n i : Nat) : carry bs n i < 18446744073709551616 := by
  have h0 : ∀ j, bs.getD j 0 < 18446744073709551616 := by
    intro j
    rw [List.getD_eq_getElem?_getD]
    rcases Nat.lt_or_ge j bs.length with h | h
    · rw [List.getElem?_eq_getElem h]
      exact hb _ (List.getElem_mem h)
    · rw [List.getElem?_eq_none h]
      simp
  have h1 : (18446744073709551616 : Nat) = 2 ^ 64 := by decide
  unfold carry
  split
  · split
    · rw [h1]
      refine Nat.or_lt_two_pow (Nat.mod_lt _ (by decide)) (Nat.lt_of_le_of_lt (Nat.div_le_self _ _) ?_)
      rw [← h1]
      exact h0 _
    · exact Nat.mod_lt _ (by decide)
  · decide
theorem word_lt (bs : List Nat) (hb : ∀ b ∈ bs, W64 b) (n i : Nat) : word bs n i < 18446744073709551616 := by
  have h1 : (18446744073709551616 : Nat) = 2 ^ 64 := by decide
  unfold word
  have h2 := carry_lt bs hb n i
  rw [h1] at h2 ⊢
  exact Nat.or_lt_two_pow (Nat.mod_lt _ (by decide)) h2
theorem mid_lt (bs : List Nat) (hb : ∀ b ∈ bs, W64 b) (n j : Nat) : ∀ b ∈ mid bs n j, W64 b := by
  intro b hm
  obtain ⟨i, hi, rfl⟩ := List.mem_map.1 hm
  have hi' : i < bs.length := List.mem_range.1 hi
  split
  · rw [List.getD_eq_getElem?_getD, List.getElem?_eq_getElem hi']
    exact hb _ (List.getElem_mem hi')
  · exact word_lt bs hb n i

theorem shl_nat (x n : Nat) : IntKind.u64.wrap ((x : Int) * 2 ^ n) = (((x * 2 ^ n) % 18446744073709551616 : Nat) : Int) := by
  rw [IntKind.wrap_u64, Int.natCast_emod, Int.natCast_mul]
  simp
theorem shr_nat (x n : Nat) : ((x : Int) / 2 ^ n) = ((x / 2 ^ n : Nat) : Int) := by
  rw [Int.natCast_ediv]
  simp

theorem getD_lt {bs : List Nat} (hb : ∀ b ∈ bs, W64 b) (q : Nat) : bs.getD q 0 < 18446744073709551616 := by
  rw [List.getD_eq_getElem?_getD]
  rcases Nat.lt_or_ge q bs.length with h | h
  · rw [List.getElem?_eq_getElem h]
    exact hb _ (List.getElem_mem h)
  · rw [List.getElem?_eq_none h]
    simp
theorem word_far (bs : List Nat) (hb : ∀ b ∈ bs, W64 b) (n i : Nat) (h : n / 64 < i) :
    bits .or .u64 (IntKind.u64.wrap ((bs.getD i 0 : Nat) * 2 ^ min n 64)) (bits .or .u64 (IntKind.u64.wrap ((bs.getD (i - n / 64) 0 : Nat) * 2 ^ (n % 64))) (((bs.getD (i - n / 64 - 1) 0 : Nat) : Int) / 2 ^ (64 - n % 64))) = ((word bs n i : Nat) : Int) := by
  have hc : carry bs n i = (bs.getD (i - n / 64) 0 * 2 ^ (n % 64)) % 18446744073709551616 ||| bs.getD (i - n / 64 - 1) 0 / 2 ^ (64 - n % 64) := by
    unfold carry
    rw [if_pos (by omega), if_pos h]
  rw [shl_nat, shl_nat, shr_nat, u64_or_nat _ _ (Nat.mod_lt _ (by decide)) (Nat.lt_of_le_of_lt (Nat.div_le_self _ _) (getD_lt hb _)), ← hc, u64_or_nat _ _ (Nat.mod_lt _ (by decide)) (carry_lt bs hb n i)]
  rfl
theorem word_at (bs : List Nat) (hb : ∀ b ∈ bs, W64 b) (n i : Nat) (h : n / 64 = i) :
    bits .or .u64 (IntKind.u64.wrap ((bs.getD i 0 : Nat) * 2 ^ min n 64)) (IntKind.u64.wrap ((bs.getD (i - n / 64) 0 : Nat) * 2 ^ (n % 64))) = ((word bs n i : Nat) : Int) := by
  have hc : carry bs n i = (bs.getD (i - n / 64) 0 * 2 ^ (n % 64)) % 18446744073709551616 := by
    unfold carry
    rw [if_pos (by omega), if_neg (by omega)]
  rw [shl_nat, shl_nat, ← hc, u64_or_nat _ _ (Nat.mod_lt _ (by decide)) (carry_lt bs hb n i)]
  rfl
theorem word_near (bs : List Nat) (hb : ∀ b ∈ bs, W64 b) (n i : Nat) (h : i < n / 64) :
    bits .or .u64 (IntKind.u64.wrap ((bs.getD i 0 : Nat) * 2 ^ min n 64)) 0 = ((word bs n i : Nat) : Int) := by
  have hc : carry bs n i = 0 := by
    unfold carry
    rw [if_neg (by omega)]
  have h0 : (0 : Int) = ((carry bs n i : Nat) : Int) := by rw [hc]; rfl
  rw [shl_nat, h0, u64_or_nat _ _ (Nat.mod_lt _ (by decide)) (carry_lt bs hb n i)]
  rfl
/-- The next count. -/
theorem next_i (i : Nat) : (i = 0 ∧ Value.int .i64 ((i : Int) - 1) = .int .i64 (-1)) ∨ ∃ j : Nat, i = j + 1 ∧ Value.int .i64 ((i : Int) - 1) = .int .i64 (j : Int) := by
  cases i with
  | zero => exact .inl ⟨rfl, rfl⟩
  | succ j => exact .inr ⟨j, rfl, by congr 1; omega⟩

set_option maxHeartbeats 8000000 in
set_option maxRecDepth 100000 in
theorem lsh_calls (gm gb win msb : Nat) (bs : List Nat) (n : Nat) (w : World) (h : Mask w gm gb win msb bs) (hb : ∀ b ∈ bs, W64 b) (hn : n < 18446744073709551616) (hn0 : 0 < n) (hl : bs.length ≤ 1000) (h0 : 0 < bs.length) (hm : W64 msb) :
    Calls Try.prog 48 #[.pointer (some ⟨gm, 0, none⟩), .int .u64 (n : Int)] w fun e w' => e = .returned (.tuple #[]) ∧ Mask w' gm gb win msb (shifted bs n msb) ∧ w.grownBy w' (some gb) := by
  have c0 := h.c0
  have hne : ((n : Int) == 0) = false := by simp; omega
  have H := Aside0.mk h
  have HBB := Aside0.mk hb
  clear h hb
  go_enter Try.func48, Try.ntmps48
  go_wp2
  go_loopg [6] bs.length (fun kq v6 wr => Aside0 (kq ≤ bs.length) ∧ ((kq = 0 ∧ v6 = .int .i64 (-1)) ∨ ∃ i : Nat, kq = i + 1 ∧ v6 = .int .i64 (i : Int)) ∧ Aside0 (Mask wr gm gb win msb (mid bs n kq)) ∧ Aside0 (w.grownBy wr (some gb)))
  case atStart =>
    refine ⟨⟨Nat.le_refl _⟩, .inr ⟨bs.length - 1, by omega, ?_⟩, ⟨by rw [mid_all]; exact H.out⟩, ⟨World.grownBy.refl w _⟩⟩
    congr 1
    omega
  case round =>
    obtain ⟨HK, hv, HM, HG⟩ := hrel
    rcases hv with ⟨hk0, rfl⟩ | ⟨i, hk, rfl⟩
    · have hM : Mask wr gm gb win msb (mid bs n 0) := by have := HM.out; rwa [hk0] at this
      have HM2 := Aside0.mk hM
      have cr := hM.c0
      rw [mid_length] at cr
      have c2 := hM.c2
      have cl := hM.cb (bs.length - 1) (by rw [mid_length]; omega)
      rw [mid_getD bs n 0 _ (by omega), if_neg (by omega)] at cl
      have hfl := blk_frozen hM.b (bs.length - 1)
      have hwl := word_lt bs HBB.out n (bs.length - 1)
      have hand := u64_and_nat (word bs n (bs.length - 1)) msb hwl hm
      have HS : Aside0 (shifted bs n msb = (mid bs n 0).set (bs.length - 1) (word bs n (bs.length - 1) &&& msb)) := ⟨rfl⟩
      obtain ⟨xl, hxl⟩ : ∃ x, x = word bs n (bs.length - 1) := ⟨_, rfl⟩
      rw [← hxl] at cl hand HS
      obtain ⟨L, hL⟩ : ∃ L, L = bs.length - 1 := ⟨_, rfl⟩
      have hLL : bs.length = L + 1 := by omega
      rw [← hL] at cl hfl HS
      rw [hLL] at cr
      have HLL := Aside0.mk hLL
      have HAND := Aside0.mk hand
      have hwr : IntKind.i64.wrap (L : Int) = (L : Int) := IntWalk.i64_in _ (by omega)
      have hL0 : (0 : Int) ≤ (L : Int) := by omega
      have hL1 : (L : Int) < (L : Int) + 1 := by omega
      have hL2 : L < L + 1 := by omega
      clear hM HM c0 hxl hwl hL hLL hk0 hand
      go_wp2
      go_still_tail 18, (by kernel_rfl)
      clear hwr
      go_wp2
      go_end0
      refine ⟨rfl, ?_, HG.out.trans (mask_grown_drew _ _)⟩
      rw [HAND.out, HS.out]
      exact (HM2.out.set L _ (by rw [mid_length, HLL.out]; omega)).drew
    · have hil : i < bs.length := by have := HK.out; omega
      have hM : Mask wr gm gb win msb (mid bs n (i + 1)) := by have := HM.out; rwa [hk] at this
      have HM2 := Aside0.mk hM
      have HKI := Aside0.mk hk
      have cr := hM.c0
      rw [mid_length] at cr
      have hcell : ∀ q, q ≤ i → wr.cell? ⟨gb, q, none⟩ = some (.int .u64 ((bs.getD q 0 : Nat) : Int)) := by
        intro q hq
        have h1 := hM.cb q (by rw [mid_length]; omega)
        rwa [mid_getD bs n (i + 1) q (by omega), if_pos (by omega)] at h1
      have hx : ∀ q, bs.getD q 0 < 18446744073709551616 := by
        intro q
        rw [List.getD_eq_getElem?_getD]
        rcases Nat.lt_or_ge q bs.length with h | h
        · rw [List.getElem?_eq_getElem h]
          exact HBB.out _ (List.getElem_mem h)
        · rw [List.getElem?_eq_none h]
          simp
      have hfz : ∀ q, wr.frozen? ⟨gb, q, none⟩ = false := fun q => blk_frozen hM.b q
      have hfi := hfz i
      have ci := hcell i (Nat.le_refl _)
      clear hM HM hk c0
      have HX := Aside0.mk hx
      clear hx
      by_cases hlt : n / 64 < i
      · have ca := hcell (i - n / 64) (by omega)
        have cb := hcell (i - n / 64 - 1) (by omega)
        have hwd := word_far bs HBB.out n i hlt
        obtain ⟨xa, hxa⟩ : ∃ x, x = bs.getD (i - n / 64) 0 := ⟨_, rfl⟩
        obtain ⟨xb, hxb⟩ : ∃ x, x = bs.getD (i - n / 64 - 1) 0 := ⟨_, rfl⟩
        obtain ⟨xi, hxi⟩ : ∃ x, x = bs.getD i 0 := ⟨_, rfl⟩
        rw [← hxa] at ca hwd
        rw [← hxb] at cb hwd
        rw [← hxi] at ci hwd
        have HWD := Aside0.mk hwd
        have HHF : Aside0 (∀ q, wr.frozen? ⟨gb, q, none⟩ = false) := ⟨hfz⟩
        clear hxa hxb hxi hcell hfz hwd
        go_wp2
        go_still_tail 17, (by kernel_rfl)
        go_wp2
        go_roundg i
        case measure => have := HKI.out; omega
        case rel => exact ⟨⟨by omega⟩, next_i i, ⟨by rw [HWD.out, ← mid_set bs n i hil]; exact (HM2.out.set i _ (by rw [mid_length]; exact hil)).drew⟩, ⟨HG.out.trans (mask_grown_drew _ _)⟩⟩
      · by_cases heq : n / 64 = i
        · have ca := hcell (i - n / 64) (by omega)
          have hwd := word_at bs HBB.out n i heq
          obtain ⟨xa, hxa⟩ : ∃ x, x = bs.getD (i - n / 64) 0 := ⟨_, rfl⟩
          obtain ⟨xi, hxi⟩ : ∃ x, x = bs.getD i 0 := ⟨_, rfl⟩
          rw [← hxa] at ca hwd
          rw [← hxi] at ci hwd
          have HWD := Aside0.mk hwd
          have t1 : ((n : Int) / 64 ≤ (i : Int)) := by omega
          have t2 : ¬ (1 ≤ (i : Int) - (n : Int) / 64) := by omega
          have HEQ := Aside0.mk heq
          clear hxa hxi hcell hfz hwd heq hlt
          go_wp2
          go_still_tail 17, (by kernel_rfl)
          go_wp2
          go_roundg i
          case measure => have := HKI.out; omega
          case rel => exact ⟨⟨by omega⟩, next_i i, ⟨by rw [HWD.out, ← mid_set bs n i hil]; exact (HM2.out.set i _ (by rw [mid_length]; exact hil)).drew⟩, ⟨HG.out.trans (mask_grown_drew _ _)⟩⟩
        · have hwd := word_near bs HBB.out n i (by omega)
          obtain ⟨xi, hxi⟩ : ∃ x, x = bs.getD i 0 := ⟨_, rfl⟩
          rw [← hxi] at ci hwd
          have HWD := Aside0.mk hwd
          have t1 : ¬ ((n : Int) / 64 ≤ (i : Int)) := by omega
          have HEQ := Aside0.mk heq
          clear hxi hcell hfz hwd heq hlt
          go_wp2
          go_still_tail 17, (by kernel_rfl)
          go_wp2
          go_roundg i
          case measure => have := HKI.out; omega
          case rel => exact ⟨⟨by omega⟩, next_i i, ⟨by rw [HWD.out, ← mid_set bs n i hil]; exact (HM2.out.set i _ (by rw [mid_length]; exact hil)).drew⟩, ⟨HG.out.trans (mask_grown_drew _ _)⟩⟩
end Go.Proofs.Ytaifkiafoebgcaa.V
