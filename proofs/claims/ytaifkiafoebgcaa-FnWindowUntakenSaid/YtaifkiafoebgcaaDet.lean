/-
  What is proved: the methods of the sliding window detector answer as functions on a number and a list of words. Conditions: numbers below 2^48, a window of at most 500.
-/
import Derived.Test.YtaifkiafoebgcaaMask
import Derived.Deep.QuietTactic
import Derived.BigQuiet
import Derived.Deep.RegionWith
import Derived.Outline
namespace Go.Proofs.Ytaifkiafoebgcaa.V
open Go.RowKit Go.Proofs.YtaifkiafoebgcaaW.PrintWords Go.Proofs.YtaifkiafoebgcaaW.PrintLast Go.Proofs.YtaifkiafoebgcaaW.PrintMore
set_option linter.unusedVariables false
set_option linter.unusedSimpArgs false

theorem quiet_add_same {P : Program} {f : FuncId} {args : Array Value} {w : World} {a n : Nat} {v : Value}
    (h : Calls P f args (w.drewN (a + n)) fun e w' => e = .returned v ∧ w' = w.drewN (a + n)) :
    Calls P f args (w.drewN (a + n)) fun e w'' => e = .returned v ∧ ∃ m, w'' = w.drewN (a + m) :=
  h.mono fun _ _ ⟨he, hm⟩ => ⟨he, n, hm⟩

structure Det (w : World) (gd gm gb win msb latest most : Nat) (bs : List Nat) : Prop where
  d : w.heap[gd]? = some (.cells #[.int .u64 (latest : Int), .int .u64 (most : Int), .int .u64 (win : Int), .pointer (some ⟨gm, 0, none⟩)] 78 (0, 0))
  k : Mask w gm gb win msb bs

theorem Det.c0 {w : World} {gd gm gb win msb latest most : Nat} {bs : List Nat} (h : Det w gd gm gb win msb latest most bs) : w.cell? ⟨gd, 0, none⟩ = some (.int .u64 (latest : Int)) := by rw [blk_cell h.d]; rfl
theorem Det.c1 {w : World} {gd gm gb win msb latest most : Nat} {bs : List Nat} (h : Det w gd gm gb win msb latest most bs) : w.cell? ⟨gd, 1, none⟩ = some (.int .u64 (most : Int)) := by rw [blk_cell h.d]; rfl
theorem Det.c2 {w : World} {gd gm gb win msb latest most : Nat} {bs : List Nat} (h : Det w gd gm gb win msb latest most bs) : w.cell? ⟨gd, 2, none⟩ = some (.int .u64 (win : Int)) := by rw [blk_cell h.d]; rfl
theorem Det.c3 {w : World} {gd gm gb win msb latest most : Nat} {bs : List Nat} (h : Det w gd gm gb win msb latest most bs) : w.cell? ⟨gd, 3, none⟩ = some (.pointer (some ⟨gm, 0, none⟩)) := by rw [blk_cell h.d]; rfl

theorem heap_drewN (w : World) (n : Nat) : (w.drewN n).heap = w.heap := rfl
theorem Mask.drewN {w : World} {gm gb win msb : Nat} {bs : List Nat} (h : Mask w gm gb win msb bs) (n : Nat) : Mask (w.drewN n) gm gb win msb bs := ⟨h.m, h.b⟩
theorem Det.drewN {w : World} {gd gm gb win msb latest most : Nat} {bs : List Nat} (h : Det w gd gm gb win msb latest most bs) (n : Nat) : Det (w.drewN n) gd gm gb win msb latest most bs := ⟨h.d, h.k.drewN n⟩

theorem Det.drew {w : World} {gd gm gb win msb latest most : Nat} {bs : List Nat} (h : Det w gd gm gb win msb latest most bs) : Det w.drew gd gm gb win msb latest most bs := ⟨h.d, h.k.drew⟩

/-- The bounds that all numbers keep. -/
structure Bd (win msb latest most : Nat) (bs : List Nat) : Prop where
  w0 : 0 < win
  w1 : win ≤ 500
  l : latest < 281474976710656
  m : most < 281474976710656
  m0 : 0 < most
  len : bs.length * 64 < win + 64
  len2 : win ≤ bs.length * 64
  ws : ∀ b ∈ bs, W64 b
  msb : W64 msb

/-- Is a number fresh? -/
def fresh (win latest most : Nat) (bs : List Nat) (seq : Nat) : Bool := decide (seq ≤ most) && (decide (latest < seq) || (decide (latest < win + seq) && !(bitAt bs win (latest - seq))))

set_option maxHeartbeats 4000000 in
set_option maxRecDepth 100000 in
theorem check_calls (gd gm gb win msb latest most : Nat) (bs : List Nat) (seq : Nat) (w : World) (h : Det w gd gm gb win msb latest most bs) (hb : Bd win msb latest most bs) (hs : W64 seq) :
    Calls Try.prog 44 #[.pointer (some ⟨gd, 0, none⟩), .int .u64 (seq : Int)] w fun e w' => e = .returned (.bool (fresh win latest most bs seq)) ∧ Drawn0 w w' := by
  have c0 := h.c0
  have c1 := h.c1
  have c2 := h.c2
  have c3 := h.c3
  have H := Aside0.mk h
  have HB := Aside0.mk hb
  have hl := hb.l
  have hm := hb.m
  have hw := hb.w1
  have hs' : seq < 18446744073709551616 := hs
  clear h hb hs
  by_cases h1 : most < seq
  · have hf : fresh win latest most bs seq = false := by unfold fresh; rw [decide_eq_false (by omega)]; rfl
    have HF := Aside0.mk hf
    clear hf
    go_enter Try.func44, Try.ntmps44
    go_wp2
    go_ret
    exact ⟨by rw [HF.out]; rfl, Drawn0.refl _⟩
  · by_cases h2 : latest < seq
    · have hf : fresh win latest most bs seq = true := by unfold fresh; rw [decide_eq_true (by omega), decide_eq_true h2]; rfl
      have HF := Aside0.mk hf
      have h2' : ¬ (seq ≤ latest) := by omega
      clear hf
      go_enter Try.func44, Try.ntmps44
      go_wp2
      go_ret
      exact ⟨by rw [HF.out]; rfl, Drawn0.refl _⟩
    · have h2' : seq ≤ latest := by omega
      have e1 : IntKind.u64.wrap ((win : Int) + (seq : Int)) = (win : Int) + (seq : Int) := by rw [IntKind.wrap_u64]; omega
      have e2 : IntKind.u64.wrap ((latest : Int) - (seq : Int)) = ((latest - seq : Nat) : Int) := by rw [IntKind.wrap_u64]; omega
      by_cases h3 : win + seq ≤ latest
      · have hf : fresh win latest most bs seq = false := by unfold fresh; rw [decide_eq_false h2, decide_eq_false (show ¬ latest < win + seq by omega)]; simp
        have HF := Aside0.mk hf
        have h3' : ((win : Int) + (seq : Int) ≤ (latest : Int)) := by omega
        clear hf
        go_enter Try.func44, Try.ntmps44
        go_wp2
        go_quiet (fail)
        clear e1 e2
        go_wp2
        go_ret
        exact ⟨by rw [HF.out]; rfl, by repeat (first | exact Drawn0.refl _ | apply Drawn0.step)⟩
      · have h3' : ¬ ((win : Int) + (seq : Int) ≤ (latest : Int)) := by omega
        obtain ⟨dd, hdd⟩ : ∃ dd, dd = latest - seq := ⟨_, rfl⟩
        cases hb : bitAt bs win (latest - seq)
        all_goals
          have hf : fresh win latest most bs seq = !(bitAt bs win (latest - seq)) := by unfold fresh; rw [decide_eq_true (by omega), decide_eq_false h2, decide_eq_true (show latest < win + seq by omega)]; simp
          rw [hb] at hf
          have HF := Aside0.mk hf
          have hbit : ∀ n, Calls Try.prog 47 #[.pointer (some ⟨gm, 0, none⟩), .int .u64 ((latest - seq : Nat) : Int)] (w.drewN n) fun e w' => e = .returned (.int .u64 ((bitAt bs win (latest - seq)).toNat : Int)) ∧ w' = w.drewN n := fun n =>
            (bit_calls gm gb win msb bs (latest - seq) (w.drewN n) (H.out.k.drewN n) HB.out.ws HB.out.len2 (by unfold W64; omega) (by have := HB.out.len; omega)).mono fun e w' h => ⟨h.1, h.2.symm⟩
          rw [hb] at hbit
          rw [← hdd] at hbit e2
          have e3 : (latest : Int) - (seq : Int) = (dd : Int) := by omega
          have e4 : IntKind.u64.wrap (dd : Int) = (dd : Int) := by rw [IntKind.wrap_u64]; omega
          have HBIT := Aside0.mk hbit
          clear hf hb hbit hdd
          go_enter Try.func44, Try.ntmps44
          go_wp2
          go_quiet (fail)
          clear e1
          go_wp2
          go_quiet ((go_at_call 47; exact quiet_add_same (HBIT.out _)))
          clear e2 e3 e4
          go_wp2
          go_ret
          exact ⟨by rw [HF.out]; rfl, by repeat (first | exact Drawn0.refl _ | apply Drawn0.step)⟩

/-! ### acceptSeq -/
/-- The words behind an acceptance. -/
def taken (win msb latest most : Nat) (bs : List Nat) (seq : Nat) : List Nat :=
  if latest < seq then setAt (shifted bs (seq - latest) msb) win 0 else setAt bs win ((latest - seq) % most)

theorem shifted_length (bs : List Nat) (n msb : Nat) : (shifted bs n msb).length = bs.length := by simp [shifted, mid]
theorem shifted_lt (bs : List Nat) (hb : ∀ b ∈ bs, W64 b) (n msb : Nat) : ∀ b ∈ shifted bs n msb, W64 b := by
  intro b hm
  unfold shifted at hm
  rcases List.mem_or_eq_of_mem_set hm with h | rfl
  · exact mid_lt bs hb n 0 b h
  · exact Nat.lt_of_le_of_lt Nat.and_le_left (word_lt bs hb n _)

theorem Det.mask {w w' : World} {gd gm gb win msb latest most : Nat} {bs bs' : List Nat} (h : Det w gd gm gb win msb latest most bs) (hk : Mask w' gm gb win msb bs') (hg : w.grownBy w' (some gb)) : Det w' gd gm gb win msb latest most bs' :=
  ⟨(hg.block gd (blk_lt h.d) (fun e => blk_ne h.d h.k.b (by decide) (by injection e))).trans h.d, hk⟩
theorem Det.put {w : World} {gd gm gb win msb latest most : Nat} {bs : List Nat} (h : Det w gd gm gb win msb latest most bs) (x : Nat) : Det (w.setCell ⟨gd, 0, none⟩ (.int .u64 (x : Int))) gd gm gb win msb x most bs :=
  ⟨by rw [blk_set h.d]; rfl, ⟨blk_far h.k.m (p := ⟨gd, 0, none⟩) (blk_ne h.k.m h.d (by decide)) _, blk_far h.k.b (p := ⟨gd, 0, none⟩) (blk_ne h.k.b h.d (by decide)) _⟩⟩

/-- What has turned: the detector's own blocks. -/
def Only (w w' : World) (gd gb : Nat) : Prop := w'.os = w.os ∧ w'.tape = w.tape ∧ w'.output = w.output ∧ w.heap.size ≤ w'.heap.size ∧ ∀ i, i < w.heap.size → i ≠ gd → i ≠ gb → w'.heap[i]? = w.heap[i]?
theorem Only.refl (w : World) (gd gb : Nat) : Only w w gd gb := ⟨rfl, rfl, rfl, Nat.le_refl _, fun _ _ _ _ => rfl⟩
theorem Only.trans {w w1 w2 : World} {gd gb : Nat} (h : Only w w1 gd gb) (k : Only w1 w2 gd gb) : Only w w2 gd gb :=
  ⟨k.1.trans h.1, k.2.1.trans h.2.1, k.2.2.1.trans h.2.2.1, Nat.le_trans h.2.2.2.1 k.2.2.2.1, fun i hi h1 h2 => (k.2.2.2.2 i (Nat.lt_of_lt_of_le hi h.2.2.2.1) h1 h2).trans (h.2.2.2.2 i hi h1 h2)⟩
theorem Only.of_grown {w w' : World} {gd gb : Nat} (h : w.grownBy w' (some gb)) : Only w w' gd gb := ⟨h.os, h.tape, h.output, h.size, fun i hi _ h2 => h.block i hi (fun e => h2 (by injection e))⟩
theorem Only.drewN {w w' : World} {gd gb : Nat} (h : Only w w' gd gb) (n : Nat) : Only w (w'.drewN n) gd gb := ⟨h.1, h.2.1, h.2.2.1, h.2.2.2.1, h.2.2.2.2⟩
theorem Only.drew {w w' : World} {gd gb : Nat} (h : Only w w' gd gb) : Only w w'.drew gd gb := ⟨h.1, h.2.1, h.2.2.1, h.2.2.2.1, h.2.2.2.2⟩
theorem Only.set {w w' : World} {gd gb : Nat} (h : Only w w' gd gb) (j : Nat) (v : Value) : Only w (w'.setCell ⟨gd, j, none⟩ v) gd gb :=
  h.trans ⟨rfl, rfl, rfl, by simp [World.setCell], fun i _ h1 _ => Below.heap_setCell w' ⟨gd, j, none⟩ v i h1⟩
theorem Only.below {w w' : World} {gd gb B : Nat} (h : Only w w' gd gb) (h1 : B ≤ gd) (h2 : B ≤ gb) (hB : B ≤ w.heap.size) : Below B w w' := ⟨h.1, h.2.1, h.2.2.1, h.2.2.2.1, fun i hi => h.2.2.2.2 i (by omega) (by omega) (by omega)⟩

set_option maxHeartbeats 8000000 in
set_option maxRecDepth 100000 in
theorem accept_new (gd gm gb win msb latest most : Nat) (bs : List Nat) (seq : Nat) (w : World) (h : Det w gd gm gb win msb latest most bs) (hb : Bd win msb latest most bs) (hs : seq ≤ most) (hl : latest < seq) :
    Calls Try.prog 43 #[.pointer (some ⟨gd, 0, none⟩), .int .u64 (seq : Int)] w fun e w' => (∃ b, e = .returned (.bool b)) ∧ Det w' gd gm gb win msb seq most (taken win msb latest most bs seq) ∧ Only w w' gd gb := by
  have c0 := h.c0
  have c1 := h.c1
  have c3 := h.c3
  have f0 := blk_frozen h.d 0
  have hz : ((seq : Int) == 0) = false := by simp; omega
  have hm := hb.m
  have e1 : IntKind.u64.wrap ((seq : Int) - (latest : Int)) = ((seq - latest : Nat) : Int) := by rw [IntKind.wrap_u64]; omega
  obtain ⟨dd, hdd⟩ : ∃ dd, dd = seq - latest := ⟨_, rfl⟩
  have e3 : (seq : Int) - (latest : Int) = (dd : Int) := by omega
  have e4 : IntKind.u64.wrap (dd : Int) = (dd : Int) := by rw [IntKind.wrap_u64]; omega
  rw [← hdd] at e1
  have hd1 : 0 < dd := by omega
  have hd2 : dd < 281474976710656 := by omega
  have hlsh : ∀ W, Mask W gm gb win msb bs → Calls Try.prog 48 #[.pointer (some ⟨gm, 0, none⟩), .int .u64 (dd : Int)] W fun e w' => e = .returned (.tuple #[]) ∧ Mask w' gm gb win msb (shifted bs dd msb) ∧ W.grownBy w' (some gb) := fun W hW =>
    lsh_calls gm gb win msb bs dd W hW hb.ws (by omega) hd1 (by have := hb.len; have := hb.w1; omega) (by have := hb.len2; have := hb.w0; omega) hb.msb
  have HLSH := Aside0.mk hlsh
  have H := Aside0.mk h
  have HB := Aside0.mk hb
  have HDD := Aside0.mk hdd
  clear h hb hlsh hdd
  go_enter Try.func43, Try.ntmps43
  go_wp2
  go_still_tail 10, (by kernel_rfl)
  go_wp2_with (go_at_call 48; ((with_reducible refine (HLSH.out _ H.out.k.drew).mono ?_); rintro e w1 ⟨rfl, hk1, hg1⟩; have HD1 := Aside0.mk (H.out.drew.mask hk1 hg1); have HO1 := Aside0.mk ((Only.refl w gd gb).drew.trans (Only.of_grown hg1)); have c0' := HD1.out.c0; have f0' := blk_frozen HD1.out.d 0; clear hk1 hg1))
  have hd2' := HD1.out.put seq
  have ho2' := HO1.out.set 0 (.int .u64 (seq : Int))
  obtain ⟨w2, hw2⟩ : ∃ w2, w2 = w1.setCell ⟨gd, 0, none⟩ (.int .u64 (seq : Int)) := ⟨_, rfl⟩
  rw [← hw2] at hd2' ho2' ⊢
  have HD2 := Aside0.mk hd2'
  have HO2 := Aside0.mk ho2'
  have k0 := hd2'.c0
  have k1 := hd2'.c1
  have k3 := hd2'.c3
  have g1 : IntKind.u64.wrap 0 = 0 := by rfl
  have g2 : ((most : Int) == 0) = false := by simp; omega
  have g3 : (most : Int) ≠ 0 := by omega
  have hset : ∀ n, Calls Try.prog 49 #[.pointer (some ⟨gm, 0, none⟩), .int .u64 0] (w2.drewN n) fun e w' => e = .returned (.tuple #[]) ∧ Mask w' gm gb win msb (setAt (shifted bs dd msb) win 0) ∧ (w2.drewN n).grownBy w' (some gb) := fun n => setbit_calls gm gb win msb (shifted bs dd msb) 0 (w2.drewN n) (hd2'.k.drewN n) (shifted_lt bs HB.out.ws dd msb) (by rw [shifted_length]; exact HB.out.len2) (by unfold W64; omega) (by rw [shifted_length]; have := HB.out.len; have := HB.out.w1; omega)
  have HSET := Aside0.mk hset
  clear hw2 hd2' ho2' c0 c1 c3 c0' f0' f0 e1 e3 e4 HO1 HD1 hset
  go_quiet (fail)
  clear g1
  go_loud (go_wp2_with (go_at_call 49; ((with_reducible refine (HSET.out _).mono ?_); rintro e w3 ⟨rfl, hk1, hg1⟩; have HD3 := Aside0.mk ((HD2.out.drewN _).mask hk1 hg1); have HO3 := Aside0.mk ((HO2.out.drewN _).trans (Only.of_grown hg1)); clear hk1 hg1)))
  go_ret
  refine ⟨⟨_, rfl⟩, ?_, HO3.out⟩
  have ht : taken win msb latest most bs seq = setAt (shifted bs dd msb) win 0 := by unfold taken; rw [if_pos hl, HDD.out]
  rw [ht]
  exact HD3.out

set_option maxHeartbeats 8000000 in
set_option maxRecDepth 100000 in
theorem accept_old (gd gm gb win msb latest most : Nat) (bs : List Nat) (seq : Nat) (w : World) (h : Det w gd gm gb win msb latest most bs) (hb : Bd win msb latest most bs) (hl : seq ≤ latest) :
    Calls Try.prog 43 #[.pointer (some ⟨gd, 0, none⟩), .int .u64 (seq : Int)] w fun e w' => (∃ b, e = .returned (.bool b)) ∧ Det w' gd gm gb win msb latest most (taken win msb latest most bs seq) ∧ Only w w' gd gb := by
  have c0 := h.c0
  have c1 := h.c1
  have c3 := h.c3
  have hm := hb.m
  have hll := hb.l
  obtain ⟨dd, hdd⟩ : ∃ dd, dd = (latest - seq) % most := ⟨_, rfl⟩
  have hmp := hb.m0
  have g0 : ¬ ((latest : Int) < (seq : Int)) := by omega
  have g1 : IntKind.u64.wrap ((latest : Int) - (seq : Int)) = ((latest - seq : Nat) : Int) := by rw [IntKind.wrap_u64]; omega
  have g2 : ((most : Int) == 0) = false := by simp; omega
  have g3 : (most : Int) ≠ 0 := by omega
  have g6 : (dd : Int) < 281474976710656 := by have := Nat.mod_lt (latest - seq) hmp; omega
  have g7 : IntKind.u64.wrap (dd : Int) = (dd : Int) := by rw [IntKind.wrap_u64]; omega
  have ht : taken win msb latest most bs seq = setAt bs win dd := by unfold taken; rw [if_neg (by omega), hdd]
  have hset : ∀ n, Calls Try.prog 49 #[.pointer (some ⟨gm, 0, none⟩), .int .u64 (((latest - seq : Nat) : Int) % (most : Int))] (w.drewN n) fun e w' => e = .returned (.tuple #[]) ∧ Mask w' gm gb win msb (setAt bs win dd) ∧ (w.drewN n).grownBy w' (some gb) := by
    intro n
    rw [show ((latest - seq : Nat) : Int) % (most : Int) = (dd : Int) from by rw [hdd]; exact (Int.natCast_emod _ _).symm]
    exact setbit_calls gm gb win msb bs dd (w.drewN n) (h.k.drewN n) hb.ws hb.len2 (by unfold W64; omega) (by have := hb.len; have := hb.w1; omega)
  have hbit : Calls Try.prog 47 #[.pointer (some ⟨gm, 0, none⟩), .int .u64 0] w fun e w' => e = .returned (.int .u64 ((bitAt bs win 0).toNat : Int)) ∧ w = w' :=
    (bit_calls gm gb win msb bs 0 w h.k hb.ws hb.len2 (by unfold W64; omega) (by have := hb.len; have := hb.w1; omega))
  have H := Aside0.mk h
  have HSET := Aside0.mk hset
  have HBIT := Aside0.mk hbit
  have HT := Aside0.mk ht
  clear h hb hset hbit ht hmp
  by_cases hs0 : seq = 0
  · by_cases hl0 : latest = 0
    · have z0 : (seq : Int) = 0 := by omega
      have z1 : (latest : Int) = 0 := by omega
      have z2 : latest - seq = 0 := by omega
      have z3 : dd = 0 := by rw [hdd, z2]; exact Nat.zero_mod _
      rw [z1] at c0
      rw [z0]
      subst z3
      have HSET : Aside0 (∀ n, Calls Try.prog 49 #[.pointer (some ⟨gm, 0, none⟩), .int .u64 0] (w.drewN n) fun e w' => e = .returned (.tuple #[]) ∧ Mask w' gm gb win msb (setAt bs win 0) ∧ (w.drewN n).grownBy w' (some gb)) := ⟨by have := HSET.out; rwa [z2, show (((0 : Nat) : Int) % (most : Int)) = 0 from Int.zero_emod _] at this⟩
      have y1 : IntKind.u64.wrap 0 = 0 := by rfl
      cases hbb : bitAt bs win 0
      all_goals
        rw [hbb] at HBIT
        clear hbb hs0 hl0 g0 g1 g6 g7 z0 z1 z2 hl hll hm hdd
        go_enter Try.func43, Try.ntmps43
        go_loud (go_wp2_with (go_at_call 47; ((with_reducible refine (HBIT.out).mono ?_); rintro e w1 ⟨rfl, rfl⟩)))
        go_quiet (fail)
        go_wp2_with (go_at_call 49; go_loud ((with_reducible refine (HSET.out _).mono ?_); rintro e w3 ⟨rfl, hk1, hg1⟩; have HD3 := Aside0.mk ((H.out.drewN _).mask hk1 hg1); have HO3 := Aside0.mk (((Only.refl w gd gb).drewN _).trans (Only.of_grown hg1)); clear hk1 hg1))
        go_ret
        exact ⟨⟨_, rfl⟩, by rw [HT.out]; exact HD3.out, HO3.out⟩
    · have z0 : (seq : Int) = 0 := by omega
      have z1 : ((latest : Int) == 0) = false := by simp; omega
      rw [z0]
      have g0 : ¬ ((latest : Int) < 0) := by omega
      have g1 : IntKind.u64.wrap ((latest : Int) - 0) = ((latest - seq : Nat) : Int) := by rw [IntKind.wrap_u64]; omega
      have g4 : IntKind.u64.wrap (latest : Int) = ((latest - seq : Nat) : Int) := by rw [IntKind.wrap_u64]; omega
      have g5 : (latest : Int) - 0 = ((latest - seq : Nat) : Int) := by omega
      clear z0 hdd hs0 hl
      go_enter Try.func43, Try.ntmps43
      go_wp2
      go_quiet (fail)
      go_wp2_with (go_at_call 49; go_loud ((with_reducible refine (HSET.out _).mono ?_); rintro e w3 ⟨rfl, hk1, hg1⟩; have HD3 := Aside0.mk ((H.out.drewN _).mask hk1 hg1); have HO3 := Aside0.mk (((Only.refl w gd gb).drewN _).trans (Only.of_grown hg1)); clear hk1 hg1))
      go_ret
      exact ⟨⟨_, rfl⟩, by rw [HT.out]; exact HD3.out, HO3.out⟩
  · have z0 : ((seq : Int) == 0) = false := by simp; omega
    go_enter Try.func43, Try.ntmps43
    go_wp2
    go_quiet (fail)
    clear g1 g7 hdd
    go_wp2_with (go_at_call 49; go_loud ((with_reducible refine (HSET.out _).mono ?_); rintro e w3 ⟨rfl, hk1, hg1⟩; have HD3 := Aside0.mk ((H.out.drewN _).mask hk1 hg1); have HO3 := Aside0.mk (((Only.refl w gd gb).drewN _).trans (Only.of_grown hg1)); clear hk1 hg1))
    go_ret
    exact ⟨⟨_, rfl⟩, by rw [HT.out]; exact HD3.out, HO3.out⟩
end Go.Proofs.Ytaifkiafoebgcaa.V
