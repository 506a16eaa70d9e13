/-
  What is proved: impl.Compact answers with what the packets are put together to, as a Lean function on lists. Condition: the packets and their bytes are fewer than 2^40.
-/
import Derived.Test.YtaifkiafoebgcaaRaw
import Derived.Test.YtaifkiafoebgcaaQ1
import Derived.Outline
namespace Go.Proofs.Ytaifkiafoebgcaa.P
open Go.RowKit Go.Proofs.YtaifkiafoebgcaaW.PrintWords Go.Proofs.YtaifkiafoebgcaaW.PrintLast Go.Proofs.YtaifkiafoebgcaaW.PrintMore
set_option linter.unusedVariables false
set_option linter.unusedSimpArgs false

/-- What is put together of the packets that are left, with the current packet and those that are done. -/
def compI (n : Int) : List (List Int) → List Int → List (List Int) → List (List Int)
  | [], cur, out => out ++ [cur]
  | p :: rest, cur, out => if 0 < cur.length ∧ n ≤ (cur.length : Int) + p.length then compI n rest p (out ++ [cur]) else compI n rest (cur ++ p) out

def total (l : List (List Int)) : Nat := (l.map List.length).sum
theorem total_nil : total [] = 0 := rfl
theorem total_cons (p : List Int) (l : List (List Int)) : total (p :: l) = p.length + total l := by simp [total]

theorem Kd.at_bytes {w : World} {A : Option Addr} {n : Nat} {xs : List (List Int)} (h : Kd.C (Kd.slice 5 (Kd.int .u8)) w A n xs) (k : Nat) (h1 : k < xs.length) :
    ∃ ad A0 c0, A = some ad ∧ w.cell? (ad.add k) = some (.slice A0 xs[k].length c0) ∧ xs[k].length ≤ c0 ∧ (Kd.int .u8).C w A0 xs[k].length xs[k] := by
  have hn : xs.length = n := h.1
  obtain ⟨ad, c, e, _, hK, hc0⟩ := Kd.C_get h ([] : List Int) (k : Int) (by omega) (by omega)
  simp only [Int.toNat_natCast, List.getD_eq_getElem?_getD, List.getElem?_eq_getElem h1, Option.getD_some] at hK hc0
  have hc : ∀ j u, c[j]? = some u → w.cell? (ad.add (k * 1 + j)) = some u := hc0
  obtain ⟨A0, c0, rfl, l0, g0⟩ := hK
  exact ⟨ad, A0, c0, e, by have hq := hc 0 _ rfl; rwa [Nat.mul_one, Nat.add_zero] at hq, l0, g0⟩

/-- The state of the loop: what is done (v5), the current packet (v6). -/
def Comb (w : World) (base : Nat) (v5 v6 : Value) (out : List (List Int)) (cur : List Int) : Prop :=
  (Kd.slice 5 (Kd.int .u8)).R 45 w base (fun j => some j ≠ v6.ownBlock) v5 out ∧ w.ownsRow base 5 1 v6 cur.length (nums .u8 cur)

/-- The packets that are done, none of them the one in the making. -/
def Done (w : World) (base : Nat) (v : Value) (out : List (List Int)) : Prop := (Kd.slice 5 (Kd.int .u8)).R 45 w base (fun _ => True) v out

theorem Comb.slice {w : World} {base : Nat} {v5 v6 : Value} {out : List (List Int)} {cur : List Int} (h : Comb w base v5 v6 out cur) : ∃ A c, v6 = .slice A cur.length c := own_slice h.2
theorem Done.comb {w : World} {base : Nat} {v : Value} {out : List (List Int)} (h : Done w base v out) (hb : base ≤ w.heap.size) :
    Comb (w.alloc (.cells #[] 5)) base v (.slice (some ⟨w.heap.size, 0, none⟩) 0 0) out [] := by
  refine ⟨?_, by simpa [nums] using World.ownsRow_made (base := base) (e := 5) (size := 1) w #[] 0 hb (by simp [maxLen]) rfl⟩
  have h1 := Kd.R_mono (Kd.R_bound h) (ok' := fun j => some j ≠ (Value.slice (some ⟨w.heap.size, 0, none⟩) 0 0).ownBlock) fun k hk e => by
    simp only [Value.ownBlock, Option.some.injEq] at e
    have := hk.2.2.1
    omega
  exact Kd.R_below h1 ((Below.refl _ _).alloc (Nat.le_refl _) _)
theorem Done.nil (w : World) (base : Nat) (hb : base ≤ w.heap.size) : Done (w.alloc (.cells #[] 45)) base (.slice (some ⟨w.heap.size, 0, none⟩) 0 0) [] := by
  refine ⟨fun _ _ => trivial, [], ?_, Reps.none _ _⟩
  exact World.ownsRow_made (base := base) (e := 45) (size := 1) w #[] 0 hb (by simp [maxLen]) rfl

section
variable {ops : Array Oper} {rest : List Oper} {o : Oper} {a : Act} {Q : Exit → Act → World → Prop}
theorem flush_append {w0 W : World} (base : Nat) (hgd : o.guard = none) (s x : Operand)
    (ho : o.op = .call { callee := .builtin .append, args := #[s, x], argTypes := #[35, 35] })
    (v5 v6 : Value) (out : List (List Int)) (cur : List Int) (hs : a.eval s = v5) (hx : a.eval x = .slice (some ⟨W.heap.size, 0, none⟩) 1 1)
    (HC : Comb W base v5 v6 out cur) (HB : Below base w0 W) (hbase : base ≤ W.heap.size) (hl : (out.length + 1) * 24 ≤ 140737488355328)
    (h : ∀ v1 w1, Done w1 base v1 (out ++ [cur]) → Below base w0 w1 → wpList Try.prog ops Q rest (a.put o.dst v1) w1) :
    wpList Try.prog ops Q (o :: rest) a (W.alloc (.cells #[v6] 45)) := by
  obtain ⟨h1, h2⟩ := HC
  have h1' := Kd.R_mono h1 (ok' := fun _ => True) fun _ _ => trivial
  have h2' : (Kd.int .u8).R 5 W base (fun j => some j = v6.ownBlock) v6 cur := Kd.R_of_own h2 fun k hk => hk.symm
  obtain ⟨in5, ho5⟩ := Kd.R_own h1'
  refine Kd.R_append (Kd.slice 5 (Kd.int .u8)) base hgd s x 35 45 (.slice none 0 0) 24 ho Try.underlying35 info45' rfl (by decide) (by decide) v5 out cur [v6] (fun _ => True) (fun j => some j = v6.ownBlock) hs hx ⟨v6, rfl, h2'⟩ ?_ (fun _ _ => trivial) h1' HB hbase hl ?_
  · intro k hk
    refine ⟨trivial, fun e => ?_⟩
    obtain ⟨c5, hc5⟩ := own_typed h2 k hk.symm
    exact type_ne ho5 hc5 e
  · intro v1 w1 hr hb hg hat
    exact h v1 w1 hr hb
theorem cur_append {w0 W : World} (base : Nat) (hgd : o.guard = none) (s x : Operand)
    (ho : o.op = .call { callee := .builtin .append, args := #[s, x], argTypes := #[45, 45] })
    (v5 v6 : Value) (out : List (List Int)) (cur ys : List Int) (A : Option Addr) (c : Nat) (hs : a.eval s = v6) (hx : a.eval x = .slice A ys.length c)
    (HC : Comb W base v5 v6 out cur) (HR : (Kd.int .u8).C W A ys.length ys) (HB : Below base w0 W) (hbase : base ≤ W.heap.size) (hl : cur.length + ys.length ≤ 140737488355328)
    (h : ∀ v1 w1, Comb w1 base v5 v1 out (cur ++ ys) → Below base w0 w1 → wpList Try.prog ops Q rest (a.put o.dst v1) w1) :
    wpList Try.prog ops Q (o :: rest) a W := by
  obtain ⟨h1, h2⟩ := HC
  refine print_append_row base hgd s x 45 5 .u8 1 ho Try.underlying45 info5' (by decide) v6 cur ys A ys.length c hs hx h2 (Kd.reads_of_C (d := (0 : Int)) HR) HB hbase (by omega) ?_
  intro v1 w1 hown hb hg hat
  refine h v1 w1 ⟨?_, hown⟩ hb
  have hb1 := Kd.R_bound h1
  have hm := Kd.R_grown hb1 hg fun k hk => hk.1
  refine Kd.R_mono hm fun k hk e => ?_
  rcases hat with hat | ⟨b, hat, hle⟩
  · exact hk.1 (by rw [← hat]; exact e)
  · rw [hat] at e
    injection e with e
    have := hk.2.2.1
    omega
end

theorem total_drop (l : List (List Int)) (k : Nat) (h : k < l.length) : total (l.drop k) = l[k].length + total (l.drop (k + 1)) := by
  rw [List.drop_eq_getElem_cons h, total_cons]
theorem compI_flush (n : Int) (l : List (List Int)) (k : Nat) (h : k < l.length) (cur : List Int) (out : List (List Int)) (hc : 0 < cur.length) (hn : n ≤ (cur.length : Int) + l[k].length) :
    compI n (l.drop k) cur out = compI n (l.drop (k + 1)) l[k] (out ++ [cur]) := by
  rw [List.drop_eq_getElem_cons h, compI, if_pos ⟨hc, hn⟩]
theorem compI_go (n : Int) (l : List (List Int)) (k : Nat) (h : k < l.length) (cur : List Int) (out : List (List Int)) (hc : ¬ (0 < cur.length ∧ n ≤ (cur.length : Int) + l[k].length)) :
    compI n (l.drop k) cur out = compI n (l.drop (k + 1)) (cur ++ l[k]) out := by
  rw [List.drop_eq_getElem_cons h, compI, if_neg hc]

set_option maxHeartbeats 4000000 in
set_option maxRecDepth 100000 in
theorem comp_one (p : Addr) (A : Option Addr) (c : Nat) (l : List (List Int)) (n : Int) (w : World) (h1 : l.length = 1) :
    Calls Try.prog 19 #[.pointer (some p), .slice A l.length c] w fun e w' => e = .returned (.slice A l.length c) ∧ w = w' := by
  rw [h1]
  go_enter Try.func19, Try.ntmps19
  go_wp2
  go_ret
  exact ⟨rfl, rfl⟩

set_option maxHeartbeats 4000000 in
set_option maxRecDepth 100000 in
theorem comp_many (p : Addr) (A : Option Addr) (c : Nat) (l : List (List Int)) (n : Int) (w : World) (hr : Kd.C (Kd.slice 5 (Kd.int .u8)) w A l.length l) (hc : l.length ≤ c)
    (h1 : l.length ≠ 1) (hn : w.cell? ⟨p.block, p.off + 163, none⟩ = some (.int .i64 n)) (hl : l.length ≤ 1099511627776) (ht : total l ≤ 1099511627776) :
    Calls Try.prog 19 #[.pointer (some p), .slice A l.length c] w fun e w' => ∃ A1 c1, e = .returned (.slice A1 (compI n l [] []).length c1) ∧ (compI n l [] []).length ≤ c1 ∧ Kd.C (Kd.slice 5 (Kd.int .u8)) w' A1 (compI n l [] []).length (compI n l [] []) ∧ Below w.heap.size w w' := by
  have HR := Aside0.mk hr
  have HC := Aside0.mk hc
  have HT := Aside0.mk ht
  have HN := Aside0.mk hn
  clear hr hc ht hn
  have hne : ((l.length : Int) == 1) = false := by simp; omega
  have hm35 : ∀ w : World, (Instr.makeSlice 35 (.int .i64 0) (.int .i64 0)).run Try.prog w = .ok (.slice (some ⟨w.heap.size, 0, none⟩) 0 0) (w.alloc (.cells #[] 45)) := fun _ => by kernel_rfl
  have hm45 : ∀ w : World, (Instr.makeSlice 45 (.int .i64 0) (.int .i64 0)).run Try.prog w = .ok (.slice (some ⟨w.heap.size, 0, none⟩) 0 0) (w.alloc (.cells #[] 5)) := fun _ => by kernel_rfl
  go_enter Try.func19, Try.ntmps19
  go_wp2_with (fail)
  go_loopg [5, 6, 17] l.length (fun kq v5 v6 v17 w' => ∃ (k : Nat) (out : List (List Int)) (cur : List Int), k ≤ l.length ∧ Aside0 (kq = l.length - k) ∧ v17 = .int .i64 (k : Int) ∧ Aside0 (Comb w' w.heap.size v5 v6 out cur) ∧ Aside0 (Below w.heap.size w w') ∧ Aside0 (compI n (l.drop k) cur out = compI n l [] [] ∧ cur.length + total (l.drop k) ≤ total l ∧ out.length ≤ k))
  case atStart => exact ⟨0, [], [], Nat.zero_le _, ⟨by omega⟩, rfl, ⟨by simpa using Done.comb (Done.nil w w.heap.size (Nat.le_refl _)) (by simp)⟩, ⟨((Below.refl _ _).alloc (Nat.le_refl _) _).alloc (by simp) _⟩, ⟨by simp, by simp, Nat.le_refl _⟩⟩
  case round =>
    clear hm35 hm45
    obtain ⟨k, out, cur, hk, HK, rfl, HO, HB, HP⟩ := hrel
    obtain ⟨A6, c6, rfl⟩ := HO.out.slice
    by_cases hlt : k < l.length
    · obtain ⟨ad, A0, c0, e, hx, hl0, hi0⟩ := Kd.at_bytes HR.out k hlt
      cases e
      replace hx := (HB.out.cell (World.block_lt_of_cell? w _ hx)).trans hx
      have hn' := (HB.out.cell (World.block_lt_of_cell? w _ HN.out)).trans HN.out
      have HI0 := Aside0.mk hi0
      have HI := Aside0.mk (Kd.C_below hi0 HB.out)
      have hbd : (cur.length : Int) + (l[k].length : Int) ≤ 1099511627776 := by
        have h1 := HP.out.2.1
        have h2 := total_drop l k hlt
        have h3 := HT.out
        omega
      obtain ⟨x, hxd⟩ : ∃ x, x = l[k] := ⟨_, rfl⟩
      rw [← hxd] at hx hl0 HI HI0 hbd
      have HX := Aside0.mk hxd
      have HL0 := Aside0.mk hl0
      have hs := Aside0.mk HB.out.size
      clear hxd hi0 hl0
      by_cases hc : 0 < cur.length
      · by_cases hcn : n ≤ (cur.length : Int) + (x.length : Int)
        · have hnb : decide (n ≤ (cur.length : Int) + (x.length : Int)) = true := decide_eq_true hcn
          have HCN := Aside0.mk hcn
          have HO24 : Aside0 ((out.length + 1) * 24 ≤ 140737488355328) := ⟨by have := HP.out.2.2; omega⟩
          have HX2 : Aside0 (([] : List Int).length + x.length ≤ 140737488355328) := ⟨by simp only [List.length_nil]; omega⟩
          clear hcn
          go_wp2_with (first | ((with_reducible refine gate_builtin (b := .append) (xs := #[.tmp 36, .tmp 38]) rfl ?_); at_builtin; refine flush_append (w0 := w) w.heap.size rfl (.tmp 36) (.tmp 38) rfl u5 _ out cur rfl rfl HO.out HB.out hs.out HO24.out ?_; intro v1 w1 ho hb; have HO3 := Aside0.mk (Done.comb ho hb.size); have HB3 := Aside0.mk (hb.alloc hb.size (.cells #[] 5)); have HI3 := Aside0.mk (Kd.C_below HI0.out (hb.alloc hb.size (.cells #[] 5))); have hs3 := Aside0.mk ((hb.alloc hb.size (.cells #[] 5)).size); clear ho hb) | ((with_reducible refine gate_builtin (b := .append) (xs := #[.tmp 41, .tmp 42]) rfl ?_); at_builtin; refine cur_append (w0 := w) w.heap.size rfl (.tmp 41) (.tmp 42) rfl v1 _ (out ++ [cur]) [] x A0 c0 rfl rfl HO3.out HI3.out HB3.out hs3.out HX2.out ?_; intro v7 w7 ho hb; have HO7 := Aside0.mk ho; have HB7 := Aside0.mk hb; clear ho hb HO3 HB3 HI3 hs3))
          go_roundg (l.length - (k + 1))
          case measure => have := HK.out; omega
          case rel => exact ⟨k + 1, out ++ [cur], x, by omega, ⟨rfl⟩, by go_num, ⟨by simpa using HO7.out⟩, HB7, ⟨by rw [← HP.out.1, compI_flush n l k hlt cur out hc (by rw [← HX.out]; exact HCN.out), HX.out], by have h1 := HP.out.2.1; have h2 := total_drop l k hlt; rw [HX.out]; omega, by have := HP.out.2.2; simp; omega⟩⟩
        · have hnb : decide (n ≤ (cur.length : Int) + (x.length : Int)) = false := decide_eq_false hcn
          have HCN := Aside0.mk hcn
          have HX2 : Aside0 (cur.length + x.length ≤ 140737488355328) := ⟨by omega⟩
          clear hcn
          go_wp2_with (first | ((with_reducible refine gate_builtin (b := .append) (xs := #[.tmp 41, .tmp 42]) rfl ?_); at_builtin; refine cur_append (w0 := w) w.heap.size rfl (.tmp 41) (.tmp 42) rfl u5 _ out cur x A0 c0 rfl rfl HO.out HI.out HB.out hs.out HX2.out ?_; intro v7 w7 ho hb; have HO7 := Aside0.mk ho; have HB7 := Aside0.mk hb; clear ho hb))
          go_roundg (l.length - (k + 1))
          case measure => have := HK.out; omega
          case rel => exact ⟨k + 1, out, cur ++ x, by omega, ⟨rfl⟩, by go_num, HO7, HB7, ⟨by rw [← HP.out.1, compI_go n l k hlt cur out (fun h => by have h1 := HCN.out; have h2 := h.2; rw [← HX.out] at h2; omega), HX.out], by have h1 := HP.out.2.1; have h2 := total_drop l k hlt; rw [List.length_append, HX.out]; omega, by have := HP.out.2.2; omega⟩⟩
      · have hnb : decide (0 < cur.length) = false := decide_eq_false hc
        have hnb2 : decide (0 < (cur.length : Int)) = false := decide_eq_false (by omega)
        have HCN := Aside0.mk hc
        have HX2 : Aside0 (cur.length + x.length ≤ 140737488355328) := ⟨by omega⟩
        clear hc
        go_wp2_with (first | ((with_reducible refine gate_builtin (b := .append) (xs := #[.tmp 41, .tmp 42]) rfl ?_); at_builtin; refine cur_append (w0 := w) w.heap.size rfl (.tmp 41) (.tmp 42) rfl u5 _ out cur x A0 c0 rfl rfl HO.out HI.out HB.out hs.out HX2.out ?_; intro v7 w7 ho hb; have HO7 := Aside0.mk ho; have HB7 := Aside0.mk hb; clear ho hb))
        go_roundg (l.length - (k + 1))
        case measure => have := HK.out; omega
        case rel => exact ⟨k + 1, out, cur ++ x, by omega, ⟨rfl⟩, by go_num, HO7, HB7, ⟨by rw [← HP.out.1, compI_go n l k hlt cur out (fun h => by have h1 := HCN.out; have h2 := h.1; omega), HX.out], by have h1 := HP.out.2.1; have h2 := total_drop l k hlt; rw [List.length_append, HX.out]; omega, by have := HP.out.2.2; omega⟩⟩
    · have HO24 : Aside0 ((out.length + 1) * 24 ≤ 140737488355328) := ⟨by have := HP.out.2.2; omega⟩
      have hs := Aside0.mk HB.out.size
      have HE : Aside0 (compI n l [] [] = out ++ [cur]) := ⟨by rw [← HP.out.1, List.drop_eq_nil_of_le (by omega)]; rfl⟩
      go_wp2_with (first | ((with_reducible refine gate_builtin (b := .append) (xs := #[.tmp 45, .tmp 47]) rfl ?_); at_builtin; refine flush_append (w0 := w) w.heap.size rfl (.tmp 45) (.tmp 47) rfl u5 _ out cur rfl rfl HO.out HB.out hs.out HO24.out ?_; intro v1 w1 ho hb; obtain ⟨A1, c1, hv1, hl1, hC1⟩ := Kd.R_reads ho; subst hv1; have HL1 := Aside0.mk hl1; have HC1 := Aside0.mk hC1; have HB1 := Aside0.mk hb; clear ho hb hl1 hC1))
      go_ret
      exact ⟨A1, c1, by rw [HE.out, List.length_append]; rfl, by rw [HE.out]; exact HL1.out, by rw [HE.out]; exact HC1.out, HB1.out⟩

/-- What impl.Compact answers, of bytes. -/
def packedI (l : List (List Int)) (n : Int) : List (List Int) := if l.length = 1 then l else compI n l [] []
theorem comp_any (p : Addr) (A : Option Addr) (c : Nat) (l : List (List Int)) (n : Int) (w : World) (hr : Kd.C (Kd.slice 5 (Kd.int .u8)) w A l.length l) (hc : l.length ≤ c)
    (hn : w.cell? ⟨p.block, p.off + 163, none⟩ = some (.int .i64 n)) (hl : l.length ≤ 1099511627776) (ht : total l ≤ 1099511627776) :
    Calls Try.prog 19 #[.pointer (some p), .slice A l.length c] w fun e w' => ∃ A1 c1, e = .returned (.slice A1 (packedI l n).length c1) ∧ (packedI l n).length ≤ c1 ∧ Kd.C (Kd.slice 5 (Kd.int .u8)) w' A1 (packedI l n).length (packedI l n) ∧ Below w.heap.size w w' := by
  by_cases h1 : l.length = 1
  · refine (comp_one p A c l n w h1).mono ?_
    rintro e w' ⟨rfl, rfl⟩
    have hp : packedI l n = l := by unfold packedI; rw [if_pos h1]
    rw [hp]
    exact ⟨A, c, rfl, hc, hr, Below.refl _ _⟩
  · have hp : packedI l n = compI n l [] [] := by unfold packedI; rw [if_neg h1]
    rw [hp]
    exact comp_many p A c l n w hr hc h1 hn hl ht

/-- What impl.Compact answers. -/
def packed (l : List ByteArray) (n : Int) : List (List Int) := packedI (l.map bytesOf) n
def impl_Compact.f (l : List ByteArray) (n : Int) : Option (List ByteArray) :=
  if l.length + total (l.map bytesOf) ≤ 1048576 then some ((packed l n).map strOfNums) else none

theorem compI_length (n : Int) : ∀ (l : List (List Int)) (cur : List Int) (out : List (List Int)), (compI n l cur out).length ≤ out.length + l.length + 1
  | [], cur, out => by simp [compI]
  | p :: rest, cur, out => by
    unfold compI
    split
    · have := compI_length n rest p (out ++ [cur])
      simp only [List.length_append, List.length_cons, List.length_nil] at this ⊢
      omega
    · have := compI_length n rest (cur ++ p) out
      simp only [List.length_cons] at this ⊢
      omega
theorem packed_length (l : List ByteArray) (n : Int) : (packed l n).length ≤ l.length + 1 := by
  unfold packed packedI
  split
  · simp
  · have := compI_length n (l.map bytesOf) [] []
    simpa using this

theorem size_le_total {l : List ByteArray} {s : ByteArray} (h : s ∈ l) : s.size ≤ total (l.map bytesOf) := by
  induction l with
  | nil => cases h
  | cons x r ih =>
    rw [List.map_cons, total_cons, bytesOf_length]
    rcases List.mem_cons.1 h with rfl | h
    · omega
    · have := ih h
      omega

theorem plain_some (x6 : List (List Int)) (hl : x6.length ≤ 8796093022207) : ∀ (d k j : Nat) (x3 : List ByteArray), d = x6.length - j → d < k → j ≤ x6.length → x3.length = j →
    Q.impl_plain.l0 k x3 x6 (x6.length : Int) (j : Int) = some (x3 ++ (x6.drop j).map strOfNums) := by
  intro d
  induction d with
  | zero =>
    intro k j x3 hd hk hj h3
    obtain ⟨k, rfl⟩ : ∃ m, k = m + 1 := ⟨k - 1, by omega⟩
    simp only [Q.impl_plain.l0]
    rw [if_neg (by omega), List.drop_eq_nil_of_le (by omega)]
    simp
  | succ d ih =>
    intro k j x3 hd hk hj h3
    obtain ⟨k, rfl⟩ : ∃ m, k = m + 1 := ⟨k - 1, by omega⟩
    have hw : wrap64 ((j : Int) + 1) = ((j + 1 : Nat) : Int) := by unfold wrap64; omega
    simp only [Q.impl_plain.l0]
    rw [if_pos (by omega), if_pos (by omega), if_pos (by omega), if_pos (by omega), hw, ih k (j + 1) _ (by omega) (by omega) (by omega) (by simp; omega)]
    have hlt : j < x6.length := by omega
    rw [List.drop_eq_getElem_cons hlt, List.map_cons, List.append_assoc]
    simp only [Q.rd_L1, Int.toNat_natCast, List.getD_eq_getElem?_getD, List.getElem?_eq_getElem hlt, Option.getD_some, List.singleton_append]

theorem plain_f (x6 : List (List Int)) (hl : x6.length ≤ 8796093022207) : Q.impl_plain.f (x6.length + 1) x6 = some (x6.map strOfNums) := by
  have h := plain_some x6 hl x6.length (x6.length + 1) 0 [] (by omega) (by omega) (by omega) rfl
  simpa [Q.impl_plain.f] using h

/-- The cells of an empty connection. -/
noncomputable def Z72 : Array Value := match (Try.prog.info? 72).bind (·.zero) with | some (.agg cs) => cs | _ => #[]
theorem Z72_size : Z72.size = 164 := by kernel_rfl
theorem zero72 (w : World) : (zeroValue 72).run Try.prog w = .ok (.agg Z72) w := by kernel_rfl
theorem cell72 (w : World) (v : Value) : (w.alloc (.cells (Z72.setIfInBounds 163 v) 72)).cell? ⟨w.heap.size, 0 + 163, none⟩ = some v := by
  have h : (w.alloc (.cells (Z72.setIfInBounds 163 v) 72)).heap[w.heap.size]? = some (.cells (Z72.setIfInBounds 163 v) 72 (0, 0)) := heap_alloc_new w _
  simp only [World.cell?, h]
  simp [Array.getElem?_setIfInBounds, Z72_size]

set_option maxHeartbeats 4000000 in
set_option maxRecDepth 100000 in
theorem zz_calls (A : Option Addr) (c : Nat) (l : List (List Int)) (n : Int) (w : World) (hr : Kd.C (Kd.slice 5 (Kd.int .u8)) w A l.length l) (hc : l.length ≤ c)
    (hl : l.length ≤ 1099511627776) (ht : total l ≤ 1099511627776) :
    Calls Try.prog 16 #[.slice A l.length c, .int .i64 n] w fun e w' => ∃ A1 c1, e = .returned (.slice A1 (packedI l n).length c1) ∧ (packedI l n).length ≤ c1 ∧ Kd.C (Kd.slice 5 (Kd.int .u8)) w' A1 (packedI l n).length (packedI l n) ∧ Below w.heap.size w w' := by
  have HR := Aside0.mk hr
  have HC := Aside0.mk hc
  have HL := Aside0.mk hl
  have HT := Aside0.mk ht
  have hz := zero72
  have hs := Z72_size
  have HN := fun v => Aside0.mk (cell72 w v)
  have hb0 := Aside0.mk ((Below.refl w.heap.size w).alloc (Nat.le_refl _) (.cells (Z72.setIfInBounds 163 (.int .i64 n)) 72))
  clear hr hc hl ht
  go_enter Try.func16, Try.ntmps16
  go_wp2_with (first | (go_at_call 19; ((with_reducible refine (comp_any _ A c l n _ (Kd.C_below HR.out hb0.out) HC.out (HN _).out HL.out HT.out).mono ?_); rintro e w1 ⟨A1, c1, rfl, h1, h2, h3⟩; have H1 := Aside0.mk h1; have H2 := Aside0.mk h2; have H3 := Aside0.mk (hb0.out.trans (h3.mono hb0.out.size)); clear h1 h2 h3)))
  go_ret
  exact ⟨A1, c1, rfl, H1.out, H2.out, H3.out⟩

set_option maxHeartbeats 4000000 in
set_option maxRecDepth 100000 in
theorem impl_Compact.calls (A0 : Option Addr) (c0 : Nat) (l0 : List ByteArray) (a1 : Int) (r : List ByteArray) (w : World) (hr0 : Kd.C Kd.string w A0 l0.length l0) (hc0 : l0.length ≤ c0) (h : impl_Compact.f l0 a1 = some r) :
    Calls Try.prog 10 #[.slice A0 l0.length c0, .int .i64 a1] w fun e w' => ∃ v0_ : Value, e = .returned (v0_) ∧ Kd.R Kd.string 9 w' w.heap.size (fun _ => True) v0_ r ∧ Below w.heap.size w w' := by
  unfold impl_Compact.f at h
  split at h
  case isFalse => cases h
  rename_i hl
  obtain rfl := Option.some.inj h
  have HR := Aside0.mk hr0
  have HC := Aside0.mk hc0
  have hs : ∀ s ∈ l0, s.size ≤ 9223372036854775807 := fun s hs => by have := size_le_total hs; omega
  have HS := Aside0.mk hs
  have HT : Aside0 (total (l0.map bytesOf) ≤ 1099511627776) := ⟨by omega⟩
  have HL : Aside0 (l0.length ≤ 1099511627776) := ⟨by omega⟩
  have HLM : Aside0 ((l0.map bytesOf).length ≤ 1099511627776) := ⟨by rw [List.length_map]; omega⟩
  have HP : Aside0 ((packed l0 a1).length ≤ 8796093022207) := ⟨by have := packed_length l0 a1; omega⟩
  clear hr0 hc0 h hs hl
  go_enter Try.func10, Try.ntmps10
  go_wp2_with (fail)
  refine (raw_calls A0 c0 l0 w HR.out HC.out HL.out HS.out).mono ?_
  rintro e w1 ⟨A1, c1, rfl, h1, h2, h3⟩
  have H1 := Aside0.mk h1
  have H2 := Aside0.mk h2
  have H3 := Aside0.mk h3
  clear h1 h2 h3
  obtain ⟨lm, hlm⟩ : ∃ lm, lm = l0.map bytesOf := ⟨_, rfl⟩
  rw [← hlm] at H1 H2 HLM HT
  have HM := Aside0.mk hlm
  clear hlm
  simp only [← HM.out]
  go_wp2_with (fail)
  refine (zz_calls A1 c1 lm a1 w1 H2.out H1.out HLM.out HT.out).mono ?_
  rintro e w2 ⟨A2, c2, rfl, h1, h2, h3⟩
  have H1 := Aside0.mk h1
  have H2 := Aside0.mk h2
  have HB2 := Aside0.mk (H3.out.trans (h3.mono H3.out.size))
  clear h1 h2 h3
  obtain ⟨lp, hlp⟩ : ∃ lp, lp = packedI lm a1 := ⟨_, rfl⟩
  rw [← hlp] at H1 H2
  have HQ := Aside0.mk hlp
  clear hlp
  simp only [← HQ.out]
  have HP2 : Aside0 (lp.length ≤ 8796093022207) := ⟨by rw [HQ.out, HM.out]; exact HP.out⟩
  go_wp2_with (fail)
  refine (Q.impl_plain.calls (lp.length + 1) A2 c2 lp (lp.map strOfNums) w2 H2.out H1.out (plain_f lp HP2.out)).mono ?_
  rintro e w3 ⟨v, rfl, h1, h2⟩
  have H5 := Aside0.mk h1
  have H6 := Aside0.mk h2
  clear h1 h2
  go_wp2_with (fail)
  go_ret
  refine ⟨v, rfl, ?_, HB2.out.trans (H6.out.mono HB2.out.size)⟩
  have he : (packed l0 a1).map strOfNums = lp.map strOfNums := by rw [HQ.out, HM.out]; rfl
  rw [he]
  exact Kd.R_lower H5.out HB2.out.size
end Go.Proofs.Ytaifkiafoebgcaa.P
