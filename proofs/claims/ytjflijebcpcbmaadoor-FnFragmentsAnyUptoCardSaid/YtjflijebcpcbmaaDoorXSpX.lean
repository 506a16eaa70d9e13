/-
 What is proved: the reference's Fragments answers as the Lean function says. Conditions: the Lean function takes the script.
-/
import Derived.Test.YtjflijebcpcbmaaDoorXSpG
namespace Go.Proofs.YtjflijebcpcbmaaDoor.G
open Go.RowKit Go.Proofs.YtjflijebcpcbmaaDoorW.PrintWords Go.Proofs.YtjflijebcpcbmaaDoorW.PrintLast Go.Proofs.YtjflijebcpcbmaaDoorW.PrintMore
set_option linter.unusedVariables false
set_option linter.unusedSimpArgs false

def sbStep (l : List S69) (nx : Nat) (x : S45) : Option (S40 × List S69 × Nat) :=
 if x.f0 = true then (sbPush l nx x.f1).map fun r => (r.1, r.2, nx) else if nx < 1000000 then sbPop l nx else none
def sbRun : List S69 → Nat → List S45 → Option (List S40)
 | _, _, [] => some []
 | l, nx, x :: xs => (sbStep l nx x).bind fun r => (sbRun r.2.1 r.2.2 xs).map fun t => r.1 :: t
def spec_Fragments.f (xs : List S45) : Option (List S40) := if xs.length < 1000000 then sbRun [] 0 xs else none

/-- One step of the buffer. -/
theorem sbstep_calls (B g : Nat) (v : Value) (l l' : List S69) (nx nx' : Nat) (x : S45) (t : S40) (w : World) (hS : SB w B g v l nx) (hB : B ≤ g) (hBw : B ≤ w.heap.size) (hp : sbStep l nx x = some (t, l', nx')) :
 (x.f0 = true → Calls Tryd.prog 32 #[.pointer (some ⟨g, 0, none⟩), .string x.f1] w fun e w' => e = .returned (agg40 t) ∧ (∃ v', SB w' B g v' l' nx') ∧ FrS B g v w w') ∧
 (x.f0 = false → Calls Tryd.prog 33 #[.pointer (some ⟨g, 0, none⟩)] w fun e w' => e = .returned (agg40 t) ∧ (∃ v', SB w' B g v' l' nx') ∧ FrS B g v w w') := by
 refine ⟨fun hx => ?_, fun hx => ?_⟩
 ·unfold sbStep at hp
  rw [if_pos hx] at hp
  cases h : sbPush l nx x.f1 with
  | none => rw [h] at hp; cases hp
  | some r =>
    rw [h] at hp
    simp only [Option.map_some] at hp
    injection hp with hp
    injection hp with e1 hp
    injection hp with e2 e3
    subst e1
    subst e2
    subst e3
    exact (sbpush_calls B g v l r.2 nx x.f1 r.1 w hS hB hBw (by rw [h])).mono fun e w' ⟨h1, ⟨v', h2, _⟩, h3⟩ => ⟨h1, ⟨v', h2⟩, h3⟩
 ·unfold sbStep at hp
  rw [if_neg (by rw [hx]; decide)] at hp
  split at hp
  case isFalse => cases hp
  rename_i hnx
  exact (sbpop_calls B g v l l' nx nx' t w hS hB hBw hnx hp).mono fun e w' ⟨h1, ⟨v', h2, _⟩, h3⟩ => ⟨h1, ⟨v', h2⟩, h3⟩

theorem info40s : (Tryd.prog.info? 40).map (fun i => (i.zero, i.size, i.bytes)) = some (some (.agg #[.bool false, .bool false, .bool false, .bool false, .string ⟨#[]⟩, .int .u16 0, .int .i64 0]), 7, 40) := by kernel_rfl
theorem R40_own {w w' : World} {base : Nat} {ok : Nat → Prop} {v : Value} {xs : List S40} (h : Kd.R k40 40 w base ok v xs) (hk : ∀ k, v.ownBlock = some k → w'.heap[k]? = w.heap[k]?) : Kd.R k40 40 w' base ok v xs := by
 obtain ⟨h0, inner, ho, hr⟩ := h
 exact ⟨h0, inner, own_move ho hk, hr.imp_ (fun x cs hp => by rw [k40_openM hp]; exact k40_mkM _ _ _ _)⟩
theorem own40_ne {w : World} {base k : Nat} {ok : Nat → Prop} {v : Value} {xs : List S40} {cs : Array Value} {t : TypeId} {z : Nat × Nat} (h : Kd.R k40 40 w base ok v xs) (hk : w.heap[k]? = some (.cells cs t z)) (ht : t ≠ 40) : some k ≠ v.ownBlock := fun e => by
 obtain ⟨inner, hown⟩ := Kd.R_own h
 obtain ⟨cells, hc⟩ := own_typed hown k e.symm
 rw [hk] at hc
 injection hc with hc
 injection hc with _ e2 _
 exact ht e2
/-- What holds at the head of each round. -/
structure RunInv (w wr : World) (g : Nat) (v vo : Value) (l0 : List S45) (r : List S40) (k : Nat) (acc rest : List S40) (l : List S69) (nx : Nat) : Prop where
 sb : SB wr w.heap.size g v l nx
 gl : w.heap.size ≤ g
 bel : Below w.heap.size w wr
 out : Kd.R k40 40 wr w.heap.size (fun _ => True) vo acc
 run : sbRun l nx (l0.drop k) = some rest
 tot : acc ++ rest = r
 le : k ≤ l0.length
 al : acc.length = k

set_option maxHeartbeats 8000000 in
set_option maxRecDepth 100000 in
theorem spec_Fragments.calls (A0 : Option Addr) (c0 : Nat) (l0 : List S45) (r : List S40) (w : World) (hr0 : Kd.C k45 w A0 l0.length l0) (hc0 : l0.length ≤ c0) (h : spec_Fragments.f l0 = some r) :
 Calls Tryd.prog 19 #[.slice A0 l0.length c0] w fun e w' => ∃ v0_ : Value, e = .returned v0_ ∧ Kd.R k40 40 w' w.heap.size (fun _ => True) v0_ r ∧ Below w.heap.size w w' := by
 unfold spec_Fragments.f at h
 split at h
 case isFalse => cases h
 rename_i hlt
 obtain ⟨W0, hW0⟩ : ∃ W, W = w.alloc (.cells #[.slice none 0 0, .int .i64 0] 73) := ⟨_, rfl⟩
 have hb0 : Below w.heap.size w W0 := by rw [hW0]; exact (Below.refl _ _).alloc (Nat.le_refl _) _
 obtain ⟨g, hg⟩ : ∃ g, g = w.heap.size := ⟨_, rfl⟩
 have HI : Aside0 (RunInv w W0 g (.slice none 0 0) (.slice none 0 0) l0 r 0 [] r [] 0) := ⟨⟨⟨by rw [hW0, hg]; exact heap_alloc_new _ _, Kd.R_nil _ _ _ _ _, fun p hp => by simp at hp, by simp⟩, by omega, hb0, Kd.R_nil _ _ _ _ _, h, rfl, Nat.zero_le _, rfl⟩⟩
 have HLT := Aside0.mk hlt
 have HR0 := Aside0.mk hr0
 have HC0 := Aside0.mk hc0
 clear hr0 hc0 h hlt hb0
 go_enter Tryd.func19, Tryd.ntmps19
 go_wp2_with (fail)
 rw [← hW0, ← hg]
 clear hW0 hg
 obtain ⟨n, hn⟩ : ∃ n, n = l0.length := ⟨_, rfl⟩
 rw [← hn]
 have HN := Aside0.mk hn
 clear hn
 go_loopg [4, 5] n (fun kq v4 v5 wr => ∃ (k : Nat) (acc rest : List S40) (l : List S69) (nx : Nat) (v : Value), v5 = .int .i64 (k : Int) ∧ Aside0 (kq = n - k) ∧ Aside0 (RunInv w wr g v v4 l0 r k acc rest l nx))
 case atStart => exact ⟨0, [], r, [], 0, _, rfl, ⟨rfl⟩, HI⟩
 case round =>
  clear HI
  obtain ⟨k, acc, rest, l, nx, v, rfl, HK, HI⟩ := hrel
  by_cases hk : k < n
  ·have hkn : (k : Int) < (n : Int) := by omega
   have hkl : k < l0.length := by rw [← HN.out]; exact hk
   obtain ⟨ad0, e0, u0, u1⟩ := at_T45 HR0.out (k : Int) (by omega) (by omega)
   cases e0
   rw [Int.toNat_natCast] at u0 u1
   have hbw := HI.out.bel
   replace u0 := (hbw.cell (World.block_lt_of_cell? w _ u0)).trans u0
   replace u1 := (hbw.cell (World.block_lt_of_cell? w _ u1)).trans u1
   have hrd : rd_T45 l0 k = l0[k] := by simp [rd_T45, List.getD_eq_getElem?_getD, List.getElem?_eq_getElem hkl]
   obtain ⟨x, hx⟩ : ∃ x, x = rd_T45 l0 k := ⟨_, rfl⟩
   rw [← hx] at u0 u1 hrd
   have hrun := HI.out.run
   rw [List.drop_eq_getElem_cons hkl, ← hrd, sbRun] at hrun
   obtain ⟨⟨t, l', nx'⟩, hstep, hrun⟩ := Option.bind_eq_some_iff.1 hrun
   obtain ⟨rest', hrun', hrest⟩ := Option.map_eq_some_iff.1 hrun
   have HRUN' := Aside0.mk hrun'
   have HREST := Aside0.mk hrest
   have hst := sbstep_calls w.heap.size g v l l' nx nx' x t wr HI.out.sb HI.out.gl HI.out.bel.size hstep
   have hwk : wrap64 ((k : Int) + 1) = ((k + 1 : Nat) : Int) := by unfold wrap64; have := HLT.out; omega
   clear hkl hbw hrd hx hrun hrun' hrest hstep
   obtain ⟨xb, xd⟩ := x
   simp only at u0 u1
   cases xb
   ·have HST := Aside0.mk (hst.2 rfl)
    clear hst
    go_wp2_with (fail)
    refine (HST.out).mono ?_
    rintro e w4 ⟨rfl, ⟨v', hS4⟩, hF4⟩
    have HS4 := Aside0.mk hS4
    have hgb : w.heap.size ≤ g := HI.out.gl
    have hb4 : Below w.heap.size w w4 := ⟨hF4.os.trans HI.out.bel.os, hF4.tape.trans HI.out.bel.tape, hF4.output.trans HI.out.bel.output, Nat.le_trans HI.out.bel.size hF4.size, fun q hq => (hF4.keep q (Nat.lt_of_lt_of_le hq HI.out.bel.size) (by omega) (fun e => by have := Kd.R_base HI.out.sb.hr q e.symm; omega)).trans (HI.out.bel.block q hq)⟩
    have HB4 := Aside0.mk hb4
    have HO4 : Aside0 (Kd.R k40 40 w4 w.heap.size (fun _ => True) u4 acc) := ⟨R40_own HI.out.out (fun q hq => hF4.keep q (Kd.R_lt HI.out.out q hq) (fun e => own40_ne HI.out.out HI.out.sb.hg (by decide) (by rw [← e, hq])) (fun e => by
     obtain ⟨inner, hown⟩ := Kd.R_own HI.out.out
     obtain ⟨cells, hc⟩ := own_typed hown q hq
     exact own_ne HI.out.sb.hr hc (by decide) e))⟩
    have HAL : Aside0 (acc.length < 1000000) := ⟨by have := HI.out.al; have := HN.out; have := HLT.out; omega⟩
    unfold agg40
    clear hS4 hF4 hb4 hgb u0 u1
    go_wp2_with (first | ((with_reducible refine gate_builtin (b := .append) (xs := #[.tmp 29, .tmp 32]) rfl ?_); at_builtin; go_loud (refine Kd.R_append k40 (w0 := w) w.heap.size rfl (.tmp 29) (.tmp 32) 32 40 (.agg #[.bool false, .bool false, .bool false, .bool false, .string ⟨#[]⟩, .int .u16 0, .int .i64 0]) 40 rfl Tryd.underlying32 info40s rfl (by decide) (by omega) u4 acc t [.bool t.f0, .bool t.f1, .bool t.f2, .bool t.f3, .string t.f4, .int .u16 t.f5, .int .i64 t.f6] (fun _ => True) (fun _ => False) rfl rfl (k40_mkM _ _ _ t) (fun _ hk => hk.elim) (fun _ _ => trivial) HO4.out HB4.out HB4.out.size (by have := HAL.out; omega) ?_; intro v8 w8 ho hb hg hat; have RO := Aside0.mk ho; have RB := Aside0.mk hb; have RG := Aside0.mk hg; clear ho hb hg hat)))
    go_roundg (n - (k + 1))
    case measure => have := HK.out; omega
    case rel =>
     have hg8 := (RG.out.block g (blk_lt HS4.out.hg) (own40_ne HO4.out HS4.out.hg (by decide))).trans HS4.out.hg
     refine ⟨k + 1, acc ++ [t], rest', l', nx', v', congrArg (Value.int .i64) (by first | exact hwk | omega), ⟨rfl⟩, ⟨⟨⟨hg8, R69_own HS4.out.hr (fun q hq => RG.out.block q (Kd.R_lt HS4.out.hr q hq) (fun e => by
      obtain ⟨inner, hown⟩ := Kd.R_own HS4.out.hr
      obtain ⟨cells, hc⟩ := own_typed hown q hq
      exact own40_ne HO4.out hc (by decide) e)), HS4.out.ok, HS4.out.len⟩, HI.out.gl, RB.out, RO.out, HRUN'.out, ?_, by have := HN.out; omega, by rw [List.length_append, HI.out.al]; rfl⟩⟩⟩
     rw [List.append_assoc, List.singleton_append, HREST.out]
     exact HI.out.tot
   ·have HST := Aside0.mk (hst.1 rfl)
    clear hst
    go_wp2_with (fail)
    refine (HST.out).mono ?_
    rintro e w4 ⟨rfl, ⟨v', hS4⟩, hF4⟩
    have HS4 := Aside0.mk hS4
    have hgb : w.heap.size ≤ g := HI.out.gl
    have hb4 : Below w.heap.size w w4 := ⟨hF4.os.trans HI.out.bel.os, hF4.tape.trans HI.out.bel.tape, hF4.output.trans HI.out.bel.output, Nat.le_trans HI.out.bel.size hF4.size, fun q hq => (hF4.keep q (Nat.lt_of_lt_of_le hq HI.out.bel.size) (by omega) (fun e => by have := Kd.R_base HI.out.sb.hr q e.symm; omega)).trans (HI.out.bel.block q hq)⟩
    have HB4 := Aside0.mk hb4
    have HO4 : Aside0 (Kd.R k40 40 w4 w.heap.size (fun _ => True) u4 acc) := ⟨R40_own HI.out.out (fun q hq => hF4.keep q (Kd.R_lt HI.out.out q hq) (fun e => own40_ne HI.out.out HI.out.sb.hg (by decide) (by rw [← e, hq])) (fun e => by
     obtain ⟨inner, hown⟩ := Kd.R_own HI.out.out
     obtain ⟨cells, hc⟩ := own_typed hown q hq
     exact own_ne HI.out.sb.hr hc (by decide) e))⟩
    have HAL : Aside0 (acc.length < 1000000) := ⟨by have := HI.out.al; have := HN.out; have := HLT.out; omega⟩
    unfold agg40
    clear hS4 hF4 hb4 hgb u0 u1
    go_wp2_with (first | ((with_reducible refine gate_builtin (b := .append) (xs := #[.tmp 19, .tmp 27]) rfl ?_); at_builtin; go_loud (refine Kd.R_append k40 (w0 := w) w.heap.size rfl (.tmp 19) (.tmp 27) 32 40 (.agg #[.bool false, .bool false, .bool false, .bool false, .string ⟨#[]⟩, .int .u16 0, .int .i64 0]) 40 rfl Tryd.underlying32 info40s rfl (by decide) (by omega) u4 acc t [.bool t.f0, .bool t.f1, .bool t.f2, .bool t.f3, .string t.f4, .int .u16 t.f5, .int .i64 t.f6] (fun _ => True) (fun _ => False) rfl rfl (k40_mkM _ _ _ t) (fun _ hk => hk.elim) (fun _ _ => trivial) HO4.out HB4.out HB4.out.size (by have := HAL.out; omega) ?_; intro v8 w8 ho hb hg hat; have RO := Aside0.mk ho; have RB := Aside0.mk hb; have RG := Aside0.mk hg; clear ho hb hg hat)))
    go_roundg (n - (k + 1))
    case measure => have := HK.out; omega
    case rel =>
     have hg8 := (RG.out.block g (blk_lt HS4.out.hg) (own40_ne HO4.out HS4.out.hg (by decide))).trans HS4.out.hg
     refine ⟨k + 1, acc ++ [t], rest', l', nx', v', congrArg (Value.int .i64) (by first | exact hwk | omega), ⟨rfl⟩, ⟨⟨⟨hg8, R69_own HS4.out.hr (fun q hq => RG.out.block q (Kd.R_lt HS4.out.hr q hq) (fun e => by
      obtain ⟨inner, hown⟩ := Kd.R_own HS4.out.hr
      obtain ⟨cells, hc⟩ := own_typed hown q hq
      exact own40_ne HO4.out hc (by decide) e)), HS4.out.ok, HS4.out.len⟩, HI.out.gl, RB.out, RO.out, HRUN'.out, ?_, by have := HN.out; omega, by rw [List.length_append, HI.out.al]; rfl⟩⟩⟩
     rw [List.append_assoc, List.singleton_append, HREST.out]
     exact HI.out.tot
  ·have hkn : ¬ (k : Int) < (n : Int) := by omega
   go_wp2_with (fail)
   go_ret
   have hkn2 : k = l0.length := by have := HI.out.le; have := HN.out; omega
   have hrun := HI.out.run
   rw [List.drop_of_length_le (by omega), sbRun] at hrun
   injection hrun with hrun
   have htot := HI.out.tot
   rw [← hrun, List.append_nil] at htot
   subst htot
   exact ⟨_, rfl, HI.out.out, HI.out.bel⟩
end Go.Proofs.YtjflijebcpcbmaaDoor.G
