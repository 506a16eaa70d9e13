/-
 What is proved: how the covered beginning of a message advances. Conditions: numbers below 2^31.
-/
import Derived.Test.YtjflijebcpcbmaaDoorXRng
namespace Go.Proofs.YtjflijebcpcbmaaDoor.G
open Go.RowKit Go.Proofs.YtjflijebcpcbmaaDoorW.PrintWords Go.Proofs.YtjflijebcpcbmaaDoorW.PrintLast Go.Proofs.YtjflijebcpcbmaaDoorW.PrintMore
attribute [local go_sem] max2_int min2_int max_two min_two
set_option linter.unusedVariables false
set_option linter.unusedSimpArgs false

theorem wnext (k : Nat) (h : k ≤ 1000) : wrap64 ((k : Int) + 1) = ((k + 1 : Nat) : Int) := by
 unfold wrap64
 omega

/-- The covered beginning, when the ranges from here on are looked at. -/
def advance {α : Type} : List (Rg α) → Nat → Nat
 | [], c => c
 | r :: rs, c => if r.off ≤ c then advance rs (max c (r.off + r.len)) else c

/-- A message's block. -/
structure FB (w : World) (g b c : Nat) (rs : List Rv) (sp : List Value) (cov t l : Nat) (hd : Nat × Nat × Nat × Nat × Nat) (ep : Nat) (st : Bool) : Prop where
 h : w.heap[g]? = some (.cells (fcells (.slice (some ⟨b, 0, none⟩) rs.length c) cov t l hd ep st) 102 (0, 0))
 r : RS w b c rs sp
theorem FB.c0 {w : World} {g b c : Nat} {rs : List Rv} {sp : List Value} {cov t l : Nat} {hd : Nat × Nat × Nat × Nat × Nat} {ep : Nat} {st : Bool} (h : FB w g b c rs sp cov t l hd ep st) : w.cell? ⟨g, 0, none⟩ = some (.slice (some ⟨b, 0, none⟩) rs.length c) := blk_cell h.h 0
theorem FB.c1 {w : World} {g b c : Nat} {rs : List Rv} {sp : List Value} {cov t l : Nat} {hd : Nat × Nat × Nat × Nat × Nat} {ep : Nat} {st : Bool} (h : FB w g b c rs sp cov t l hd ep st) : w.cell? ⟨g, 1, none⟩ = some (.int .u32 (cov : Int)) := blk_cell h.h 1
theorem FB.ne {w : World} {g b c : Nat} {rs : List Rv} {sp : List Value} {cov t l : Nat} {hd : Nat × Nat × Nat × Nat × Nat} {ep : Nat} {st : Bool} (h : FB w g b c rs sp cov t l hd ep st) : g ≠ b := blk_ne h.h h.r.h (by decide)
theorem FB.below {w w' : World} {g b c : Nat} {rs : List Rv} {sp : List Value} {cov t l : Nat} {hd : Nat × Nat × Nat × Nat × Nat} {ep : Nat} {st : Bool} (h : FB w g b c rs sp cov t l hd ep st) (hb : Below w.heap.size w w') : FB w' g b c rs sp cov t l hd ep st :=
 ⟨(hb.block g (blk_lt h.h)).trans h.h, ⟨(hb.block b (blk_lt h.r.h)).trans h.r.h, h.r.l⟩⟩
theorem FB.setcov {w : World} {g b c : Nat} {rs : List Rv} {sp : List Value} {cov t l : Nat} {hd : Nat × Nat × Nat × Nat × Nat} {ep : Nat} {st : Bool} (h : FB w g b c rs sp cov t l hd ep st) (x : Nat) : FB (w.setCell ⟨g, 1, none⟩ (.int .u32 (x : Int))) g b c rs sp x t l hd ep st :=
 ⟨by rw [blk_set h.h 1 _]; rfl, ⟨blk_far h.r.h (p := ⟨g, 1, none⟩) (fun e => h.ne e.symm) _, h.r.l⟩⟩

set_option maxHeartbeats 8000000 in
set_option maxRecDepth 100000 in
theorem adv_calls (g b c i cov t l ep : Nat) (hd : Nat × Nat × Nat × Nat × Nat) (st : Bool) (rs : List Rv) (sp : List Value) (w : World) (h : FB w g b c rs sp cov t l hd ep st) (hi : i < rs.length) (hn : rs.length ≤ 1000) (hbnd : ∀ r ∈ rs, r.off + r.len < 4294967296) :
 Calls Tryd.prog 58 #[.pointer (some ⟨g, 0, none⟩), .int .i64 (i : Int)] w fun e w' => e = .returned (.tuple #[]) ∧ FB w' g b c rs sp (advance (rs.drop i) cov) t l hd ep st ∧ w.grownBy w' (some g) := by
 obtain ⟨x, hx⟩ : ∃ x, rs[i]? = some x := ⟨_, List.getElem?_eq_getElem hi⟩
 have c0 := h.c0
 have c1 := h.c1
 obtain ⟨h0, h1⟩ := h.r.off i x hx
 obtain ⟨n, hnn⟩ : ∃ n, n = rs.length := ⟨_, rfl⟩
 rw [← hnn] at c0
 have e3 : (i : Int) < (n : Int) := by omega
 have e4 : i < n := by omega
 have HX := Aside0.mk hx
 have H := Aside0.mk h
 have HN := Aside0.mk hn
 have HNN := Aside0.mk hnn
 have HB := Aside0.mk hbnd
 by_cases hf : cov < x.off
 ·have HA : Aside0 (advance (rs.drop i) cov = cov) := ⟨by
   rw [List.drop_eq_getElem_cons hi]
   have : rs[i] = x := by rw [List.getElem?_eq_getElem hi] at hx; exact Option.some.inj hx
   rw [this]
   unfold advance
   rw [if_neg (by omega)]⟩
  clear h hx hi hn hbnd hnn
  go_enter Tryd.func58, Tryd.ntmps58
  go_wp2
  go_region
  go_wp2
  exact bodyPost_ret (v := .tuple #[]) (by simp [results, Tryd.results58, go_sem]) rfl ⟨rfl, by rw [HA.out]; exact H.out.below (Below.refl _ _).drew, gstep (World.grownBy.refl w _) (Below.refl _ _).drew⟩
 ·obtain ⟨r, hr⟩ : ∃ r, r = advance (rs.drop i) cov := ⟨_, rfl⟩
  rw [← hr]
  have HR := Aside0.mk hr
  clear h hx hi hn hbnd hnn hr
  go_enter Tryd.func58, Tryd.ntmps58
  go_wp2
  go_region
  clear e3 e4 h0 h1 c1
  go_wp2
  clear hf
  go_loopg [4] (n - i) (fun kq v4 wr => ∃ (k cv : Nat), v4 = .int .i64 (k : Int) ∧ Aside0 (kq = n - k ∧ i ≤ k ∧ k ≤ n) ∧ Aside0 (FB wr g b c rs sp cv t l hd ep st) ∧ Aside0 (w.grownBy wr (some g)) ∧ Aside0 (advance (rs.drop k) cv = r))
  case atStart => exact ⟨i, cov, rfl, ⟨by have := HNN.out; have := (List.getElem?_eq_some_iff.1 HX.out).1; omega⟩, ⟨H.out.below (Below.refl _ _).drew⟩, ⟨gstep (World.grownBy.refl w _) (Below.refl _ _).drew⟩, ⟨HR.out.symm⟩⟩
  case round =>
   obtain ⟨k, cv, rfl, HK, HF, HG, HE⟩ := hrel
   have q0 := HF.out.c0
   rw [← HNN.out] at q0
   have q1 := HF.out.c1
   by_cases hk : k < n
   ·have e5 : (k : Int) < (n : Int) := by omega
    obtain ⟨y, hy⟩ : ∃ y, rs[k]? = some y := ⟨_, List.getElem?_eq_getElem (by have := HNN.out; omega)⟩
    obtain ⟨q2, q3⟩ := HF.out.r.off k y hy
    have HY := Aside0.mk hy
    by_cases ho : y.off ≤ cv
    ·have hS : ∀ w', Below wr.heap.size wr w' → w'.cell? ⟨g, 0, none⟩ = some (.slice (some ⟨b, 0, none⟩) n c) ∧ w'.cell? ⟨g, 1, none⟩ = some (.int .u32 (cv : Int)) ∧ w'.cell? ⟨b, k * 2, none⟩ = some (.int .u32 (y.off : Int)) ∧ w'.cell? ⟨b, k * 2 + 1, none⟩ = some (.slice y.p.1 y.len y.p.2) ∧ w'.frozen? ⟨g, 1, none⟩ = false := by
      intro w' hb
      have hF := HF.out.below hb
      obtain ⟨z1, z2⟩ := hF.r.off k y HY.out
      exact ⟨by rw [HNN.out]; exact hF.c0, hF.c1, z1, z2, blk_frozen hF.h 1⟩
     have HS := Aside0.mk hS
     have HBR := Aside0.mk (Below.refl wr.heap.size wr)
     have EA : Aside0 (∀ W, Calls Tryd.prog 47 #[.agg #[.int .u32 (y.off : Int), .slice y.p.1 y.len y.p.2]] W fun e w' => e = .returned (.int .u32 ((y.off + y.len : Nat) : Int)) ∧ Below W.heap.size W w') := ⟨fun W => end_calls y.off y.len y.p.1 y.p.2 W (HB.out y (List.mem_of_getElem? HY.out))⟩
     clear hS hy
     go_wp2
     go_region
     go_wp2
     have hmx : (if (cv : Int) < (y.off : Int) + (y.len : Int) then (y.off : Int) + (y.len : Int) else (cv : Int)) = ((max cv (y.off + y.len) : Nat) : Int) := by
      split <;> omega
     have HE9 : Aside0 (advance (rs.drop (k + 1)) (max cv (y.off + y.len)) = r) := ⟨by
      have he := HE.out
      rw [List.drop_eq_getElem_cons (by have := HNN.out; omega)] at he
      have : rs[k]'(by have := HNN.out; omega) = y := by have := (List.getElem?_eq_some_iff.1 HY.out).2; exact this
      rw [this] at he
      unfold advance at he
      rwa [if_pos ho] at he⟩
     clear ho q0 q1 q2 q3
     obtain ⟨q0, q1, q2, q3, q4⟩ := HS.out _ HBR.out
     go_region_with (first | (go_at_call 47; go_loud ((with_reducible refine (EA.out _).mono ?_); rintro e w8 ⟨rfl, h8⟩; have HBRa := Aside0.mk (show Below wr.heap.size wr w8 from by first | exact below_then HBR.out HBR.out.size h8 | exact below_then HBR.out.drew HBR.out.drew.size h8 | exact below_then HBR.out.drew.drew HBR.out.drew.drew.size h8); clear HBR; have HBR := HBRa; clear HBRa h8; obtain ⟨q0, q1, q2, q3, q4⟩ := HS.out _ HBR.out)))
     all_goals
      (try rw [hmx])
      clear hmx
      have HF9 := Aside0.mk ((HF.out.below HBR.out).setcov (max cv (y.off + y.len)))
      have HG9 := Aside0.mk (gset (gstep HG.out HBR.out) 1 (.int .u32 ((max cv (y.off + y.len) : Nat) : Int)))
      clear q0 q1 q2 q3 q4
      go_wp2
      go_roundg (n - (k + 1))
      case measure => have := HK.out; omega
      case rel =>
       have z1 := HK.out
       exact ⟨k + 1, max cv (y.off + y.len), by rw [wnext k (by have := HN.out; have := HNN.out; omega)], ⟨by omega⟩, HF9, HG9, HE9⟩
    ·have HA : Aside0 (cv = r) := ⟨by
      have he := HE.out
      rw [List.drop_eq_getElem_cons (by have := HNN.out; omega)] at he
      have : rs[k]'(by have := HNN.out; omega) = y := by have := (List.getElem?_eq_some_iff.1 hy).2; exact this
      rw [this] at he
      unfold advance at he
      rwa [if_neg ho] at he⟩
     have ho' : cv < y.off := by omega
     clear hy ho
     go_wp2
     go_region
     go_wp2
     go_end0
     exact ⟨rfl, by rw [← HA.out]; exact HF.out.below (Below.refl _ _).drew, gstep HG.out (Below.refl _ _).drew⟩
   ·have HE2 : Aside0 (cv = r) := ⟨by
     have he := HE.out
     rw [List.drop_of_length_le (by have := HNN.out; omega)] at he
     exact he⟩
    go_wp2
    go_region
    go_wp2
    go_end0
    exact ⟨rfl, by rw [← HE2.out]; exact HF.out.below (Below.refl _ _).drew, gstep HG.out (Below.refl _ _).drew⟩
end Go.Proofs.YtjflijebcpcbmaaDoor.G
