/-
 What is proved: how a fragment is added to a message's ranges. Conditions: rising ranges, at most 900, numbers below 2^31.
-/
import Derived.Test.YtjflijebcpcbmaaDoorXRepl
import Derived.Test.YtjflijebcpcbmaaDoorXCov
import Derived.Test.YtjflijebcpcbmaaDoorXAdv
namespace Go.Proofs.YtjflijebcpcbmaaDoor.G
open Go.RowKit Go.Proofs.YtjflijebcpcbmaaDoorW.PrintWords Go.Proofs.YtjflijebcpcbmaaDoorW.PrintLast Go.Proofs.YtjflijebcpcbmaaDoorW.PrintMore
set_option linter.unusedVariables false
set_option linter.unusedSimpArgs false

theorem rep_calls (b c i j vb : Nat) (r : Rv) (rs : List Rv) (sp : List Value) (w : World) (hr : RS w b c rs sp) (hc : c ≤ maxLen) (hv : w.heap[vb]? = some (.cells (rcells [r]).toArray 108 (0, 0))) (hne : vb ≠ b) (hn : rs.length ≤ 1000) (hij : i ≤ j) (hj : j ≤ rs.length) :
 Calls Tryd.prog 57 #[.slice (some ⟨b, 0, none⟩) rs.length c, .int .i64 (i : Int), .int .i64 (j : Int), .slice (some ⟨vb, 0, none⟩) 1 1] w (Put w b (i + 1 + (rs.length - j)) (rs.take i ++ r :: rs.drop j)) := by
 by_cases h1 : i = j
 ·subst h1
  rw [show i + 1 + (rs.length - i) = rs.length + 1 by omega]
  exact rep_same b c i vb r rs sp w hr hc hv hne hn hj
 ·by_cases h2 : j = rs.length
  ·subst h2
   rw [List.drop_length, Nat.sub_self, Nat.add_zero]
   exact rep_last b c i vb r rs sp w hr hc hv hn (by omega)
  ·exact rep_mid b c i j vb r rs sp w hr hc hv hne hn (by omega) (by omega)

theorem heap_alloc_at (w : World) (o : Obj) (k : Nat) (hk : k = w.heap.size) : (w.alloc o).heap[k]? = some o := by subst hk; exact heap_alloc_new w o

/-- Which ranges from place i on end within e: those up to j. -/
def Till (rs : List Rv) (e i j : Nat) : Prop := i ≤ j ∧ j ≤ rs.length ∧ (∀ (k : Nat) (r : Rv), i ≤ k → k < j → rs[k]? = some r → r.off + r.len ≤ e) ∧ (∀ (r : Rv), rs[j]? = some r → e < r.off + r.len)
def sumLen (rs : List Rv) : Nat := (rs.map (·.len)).sum
def Apart (w w' : World) (g b : Nat) : Prop := w'.os = w.os ∧ w'.tape = w.tape ∧ w'.output = w.output ∧ w.heap.size ≤ w'.heap.size ∧ ∀ k, k < w.heap.size → k ≠ g → k ≠ b → w'.heap[k]? = w.heap[k]?

/-- What add tells, and what the block holds behind it. -/
def Added (w : World) (g b cov t l : Nat) (hd : Nat × Nat × Nat × Nat × Nat) (ep : Nat) (st : Bool) (rs : List Rv) (r : Rv) (e : Ending) (w' : World) : Prop :=
 ∃ i, Idx rs r.off i ∧ ((coversAt rs i r.off (r.off + r.len) = true ∧ e = .returned (.tuple #[.int .i64 0, .int .i64 0, .nilIface]) ∧ Below w.heap.size w w') ∨
  (coversAt rs i r.off (r.off + r.len) = false ∧ ∃ j, Till rs (r.off + r.len) i j ∧ e = .returned (.tuple #[.int .i64 (1 - ((j - i : Nat) : Int)), .int .i64 ((r.len : Int) - (sumLen ((rs.drop i).take (j - i)) : Int)), .nilIface]) ∧
   ∃ b' c' sp', FB w' g b' c' (rs.take i ++ r :: rs.drop j) sp' (advance ((rs.take i ++ r :: rs.drop j).drop i) cov) t l hd ep st ∧ c' ≤ maxLen ∧ (b' = b ∨ w.heap.size ≤ b') ∧ Apart w w' g b))

set_option maxHeartbeats 8000000 in
set_option maxRecDepth 100000 in
theorem add_calls (g b c cov t l ep av : Nat) (hd : Nat × Nat × Nat × Nat × Nat) (st : Bool) (rs : List Rv) (sp : List Value) (r : Rv) (A0 : Option Addr) (pc0 : Nat) (w : World) (h : FB w g b c rs sp cov t l hd ep st) (hc : c ≤ maxLen) (hs : Rises rs) (hn : rs.length ≤ 900) (hbnd : ∀ x ∈ rs, x.off + x.len < 4294967296) (hb1 : r.off + r.len < 2147483648) (hz : (r.len ≠ 0 ∧ r.p = (A0, pc0)) ∨ (r.len = 0 ∧ r.p = (none, 0))) (hav : 1 ≤ av) (hav2 : av ≤ 1000) :
 Calls Tryd.prog 45 #[.pointer (some ⟨g, 0, none⟩), .int .u32 (r.off : Int), .slice A0 r.len pc0, .int .i64 (av : Int)] w (Added w g b cov t l hd ep st rs r) := by
 obtain ⟨P4, hP4⟩ : ∃ x, x = w.heap.size := ⟨_, rfl⟩
 obtain ⟨P5, hP5⟩ : ∃ x, x = w.heap.size + 1 := ⟨_, rfl⟩
 obtain ⟨P6, hP6⟩ : ∃ x, x = w.heap.size + 1 + 1 := ⟨_, rfl⟩
 obtain ⟨W1, hW1⟩ : ∃ W, W = (((w.alloc (.cells #[.pointer (some ⟨g, 0, none⟩)] 98)).alloc (.cells #[.int .u32 (r.off : Int)] 95)).alloc (.cells #[.int .u32 (r.off : Int), .slice r.p.1 r.len r.p.2] 108)) := ⟨_, rfl⟩
 have hb : Below w.heap.size w W1 := by rw [hW1]; exact (((Below.refl _ _).alloc (Nat.le_refl _) _).alloc (by simp) _).alloc (by simp; omega) _
 have k4 : W1.heap[P4]? = some (.cells #[.pointer (some ⟨g, 0, none⟩)] 98 (0, 0)) := by rw [hW1, hP4, heap_alloc_old _ _ (by simp; omega), heap_alloc_old _ _ (by simp)]; exact heap_alloc_new _ _
 have k5 : W1.heap[P5]? = some (.cells #[.int .u32 (r.off : Int)] 95 (0, 0)) := by rw [hW1, hP5, heap_alloc_old _ _ (by simp)]; exact heap_alloc2_new w _ _
 have k6 : W1.heap[P6]? = some (.cells #[.int .u32 (r.off : Int), .slice r.p.1 r.len r.p.2] 108 (0, 0)) := by rw [hW1, hP6]; exact heap_alloc_at _ _ _ (by simp)
 have hF := h.below hb
 have HSR := Aside0.mk (search_calls P4 P5 g b c r.off rs sp W1 (blk_cell k4 0) (blk_cell k5 0) hF.c0 hF.r hs (by omega))
 have HCV : Aside0 (∀ m i, i ≤ rs.length → Calls Tryd.prog 56 #[.pointer (some ⟨g, 0, none⟩), .int .i64 (i : Int), .agg #[.int .u32 (r.off : Int), .slice r.p.1 r.len r.p.2]] (W1.drewN m) fun e w' => e = .returned (.bool (coversAt rs i r.off (r.off + r.len))) ∧ Below W1.heap.size (W1.drewN m) w') := ⟨fun m i hi => covers_calls g b c i r.off r.len r.p.2 r.p.1 rs sp (W1.drewN m) hF.c0 ⟨hF.r.h, hF.r.l⟩ hbnd (by omega) (by omega) hi⟩
 obtain ⟨n, hnn⟩ : ∃ n, n = rs.length := ⟨_, rfl⟩
 have q0 := hF.c0
 have p0 : W1.cell? ⟨P4, 0, none⟩ = some (.pointer (some ⟨g, 0, none⟩)) := blk_cell k4 0
 have p1 : W1.cell? ⟨P5, 0, none⟩ = some (.int .u32 (r.off : Int)) := blk_cell k5 0
 have p2 : W1.cell? ⟨P6, 0, none⟩ = some (.int .u32 (r.off : Int)) := blk_cell k6 0
 have p3 : W1.cell? ⟨P6, 1, none⟩ = some (.slice r.p.1 r.len r.p.2) := blk_cell k6 1
 rw [← hnn] at q0 HSR HCV
 have HW1 := Aside0.mk hW1
 have HP4 := Aside0.mk hP4
 have HP5 := Aside0.mk hP5
 have HP6 := Aside0.mk hP6
 have HF := Aside0.mk hF
 have HB := Aside0.mk hb
 have K4 := Aside0.mk k4
 have K5 := Aside0.mk k5
 have K6 := Aside0.mk k6
 have HNN := Aside0.mk hnn
 have HS := Aside0.mk hs
 have HBND := Aside0.mk hbnd
 have HNL : Aside0 (rs.length ≤ 900) := ⟨hn⟩
 have HC := Aside0.mk hc
 have HH := Aside0.mk h
 have g0 : w.cell? ⟨g, 0, none⟩ = some (.slice (some ⟨b, 0, none⟩) n c) := by rw [hnn]; exact h.c0
 have g0' : (((w.alloc (.cells #[.pointer (some ⟨g, 0, none⟩)] 98)).alloc (.cells #[.int .u32 (r.off : Int)] 95)).alloc (.cells #[.int .u32 (r.off : Int), .slice r.p.1 r.len r.p.2] 108)).cell? ⟨g, 0, none⟩ = some (.slice (some ⟨b, 0, none⟩) n c) := by rw [← hW1]; exact q0
 clear h hb k4 k5 k6 hF hs hn hbnd hc hW1 hP4 hP5 hP6 hnn
 rcases hz with ⟨hr0, hp⟩ | ⟨hr0, hp⟩
 ·have z0 : ((r.len : Int) == 0) = false := by simp; exact hr0
  have hA : Value.slice A0 r.len pc0 = .slice r.p.1 r.len r.p.2 := by rw [hp]
  rw [hA]
  clear hA hp hr0
  go_enter Tryd.func45, Tryd.ntmps45
  go_wp2_with (fail)
  rw [← HW1.out, ← HP6.out, ← HP5.out, ← HP4.out]
  clear g0 g0'
  refine (HSR.out).mono ?_
  rintro e w2 ⟨i, rfl, hidx, m, rfl⟩
  have HI := Aside0.mk hidx
  have hCV := HCV.out m i (by rw [HNN.out]; exact hidx.1)
  clear HSR HCV hidx
  cases hcv : coversAt rs i r.off (r.off + r.len)
  ·rw [hcv] at hCV
   have HCVV := Aside0.mk hcv
   have HCV := Aside0.mk hCV
   clear hcv hCV
   go_wp2_with (fail)
   refine (HCV.out).mono ?_
   rintro e w3 ⟨rfl, h3⟩
   have H3 : Aside0 (Below W1.heap.size W1 w3) := ⟨⟨h3.os, h3.tape, h3.output, h3.size, h3.block⟩⟩
   have HHB : Aside0 (r.off + r.len < 2147483648) := ⟨hb1⟩
   clear h3 q0 p0 p1 p2 p3 z0 hb1
   go_wp2_with (fail)
   go_loopg [8, 9, 13] (n - i) (fun kq v8 v9 v13 wr => ∃ (d s : Nat), v8 = .int .i64 (-(d : Int)) ∧ v9 = .int .i64 (-(s : Int)) ∧ v13 = .int .i64 ((i + d : Nat) : Int) ∧ Aside0 (kq = n - (i + d) ∧ i + d ≤ n) ∧ Aside0 (s = sumLen ((rs.drop i).take d)) ∧ Aside0 (∀ (k : Nat) (x : Rv), i ≤ k → k < i + d → rs[k]? = some x → x.off + x.len ≤ r.off + r.len) ∧ Aside0 (s ≤ d * 4294967296) ∧ Aside0 (Below W1.heap.size W1 wr))
   case atStart => exact ⟨0, 0, by simp, by simp, by simp, ⟨by have := HI.out.1; have := HNN.out; omega⟩, ⟨rfl⟩, ⟨fun k x h1 h2 => by omega⟩, ⟨by omega⟩, H3⟩
   case round =>
    obtain ⟨d, s, rfl, rfl, rfl, HK, HSU, HT, HSB, HW⟩ := hrel
    obtain ⟨j, hj⟩ : ∃ j, j = i + d := ⟨_, rfl⟩
    rw [← hj]
    have HJ := Aside0.mk hj
    have hS : ∀ w', Below W1.heap.size W1 w' → w'.cell? ⟨P4, 0, none⟩ = some (.pointer (some ⟨g, 0, none⟩)) ∧ w'.cell? ⟨g, 0, none⟩ = some (.slice (some ⟨b, 0, none⟩) n c) ∧ w'.cell? ⟨P6, 0, none⟩ = some (.int .u32 (r.off : Int)) ∧ w'.cell? ⟨P6, 1, none⟩ = some (.slice r.p.1 r.len r.p.2) := by
     intro w' hb
     have hF := HF.out.below hb
     exact ⟨blk_cell ((hb.block P4 (blk_lt K4.out)).trans K4.out) 0, by rw [HNN.out]; exact hF.c0, blk_cell ((hb.block P6 (blk_lt K6.out)).trans K6.out) 0, blk_cell ((hb.block P6 (blk_lt K6.out)).trans K6.out) 1⟩
    clear hj
    by_cases hjn : j < n
    ·obtain ⟨y, hy⟩ : ∃ y, rs[j]? = some y := ⟨_, List.getElem?_eq_getElem (by have := HNN.out; omega)⟩
     have e5 : (j : Int) < (n : Int) := by omega
     have hS2 : ∀ w', Below W1.heap.size W1 w' → w'.cell? ⟨P4, 0, none⟩ = some (.pointer (some ⟨g, 0, none⟩)) ∧ w'.cell? ⟨g, 0, none⟩ = some (.slice (some ⟨b, 0, none⟩) n c) ∧ w'.cell? ⟨P6, 0, none⟩ = some (.int .u32 (r.off : Int)) ∧ w'.cell? ⟨P6, 1, none⟩ = some (.slice r.p.1 r.len r.p.2) ∧ w'.cell? ⟨b, j * 2, none⟩ = some (.int .u32 (y.off : Int)) ∧ w'.cell? ⟨b, j * 2 + 1, none⟩ = some (.slice y.p.1 y.len y.p.2) := by
      intro w' hb
      obtain ⟨z1, z2, z3, z4⟩ := hS w' hb
      obtain ⟨z5, z6⟩ := (HF.out.below hb).r.off j y hy
      exact ⟨z1, z2, z3, z4, z5, z6⟩
     have EA : Aside0 (∀ W, Calls Tryd.prog 47 #[.agg #[.int .u32 (y.off : Int), .slice y.p.1 y.len y.p.2]] W fun e w' => e = .returned (.int .u32 ((y.off + y.len : Nat) : Int)) ∧ Below W.heap.size W w') := ⟨fun W => end_calls y.off y.len y.p.1 y.p.2 W (HBND.out y (List.mem_of_getElem? hy))⟩
     have EB : Aside0 (∀ W, Calls Tryd.prog 47 #[.agg #[.int .u32 (r.off : Int), .slice r.p.1 r.len r.p.2]] W fun e w' => e = .returned (.int .u32 ((r.off + r.len : Nat) : Int)) ∧ Below W.heap.size W w') := ⟨fun W => end_calls r.off r.len r.p.1 r.p.2 W (by have := HHB.out; omega)⟩
     have HS2 := Aside0.mk hS2
     have HSS := Aside0.mk hS
     have HY := Aside0.mk hy
     have HBR := HW
     by_cases hle : y.off + y.len ≤ r.off + r.len
     ·have c1 : (y.off : Int) + (y.len : Int) ≤ (r.off : Int) + (r.len : Int) := by omega
      have HLE := Aside0.mk hle
      clear hS hS2 hy hle
      go_wp2_with (fail)
      go_region_held3 (fun w' => w'.cell? ⟨P4, 0, none⟩ = some (.pointer (some ⟨g, 0, none⟩)) ∧ w'.cell? ⟨g, 0, none⟩ = some (.slice (some ⟨b, 0, none⟩) n c) ∧ w'.cell? ⟨P6, 0, none⟩ = some (.int .u32 (r.off : Int)) ∧ w'.cell? ⟨P6, 1, none⟩ = some (.slice r.p.1 r.len r.p.2) ∧ w'.cell? ⟨b, j * 2, none⟩ = some (.int .u32 (y.off : Int)) ∧ w'.cell? ⟨b, j * 2 + 1, none⟩ = some (.slice y.p.1 y.len y.p.2)) (first | exact HS2.out _ HBR.out | exact HS2.out _ HBR.out.drew | exact HS2.out _ HBR.out.drew.drew) (first | (go_at_call 47; go_loud (first | ((with_reducible refine (EA.out _).mono ?_); rintro e w8 ⟨rfl, h8⟩; have HBRa := Aside0.mk (show Below W1.heap.size W1 w8 from by first | exact below_then HBR.out HBR.out.size h8 | exact below_then HBR.out.drew HBR.out.drew.size h8 | exact below_then HBR.out.drew.drew HBR.out.drew.drew.size h8); clear HBR; have HBR := HBRa; clear HBRa h8) | ((with_reducible refine (EB.out _).mono ?_); rintro e w8 ⟨rfl, h8⟩; have HBRa := Aside0.mk (show Below W1.heap.size W1 w8 from by first | exact below_then HBR.out HBR.out.size h8 | exact below_then HBR.out.drew HBR.out.drew.size h8 | exact below_then HBR.out.drew.drew HBR.out.drew.drew.size h8); clear HBR; have HBR := HBRa; clear HBRa h8))))
      obtain ⟨z1, z2, z3, z4, z5, z6⟩ := HS2.out _ HBR.out
      go_wp2
      go_roundg (n - (j + 1))
      case measure => have := HK.out; have := HJ.out; omega
      case rel =>
       have q1 := HK.out
       have q2 := HJ.out
       have q3 := HNN.out
       have q5 := HSB.out
       have q6 := HNL.out
       have q7 := HBND.out y (List.mem_of_getElem? HY.out)
       refine ⟨d + 1, s + y.len, ?_, ?_, ?_, ⟨by omega⟩, ⟨?_⟩, ⟨?_⟩, ⟨?_⟩, HBR⟩
       ·congr 1
        first
         | omega
         | (unfold wrap64; omega)
       ·congr 1
        first
         | omega
         | (unfold wrap64; omega)
       ·congr 1
        first
         | omega
         | (unfold wrap64; omega)
       ·rw [HSU.out, List.take_add_one, List.getElem?_drop, ← q2, HY.out]
        simp [sumLen]
       ·intro k x h1 h2 h3
        by_cases e : k = j
        ·subst e
         rw [HY.out] at h3
         obtain rfl := Option.some.inj h3
         exact HLE.out
        ·exact HT.out k x h1 (by omega) h3
       ·rw [Nat.add_mul]
        omega
     ·have c1 : ¬ ((y.off : Int) + (y.len : Int) ≤ (r.off : Int) + (r.len : Int)) := by omega
      have HTILL : Aside0 (Till rs (r.off + r.len) i j) := ⟨by
       have q1 := HK.out
       have q2 := HJ.out
       have q3 := HNN.out
       refine ⟨by omega, by omega, fun k x h1 h2 h3 => HT.out k x h1 (by omega) h3, fun x hx => ?_⟩
       rw [hy] at hx
       obtain rfl := Option.some.inj hx
       omega⟩
      clear hS hS2 hy hle
      go_wp2_with (fail)
      go_region_held3 (fun w' => w'.cell? ⟨P4, 0, none⟩ = some (.pointer (some ⟨g, 0, none⟩)) ∧ w'.cell? ⟨g, 0, none⟩ = some (.slice (some ⟨b, 0, none⟩) n c) ∧ w'.cell? ⟨P6, 0, none⟩ = some (.int .u32 (r.off : Int)) ∧ w'.cell? ⟨P6, 1, none⟩ = some (.slice r.p.1 r.len r.p.2) ∧ w'.cell? ⟨b, j * 2, none⟩ = some (.int .u32 (y.off : Int)) ∧ w'.cell? ⟨b, j * 2 + 1, none⟩ = some (.slice y.p.1 y.len y.p.2)) (first | exact HS2.out _ HBR.out | exact HS2.out _ HBR.out.drew | exact HS2.out _ HBR.out.drew.drew) (first | (go_at_call 47; go_loud (first | ((with_reducible refine (EA.out _).mono ?_); rintro e w8 ⟨rfl, h8⟩; have HBRa := Aside0.mk (show Below W1.heap.size W1 w8 from by first | exact below_then HBR.out HBR.out.size h8 | exact below_then HBR.out.drew HBR.out.drew.size h8 | exact below_then HBR.out.drew.drew HBR.out.drew.drew.size h8); clear HBR; have HBR := HBRa; clear HBRa h8) | ((with_reducible refine (EB.out _).mono ?_); rintro e w8 ⟨rfl, h8⟩; have HBRa := Aside0.mk (show Below W1.heap.size W1 w8 from by first | exact below_then HBR.out HBR.out.size h8 | exact below_then HBR.out.drew HBR.out.drew.size h8 | exact below_then HBR.out.drew.drew HBR.out.drew.drew.size h8); clear HBR; have HBR := HBRa; clear HBRa h8))))
      have hd9 : d ≤ 900 := by have := HK.out; have := HNN.out; have := HNL.out; omega
      have c12 : -(d : Int) + 1 ≤ (av : Int) := by omega
      go_wp2_with (fail)
      clear c12
      have hlt4 : P4 < w8.heap.size := Nat.lt_of_lt_of_le (blk_lt K4.out) HBR.out.size
      have hlt6 : P6 < w8.heap.size := Nat.lt_of_lt_of_le (blk_lt K6.out) HBR.out.size
      have hFX := HF.out.below HBR.out
      have hltb : b < w8.heap.size := blk_lt hFX.r.h
      have hltg : g < w8.heap.size := blk_lt hFX.h
      have k4 : w8.heap[P4]? = _ := (HBR.out.block P4 (blk_lt K4.out)).trans K4.out
      have k6 : w8.heap[P6]? = _ := (HBR.out.block P6 (blk_lt K6.out)).trans K6.out
      have hK : ∀ w' : World, w'.heap[P4]? = w8.heap[P4]? → w'.heap[P6]? = w8.heap[P6]? → w'.cell? ⟨P4, 0, none⟩ = some (.pointer (some ⟨g, 0, none⟩)) ∧ w'.cell? ⟨P6, 0, none⟩ = some (.int .u32 (r.off : Int)) ∧ w'.cell? ⟨P6, 1, none⟩ = some (.slice r.p.1 r.len r.p.2) := fun w' e4 e6 => ⟨blk_cell (e4.trans k4) 0, blk_cell (e6.trans k6) 0, blk_cell (e6.trans k6) 1⟩
      have HK3 := Aside0.mk hK
      obtain ⟨W9, hW9⟩ : ∃ W, W = w8.alloc (.cells #[.int .u32 (r.off : Int), .slice r.p.1 r.len r.p.2] 108) := ⟨_, rfl⟩
      have hb9 : Below w8.heap.size w8 W9 := by rw [hW9]; exact (Below.refl _ _).alloc (Nat.le_refl _) _
      have hF9 := hFX.below hb9
      have hv9 : W9.heap[w8.heap.size]? = some (.cells (rcells [r]).toArray 108 (0, 0)) := by rw [hW9]; exact heap_alloc_new _ _
      have hnb4 : P4 ≠ b := blk_ne k4 hFX.r.h (by decide)
      have hnbg : g ≠ b := hFX.ne
      have hnb6 : P6 ≠ b := by
       have := HP6.out
       have := blk_lt HH.out.r.h
       omega
      have HREP : Aside0 (Calls Tryd.prog 57 #[.slice (some ⟨b, 0, none⟩) n c, .int .i64 (i : Int), .int .i64 (j : Int), .slice (some ⟨w8.heap.size, 0, none⟩) 1 1] W9.drew (Put W9.drew b (i + 1 + (n - j)) (rs.take i ++ r :: rs.drop j))) := ⟨by
       rw [HNN.out]
       exact rep_calls b c i j w8.heap.size r rs sp W9.drew ⟨hF9.r.h, hF9.r.l⟩ HC.out hv9 (by omega) (by have := HNL.out; omega) HTILL.out.1 HTILL.out.2.1⟩
      have y0 : w8.cell? ⟨g, 0, none⟩ = some (.slice (some ⟨b, 0, none⟩) n c) := by rw [HNN.out]; exact hFX.c0
      have y1 : ∀ o, (w8.alloc o).cell? ⟨g, 0, none⟩ = some (.slice (some ⟨b, 0, none⟩) n c) := fun o => ((Below.refl w8.heap.size w8).alloc (Nat.le_refl _) o).cell hltg |>.trans y0
      have HW9 := Aside0.mk hW9
      have HB9 := Aside0.mk hb9
      have HF9 := Aside0.mk hF9
      have HLT : Aside0 (P4 < w8.heap.size ∧ P6 < w8.heap.size ∧ b < w8.heap.size ∧ g < w8.heap.size ∧ P4 ≠ b ∧ P6 ≠ b ∧ g ≠ b ∧ P4 ≠ g ∧ P6 ≠ g) := ⟨hlt4, hlt6, hltb, hltg, hnb4, hnb6, hnbg, blk_ne k4 hFX.h (by decide), blk_ne k6 hFX.h (by decide)⟩
      have HN4 : Aside0 (some P4 ≠ some b ∧ some P6 ≠ some b ∧ some g ≠ some b) := ⟨fun e => hnb4 (by injection e), fun e => hnb6 (by injection e), fun e => hnbg (by injection e)⟩
      have HL9 : Aside0 (P4 < W9.drew.heap.size ∧ P6 < W9.drew.heap.size ∧ g < W9.drew.heap.size) := ⟨Nat.lt_of_lt_of_le hlt4 hb9.size, Nat.lt_of_lt_of_le hlt6 hb9.size, Nat.lt_of_lt_of_le hltg hb9.size⟩
      have HG9 : Aside0 (W9.drew.heap[g]? = some (.cells (fcells (.slice (some ⟨b, 0, none⟩) rs.length c) cov t l hd ep st) 102 (0, 0))) := ⟨hF9.h⟩
      have H49 : Aside0 (W9.drew.heap[P4]? = w8.heap[P4]?) := ⟨hb9.block P4 hlt4⟩
      have H69 : Aside0 (W9.drew.heap[P6]? = w8.heap[P6]?) := ⟨hb9.block P6 hlt6⟩
      clear hK hW9 hb9 hF9 hv9 hFX k4 k6 hlt4 hlt6 hltb hltg hnb4 hnb6 hnbg
      refine wp_region_noPanic ?_
      refine wp_region_held_drew (S := (fun w' => w'.cell? ⟨P4, 0, none⟩ = some (.pointer (some ⟨g, 0, none⟩)) ∧ w'.cell? ⟨P6, 0, none⟩ = some (.int .u32 (r.off : Int)) ∧ w'.cell? ⟨P6, 1, none⟩ = some (.slice r.p.1 r.len r.p.2))) (by kernel_rfl) ?_ (fun hHeld => ?_)
      ·(try dsimp only); exact HK3.out _ rfl rfl
      refine wpAnyH_take (i := 0) (oi := _) (v := ?_) rfl (by kernel_rfl) (by kernel_rfl) (by kernel_rfl) (fun _ _ _ h => h) (Or.inl ⟨by rfl, ?_⟩) (by assumption) ?_
      rotate_left
      ·intro w hSw; (try dsimp only at hSw); go_simp; (try with_reducible rfl)
      try simp only [Act.put, List.setIfInBounds_toArray, List.set_cons_zero, List.set_cons_succ]
      refine wpAnyH_take (i := 1) (oi := _) (v := ?_) rfl (by kernel_rfl) (by kernel_rfl) (by kernel_rfl) (fun _ _ _ h => h) (Or.inl ⟨by rfl, ?_⟩) (by assumption) ?_
      rotate_left
      ·intro w hSw; (try dsimp only at hSw); go_simp; (try with_reducible rfl)
      try simp only [Act.put, List.setIfInBounds_toArray, List.set_cons_zero, List.set_cons_succ]
      refine wpAnyH_take (i := 2) (oi := _) (v := ?_) rfl (by kernel_rfl) (by kernel_rfl) (by kernel_rfl) (fun _ _ _ h => h) (Or.inl ⟨by rfl, ?_⟩) (by assumption) ?_
      rotate_left
      ·intro w hSw; (try dsimp only at hSw); go_simp; (try with_reducible rfl)
      try simp only [Act.put, List.setIfInBounds_toArray, List.set_cons_zero, List.set_cons_succ]
      refine wpAnyH_take (i := 3) (oi := _) (v := ?_) rfl (by kernel_rfl) (by kernel_rfl) (by kernel_rfl) (fun _ _ _ h => h) (Or.inl ⟨by rfl, ?_⟩) (by assumption) ?_
      rotate_left
      ·intro w hSw; (try dsimp only at hSw); go_simp; (try with_reducible rfl)
      try simp only [Act.put, List.setIfInBounds_toArray, List.set_cons_zero, List.set_cons_succ]
      refine wpAnyH_take (i := 5) (oi := _) (v := ?_) rfl (by kernel_rfl) (by kernel_rfl) (by kernel_rfl) (fun _ _ _ h => h) (Or.inl ⟨by rfl, ?_⟩) (by assumption) ?_
      rotate_left
      ·intro w hSw; (try dsimp only at hSw); go_simp; (try with_reducible rfl)
      try simp only [Act.put, List.setIfInBounds_toArray, List.set_cons_zero, List.set_cons_succ]
      refine wpAnyH_take (i := 6) (oi := _) (v := ?_) rfl (by kernel_rfl) (by kernel_rfl) (by kernel_rfl) (fun _ _ _ h => h) (Or.inl ⟨by rfl, ?_⟩) (by assumption) ?_
      rotate_left
      ·intro w hSw; (try dsimp only at hSw); go_simp; (try with_reducible rfl)
      try simp only [Act.put, List.setIfInBounds_toArray, List.set_cons_zero, List.set_cons_succ]
      refine wpAnyH_take (i := 7) (oi := _) (v := ?_) rfl (by kernel_rfl) (by kernel_rfl) (by kernel_rfl) (fun _ _ _ h => h) (Or.inl ⟨by rfl, ?_⟩) (by assumption) ?_
      rotate_left
      ·intro w hSw; (try dsimp only at hSw); go_simp; (try with_reducible rfl)
      try simp only [Act.put, List.setIfInBounds_toArray, List.set_cons_zero, List.set_cons_succ]
      refine wpAnyH_ready (rs := [4, 8]) (by kernel_rfl) (by simp) ?_
      refine AllReadyH.cons rfl (fun K hK => ?_) (AllReadyH.cons rfl (fun K hK => ?_) AllReadyH.nil)
      go_simp
      refine hK.out _ _ ?_ (fun hHeld => ?_)
      ·(try dsimp only); exact HK3.out _ rfl rfl
      clear hK K
      try simp only [Act.put, List.setIfInBounds_toArray, List.set_cons_zero, List.set_cons_succ]
      refine wpAnyH_ready (rs := [8]) (by kernel_rfl) (by simp) ?_
      refine AllReadyH.cons rfl (fun K hK => ?_) AllReadyH.nil
      go_simp
      refine hK.out _ _ ?_ (fun hHeld => ?_)
      ·(try dsimp only); exact HK3.out _ (heap_alloc_old _ _ HLT.out.1) (heap_alloc_old _ _ HLT.out.2.1)
      clear hK K
      try simp only [Act.put, List.setIfInBounds_toArray, List.set_cons_zero, List.set_cons_succ]
      refine wpAnyH_ready (rs := [9]) (by kernel_rfl) (by simp) ?_
      refine AllReadyH.cons rfl (fun K hK => ?_) AllReadyH.nil
      go_simp
      first | (go_at_call 57; go_loud (rw [← HW9.out]; (with_reducible refine (HREP.out).mono ?_); rintro e w10 ⟨b', c', rfl, q2, q3, q4, q5⟩; have Q2 := Aside0.mk q2; have Q3 := Aside0.mk q3; have Q4 := Aside0.mk q4; have Q5 := Aside0.mk q5; have E4 := Aside0.mk ((q5.block P4 HL9.out.1 HN4.out.1).trans H49.out); have E6 := Aside0.mk ((q5.block P6 HL9.out.2.1 HN4.out.2.1).trans H69.out); have eg := (q5.block g HL9.out.2.2 HN4.out.2.2).trans HG9.out; have y5 : w10.cell? ⟨g, 0, none⟩ = some (.slice (some ⟨b, 0, none⟩) rs.length c) := blk_cell eg 0; have f5 := blk_frozen eg 0; have EG := Aside0.mk eg; clear q2 q3 q4 q5 eg))
      refine hK.out _ _ ?_ (fun hHeld => ?_)
      ·(try dsimp only); exact HK3.out _ E4.out E6.out
      clear hK K
      try simp only [Act.put, List.setIfInBounds_toArray, List.set_cons_zero, List.set_cons_succ]
      refine wpAnyH_take (i := 10) (oi := _) (v := ?_) rfl (by kernel_rfl) (by kernel_rfl) (by kernel_rfl) (fun _ _ _ h => h) (Or.inl ⟨by rfl, ?_⟩) (by assumption) ?_
      rotate_left
      ·intro w hSw; (try dsimp only at hSw); go_simp; (try with_reducible rfl)
      try simp only [Act.put, List.setIfInBounds_toArray, List.set_cons_zero, List.set_cons_succ]
      refine wpAnyH_take (i := 11) (oi := _) (v := ?_) rfl (by kernel_rfl) (by kernel_rfl) (by kernel_rfl) (fun _ _ _ h => h) (Or.inl ⟨by rfl, ?_⟩) (by assumption) ?_
      rotate_left
      ·intro w hSw; (try dsimp only at hSw); go_simp; (try with_reducible rfl)
      try simp only [Act.put, List.setIfInBounds_toArray, List.set_cons_zero, List.set_cons_succ]
      refine wpAnyH_ready (rs := [12]) (by kernel_rfl) (by simp) ?_
      refine AllReadyH.cons rfl (fun K hK => ?_) AllReadyH.nil
      go_simp
      refine hK.out _ _ ?_ (fun hHeld => ?_)
      ·(try dsimp only); exact HK3.out _ ((Below.heap_setCell _ _ _ _ HLT.out.2.2.2.2.2.2.2.1).trans E4.out) ((Below.heap_setCell _ _ _ _ HLT.out.2.2.2.2.2.2.2.2).trans E6.out)
      clear hK K
      try simp only [Act.put, List.setIfInBounds_toArray, List.set_cons_zero, List.set_cons_succ]
      refine wpAnyH_done (by kernel_rfl) ?_ _
      refine NoPanic.normal ?_
      rotate_left
      go_simp
      refine hK.out _ _ ?_ (fun hHeld => ?_)
      ·(try dsimp only); exact HK3.out _ (heap_alloc_old _ _ HLT.out.1) (heap_alloc_old _ _ HLT.out.2.1)
      clear hK K
      try simp only [Act.put, List.setIfInBounds_toArray, List.set_cons_zero, List.set_cons_succ]
      refine wpAnyH_ready (rs := [4]) (by kernel_rfl) (by simp) ?_
      refine AllReadyH.cons rfl (fun K hK => ?_) AllReadyH.nil
      go_simp
      refine hK.out _ _ ?_ (fun hHeld => ?_)
      ·(try dsimp only); exact HK3.out _ (heap_alloc_old _ _ HLT.out.1) (heap_alloc_old _ _ HLT.out.2.1)
      clear hK K
      try simp only [Act.put, List.setIfInBounds_toArray, List.set_cons_zero, List.set_cons_succ]
      refine wpAnyH_ready (rs := [9]) (by kernel_rfl) (by simp) ?_
      refine AllReadyH.cons rfl (fun K hK => ?_) AllReadyH.nil
      go_simp
      first | (go_at_call 57; go_loud (rw [← HW9.out]; (with_reducible refine (HREP.out).mono ?_); rintro e w10 ⟨b', c', rfl, q2, q3, q4, q5⟩; have Q2 := Aside0.mk q2; have Q3 := Aside0.mk q3; have Q4 := Aside0.mk q4; have Q5 := Aside0.mk q5; have E4 := Aside0.mk ((q5.block P4 HL9.out.1 HN4.out.1).trans H49.out); have E6 := Aside0.mk ((q5.block P6 HL9.out.2.1 HN4.out.2.1).trans H69.out); have eg := (q5.block g HL9.out.2.2 HN4.out.2.2).trans HG9.out; have y5 : w10.cell? ⟨g, 0, none⟩ = some (.slice (some ⟨b, 0, none⟩) rs.length c) := blk_cell eg 0; have f5 := blk_frozen eg 0; have EG := Aside0.mk eg; clear q2 q3 q4 q5 eg))
      refine hK.out _ _ ?_ (fun hHeld => ?_)
      ·(try dsimp only); exact HK3.out _ E4.out E6.out
      clear hK K
      try simp only [Act.put, List.setIfInBounds_toArray, List.set_cons_zero, List.set_cons_succ]
      refine wpAnyH_take (i := 10) (oi := _) (v := ?_) rfl (by kernel_rfl) (by kernel_rfl) (by kernel_rfl) (fun _ _ _ h => h) (Or.inl ⟨by rfl, ?_⟩) (by assumption) ?_
      rotate_left
      ·intro w hSw; (try dsimp only at hSw); go_simp; (try with_reducible rfl)
      try simp only [Act.put, List.setIfInBounds_toArray, List.set_cons_zero, List.set_cons_succ]
      refine wpAnyH_take (i := 11) (oi := _) (v := ?_) rfl (by kernel_rfl) (by kernel_rfl) (by kernel_rfl) (fun _ _ _ h => h) (Or.inl ⟨by rfl, ?_⟩) (by assumption) ?_
      rotate_left
      ·intro w hSw; (try dsimp only at hSw); go_simp; (try with_reducible rfl)
      try simp only [Act.put, List.setIfInBounds_toArray, List.set_cons_zero, List.set_cons_succ]
      refine wpAnyH_ready (rs := [12]) (by kernel_rfl) (by simp) ?_
      refine AllReadyH.cons rfl (fun K hK => ?_) AllReadyH.nil
      go_simp
      refine hK.out _ _ ?_ (fun hHeld => ?_)
      ·(try dsimp only); exact HK3.out _ ((Below.heap_setCell _ _ _ _ HLT.out.2.2.2.2.2.2.2.1).trans E4.out) ((Below.heap_setCell _ _ _ _ HLT.out.2.2.2.2.2.2.2.2).trans E6.out)
      clear hK K
      try simp only [Act.put, List.setIfInBounds_toArray, List.set_cons_zero, List.set_cons_succ]
      refine wpAnyH_done (by kernel_rfl) ?_ _
      refine NoPanic.normal ?_
      rotate_left
      all_goals
       obtain ⟨sp', hq2⟩ := Q2.out
       obtain ⟨W11, hW11⟩ : ∃ W, W = w10.setCell ⟨g, 0, none⟩ (.slice (some ⟨b', 0, none⟩) (i + 1 + (n - j)) c') := ⟨_, rfl⟩
       rw [← hW11]
       have hti := HTILL.out
       have hnn2 := HNN.out
       have hlen : (rs.take i ++ r :: rs.drop j).length = i + 1 + (n - j) := by
        rw [List.length_append, List.length_cons, List.length_take, List.length_drop]
        have := hti.1
        have := hti.2.1
        omega
       have hgb : g ≠ b' := blk_ne EG.out hq2.h (by decide)
       have hFB : FB W11 g b' c' (rs.take i ++ r :: rs.drop j) sp' cov t l hd ep st := ⟨by rw [hW11, blk_set EG.out 0 _, hlen]; rfl, ⟨by rw [hW11]; exact blk_far hq2.h (p := ⟨g, 0, none⟩) (fun e => hgb e.symm) _, hq2.l⟩⟩
       have HADV := Aside0.mk (adv_calls g b' c' i cov t l ep hd st (rs.take i ++ r :: rs.drop j) sp' W11 hFB (by rw [hlen]; omega) (by rw [hlen]; have := HNL.out; have := hti.1; have := hti.2.1; omega) (fun x hx => by
        rcases List.mem_append.1 hx with hx | hx
        ·exact HBND.out x (List.mem_of_mem_take hx)
        ·rcases List.mem_cons.1 hx with rfl | hx
         ·have := HHB.out
          omega
         ·exact HBND.out x (List.mem_of_mem_drop hx)))
       have HAP : Aside0 (∀ w12, W11.grownBy w12 (some g) → Apart w w12 g b) := ⟨fun w12 hgr => by
        have hq5 := Q5.out
        have hb9 := HB9.out
        have h18 := HBR.out
        have h01 := HB.out
        have s11 : W11.heap.size = w10.heap.size := by rw [hW11]; simp [World.setCell]
        have o11 : W11.os = w10.os ∧ W11.tape = w10.tape ∧ W11.output = w10.output := by rw [hW11]; exact ⟨rfl, rfl, rfl⟩
        have z5 := hq5.size
        have z9 := hb9.size
        have z8 := h18.size
        have z1 := h01.size
        have z12 := hgr.size
        have z9' : W9.drew.heap.size = W9.heap.size := rfl
        refine ⟨hgr.os.trans (o11.1.trans (hq5.os.trans (hb9.os.trans (h18.os.trans h01.os)))), hgr.tape.trans (o11.2.1.trans (hq5.tape.trans (hb9.tape.trans (h18.tape.trans h01.tape)))), hgr.output.trans (o11.2.2.trans (hq5.output.trans (hb9.output.trans (h18.output.trans h01.output)))), by omega, fun k hk hkg hkb => ?_⟩
        have e1 : w12.heap[k]? = W11.heap[k]? := hgr.block k (by omega) (fun e => hkg (by injection e))
        have e2 : W11.heap[k]? = w10.heap[k]? := by rw [hW11]; exact Below.heap_setCell _ ⟨g, 0, none⟩ _ k hkg
        have e3 : w10.heap[k]? = W9.heap[k]? := hq5.block k (by omega) (fun e => hkb (by injection e))
        exact e1.trans (e2.trans (e3.trans ((hb9.block k (by omega)).trans ((h18.block k (by omega)).trans (h01.block k hk)))))⟩
       have HQ4 : Aside0 (b' = b ∨ w.heap.size ≤ b') := ⟨by
        have z9 := HB9.out.size
        have z8 := HBR.out.size
        have z1 := HB.out.size
        have z9' : W9.drew.heap.size = W9.heap.size := rfl
        rcases Q4.out with h | h
        ·exact .inl h
        ·right
         omega⟩
       have HDJ : Aside0 (d = j - i) := ⟨by have := HJ.out; omega⟩
       have x4 : W11.cell? ⟨P4, 0, none⟩ = some (.pointer (some ⟨g, 0, none⟩)) := by
        rw [hW11]
        exact (HK3.out _ ((Below.heap_setCell _ _ _ _ HLT.out.2.2.2.2.2.2.2.1).trans E4.out) ((Below.heap_setCell _ _ _ _ HLT.out.2.2.2.2.2.2.2.2).trans E6.out)).1
       have hs9 : s ≤ 4294967296000 := by have := HSB.out; omega
       have hl9 : r.len < 2147483648 := by have := HHB.out; omega
       clear hq2 hW11 hti hnn2 hlen hgb hFB y5 f5
       go_wp2_with (go_at_call 58; go_loud ((with_reducible refine (HADV.out).mono ?_); rintro e w12 ⟨rfl, hfb, hgr⟩; have HFB := Aside0.mk hfb; have HGR := Aside0.mk hgr; clear hfb hgr))
       refine bodyPost_ret (v := .tuple #[.int .i64 (-(d : Int) + 1), .int .i64 (-(s : Int) + (r.len : Int)), .nilIface]) (by simp [results, Tryd.results45, go_sem]) rfl ⟨i, HI.out, .inr ⟨HCVV.out, j, HTILL.out, ?_, b', c', sp', HFB.out, Q3.out, HQ4.out, HAP.out _ HGR.out⟩⟩
       rw [← HDJ.out, ← HSU.out]
       rw [show -(d : Int) + 1 = 1 - (d : Int) by omega, show -(s : Int) + (r.len : Int) = (r.len : Int) - (s : Int) by omega]
    ·have HTILL : Aside0 (Till rs (r.off + r.len) i j) := ⟨by
      have q1 := HK.out
      have q2 := HJ.out
      have q3 := HNN.out
      refine ⟨by omega, by omega, fun k x h1 h2 h3 => HT.out k x h1 (by omega) h3, fun x hx => ?_⟩
      rw [List.getElem?_eq_none (by omega)] at hx
      cases hx⟩
     have e5 : ¬ ((j : Int) < (n : Int)) := by omega
     obtain ⟨z1, z2, z3, z4⟩ := hS wr HW.out
     clear hS
     go_wp2_with (fail)
     go_region
     obtain ⟨w8, hw8⟩ : ∃ w8, w8 = wr.drew := ⟨_, rfl⟩
     rw [← hw8]
     have HBR : Aside0 (Below W1.heap.size W1 w8) := ⟨by rw [hw8]; exact HW.out.drew⟩
     clear hw8 z1 z2 z3 z4 hjn e5
     have hd9 : d ≤ 900 := by have := HK.out; have := HNN.out; have := HNL.out; omega
     have c12 : -(d : Int) + 1 ≤ (av : Int) := by omega
     go_wp2_with (fail)
     clear c12
     have hlt4 : P4 < w8.heap.size := Nat.lt_of_lt_of_le (blk_lt K4.out) HBR.out.size
     have hlt6 : P6 < w8.heap.size := Nat.lt_of_lt_of_le (blk_lt K6.out) HBR.out.size
     have hFX := HF.out.below HBR.out
     have hltb : b < w8.heap.size := blk_lt hFX.r.h
     have hltg : g < w8.heap.size := blk_lt hFX.h
     have k4 : w8.heap[P4]? = _ := (HBR.out.block P4 (blk_lt K4.out)).trans K4.out
     have k6 : w8.heap[P6]? = _ := (HBR.out.block P6 (blk_lt K6.out)).trans K6.out
     have hK : ∀ w' : World, w'.heap[P4]? = w8.heap[P4]? → w'.heap[P6]? = w8.heap[P6]? → w'.cell? ⟨P4, 0, none⟩ = some (.pointer (some ⟨g, 0, none⟩)) ∧ w'.cell? ⟨P6, 0, none⟩ = some (.int .u32 (r.off : Int)) ∧ w'.cell? ⟨P6, 1, none⟩ = some (.slice r.p.1 r.len r.p.2) := fun w' e4 e6 => ⟨blk_cell (e4.trans k4) 0, blk_cell (e6.trans k6) 0, blk_cell (e6.trans k6) 1⟩
     have HK3 := Aside0.mk hK
     obtain ⟨W9, hW9⟩ : ∃ W, W = w8.alloc (.cells #[.int .u32 (r.off : Int), .slice r.p.1 r.len r.p.2] 108) := ⟨_, rfl⟩
     have hb9 : Below w8.heap.size w8 W9 := by rw [hW9]; exact (Below.refl _ _).alloc (Nat.le_refl _) _
     have hF9 := hFX.below hb9
     have hv9 : W9.heap[w8.heap.size]? = some (.cells (rcells [r]).toArray 108 (0, 0)) := by rw [hW9]; exact heap_alloc_new _ _
     have hnb4 : P4 ≠ b := blk_ne k4 hFX.r.h (by decide)
     have hnbg : g ≠ b := hFX.ne
     have hnb6 : P6 ≠ b := by
      have := HP6.out
      have := blk_lt HH.out.r.h
      omega
     have HREP : Aside0 (Calls Tryd.prog 57 #[.slice (some ⟨b, 0, none⟩) n c, .int .i64 (i : Int), .int .i64 (j : Int), .slice (some ⟨w8.heap.size, 0, none⟩) 1 1] W9.drew (Put W9.drew b (i + 1 + (n - j)) (rs.take i ++ r :: rs.drop j))) := ⟨by
      rw [HNN.out]
      exact rep_calls b c i j w8.heap.size r rs sp W9.drew ⟨hF9.r.h, hF9.r.l⟩ HC.out hv9 (by omega) (by have := HNL.out; omega) HTILL.out.1 HTILL.out.2.1⟩
     have y0 : w8.cell? ⟨g, 0, none⟩ = some (.slice (some ⟨b, 0, none⟩) n c) := by rw [HNN.out]; exact hFX.c0
     have y1 : ∀ o, (w8.alloc o).cell? ⟨g, 0, none⟩ = some (.slice (some ⟨b, 0, none⟩) n c) := fun o => ((Below.refl w8.heap.size w8).alloc (Nat.le_refl _) o).cell hltg |>.trans y0
     have HW9 := Aside0.mk hW9
     have HB9 := Aside0.mk hb9
     have HF9 := Aside0.mk hF9
     have HLT : Aside0 (P4 < w8.heap.size ∧ P6 < w8.heap.size ∧ b < w8.heap.size ∧ g < w8.heap.size ∧ P4 ≠ b ∧ P6 ≠ b ∧ g ≠ b ∧ P4 ≠ g ∧ P6 ≠ g) := ⟨hlt4, hlt6, hltb, hltg, hnb4, hnb6, hnbg, blk_ne k4 hFX.h (by decide), blk_ne k6 hFX.h (by decide)⟩
     have HN4 : Aside0 (some P4 ≠ some b ∧ some P6 ≠ some b ∧ some g ≠ some b) := ⟨fun e => hnb4 (by injection e), fun e => hnb6 (by injection e), fun e => hnbg (by injection e)⟩
     have HL9 : Aside0 (P4 < W9.drew.heap.size ∧ P6 < W9.drew.heap.size ∧ g < W9.drew.heap.size) := ⟨Nat.lt_of_lt_of_le hlt4 hb9.size, Nat.lt_of_lt_of_le hlt6 hb9.size, Nat.lt_of_lt_of_le hltg hb9.size⟩
     have HG9 : Aside0 (W9.drew.heap[g]? = some (.cells (fcells (.slice (some ⟨b, 0, none⟩) rs.length c) cov t l hd ep st) 102 (0, 0))) := ⟨hF9.h⟩
     have H49 : Aside0 (W9.drew.heap[P4]? = w8.heap[P4]?) := ⟨hb9.block P4 hlt4⟩
     have H69 : Aside0 (W9.drew.heap[P6]? = w8.heap[P6]?) := ⟨hb9.block P6 hlt6⟩
     clear hK hW9 hb9 hF9 hv9 hFX k4 k6 hlt4 hlt6 hltb hltg hnb4 hnb6 hnbg
     refine wp_region_noPanic ?_
     refine wp_region_held_drew (S := (fun w' => w'.cell? ⟨P4, 0, none⟩ = some (.pointer (some ⟨g, 0, none⟩)) ∧ w'.cell? ⟨P6, 0, none⟩ = some (.int .u32 (r.off : Int)) ∧ w'.cell? ⟨P6, 1, none⟩ = some (.slice r.p.1 r.len r.p.2))) (by kernel_rfl) ?_ (fun hHeld => ?_)
     ·(try dsimp only); exact HK3.out _ rfl rfl
     refine wpAnyH_take (i := 0) (oi := _) (v := ?_) rfl (by kernel_rfl) (by kernel_rfl) (by kernel_rfl) (fun _ _ _ h => h) (Or.inl ⟨by rfl, ?_⟩) (by assumption) ?_
     rotate_left
     ·intro w hSw; (try dsimp only at hSw); go_simp; (try with_reducible rfl)
     try simp only [Act.put, List.setIfInBounds_toArray, List.set_cons_zero, List.set_cons_succ]
     refine wpAnyH_take (i := 1) (oi := _) (v := ?_) rfl (by kernel_rfl) (by kernel_rfl) (by kernel_rfl) (fun _ _ _ h => h) (Or.inl ⟨by rfl, ?_⟩) (by assumption) ?_
     rotate_left
     ·intro w hSw; (try dsimp only at hSw); go_simp; (try with_reducible rfl)
     try simp only [Act.put, List.setIfInBounds_toArray, List.set_cons_zero, List.set_cons_succ]
     refine wpAnyH_take (i := 2) (oi := _) (v := ?_) rfl (by kernel_rfl) (by kernel_rfl) (by kernel_rfl) (fun _ _ _ h => h) (Or.inl ⟨by rfl, ?_⟩) (by assumption) ?_
     rotate_left
     ·intro w hSw; (try dsimp only at hSw); go_simp; (try with_reducible rfl)
     try simp only [Act.put, List.setIfInBounds_toArray, List.set_cons_zero, List.set_cons_succ]
     refine wpAnyH_take (i := 3) (oi := _) (v := ?_) rfl (by kernel_rfl) (by kernel_rfl) (by kernel_rfl) (fun _ _ _ h => h) (Or.inl ⟨by rfl, ?_⟩) (by assumption) ?_
     rotate_left
     ·intro w hSw; (try dsimp only at hSw); go_simp; (try with_reducible rfl)
     try simp only [Act.put, List.setIfInBounds_toArray, List.set_cons_zero, List.set_cons_succ]
     refine wpAnyH_take (i := 5) (oi := _) (v := ?_) rfl (by kernel_rfl) (by kernel_rfl) (by kernel_rfl) (fun _ _ _ h => h) (Or.inl ⟨by rfl, ?_⟩) (by assumption) ?_
     rotate_left
     ·intro w hSw; (try dsimp only at hSw); go_simp; (try with_reducible rfl)
     try simp only [Act.put, List.setIfInBounds_toArray, List.set_cons_zero, List.set_cons_succ]
     refine wpAnyH_take (i := 6) (oi := _) (v := ?_) rfl (by kernel_rfl) (by kernel_rfl) (by kernel_rfl) (fun _ _ _ h => h) (Or.inl ⟨by rfl, ?_⟩) (by assumption) ?_
     rotate_left
     ·intro w hSw; (try dsimp only at hSw); go_simp; (try with_reducible rfl)
     try simp only [Act.put, List.setIfInBounds_toArray, List.set_cons_zero, List.set_cons_succ]
     refine wpAnyH_take (i := 7) (oi := _) (v := ?_) rfl (by kernel_rfl) (by kernel_rfl) (by kernel_rfl) (fun _ _ _ h => h) (Or.inl ⟨by rfl, ?_⟩) (by assumption) ?_
     rotate_left
     ·intro w hSw; (try dsimp only at hSw); go_simp; (try with_reducible rfl)
     try simp only [Act.put, List.setIfInBounds_toArray, List.set_cons_zero, List.set_cons_succ]
     refine wpAnyH_ready (rs := [4, 8]) (by kernel_rfl) (by simp) ?_
     refine AllReadyH.cons rfl (fun K hK => ?_) (AllReadyH.cons rfl (fun K hK => ?_) AllReadyH.nil)
     go_simp
     refine hK.out _ _ ?_ (fun hHeld => ?_)
     ·(try dsimp only); exact HK3.out _ rfl rfl
     clear hK K
     try simp only [Act.put, List.setIfInBounds_toArray, List.set_cons_zero, List.set_cons_succ]
     refine wpAnyH_ready (rs := [8]) (by kernel_rfl) (by simp) ?_
     refine AllReadyH.cons rfl (fun K hK => ?_) AllReadyH.nil
     go_simp
     refine hK.out _ _ ?_ (fun hHeld => ?_)
     ·(try dsimp only); exact HK3.out _ (heap_alloc_old _ _ HLT.out.1) (heap_alloc_old _ _ HLT.out.2.1)
     clear hK K
     try simp only [Act.put, List.setIfInBounds_toArray, List.set_cons_zero, List.set_cons_succ]
     refine wpAnyH_ready (rs := [9]) (by kernel_rfl) (by simp) ?_
     refine AllReadyH.cons rfl (fun K hK => ?_) AllReadyH.nil
     go_simp
     first | (go_at_call 57; go_loud (rw [← HW9.out]; (with_reducible refine (HREP.out).mono ?_); rintro e w10 ⟨b', c', rfl, q2, q3, q4, q5⟩; have Q2 := Aside0.mk q2; have Q3 := Aside0.mk q3; have Q4 := Aside0.mk q4; have Q5 := Aside0.mk q5; have E4 := Aside0.mk ((q5.block P4 HL9.out.1 HN4.out.1).trans H49.out); have E6 := Aside0.mk ((q5.block P6 HL9.out.2.1 HN4.out.2.1).trans H69.out); have eg := (q5.block g HL9.out.2.2 HN4.out.2.2).trans HG9.out; have y5 : w10.cell? ⟨g, 0, none⟩ = some (.slice (some ⟨b, 0, none⟩) rs.length c) := blk_cell eg 0; have f5 := blk_frozen eg 0; have EG := Aside0.mk eg; clear q2 q3 q4 q5 eg))
     refine hK.out _ _ ?_ (fun hHeld => ?_)
     ·(try dsimp only); exact HK3.out _ E4.out E6.out
     clear hK K
     try simp only [Act.put, List.setIfInBounds_toArray, List.set_cons_zero, List.set_cons_succ]
     refine wpAnyH_take (i := 10) (oi := _) (v := ?_) rfl (by kernel_rfl) (by kernel_rfl) (by kernel_rfl) (fun _ _ _ h => h) (Or.inl ⟨by rfl, ?_⟩) (by assumption) ?_
     rotate_left
     ·intro w hSw; (try dsimp only at hSw); go_simp; (try with_reducible rfl)
     try simp only [Act.put, List.setIfInBounds_toArray, List.set_cons_zero, List.set_cons_succ]
     refine wpAnyH_take (i := 11) (oi := _) (v := ?_) rfl (by kernel_rfl) (by kernel_rfl) (by kernel_rfl) (fun _ _ _ h => h) (Or.inl ⟨by rfl, ?_⟩) (by assumption) ?_
     rotate_left
     ·intro w hSw; (try dsimp only at hSw); go_simp; (try with_reducible rfl)
     try simp only [Act.put, List.setIfInBounds_toArray, List.set_cons_zero, List.set_cons_succ]
     refine wpAnyH_ready (rs := [12]) (by kernel_rfl) (by simp) ?_
     refine AllReadyH.cons rfl (fun K hK => ?_) AllReadyH.nil
     go_simp
     refine hK.out _ _ ?_ (fun hHeld => ?_)
     ·(try dsimp only); exact HK3.out _ ((Below.heap_setCell _ _ _ _ HLT.out.2.2.2.2.2.2.2.1).trans E4.out) ((Below.heap_setCell _ _ _ _ HLT.out.2.2.2.2.2.2.2.2).trans E6.out)
     clear hK K
     try simp only [Act.put, List.setIfInBounds_toArray, List.set_cons_zero, List.set_cons_succ]
     refine wpAnyH_done (by kernel_rfl) ?_ _
     refine NoPanic.normal ?_
     rotate_left
     go_simp
     refine hK.out _ _ ?_ (fun hHeld => ?_)
     ·(try dsimp only); exact HK3.out _ (heap_alloc_old _ _ HLT.out.1) (heap_alloc_old _ _ HLT.out.2.1)
     clear hK K
     try simp only [Act.put, List.setIfInBounds_toArray, List.set_cons_zero, List.set_cons_succ]
     refine wpAnyH_ready (rs := [4]) (by kernel_rfl) (by simp) ?_
     refine AllReadyH.cons rfl (fun K hK => ?_) AllReadyH.nil
     go_simp
     refine hK.out _ _ ?_ (fun hHeld => ?_)
     ·(try dsimp only); exact HK3.out _ (heap_alloc_old _ _ HLT.out.1) (heap_alloc_old _ _ HLT.out.2.1)
     clear hK K
     try simp only [Act.put, List.setIfInBounds_toArray, List.set_cons_zero, List.set_cons_succ]
     refine wpAnyH_ready (rs := [9]) (by kernel_rfl) (by simp) ?_
     refine AllReadyH.cons rfl (fun K hK => ?_) AllReadyH.nil
     go_simp
     first | (go_at_call 57; go_loud (rw [← HW9.out]; (with_reducible refine (HREP.out).mono ?_); rintro e w10 ⟨b', c', rfl, q2, q3, q4, q5⟩; have Q2 := Aside0.mk q2; have Q3 := Aside0.mk q3; have Q4 := Aside0.mk q4; have Q5 := Aside0.mk q5; have E4 := Aside0.mk ((q5.block P4 HL9.out.1 HN4.out.1).trans H49.out); have E6 := Aside0.mk ((q5.block P6 HL9.out.2.1 HN4.out.2.1).trans H69.out); have eg := (q5.block g HL9.out.2.2 HN4.out.2.2).trans HG9.out; have y5 : w10.cell? ⟨g, 0, none⟩ = some (.slice (some ⟨b, 0, none⟩) rs.length c) := blk_cell eg 0; have f5 := blk_frozen eg 0; have EG := Aside0.mk eg; clear q2 q3 q4 q5 eg))
     refine hK.out _ _ ?_ (fun hHeld => ?_)
     ·(try dsimp only); exact HK3.out _ E4.out E6.out
     clear hK K
     try simp only [Act.put, List.setIfInBounds_toArray, List.set_cons_zero, List.set_cons_succ]
     refine wpAnyH_take (i := 10) (oi := _) (v := ?_) rfl (by kernel_rfl) (by kernel_rfl) (by kernel_rfl) (fun _ _ _ h => h) (Or.inl ⟨by rfl, ?_⟩) (by assumption) ?_
     rotate_left
     ·intro w hSw; (try dsimp only at hSw); go_simp; (try with_reducible rfl)
     try simp only [Act.put, List.setIfInBounds_toArray, List.set_cons_zero, List.set_cons_succ]
     refine wpAnyH_take (i := 11) (oi := _) (v := ?_) rfl (by kernel_rfl) (by kernel_rfl) (by kernel_rfl) (fun _ _ _ h => h) (Or.inl ⟨by rfl, ?_⟩) (by assumption) ?_
     rotate_left
     ·intro w hSw; (try dsimp only at hSw); go_simp; (try with_reducible rfl)
     try simp only [Act.put, List.setIfInBounds_toArray, List.set_cons_zero, List.set_cons_succ]
     refine wpAnyH_ready (rs := [12]) (by kernel_rfl) (by simp) ?_
     refine AllReadyH.cons rfl (fun K hK => ?_) AllReadyH.nil
     go_simp
     refine hK.out _ _ ?_ (fun hHeld => ?_)
     ·(try dsimp only); exact HK3.out _ ((Below.heap_setCell _ _ _ _ HLT.out.2.2.2.2.2.2.2.1).trans E4.out) ((Below.heap_setCell _ _ _ _ HLT.out.2.2.2.2.2.2.2.2).trans E6.out)
     clear hK K
     try simp only [Act.put, List.setIfInBounds_toArray, List.set_cons_zero, List.set_cons_succ]
     refine wpAnyH_done (by kernel_rfl) ?_ _
     refine NoPanic.normal ?_
     rotate_left
     all_goals
      obtain ⟨sp', hq2⟩ := Q2.out
      obtain ⟨W11, hW11⟩ : ∃ W, W = w10.setCell ⟨g, 0, none⟩ (.slice (some ⟨b', 0, none⟩) (i + 1 + (n - j)) c') := ⟨_, rfl⟩
      rw [← hW11]
      have hti := HTILL.out
      have hnn2 := HNN.out
      have hlen : (rs.take i ++ r :: rs.drop j).length = i + 1 + (n - j) := by
       rw [List.length_append, List.length_cons, List.length_take, List.length_drop]
       have := hti.1
       have := hti.2.1
       omega
      have hgb : g ≠ b' := blk_ne EG.out hq2.h (by decide)
      have hFB : FB W11 g b' c' (rs.take i ++ r :: rs.drop j) sp' cov t l hd ep st := ⟨by rw [hW11, blk_set EG.out 0 _, hlen]; rfl, ⟨by rw [hW11]; exact blk_far hq2.h (p := ⟨g, 0, none⟩) (fun e => hgb e.symm) _, hq2.l⟩⟩
      have HADV := Aside0.mk (adv_calls g b' c' i cov t l ep hd st (rs.take i ++ r :: rs.drop j) sp' W11 hFB (by rw [hlen]; omega) (by rw [hlen]; have := HNL.out; have := hti.1; have := hti.2.1; omega) (fun x hx => by
       rcases List.mem_append.1 hx with hx | hx
       ·exact HBND.out x (List.mem_of_mem_take hx)
       ·rcases List.mem_cons.1 hx with rfl | hx
        ·have := HHB.out
         omega
        ·exact HBND.out x (List.mem_of_mem_drop hx)))
      have HAP : Aside0 (∀ w12, W11.grownBy w12 (some g) → Apart w w12 g b) := ⟨fun w12 hgr => by
       have hq5 := Q5.out
       have hb9 := HB9.out
       have h18 := HBR.out
       have h01 := HB.out
       have s11 : W11.heap.size = w10.heap.size := by rw [hW11]; simp [World.setCell]
       have o11 : W11.os = w10.os ∧ W11.tape = w10.tape ∧ W11.output = w10.output := by rw [hW11]; exact ⟨rfl, rfl, rfl⟩
       have z5 := hq5.size
       have z9 := hb9.size
       have z8 := h18.size
       have z1 := h01.size
       have z12 := hgr.size
       have z9' : W9.drew.heap.size = W9.heap.size := rfl
       refine ⟨hgr.os.trans (o11.1.trans (hq5.os.trans (hb9.os.trans (h18.os.trans h01.os)))), hgr.tape.trans (o11.2.1.trans (hq5.tape.trans (hb9.tape.trans (h18.tape.trans h01.tape)))), hgr.output.trans (o11.2.2.trans (hq5.output.trans (hb9.output.trans (h18.output.trans h01.output)))), by omega, fun k hk hkg hkb => ?_⟩
       have e1 : w12.heap[k]? = W11.heap[k]? := hgr.block k (by omega) (fun e => hkg (by injection e))
       have e2 : W11.heap[k]? = w10.heap[k]? := by rw [hW11]; exact Below.heap_setCell _ ⟨g, 0, none⟩ _ k hkg
       have e3 : w10.heap[k]? = W9.heap[k]? := hq5.block k (by omega) (fun e => hkb (by injection e))
       exact e1.trans (e2.trans (e3.trans ((hb9.block k (by omega)).trans ((h18.block k (by omega)).trans (h01.block k hk)))))⟩
      have HQ4 : Aside0 (b' = b ∨ w.heap.size ≤ b') := ⟨by
       have z9 := HB9.out.size
       have z8 := HBR.out.size
       have z1 := HB.out.size
       have z9' : W9.drew.heap.size = W9.heap.size := rfl
       rcases Q4.out with h | h
       ·exact .inl h
       ·right
        omega⟩
      have HDJ : Aside0 (d = j - i) := ⟨by have := HJ.out; omega⟩
      have x4 : W11.cell? ⟨P4, 0, none⟩ = some (.pointer (some ⟨g, 0, none⟩)) := by
       rw [hW11]
       exact (HK3.out _ ((Below.heap_setCell _ _ _ _ HLT.out.2.2.2.2.2.2.2.1).trans E4.out) ((Below.heap_setCell _ _ _ _ HLT.out.2.2.2.2.2.2.2.2).trans E6.out)).1
      have hs9 : s ≤ 4294967296000 := by have := HSB.out; omega
      have hl9 : r.len < 2147483648 := by have := HHB.out; omega
      clear hq2 hW11 hti hnn2 hlen hgb hFB y5 f5
      go_wp2_with (go_at_call 58; go_loud ((with_reducible refine (HADV.out).mono ?_); rintro e w12 ⟨rfl, hfb, hgr⟩; have HFB := Aside0.mk hfb; have HGR := Aside0.mk hgr; clear hfb hgr))
      refine bodyPost_ret (v := .tuple #[.int .i64 (-(d : Int) + 1), .int .i64 (-(s : Int) + (r.len : Int)), .nilIface]) (by simp [results, Tryd.results45, go_sem]) rfl ⟨i, HI.out, .inr ⟨HCVV.out, j, HTILL.out, ?_, b', c', sp', HFB.out, Q3.out, HQ4.out, HAP.out _ HGR.out⟩⟩
      rw [← HDJ.out, ← HSU.out]
      rw [show -(d : Int) + 1 = 1 - (d : Int) by omega, show -(s : Int) + (r.len : Int) = (r.len : Int) - (s : Int) by omega]
  ·rw [hcv] at hCV
   have HCVV := Aside0.mk hcv
   have HCV := Aside0.mk hCV
   clear hcv hCV
   go_wp2_with (fail)
   refine (HCV.out).mono ?_
   rintro e w3 ⟨rfl, h3⟩
   have H3 := Aside0.mk h3
   clear h3
   go_wp2
   exact bodyPost_ret (v := .tuple #[.int .i64 0, .int .i64 0, .nilIface]) (by simp [results, Tryd.results45, go_sem]) rfl ⟨i, HI.out, .inl ⟨HCVV.out, rfl, below_then HB.out HB.out.size ⟨H3.out.os, H3.out.tape, H3.out.output, H3.out.size, H3.out.block⟩⟩⟩
 ·have hnil : Value.slice none 0 0 = .slice r.p.1 r.len r.p.2 := by rw [hp, hr0]
  have hnil' : Value.slice A0 r.len pc0 = .slice A0 0 pc0 := by rw [hr0]
  rw [hnil']
  have HR0 := Aside0.mk hr0
  clear hp hnil' hr0
  have z0 : True := trivial
  go_enter Tryd.func45, Tryd.ntmps45
  go_wp2_with (fail)
  rw [hnil]
  clear hnil
  rw [← HW1.out, ← HP6.out, ← HP5.out, ← HP4.out]
  clear g0 g0'
  refine (HSR.out).mono ?_
  rintro e w2 ⟨i, rfl, hidx, m, rfl⟩
  have HI := Aside0.mk hidx
  have hCV := HCV.out m i (by rw [HNN.out]; exact hidx.1)
  clear HSR HCV hidx
  cases hcv : coversAt rs i r.off (r.off + r.len)
  ·rw [hcv] at hCV
   have HCVV := Aside0.mk hcv
   have HCV := Aside0.mk hCV
   clear hcv hCV
   go_wp2_with (fail)
   refine (HCV.out).mono ?_
   rintro e w3 ⟨rfl, h3⟩
   have H3 : Aside0 (Below W1.heap.size W1 w3) := ⟨⟨h3.os, h3.tape, h3.output, h3.size, h3.block⟩⟩
   have HHB : Aside0 (r.off + r.len < 2147483648) := ⟨hb1⟩
   clear h3 q0 p0 p1 p2 p3 z0 hb1
   go_wp2_with (fail)
   go_loopg [8, 9, 13] (n - i) (fun kq v8 v9 v13 wr => ∃ (d s : Nat), v8 = .int .i64 (-(d : Int)) ∧ v9 = .int .i64 (-(s : Int)) ∧ v13 = .int .i64 ((i + d : Nat) : Int) ∧ Aside0 (kq = n - (i + d) ∧ i + d ≤ n) ∧ Aside0 (s = sumLen ((rs.drop i).take d)) ∧ Aside0 (∀ (k : Nat) (x : Rv), i ≤ k → k < i + d → rs[k]? = some x → x.off + x.len ≤ r.off + r.len) ∧ Aside0 (s ≤ d * 4294967296) ∧ Aside0 (Below W1.heap.size W1 wr))
   case atStart => exact ⟨0, 0, by simp, by simp, by simp, ⟨by have := HI.out.1; have := HNN.out; omega⟩, ⟨rfl⟩, ⟨fun k x h1 h2 => by omega⟩, ⟨by omega⟩, H3⟩
   case round =>
    obtain ⟨d, s, rfl, rfl, rfl, HK, HSU, HT, HSB, HW⟩ := hrel
    obtain ⟨j, hj⟩ : ∃ j, j = i + d := ⟨_, rfl⟩
    rw [← hj]
    have HJ := Aside0.mk hj
    have hS : ∀ w', Below W1.heap.size W1 w' → w'.cell? ⟨P4, 0, none⟩ = some (.pointer (some ⟨g, 0, none⟩)) ∧ w'.cell? ⟨g, 0, none⟩ = some (.slice (some ⟨b, 0, none⟩) n c) ∧ w'.cell? ⟨P6, 0, none⟩ = some (.int .u32 (r.off : Int)) ∧ w'.cell? ⟨P6, 1, none⟩ = some (.slice r.p.1 r.len r.p.2) := by
     intro w' hb
     have hF := HF.out.below hb
     exact ⟨blk_cell ((hb.block P4 (blk_lt K4.out)).trans K4.out) 0, by rw [HNN.out]; exact hF.c0, blk_cell ((hb.block P6 (blk_lt K6.out)).trans K6.out) 0, blk_cell ((hb.block P6 (blk_lt K6.out)).trans K6.out) 1⟩
    clear hj
    by_cases hjn : j < n
    ·obtain ⟨y, hy⟩ : ∃ y, rs[j]? = some y := ⟨_, List.getElem?_eq_getElem (by have := HNN.out; omega)⟩
     have e5 : (j : Int) < (n : Int) := by omega
     have hS2 : ∀ w', Below W1.heap.size W1 w' → w'.cell? ⟨P4, 0, none⟩ = some (.pointer (some ⟨g, 0, none⟩)) ∧ w'.cell? ⟨g, 0, none⟩ = some (.slice (some ⟨b, 0, none⟩) n c) ∧ w'.cell? ⟨P6, 0, none⟩ = some (.int .u32 (r.off : Int)) ∧ w'.cell? ⟨P6, 1, none⟩ = some (.slice r.p.1 r.len r.p.2) ∧ w'.cell? ⟨b, j * 2, none⟩ = some (.int .u32 (y.off : Int)) ∧ w'.cell? ⟨b, j * 2 + 1, none⟩ = some (.slice y.p.1 y.len y.p.2) := by
      intro w' hb
      obtain ⟨z1, z2, z3, z4⟩ := hS w' hb
      obtain ⟨z5, z6⟩ := (HF.out.below hb).r.off j y hy
      exact ⟨z1, z2, z3, z4, z5, z6⟩
     have EA : Aside0 (∀ W, Calls Tryd.prog 47 #[.agg #[.int .u32 (y.off : Int), .slice y.p.1 y.len y.p.2]] W fun e w' => e = .returned (.int .u32 ((y.off + y.len : Nat) : Int)) ∧ Below W.heap.size W w') := ⟨fun W => end_calls y.off y.len y.p.1 y.p.2 W (HBND.out y (List.mem_of_getElem? hy))⟩
     have EB : Aside0 (∀ W, Calls Tryd.prog 47 #[.agg #[.int .u32 (r.off : Int), .slice r.p.1 r.len r.p.2]] W fun e w' => e = .returned (.int .u32 ((r.off + r.len : Nat) : Int)) ∧ Below W.heap.size W w') := ⟨fun W => end_calls r.off r.len r.p.1 r.p.2 W (by have := HHB.out; omega)⟩
     have HS2 := Aside0.mk hS2
     have HSS := Aside0.mk hS
     have HY := Aside0.mk hy
     have HBR := HW
     by_cases hle : y.off + y.len ≤ r.off + r.len
     ·have c1 : (y.off : Int) + (y.len : Int) ≤ (r.off : Int) + (r.len : Int) := by omega
      have HLE := Aside0.mk hle
      clear hS hS2 hy hle
      go_wp2_with (fail)
      go_region_held3 (fun w' => w'.cell? ⟨P4, 0, none⟩ = some (.pointer (some ⟨g, 0, none⟩)) ∧ w'.cell? ⟨g, 0, none⟩ = some (.slice (some ⟨b, 0, none⟩) n c) ∧ w'.cell? ⟨P6, 0, none⟩ = some (.int .u32 (r.off : Int)) ∧ w'.cell? ⟨P6, 1, none⟩ = some (.slice r.p.1 r.len r.p.2) ∧ w'.cell? ⟨b, j * 2, none⟩ = some (.int .u32 (y.off : Int)) ∧ w'.cell? ⟨b, j * 2 + 1, none⟩ = some (.slice y.p.1 y.len y.p.2)) (first | exact HS2.out _ HBR.out | exact HS2.out _ HBR.out.drew | exact HS2.out _ HBR.out.drew.drew) (first | (go_at_call 47; go_loud (first | ((with_reducible refine (EA.out _).mono ?_); rintro e w8 ⟨rfl, h8⟩; have HBRa := Aside0.mk (show Below W1.heap.size W1 w8 from by first | exact below_then HBR.out HBR.out.size h8 | exact below_then HBR.out.drew HBR.out.drew.size h8 | exact below_then HBR.out.drew.drew HBR.out.drew.drew.size h8); clear HBR; have HBR := HBRa; clear HBRa h8) | ((with_reducible refine (EB.out _).mono ?_); rintro e w8 ⟨rfl, h8⟩; have HBRa := Aside0.mk (show Below W1.heap.size W1 w8 from by first | exact below_then HBR.out HBR.out.size h8 | exact below_then HBR.out.drew HBR.out.drew.size h8 | exact below_then HBR.out.drew.drew HBR.out.drew.drew.size h8); clear HBR; have HBR := HBRa; clear HBRa h8))))
      obtain ⟨z1, z2, z3, z4, z5, z6⟩ := HS2.out _ HBR.out
      go_wp2
      go_roundg (n - (j + 1))
      case measure => have := HK.out; have := HJ.out; omega
      case rel =>
       have q1 := HK.out
       have q2 := HJ.out
       have q3 := HNN.out
       have q5 := HSB.out
       have q6 := HNL.out
       have q7 := HBND.out y (List.mem_of_getElem? HY.out)
       refine ⟨d + 1, s + y.len, ?_, ?_, ?_, ⟨by omega⟩, ⟨?_⟩, ⟨?_⟩, ⟨?_⟩, HBR⟩
       ·congr 1
        first
         | omega
         | (unfold wrap64; omega)
       ·congr 1
        first
         | omega
         | (unfold wrap64; omega)
       ·congr 1
        first
         | omega
         | (unfold wrap64; omega)
       ·rw [HSU.out, List.take_add_one, List.getElem?_drop, ← q2, HY.out]
        simp [sumLen]
       ·intro k x h1 h2 h3
        by_cases e : k = j
        ·subst e
         rw [HY.out] at h3
         obtain rfl := Option.some.inj h3
         exact HLE.out
        ·exact HT.out k x h1 (by omega) h3
       ·rw [Nat.add_mul]
        omega
     ·have c1 : ¬ ((y.off : Int) + (y.len : Int) ≤ (r.off : Int) + (r.len : Int)) := by omega
      have HTILL : Aside0 (Till rs (r.off + r.len) i j) := ⟨by
       have q1 := HK.out
       have q2 := HJ.out
       have q3 := HNN.out
       refine ⟨by omega, by omega, fun k x h1 h2 h3 => HT.out k x h1 (by omega) h3, fun x hx => ?_⟩
       rw [hy] at hx
       obtain rfl := Option.some.inj hx
       omega⟩
      clear hS hS2 hy hle
      go_wp2_with (fail)
      go_region_held3 (fun w' => w'.cell? ⟨P4, 0, none⟩ = some (.pointer (some ⟨g, 0, none⟩)) ∧ w'.cell? ⟨g, 0, none⟩ = some (.slice (some ⟨b, 0, none⟩) n c) ∧ w'.cell? ⟨P6, 0, none⟩ = some (.int .u32 (r.off : Int)) ∧ w'.cell? ⟨P6, 1, none⟩ = some (.slice r.p.1 r.len r.p.2) ∧ w'.cell? ⟨b, j * 2, none⟩ = some (.int .u32 (y.off : Int)) ∧ w'.cell? ⟨b, j * 2 + 1, none⟩ = some (.slice y.p.1 y.len y.p.2)) (first | exact HS2.out _ HBR.out | exact HS2.out _ HBR.out.drew | exact HS2.out _ HBR.out.drew.drew) (first | (go_at_call 47; go_loud (first | ((with_reducible refine (EA.out _).mono ?_); rintro e w8 ⟨rfl, h8⟩; have HBRa := Aside0.mk (show Below W1.heap.size W1 w8 from by first | exact below_then HBR.out HBR.out.size h8 | exact below_then HBR.out.drew HBR.out.drew.size h8 | exact below_then HBR.out.drew.drew HBR.out.drew.drew.size h8); clear HBR; have HBR := HBRa; clear HBRa h8) | ((with_reducible refine (EB.out _).mono ?_); rintro e w8 ⟨rfl, h8⟩; have HBRa := Aside0.mk (show Below W1.heap.size W1 w8 from by first | exact below_then HBR.out HBR.out.size h8 | exact below_then HBR.out.drew HBR.out.drew.size h8 | exact below_then HBR.out.drew.drew HBR.out.drew.drew.size h8); clear HBR; have HBR := HBRa; clear HBRa h8))))
      have hd9 : d ≤ 900 := by have := HK.out; have := HNN.out; have := HNL.out; omega
      have c12 : -(d : Int) + 1 ≤ (av : Int) := by omega
      go_wp2_with (fail)
      clear c12
      have hlt4 : P4 < w8.heap.size := Nat.lt_of_lt_of_le (blk_lt K4.out) HBR.out.size
      have hlt6 : P6 < w8.heap.size := Nat.lt_of_lt_of_le (blk_lt K6.out) HBR.out.size
      have hFX := HF.out.below HBR.out
      have hltb : b < w8.heap.size := blk_lt hFX.r.h
      have hltg : g < w8.heap.size := blk_lt hFX.h
      have k4 : w8.heap[P4]? = _ := (HBR.out.block P4 (blk_lt K4.out)).trans K4.out
      have k6 : w8.heap[P6]? = _ := (HBR.out.block P6 (blk_lt K6.out)).trans K6.out
      have hK : ∀ w' : World, w'.heap[P4]? = w8.heap[P4]? → w'.heap[P6]? = w8.heap[P6]? → w'.cell? ⟨P4, 0, none⟩ = some (.pointer (some ⟨g, 0, none⟩)) ∧ w'.cell? ⟨P6, 0, none⟩ = some (.int .u32 (r.off : Int)) ∧ w'.cell? ⟨P6, 1, none⟩ = some (.slice r.p.1 r.len r.p.2) := fun w' e4 e6 => ⟨blk_cell (e4.trans k4) 0, blk_cell (e6.trans k6) 0, blk_cell (e6.trans k6) 1⟩
      have HK3 := Aside0.mk hK
      obtain ⟨W9, hW9⟩ : ∃ W, W = w8.alloc (.cells #[.int .u32 (r.off : Int), .slice r.p.1 r.len r.p.2] 108) := ⟨_, rfl⟩
      have hb9 : Below w8.heap.size w8 W9 := by rw [hW9]; exact (Below.refl _ _).alloc (Nat.le_refl _) _
      have hF9 := hFX.below hb9
      have hv9 : W9.heap[w8.heap.size]? = some (.cells (rcells [r]).toArray 108 (0, 0)) := by rw [hW9]; exact heap_alloc_new _ _
      have hnb4 : P4 ≠ b := blk_ne k4 hFX.r.h (by decide)
      have hnbg : g ≠ b := hFX.ne
      have hnb6 : P6 ≠ b := by
       have := HP6.out
       have := blk_lt HH.out.r.h
       omega
      have HREP : Aside0 (Calls Tryd.prog 57 #[.slice (some ⟨b, 0, none⟩) n c, .int .i64 (i : Int), .int .i64 (j : Int), .slice (some ⟨w8.heap.size, 0, none⟩) 1 1] W9.drew (Put W9.drew b (i + 1 + (n - j)) (rs.take i ++ r :: rs.drop j))) := ⟨by
       rw [HNN.out]
       exact rep_calls b c i j w8.heap.size r rs sp W9.drew ⟨hF9.r.h, hF9.r.l⟩ HC.out hv9 (by omega) (by have := HNL.out; omega) HTILL.out.1 HTILL.out.2.1⟩
      have y0 : w8.cell? ⟨g, 0, none⟩ = some (.slice (some ⟨b, 0, none⟩) n c) := by rw [HNN.out]; exact hFX.c0
      have y1 : ∀ o, (w8.alloc o).cell? ⟨g, 0, none⟩ = some (.slice (some ⟨b, 0, none⟩) n c) := fun o => ((Below.refl w8.heap.size w8).alloc (Nat.le_refl _) o).cell hltg |>.trans y0
      have HW9 := Aside0.mk hW9
      have HB9 := Aside0.mk hb9
      have HF9 := Aside0.mk hF9
      have HLT : Aside0 (P4 < w8.heap.size ∧ P6 < w8.heap.size ∧ b < w8.heap.size ∧ g < w8.heap.size ∧ P4 ≠ b ∧ P6 ≠ b ∧ g ≠ b ∧ P4 ≠ g ∧ P6 ≠ g) := ⟨hlt4, hlt6, hltb, hltg, hnb4, hnb6, hnbg, blk_ne k4 hFX.h (by decide), blk_ne k6 hFX.h (by decide)⟩
      have HN4 : Aside0 (some P4 ≠ some b ∧ some P6 ≠ some b ∧ some g ≠ some b) := ⟨fun e => hnb4 (by injection e), fun e => hnb6 (by injection e), fun e => hnbg (by injection e)⟩
      have HL9 : Aside0 (P4 < W9.drew.heap.size ∧ P6 < W9.drew.heap.size ∧ g < W9.drew.heap.size) := ⟨Nat.lt_of_lt_of_le hlt4 hb9.size, Nat.lt_of_lt_of_le hlt6 hb9.size, Nat.lt_of_lt_of_le hltg hb9.size⟩
      have HG9 : Aside0 (W9.drew.heap[g]? = some (.cells (fcells (.slice (some ⟨b, 0, none⟩) rs.length c) cov t l hd ep st) 102 (0, 0))) := ⟨hF9.h⟩
      have H49 : Aside0 (W9.drew.heap[P4]? = w8.heap[P4]?) := ⟨hb9.block P4 hlt4⟩
      have H69 : Aside0 (W9.drew.heap[P6]? = w8.heap[P6]?) := ⟨hb9.block P6 hlt6⟩
      clear hK hW9 hb9 hF9 hv9 hFX k4 k6 hlt4 hlt6 hltb hltg hnb4 hnb6 hnbg
      refine wp_region_noPanic ?_
      refine wp_region_held_drew (S := (fun w' => w'.cell? ⟨P4, 0, none⟩ = some (.pointer (some ⟨g, 0, none⟩)) ∧ w'.cell? ⟨P6, 0, none⟩ = some (.int .u32 (r.off : Int)) ∧ w'.cell? ⟨P6, 1, none⟩ = some (.slice r.p.1 r.len r.p.2))) (by kernel_rfl) ?_ (fun hHeld => ?_)
      ·(try dsimp only); exact HK3.out _ rfl rfl
      refine wpAnyH_take (i := 0) (oi := _) (v := ?_) rfl (by kernel_rfl) (by kernel_rfl) (by kernel_rfl) (fun _ _ _ h => h) (Or.inl ⟨by rfl, ?_⟩) (by assumption) ?_
      rotate_left
      ·intro w hSw; (try dsimp only at hSw); go_simp; (try with_reducible rfl)
      try simp only [Act.put, List.setIfInBounds_toArray, List.set_cons_zero, List.set_cons_succ]
      refine wpAnyH_take (i := 1) (oi := _) (v := ?_) rfl (by kernel_rfl) (by kernel_rfl) (by kernel_rfl) (fun _ _ _ h => h) (Or.inl ⟨by rfl, ?_⟩) (by assumption) ?_
      rotate_left
      ·intro w hSw; (try dsimp only at hSw); go_simp; (try with_reducible rfl)
      try simp only [Act.put, List.setIfInBounds_toArray, List.set_cons_zero, List.set_cons_succ]
      refine wpAnyH_take (i := 2) (oi := _) (v := ?_) rfl (by kernel_rfl) (by kernel_rfl) (by kernel_rfl) (fun _ _ _ h => h) (Or.inl ⟨by rfl, ?_⟩) (by assumption) ?_
      rotate_left
      ·intro w hSw; (try dsimp only at hSw); go_simp; (try with_reducible rfl)
      try simp only [Act.put, List.setIfInBounds_toArray, List.set_cons_zero, List.set_cons_succ]
      refine wpAnyH_take (i := 3) (oi := _) (v := ?_) rfl (by kernel_rfl) (by kernel_rfl) (by kernel_rfl) (fun _ _ _ h => h) (Or.inl ⟨by rfl, ?_⟩) (by assumption) ?_
      rotate_left
      ·intro w hSw; (try dsimp only at hSw); go_simp; (try with_reducible rfl)
      try simp only [Act.put, List.setIfInBounds_toArray, List.set_cons_zero, List.set_cons_succ]
      refine wpAnyH_take (i := 5) (oi := _) (v := ?_) rfl (by kernel_rfl) (by kernel_rfl) (by kernel_rfl) (fun _ _ _ h => h) (Or.inl ⟨by rfl, ?_⟩) (by assumption) ?_
      rotate_left
      ·intro w hSw; (try dsimp only at hSw); go_simp; (try with_reducible rfl)
      try simp only [Act.put, List.setIfInBounds_toArray, List.set_cons_zero, List.set_cons_succ]
      refine wpAnyH_take (i := 6) (oi := _) (v := ?_) rfl (by kernel_rfl) (by kernel_rfl) (by kernel_rfl) (fun _ _ _ h => h) (Or.inl ⟨by rfl, ?_⟩) (by assumption) ?_
      rotate_left
      ·intro w hSw; (try dsimp only at hSw); go_simp; (try with_reducible rfl)
      try simp only [Act.put, List.setIfInBounds_toArray, List.set_cons_zero, List.set_cons_succ]
      refine wpAnyH_take (i := 7) (oi := _) (v := ?_) rfl (by kernel_rfl) (by kernel_rfl) (by kernel_rfl) (fun _ _ _ h => h) (Or.inl ⟨by rfl, ?_⟩) (by assumption) ?_
      rotate_left
      ·intro w hSw; (try dsimp only at hSw); go_simp; (try with_reducible rfl)
      try simp only [Act.put, List.setIfInBounds_toArray, List.set_cons_zero, List.set_cons_succ]
      refine wpAnyH_ready (rs := [4, 8]) (by kernel_rfl) (by simp) ?_
      refine AllReadyH.cons rfl (fun K hK => ?_) (AllReadyH.cons rfl (fun K hK => ?_) AllReadyH.nil)
      go_simp
      refine hK.out _ _ ?_ (fun hHeld => ?_)
      ·(try dsimp only); exact HK3.out _ rfl rfl
      clear hK K
      try simp only [Act.put, List.setIfInBounds_toArray, List.set_cons_zero, List.set_cons_succ]
      refine wpAnyH_ready (rs := [8]) (by kernel_rfl) (by simp) ?_
      refine AllReadyH.cons rfl (fun K hK => ?_) AllReadyH.nil
      go_simp
      refine hK.out _ _ ?_ (fun hHeld => ?_)
      ·(try dsimp only); exact HK3.out _ (heap_alloc_old _ _ HLT.out.1) (heap_alloc_old _ _ HLT.out.2.1)
      clear hK K
      try simp only [Act.put, List.setIfInBounds_toArray, List.set_cons_zero, List.set_cons_succ]
      refine wpAnyH_ready (rs := [9]) (by kernel_rfl) (by simp) ?_
      refine AllReadyH.cons rfl (fun K hK => ?_) AllReadyH.nil
      go_simp
      first | (go_at_call 57; go_loud (rw [← HW9.out]; (with_reducible refine (HREP.out).mono ?_); rintro e w10 ⟨b', c', rfl, q2, q3, q4, q5⟩; have Q2 := Aside0.mk q2; have Q3 := Aside0.mk q3; have Q4 := Aside0.mk q4; have Q5 := Aside0.mk q5; have E4 := Aside0.mk ((q5.block P4 HL9.out.1 HN4.out.1).trans H49.out); have E6 := Aside0.mk ((q5.block P6 HL9.out.2.1 HN4.out.2.1).trans H69.out); have eg := (q5.block g HL9.out.2.2 HN4.out.2.2).trans HG9.out; have y5 : w10.cell? ⟨g, 0, none⟩ = some (.slice (some ⟨b, 0, none⟩) rs.length c) := blk_cell eg 0; have f5 := blk_frozen eg 0; have EG := Aside0.mk eg; clear q2 q3 q4 q5 eg))
      refine hK.out _ _ ?_ (fun hHeld => ?_)
      ·(try dsimp only); exact HK3.out _ E4.out E6.out
      clear hK K
      try simp only [Act.put, List.setIfInBounds_toArray, List.set_cons_zero, List.set_cons_succ]
      refine wpAnyH_take (i := 10) (oi := _) (v := ?_) rfl (by kernel_rfl) (by kernel_rfl) (by kernel_rfl) (fun _ _ _ h => h) (Or.inl ⟨by rfl, ?_⟩) (by assumption) ?_
      rotate_left
      ·intro w hSw; (try dsimp only at hSw); go_simp; (try with_reducible rfl)
      try simp only [Act.put, List.setIfInBounds_toArray, List.set_cons_zero, List.set_cons_succ]
      refine wpAnyH_take (i := 11) (oi := _) (v := ?_) rfl (by kernel_rfl) (by kernel_rfl) (by kernel_rfl) (fun _ _ _ h => h) (Or.inl ⟨by rfl, ?_⟩) (by assumption) ?_
      rotate_left
      ·intro w hSw; (try dsimp only at hSw); go_simp; (try with_reducible rfl)
      try simp only [Act.put, List.setIfInBounds_toArray, List.set_cons_zero, List.set_cons_succ]
      refine wpAnyH_ready (rs := [12]) (by kernel_rfl) (by simp) ?_
      refine AllReadyH.cons rfl (fun K hK => ?_) AllReadyH.nil
      go_simp
      refine hK.out _ _ ?_ (fun hHeld => ?_)
      ·(try dsimp only); exact HK3.out _ ((Below.heap_setCell _ _ _ _ HLT.out.2.2.2.2.2.2.2.1).trans E4.out) ((Below.heap_setCell _ _ _ _ HLT.out.2.2.2.2.2.2.2.2).trans E6.out)
      clear hK K
      try simp only [Act.put, List.setIfInBounds_toArray, List.set_cons_zero, List.set_cons_succ]
      refine wpAnyH_done (by kernel_rfl) ?_ _
      refine NoPanic.normal ?_
      rotate_left
      go_simp
      refine hK.out _ _ ?_ (fun hHeld => ?_)
      ·(try dsimp only); exact HK3.out _ (heap_alloc_old _ _ HLT.out.1) (heap_alloc_old _ _ HLT.out.2.1)
      clear hK K
      try simp only [Act.put, List.setIfInBounds_toArray, List.set_cons_zero, List.set_cons_succ]
      refine wpAnyH_ready (rs := [4]) (by kernel_rfl) (by simp) ?_
      refine AllReadyH.cons rfl (fun K hK => ?_) AllReadyH.nil
      go_simp
      refine hK.out _ _ ?_ (fun hHeld => ?_)
      ·(try dsimp only); exact HK3.out _ (heap_alloc_old _ _ HLT.out.1) (heap_alloc_old _ _ HLT.out.2.1)
      clear hK K
      try simp only [Act.put, List.setIfInBounds_toArray, List.set_cons_zero, List.set_cons_succ]
      refine wpAnyH_ready (rs := [9]) (by kernel_rfl) (by simp) ?_
      refine AllReadyH.cons rfl (fun K hK => ?_) AllReadyH.nil
      go_simp
      first | (go_at_call 57; go_loud (rw [← HW9.out]; (with_reducible refine (HREP.out).mono ?_); rintro e w10 ⟨b', c', rfl, q2, q3, q4, q5⟩; have Q2 := Aside0.mk q2; have Q3 := Aside0.mk q3; have Q4 := Aside0.mk q4; have Q5 := Aside0.mk q5; have E4 := Aside0.mk ((q5.block P4 HL9.out.1 HN4.out.1).trans H49.out); have E6 := Aside0.mk ((q5.block P6 HL9.out.2.1 HN4.out.2.1).trans H69.out); have eg := (q5.block g HL9.out.2.2 HN4.out.2.2).trans HG9.out; have y5 : w10.cell? ⟨g, 0, none⟩ = some (.slice (some ⟨b, 0, none⟩) rs.length c) := blk_cell eg 0; have f5 := blk_frozen eg 0; have EG := Aside0.mk eg; clear q2 q3 q4 q5 eg))
      refine hK.out _ _ ?_ (fun hHeld => ?_)
      ·(try dsimp only); exact HK3.out _ E4.out E6.out
      clear hK K
      try simp only [Act.put, List.setIfInBounds_toArray, List.set_cons_zero, List.set_cons_succ]
      refine wpAnyH_take (i := 10) (oi := _) (v := ?_) rfl (by kernel_rfl) (by kernel_rfl) (by kernel_rfl) (fun _ _ _ h => h) (Or.inl ⟨by rfl, ?_⟩) (by assumption) ?_
      rotate_left
      ·intro w hSw; (try dsimp only at hSw); go_simp; (try with_reducible rfl)
      try simp only [Act.put, List.setIfInBounds_toArray, List.set_cons_zero, List.set_cons_succ]
      refine wpAnyH_take (i := 11) (oi := _) (v := ?_) rfl (by kernel_rfl) (by kernel_rfl) (by kernel_rfl) (fun _ _ _ h => h) (Or.inl ⟨by rfl, ?_⟩) (by assumption) ?_
      rotate_left
      ·intro w hSw; (try dsimp only at hSw); go_simp; (try with_reducible rfl)
      try simp only [Act.put, List.setIfInBounds_toArray, List.set_cons_zero, List.set_cons_succ]
      refine wpAnyH_ready (rs := [12]) (by kernel_rfl) (by simp) ?_
      refine AllReadyH.cons rfl (fun K hK => ?_) AllReadyH.nil
      go_simp
      refine hK.out _ _ ?_ (fun hHeld => ?_)
      ·(try dsimp only); exact HK3.out _ ((Below.heap_setCell _ _ _ _ HLT.out.2.2.2.2.2.2.2.1).trans E4.out) ((Below.heap_setCell _ _ _ _ HLT.out.2.2.2.2.2.2.2.2).trans E6.out)
      clear hK K
      try simp only [Act.put, List.setIfInBounds_toArray, List.set_cons_zero, List.set_cons_succ]
      refine wpAnyH_done (by kernel_rfl) ?_ _
      refine NoPanic.normal ?_
      rotate_left
      all_goals
       obtain ⟨sp', hq2⟩ := Q2.out
       obtain ⟨W11, hW11⟩ : ∃ W, W = w10.setCell ⟨g, 0, none⟩ (.slice (some ⟨b', 0, none⟩) (i + 1 + (n - j)) c') := ⟨_, rfl⟩
       rw [← hW11]
       have hti := HTILL.out
       have hnn2 := HNN.out
       have hlen : (rs.take i ++ r :: rs.drop j).length = i + 1 + (n - j) := by
        rw [List.length_append, List.length_cons, List.length_take, List.length_drop]
        have := hti.1
        have := hti.2.1
        omega
       have hgb : g ≠ b' := blk_ne EG.out hq2.h (by decide)
       have hFB : FB W11 g b' c' (rs.take i ++ r :: rs.drop j) sp' cov t l hd ep st := ⟨by rw [hW11, blk_set EG.out 0 _, hlen]; rfl, ⟨by rw [hW11]; exact blk_far hq2.h (p := ⟨g, 0, none⟩) (fun e => hgb e.symm) _, hq2.l⟩⟩
       have HADV := Aside0.mk (adv_calls g b' c' i cov t l ep hd st (rs.take i ++ r :: rs.drop j) sp' W11 hFB (by rw [hlen]; omega) (by rw [hlen]; have := HNL.out; have := hti.1; have := hti.2.1; omega) (fun x hx => by
        rcases List.mem_append.1 hx with hx | hx
        ·exact HBND.out x (List.mem_of_mem_take hx)
        ·rcases List.mem_cons.1 hx with rfl | hx
         ·have := HHB.out
          omega
         ·exact HBND.out x (List.mem_of_mem_drop hx)))
       have HAP : Aside0 (∀ w12, W11.grownBy w12 (some g) → Apart w w12 g b) := ⟨fun w12 hgr => by
        have hq5 := Q5.out
        have hb9 := HB9.out
        have h18 := HBR.out
        have h01 := HB.out
        have s11 : W11.heap.size = w10.heap.size := by rw [hW11]; simp [World.setCell]
        have o11 : W11.os = w10.os ∧ W11.tape = w10.tape ∧ W11.output = w10.output := by rw [hW11]; exact ⟨rfl, rfl, rfl⟩
        have z5 := hq5.size
        have z9 := hb9.size
        have z8 := h18.size
        have z1 := h01.size
        have z12 := hgr.size
        have z9' : W9.drew.heap.size = W9.heap.size := rfl
        refine ⟨hgr.os.trans (o11.1.trans (hq5.os.trans (hb9.os.trans (h18.os.trans h01.os)))), hgr.tape.trans (o11.2.1.trans (hq5.tape.trans (hb9.tape.trans (h18.tape.trans h01.tape)))), hgr.output.trans (o11.2.2.trans (hq5.output.trans (hb9.output.trans (h18.output.trans h01.output)))), by omega, fun k hk hkg hkb => ?_⟩
        have e1 : w12.heap[k]? = W11.heap[k]? := hgr.block k (by omega) (fun e => hkg (by injection e))
        have e2 : W11.heap[k]? = w10.heap[k]? := by rw [hW11]; exact Below.heap_setCell _ ⟨g, 0, none⟩ _ k hkg
        have e3 : w10.heap[k]? = W9.heap[k]? := hq5.block k (by omega) (fun e => hkb (by injection e))
        exact e1.trans (e2.trans (e3.trans ((hb9.block k (by omega)).trans ((h18.block k (by omega)).trans (h01.block k hk)))))⟩
       have HQ4 : Aside0 (b' = b ∨ w.heap.size ≤ b') := ⟨by
        have z9 := HB9.out.size
        have z8 := HBR.out.size
        have z1 := HB.out.size
        have z9' : W9.drew.heap.size = W9.heap.size := rfl
        rcases Q4.out with h | h
        ·exact .inl h
        ·right
         omega⟩
       have HDJ : Aside0 (d = j - i) := ⟨by have := HJ.out; omega⟩
       have x4 : W11.cell? ⟨P4, 0, none⟩ = some (.pointer (some ⟨g, 0, none⟩)) := by
        rw [hW11]
        exact (HK3.out _ ((Below.heap_setCell _ _ _ _ HLT.out.2.2.2.2.2.2.2.1).trans E4.out) ((Below.heap_setCell _ _ _ _ HLT.out.2.2.2.2.2.2.2.2).trans E6.out)).1
       have hs9 : s ≤ 4294967296000 := by have := HSB.out; omega
       have hl9 : r.len < 2147483648 := by have := HHB.out; omega
       clear hq2 hW11 hti hnn2 hlen hgb hFB y5 f5
       go_wp2_with (go_at_call 58; go_loud ((with_reducible refine (HADV.out).mono ?_); rintro e w12 ⟨rfl, hfb, hgr⟩; have HFB := Aside0.mk hfb; have HGR := Aside0.mk hgr; clear hfb hgr))
       refine bodyPost_ret (v := .tuple #[.int .i64 (-(d : Int) + 1), .int .i64 (-(s : Int) + (r.len : Int)), .nilIface]) (by simp [results, Tryd.results45, go_sem]) rfl ⟨i, HI.out, .inr ⟨HCVV.out, j, HTILL.out, ?_, b', c', sp', HFB.out, Q3.out, HQ4.out, HAP.out _ HGR.out⟩⟩
       rw [← HDJ.out, ← HSU.out]
       rw [show -(d : Int) + 1 = 1 - (d : Int) by omega, show -(s : Int) + (r.len : Int) = (r.len : Int) - (s : Int) by omega]
    ·have HTILL : Aside0 (Till rs (r.off + r.len) i j) := ⟨by
      have q1 := HK.out
      have q2 := HJ.out
      have q3 := HNN.out
      refine ⟨by omega, by omega, fun k x h1 h2 h3 => HT.out k x h1 (by omega) h3, fun x hx => ?_⟩
      rw [List.getElem?_eq_none (by omega)] at hx
      cases hx⟩
     have e5 : ¬ ((j : Int) < (n : Int)) := by omega
     obtain ⟨z1, z2, z3, z4⟩ := hS wr HW.out
     clear hS
     go_wp2_with (fail)
     go_region
     obtain ⟨w8, hw8⟩ : ∃ w8, w8 = wr.drew := ⟨_, rfl⟩
     rw [← hw8]
     have HBR : Aside0 (Below W1.heap.size W1 w8) := ⟨by rw [hw8]; exact HW.out.drew⟩
     clear hw8 z1 z2 z3 z4 hjn e5
     have hd9 : d ≤ 900 := by have := HK.out; have := HNN.out; have := HNL.out; omega
     have c12 : -(d : Int) + 1 ≤ (av : Int) := by omega
     go_wp2_with (fail)
     clear c12
     have hlt4 : P4 < w8.heap.size := Nat.lt_of_lt_of_le (blk_lt K4.out) HBR.out.size
     have hlt6 : P6 < w8.heap.size := Nat.lt_of_lt_of_le (blk_lt K6.out) HBR.out.size
     have hFX := HF.out.below HBR.out
     have hltb : b < w8.heap.size := blk_lt hFX.r.h
     have hltg : g < w8.heap.size := blk_lt hFX.h
     have k4 : w8.heap[P4]? = _ := (HBR.out.block P4 (blk_lt K4.out)).trans K4.out
     have k6 : w8.heap[P6]? = _ := (HBR.out.block P6 (blk_lt K6.out)).trans K6.out
     have hK : ∀ w' : World, w'.heap[P4]? = w8.heap[P4]? → w'.heap[P6]? = w8.heap[P6]? → w'.cell? ⟨P4, 0, none⟩ = some (.pointer (some ⟨g, 0, none⟩)) ∧ w'.cell? ⟨P6, 0, none⟩ = some (.int .u32 (r.off : Int)) ∧ w'.cell? ⟨P6, 1, none⟩ = some (.slice r.p.1 r.len r.p.2) := fun w' e4 e6 => ⟨blk_cell (e4.trans k4) 0, blk_cell (e6.trans k6) 0, blk_cell (e6.trans k6) 1⟩
     have HK3 := Aside0.mk hK
     obtain ⟨W9, hW9⟩ : ∃ W, W = w8.alloc (.cells #[.int .u32 (r.off : Int), .slice r.p.1 r.len r.p.2] 108) := ⟨_, rfl⟩
     have hb9 : Below w8.heap.size w8 W9 := by rw [hW9]; exact (Below.refl _ _).alloc (Nat.le_refl _) _
     have hF9 := hFX.below hb9
     have hv9 : W9.heap[w8.heap.size]? = some (.cells (rcells [r]).toArray 108 (0, 0)) := by rw [hW9]; exact heap_alloc_new _ _
     have hnb4 : P4 ≠ b := blk_ne k4 hFX.r.h (by decide)
     have hnbg : g ≠ b := hFX.ne
     have hnb6 : P6 ≠ b := by
      have := HP6.out
      have := blk_lt HH.out.r.h
      omega
     have HREP : Aside0 (Calls Tryd.prog 57 #[.slice (some ⟨b, 0, none⟩) n c, .int .i64 (i : Int), .int .i64 (j : Int), .slice (some ⟨w8.heap.size, 0, none⟩) 1 1] W9.drew (Put W9.drew b (i + 1 + (n - j)) (rs.take i ++ r :: rs.drop j))) := ⟨by
      rw [HNN.out]
      exact rep_calls b c i j w8.heap.size r rs sp W9.drew ⟨hF9.r.h, hF9.r.l⟩ HC.out hv9 (by omega) (by have := HNL.out; omega) HTILL.out.1 HTILL.out.2.1⟩
     have y0 : w8.cell? ⟨g, 0, none⟩ = some (.slice (some ⟨b, 0, none⟩) n c) := by rw [HNN.out]; exact hFX.c0
     have y1 : ∀ o, (w8.alloc o).cell? ⟨g, 0, none⟩ = some (.slice (some ⟨b, 0, none⟩) n c) := fun o => ((Below.refl w8.heap.size w8).alloc (Nat.le_refl _) o).cell hltg |>.trans y0
     have HW9 := Aside0.mk hW9
     have HB9 := Aside0.mk hb9
     have HF9 := Aside0.mk hF9
     have HLT : Aside0 (P4 < w8.heap.size ∧ P6 < w8.heap.size ∧ b < w8.heap.size ∧ g < w8.heap.size ∧ P4 ≠ b ∧ P6 ≠ b ∧ g ≠ b ∧ P4 ≠ g ∧ P6 ≠ g) := ⟨hlt4, hlt6, hltb, hltg, hnb4, hnb6, hnbg, blk_ne k4 hFX.h (by decide), blk_ne k6 hFX.h (by decide)⟩
     have HN4 : Aside0 (some P4 ≠ some b ∧ some P6 ≠ some b ∧ some g ≠ some b) := ⟨fun e => hnb4 (by injection e), fun e => hnb6 (by injection e), fun e => hnbg (by injection e)⟩
     have HL9 : Aside0 (P4 < W9.drew.heap.size ∧ P6 < W9.drew.heap.size ∧ g < W9.drew.heap.size) := ⟨Nat.lt_of_lt_of_le hlt4 hb9.size, Nat.lt_of_lt_of_le hlt6 hb9.size, Nat.lt_of_lt_of_le hltg hb9.size⟩
     have HG9 : Aside0 (W9.drew.heap[g]? = some (.cells (fcells (.slice (some ⟨b, 0, none⟩) rs.length c) cov t l hd ep st) 102 (0, 0))) := ⟨hF9.h⟩
     have H49 : Aside0 (W9.drew.heap[P4]? = w8.heap[P4]?) := ⟨hb9.block P4 hlt4⟩
     have H69 : Aside0 (W9.drew.heap[P6]? = w8.heap[P6]?) := ⟨hb9.block P6 hlt6⟩
     clear hK hW9 hb9 hF9 hv9 hFX k4 k6 hlt4 hlt6 hltb hltg hnb4 hnb6 hnbg
     refine wp_region_noPanic ?_
     refine wp_region_held_drew (S := (fun w' => w'.cell? ⟨P4, 0, none⟩ = some (.pointer (some ⟨g, 0, none⟩)) ∧ w'.cell? ⟨P6, 0, none⟩ = some (.int .u32 (r.off : Int)) ∧ w'.cell? ⟨P6, 1, none⟩ = some (.slice r.p.1 r.len r.p.2))) (by kernel_rfl) ?_ (fun hHeld => ?_)
     ·(try dsimp only); exact HK3.out _ rfl rfl
     refine wpAnyH_take (i := 0) (oi := _) (v := ?_) rfl (by kernel_rfl) (by kernel_rfl) (by kernel_rfl) (fun _ _ _ h => h) (Or.inl ⟨by rfl, ?_⟩) (by assumption) ?_
     rotate_left
     ·intro w hSw; (try dsimp only at hSw); go_simp; (try with_reducible rfl)
     try simp only [Act.put, List.setIfInBounds_toArray, List.set_cons_zero, List.set_cons_succ]
     refine wpAnyH_take (i := 1) (oi := _) (v := ?_) rfl (by kernel_rfl) (by kernel_rfl) (by kernel_rfl) (fun _ _ _ h => h) (Or.inl ⟨by rfl, ?_⟩) (by assumption) ?_
     rotate_left
     ·intro w hSw; (try dsimp only at hSw); go_simp; (try with_reducible rfl)
     try simp only [Act.put, List.setIfInBounds_toArray, List.set_cons_zero, List.set_cons_succ]
     refine wpAnyH_take (i := 2) (oi := _) (v := ?_) rfl (by kernel_rfl) (by kernel_rfl) (by kernel_rfl) (fun _ _ _ h => h) (Or.inl ⟨by rfl, ?_⟩) (by assumption) ?_
     rotate_left
     ·intro w hSw; (try dsimp only at hSw); go_simp; (try with_reducible rfl)
     try simp only [Act.put, List.setIfInBounds_toArray, List.set_cons_zero, List.set_cons_succ]
     refine wpAnyH_take (i := 3) (oi := _) (v := ?_) rfl (by kernel_rfl) (by kernel_rfl) (by kernel_rfl) (fun _ _ _ h => h) (Or.inl ⟨by rfl, ?_⟩) (by assumption) ?_
     rotate_left
     ·intro w hSw; (try dsimp only at hSw); go_simp; (try with_reducible rfl)
     try simp only [Act.put, List.setIfInBounds_toArray, List.set_cons_zero, List.set_cons_succ]
     refine wpAnyH_take (i := 5) (oi := _) (v := ?_) rfl (by kernel_rfl) (by kernel_rfl) (by kernel_rfl) (fun _ _ _ h => h) (Or.inl ⟨by rfl, ?_⟩) (by assumption) ?_
     rotate_left
     ·intro w hSw; (try dsimp only at hSw); go_simp; (try with_reducible rfl)
     try simp only [Act.put, List.setIfInBounds_toArray, List.set_cons_zero, List.set_cons_succ]
     refine wpAnyH_take (i := 6) (oi := _) (v := ?_) rfl (by kernel_rfl) (by kernel_rfl) (by kernel_rfl) (fun _ _ _ h => h) (Or.inl ⟨by rfl, ?_⟩) (by assumption) ?_
     rotate_left
     ·intro w hSw; (try dsimp only at hSw); go_simp; (try with_reducible rfl)
     try simp only [Act.put, List.setIfInBounds_toArray, List.set_cons_zero, List.set_cons_succ]
     refine wpAnyH_take (i := 7) (oi := _) (v := ?_) rfl (by kernel_rfl) (by kernel_rfl) (by kernel_rfl) (fun _ _ _ h => h) (Or.inl ⟨by rfl, ?_⟩) (by assumption) ?_
     rotate_left
     ·intro w hSw; (try dsimp only at hSw); go_simp; (try with_reducible rfl)
     try simp only [Act.put, List.setIfInBounds_toArray, List.set_cons_zero, List.set_cons_succ]
     refine wpAnyH_ready (rs := [4, 8]) (by kernel_rfl) (by simp) ?_
     refine AllReadyH.cons rfl (fun K hK => ?_) (AllReadyH.cons rfl (fun K hK => ?_) AllReadyH.nil)
     go_simp
     refine hK.out _ _ ?_ (fun hHeld => ?_)
     ·(try dsimp only); exact HK3.out _ rfl rfl
     clear hK K
     try simp only [Act.put, List.setIfInBounds_toArray, List.set_cons_zero, List.set_cons_succ]
     refine wpAnyH_ready (rs := [8]) (by kernel_rfl) (by simp) ?_
     refine AllReadyH.cons rfl (fun K hK => ?_) AllReadyH.nil
     go_simp
     refine hK.out _ _ ?_ (fun hHeld => ?_)
     ·(try dsimp only); exact HK3.out _ (heap_alloc_old _ _ HLT.out.1) (heap_alloc_old _ _ HLT.out.2.1)
     clear hK K
     try simp only [Act.put, List.setIfInBounds_toArray, List.set_cons_zero, List.set_cons_succ]
     refine wpAnyH_ready (rs := [9]) (by kernel_rfl) (by simp) ?_
     refine AllReadyH.cons rfl (fun K hK => ?_) AllReadyH.nil
     go_simp
     first | (go_at_call 57; go_loud (rw [← HW9.out]; (with_reducible refine (HREP.out).mono ?_); rintro e w10 ⟨b', c', rfl, q2, q3, q4, q5⟩; have Q2 := Aside0.mk q2; have Q3 := Aside0.mk q3; have Q4 := Aside0.mk q4; have Q5 := Aside0.mk q5; have E4 := Aside0.mk ((q5.block P4 HL9.out.1 HN4.out.1).trans H49.out); have E6 := Aside0.mk ((q5.block P6 HL9.out.2.1 HN4.out.2.1).trans H69.out); have eg := (q5.block g HL9.out.2.2 HN4.out.2.2).trans HG9.out; have y5 : w10.cell? ⟨g, 0, none⟩ = some (.slice (some ⟨b, 0, none⟩) rs.length c) := blk_cell eg 0; have f5 := blk_frozen eg 0; have EG := Aside0.mk eg; clear q2 q3 q4 q5 eg))
     refine hK.out _ _ ?_ (fun hHeld => ?_)
     ·(try dsimp only); exact HK3.out _ E4.out E6.out
     clear hK K
     try simp only [Act.put, List.setIfInBounds_toArray, List.set_cons_zero, List.set_cons_succ]
     refine wpAnyH_take (i := 10) (oi := _) (v := ?_) rfl (by kernel_rfl) (by kernel_rfl) (by kernel_rfl) (fun _ _ _ h => h) (Or.inl ⟨by rfl, ?_⟩) (by assumption) ?_
     rotate_left
     ·intro w hSw; (try dsimp only at hSw); go_simp; (try with_reducible rfl)
     try simp only [Act.put, List.setIfInBounds_toArray, List.set_cons_zero, List.set_cons_succ]
     refine wpAnyH_take (i := 11) (oi := _) (v := ?_) rfl (by kernel_rfl) (by kernel_rfl) (by kernel_rfl) (fun _ _ _ h => h) (Or.inl ⟨by rfl, ?_⟩) (by assumption) ?_
     rotate_left
     ·intro w hSw; (try dsimp only at hSw); go_simp; (try with_reducible rfl)
     try simp only [Act.put, List.setIfInBounds_toArray, List.set_cons_zero, List.set_cons_succ]
     refine wpAnyH_ready (rs := [12]) (by kernel_rfl) (by simp) ?_
     refine AllReadyH.cons rfl (fun K hK => ?_) AllReadyH.nil
     go_simp
     refine hK.out _ _ ?_ (fun hHeld => ?_)
     ·(try dsimp only); exact HK3.out _ ((Below.heap_setCell _ _ _ _ HLT.out.2.2.2.2.2.2.2.1).trans E4.out) ((Below.heap_setCell _ _ _ _ HLT.out.2.2.2.2.2.2.2.2).trans E6.out)
     clear hK K
     try simp only [Act.put, List.setIfInBounds_toArray, List.set_cons_zero, List.set_cons_succ]
     refine wpAnyH_done (by kernel_rfl) ?_ _
     refine NoPanic.normal ?_
     rotate_left
     go_simp
     refine hK.out _ _ ?_ (fun hHeld => ?_)
     ·(try dsimp only); exact HK3.out _ (heap_alloc_old _ _ HLT.out.1) (heap_alloc_old _ _ HLT.out.2.1)
     clear hK K
     try simp only [Act.put, List.setIfInBounds_toArray, List.set_cons_zero, List.set_cons_succ]
     refine wpAnyH_ready (rs := [4]) (by kernel_rfl) (by simp) ?_
     refine AllReadyH.cons rfl (fun K hK => ?_) AllReadyH.nil
     go_simp
     refine hK.out _ _ ?_ (fun hHeld => ?_)
     ·(try dsimp only); exact HK3.out _ (heap_alloc_old _ _ HLT.out.1) (heap_alloc_old _ _ HLT.out.2.1)
     clear hK K
     try simp only [Act.put, List.setIfInBounds_toArray, List.set_cons_zero, List.set_cons_succ]
     refine wpAnyH_ready (rs := [9]) (by kernel_rfl) (by simp) ?_
     refine AllReadyH.cons rfl (fun K hK => ?_) AllReadyH.nil
     go_simp
     first | (go_at_call 57; go_loud (rw [← HW9.out]; (with_reducible refine (HREP.out).mono ?_); rintro e w10 ⟨b', c', rfl, q2, q3, q4, q5⟩; have Q2 := Aside0.mk q2; have Q3 := Aside0.mk q3; have Q4 := Aside0.mk q4; have Q5 := Aside0.mk q5; have E4 := Aside0.mk ((q5.block P4 HL9.out.1 HN4.out.1).trans H49.out); have E6 := Aside0.mk ((q5.block P6 HL9.out.2.1 HN4.out.2.1).trans H69.out); have eg := (q5.block g HL9.out.2.2 HN4.out.2.2).trans HG9.out; have y5 : w10.cell? ⟨g, 0, none⟩ = some (.slice (some ⟨b, 0, none⟩) rs.length c) := blk_cell eg 0; have f5 := blk_frozen eg 0; have EG := Aside0.mk eg; clear q2 q3 q4 q5 eg))
     refine hK.out _ _ ?_ (fun hHeld => ?_)
     ·(try dsimp only); exact HK3.out _ E4.out E6.out
     clear hK K
     try simp only [Act.put, List.setIfInBounds_toArray, List.set_cons_zero, List.set_cons_succ]
     refine wpAnyH_take (i := 10) (oi := _) (v := ?_) rfl (by kernel_rfl) (by kernel_rfl) (by kernel_rfl) (fun _ _ _ h => h) (Or.inl ⟨by rfl, ?_⟩) (by assumption) ?_
     rotate_left
     ·intro w hSw; (try dsimp only at hSw); go_simp; (try with_reducible rfl)
     try simp only [Act.put, List.setIfInBounds_toArray, List.set_cons_zero, List.set_cons_succ]
     refine wpAnyH_take (i := 11) (oi := _) (v := ?_) rfl (by kernel_rfl) (by kernel_rfl) (by kernel_rfl) (fun _ _ _ h => h) (Or.inl ⟨by rfl, ?_⟩) (by assumption) ?_
     rotate_left
     ·intro w hSw; (try dsimp only at hSw); go_simp; (try with_reducible rfl)
     try simp only [Act.put, List.setIfInBounds_toArray, List.set_cons_zero, List.set_cons_succ]
     refine wpAnyH_ready (rs := [12]) (by kernel_rfl) (by simp) ?_
     refine AllReadyH.cons rfl (fun K hK => ?_) AllReadyH.nil
     go_simp
     refine hK.out _ _ ?_ (fun hHeld => ?_)
     ·(try dsimp only); exact HK3.out _ ((Below.heap_setCell _ _ _ _ HLT.out.2.2.2.2.2.2.2.1).trans E4.out) ((Below.heap_setCell _ _ _ _ HLT.out.2.2.2.2.2.2.2.2).trans E6.out)
     clear hK K
     try simp only [Act.put, List.setIfInBounds_toArray, List.set_cons_zero, List.set_cons_succ]
     refine wpAnyH_done (by kernel_rfl) ?_ _
     refine NoPanic.normal ?_
     rotate_left
     all_goals
      obtain ⟨sp', hq2⟩ := Q2.out
      obtain ⟨W11, hW11⟩ : ∃ W, W = w10.setCell ⟨g, 0, none⟩ (.slice (some ⟨b', 0, none⟩) (i + 1 + (n - j)) c') := ⟨_, rfl⟩
      rw [← hW11]
      have hti := HTILL.out
      have hnn2 := HNN.out
      have hlen : (rs.take i ++ r :: rs.drop j).length = i + 1 + (n - j) := by
       rw [List.length_append, List.length_cons, List.length_take, List.length_drop]
       have := hti.1
       have := hti.2.1
       omega
      have hgb : g ≠ b' := blk_ne EG.out hq2.h (by decide)
      have hFB : FB W11 g b' c' (rs.take i ++ r :: rs.drop j) sp' cov t l hd ep st := ⟨by rw [hW11, blk_set EG.out 0 _, hlen]; rfl, ⟨by rw [hW11]; exact blk_far hq2.h (p := ⟨g, 0, none⟩) (fun e => hgb e.symm) _, hq2.l⟩⟩
      have HADV := Aside0.mk (adv_calls g b' c' i cov t l ep hd st (rs.take i ++ r :: rs.drop j) sp' W11 hFB (by rw [hlen]; omega) (by rw [hlen]; have := HNL.out; have := hti.1; have := hti.2.1; omega) (fun x hx => by
       rcases List.mem_append.1 hx with hx | hx
       ·exact HBND.out x (List.mem_of_mem_take hx)
       ·rcases List.mem_cons.1 hx with rfl | hx
        ·have := HHB.out
         omega
        ·exact HBND.out x (List.mem_of_mem_drop hx)))
      have HAP : Aside0 (∀ w12, W11.grownBy w12 (some g) → Apart w w12 g b) := ⟨fun w12 hgr => by
       have hq5 := Q5.out
       have hb9 := HB9.out
       have h18 := HBR.out
       have h01 := HB.out
       have s11 : W11.heap.size = w10.heap.size := by rw [hW11]; simp [World.setCell]
       have o11 : W11.os = w10.os ∧ W11.tape = w10.tape ∧ W11.output = w10.output := by rw [hW11]; exact ⟨rfl, rfl, rfl⟩
       have z5 := hq5.size
       have z9 := hb9.size
       have z8 := h18.size
       have z1 := h01.size
       have z12 := hgr.size
       have z9' : W9.drew.heap.size = W9.heap.size := rfl
       refine ⟨hgr.os.trans (o11.1.trans (hq5.os.trans (hb9.os.trans (h18.os.trans h01.os)))), hgr.tape.trans (o11.2.1.trans (hq5.tape.trans (hb9.tape.trans (h18.tape.trans h01.tape)))), hgr.output.trans (o11.2.2.trans (hq5.output.trans (hb9.output.trans (h18.output.trans h01.output)))), by omega, fun k hk hkg hkb => ?_⟩
       have e1 : w12.heap[k]? = W11.heap[k]? := hgr.block k (by omega) (fun e => hkg (by injection e))
       have e2 : W11.heap[k]? = w10.heap[k]? := by rw [hW11]; exact Below.heap_setCell _ ⟨g, 0, none⟩ _ k hkg
       have e3 : w10.heap[k]? = W9.heap[k]? := hq5.block k (by omega) (fun e => hkb (by injection e))
       exact e1.trans (e2.trans (e3.trans ((hb9.block k (by omega)).trans ((h18.block k (by omega)).trans (h01.block k hk)))))⟩
      have HQ4 : Aside0 (b' = b ∨ w.heap.size ≤ b') := ⟨by
       have z9 := HB9.out.size
       have z8 := HBR.out.size
       have z1 := HB.out.size
       have z9' : W9.drew.heap.size = W9.heap.size := rfl
       rcases Q4.out with h | h
       ·exact .inl h
       ·right
        omega⟩
      have HDJ : Aside0 (d = j - i) := ⟨by have := HJ.out; omega⟩
      have x4 : W11.cell? ⟨P4, 0, none⟩ = some (.pointer (some ⟨g, 0, none⟩)) := by
       rw [hW11]
       exact (HK3.out _ ((Below.heap_setCell _ _ _ _ HLT.out.2.2.2.2.2.2.2.1).trans E4.out) ((Below.heap_setCell _ _ _ _ HLT.out.2.2.2.2.2.2.2.2).trans E6.out)).1
      have hs9 : s ≤ 4294967296000 := by have := HSB.out; omega
      have hl9 : r.len < 2147483648 := by have := HHB.out; omega
      clear hq2 hW11 hti hnn2 hlen hgb hFB y5 f5
      go_wp2_with (go_at_call 58; go_loud ((with_reducible refine (HADV.out).mono ?_); rintro e w12 ⟨rfl, hfb, hgr⟩; have HFB := Aside0.mk hfb; have HGR := Aside0.mk hgr; clear hfb hgr))
      refine bodyPost_ret (v := .tuple #[.int .i64 (-(d : Int) + 1), .int .i64 (-(s : Int) + (r.len : Int)), .nilIface]) (by simp [results, Tryd.results45, go_sem]) rfl ⟨i, HI.out, .inr ⟨HCVV.out, j, HTILL.out, ?_, b', c', sp', HFB.out, Q3.out, HQ4.out, HAP.out _ HGR.out⟩⟩
      rw [← HDJ.out, ← HSU.out]
      rw [show -(d : Int) + 1 = 1 - (d : Int) by omega, show -(s : Int) + (r.len : Int) = (r.len : Int) - (s : Int) by omega]
  ·rw [hcv] at hCV
   have HCVV := Aside0.mk hcv
   have HCV := Aside0.mk hCV
   clear hcv hCV
   go_wp2_with (fail)
   refine (HCV.out).mono ?_
   rintro e w3 ⟨rfl, h3⟩
   have H3 := Aside0.mk h3
   clear h3
   go_wp2
   exact bodyPost_ret (v := .tuple #[.int .i64 0, .int .i64 0, .nilIface]) (by simp [results, Tryd.results45, go_sem]) rfl ⟨i, HI.out, .inl ⟨HCVV.out, rfl, below_then HB.out HB.out.size ⟨H3.out.os, H3.out.tape, H3.out.output, H3.out.size, H3.out.block⟩⟩⟩

end Go.Proofs.YtjflijebcpcbmaaDoor.G
