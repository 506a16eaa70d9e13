/-
 What is proved: what push makes of a record of handshake messages. Conditions: the model takes the record.
-/
import Derived.Test.YtjflijebcpcbmaaDoorXRnd
namespace Go.Proofs.YtjflijebcpcbmaaDoor.G
open Go.RowKit Go.Proofs.YtjflijebcpcbmaaDoorW.PrintWords Go.Proofs.YtjflijebcpcbmaaDoorW.PrintLast Go.Proofs.YtjflijebcpcbmaaDoorW.PrintMore
set_option linter.unusedVariables false
set_option linter.unusedSimpArgs false

set_option maxHeartbeats 8000000 in
set_option maxRecDepth 100000 in
theorem push_hs (B g rm b n c : Nat) (s s' : St) (a : Nat → At) (bs : List Nat) (ag : Bool) (w : World) (HL : Laid w) (hB : BufAt w B g rm s a) (hBb : B ≤ b) (hBw : B ≤ w.heap.size) (h : Bytes w b 0 bs) (hl : bs.length = n) (hnc : n ≤ c) (hcm : c ≤ maxLen) (hb : ∀ x ∈ bs, x < 256)
 (h22 : bs.getD 0 0 = 22) (hp : s.push bs = some (true, ag, s')) :
 Calls Tryd.prog 35 #[.pointer (some ⟨g, 0, none⟩), .slice (some ⟨b, 0, none⟩) n c] w fun e w' => e = .returned (.tuple #[.bool true, .bool ag, .nilIface]) ∧ (∃ a', BufAt w' B g rm s' a') ∧ Fr B w w' := by
 unfold St.push at hp
 split at hp
 case isFalse => cases hp
 rename_i hpc
 obtain ⟨hn, h1, h2, h0, hs0, hs⟩ := hpc
 obtain ⟨fin, hrun, hfin⟩ : ∃ fin, St.frags bs.length s (u16of (bs.drop 3)) (bs.drop 13) false = some fin ∧ fin = (s', ag) := by
  cases hf : St.frags bs.length s (u16of (bs.drop 3)) (bs.drop 13) false with
  | none => rw [hf] at hp; cases hp
  | some fin => rw [hf] at hp; simp at hp; exact ⟨fin, rfl, by rw [← hp.1, ← hp.2]⟩
 rw [hl] at hn hs hrun
 have HSZ := Aside0.mk (size_calls g rm s.cur s.sz s.cnt w hB.h)
 obtain ⟨W1, hW1⟩ : ∃ W, W = w.alloc (.cells #[.int .u8 0, .int .u16 0, .int .u8 0, .int .u8 0, .int .u16 0, .int .u64 0, .slice none 0 0] 92) := ⟨_, rfl⟩
 obtain ⟨H, hH⟩ : ∃ H, H = w.heap.size := ⟨_, rfl⟩
 have hb1 : Below w.heap.size w W1 := by rw [hW1]; exact (Below.refl _ _).alloc (Nat.le_refl _) _
 have hk : W1.heap[H]? = some (.cells (rhead 0 0 0 0 0) 92 (0, 0)) := by rw [hW1, hH]; exact heap_alloc_new _ _
 have HRH := Aside0.mk (rhead_calls H b n c bs W1 (HL.below hb1) hk (bytes_below h hb1) hl hn hnc hb h1 h2 h0)
 rw [h22] at HRH
 have e2 : ¬ ((2000000 : Int) ≤ s.sz + (n : Int)) := by omega
 obtain ⟨o1, hsl, ho1⟩ := sl_l b 0 n c 13 hn hnc
 rw [show ((13 : Nat) : Int) = 13 from rfl] at hsl
 have HW1 := Aside0.mk hW1
 have HH := Aside0.mk hH
 have HB1 := Aside0.mk hb1
 have HINV : Aside0 (∀ w2, (∃ sq, w2.heap[H]? = some (.cells (rhead 22 254 253 (u16of (bs.drop 3)) sq) 92 (0, 0))) → W1.grownBy w2 (some H) → PushInv w w2 B g rm b H (u16of (bs.drop 3)) fin o1 (n - 13) (c - 13) n (bs.drop 13) s a false) := ⟨fun w2 q1 q2 => by
  have hb2 : Below w.heap.size w w2 := keep_own hb1 q2 (by omega)
  refine ⟨by rw [List.length_drop]; omega, by omega, by omega, fun x hx => hb x (List.mem_of_mem_drop hx), ?_, hB.hold (Hold.below hb2), q1, Fr.of_below hBw hb2, hrun⟩
  refine (bytes_below h hb2).at (k := 13) (by rw [List.take_of_length_le (by simp)]) (fun h0 => ho1 (by rw [List.length_drop] at h0; omega))⟩
 obtain ⟨ep, hep⟩ : ∃ ep, ep = u16of (bs.drop 3) := ⟨_, rfl⟩
 rw [← hep] at HINV HRH
 clear HL hB h hl hn hnc hb h1 h2 h0 h22 hs hk hb1 hW1 hH hrun hp hBw ho1 hep
 go_enter Tryd.func35, Tryd.ntmps35
 go_wp2_with (fail)
 refine (HSZ.out).mono ?_
 rintro e w1 ⟨rfl, rfl⟩
 go_wp2_with (fail)
 rw [← HW1.out, ← HH.out]
 refine (HRH.out).mono ?_
 rintro e w2 ⟨rfl, q1, q2⟩
 have HI := Aside0.mk (HINV.out w2 q1 q2)
 have c0 : w2.cell? ⟨H, 0, none⟩ = some (.int .u8 22) := by
  obtain ⟨sq, q1⟩ := q1
  exact blk_cell q1 0
 clear q1 q2 HINV HRH
 go_wp2_with (fail)
 clear c0 e2 hs0 hsl
 generalize n - 13 = m0 at *
 generalize c - 13 = cc0 at *
 generalize List.drop 13 bs = rest0 at *
 go_loopg [1, 5] m0 (fun kq v1 v5 wr => ∃ (o m cc k : Nat) (rest : List Nat) (s1 : St) (a1 : Nat → At) (ag1 : Bool), v1 = .slice (some ⟨b, o, none⟩) m cc ∧ v5 = .bool ag1 ∧ Aside0 (kq = m) ∧ Aside0 (PushInv w wr B g rm b H ep fin o m cc k rest s1 a1 ag1))
 case atStart => exact ⟨o1, m0, cc0, n, rest0, s, a, false, rfl, rfl, ⟨rfl⟩, HI⟩
 case round =>
  obtain ⟨o, m, cc, k, rest, s1, a1, ag1, rfl, rfl, HK, HI⟩ := hrel
  by_cases hm0 : m = 0
  ·have e0 : ((m : Int) == 0) = true := by simp [hm0]
   have HM := Aside0.mk hm0
   clear hm0
   go_wp2_with (fail)
   have hf := frags_nil HI.out.run (by rw [HI.out.len, HM.out])
   rw [hfin] at hf
   obtain ⟨rfl, rfl⟩ := hf
   exact bodyPost_ret (v := .tuple #[.bool true, .bool ag, .nilIface]) (by simp [results, Tryd.results35, go_sem]) rfl ⟨rfl, ⟨a1, HI.out.buf⟩, HI.out.bel⟩
  ·obtain ⟨k', s2, rfl, h12, hfl, hfr, hrun⟩ := frags_cons HI.out.run (by rw [HI.out.len]; exact hm0)
   have hlt := hdOf_lt HI.out.by8
   have hagain : againOf s1 rest = (decide ((hdOf rest).2.2.2.1 = 0) && decide ((hdOf rest).2.2.1 < s1.cur)) := rfl
   have HSH := shead_calls wr.heap.size b o m cc rest (wr.alloc (.cells (shead 0 0 0 0 0) 97)) (heap_alloc_new _ _) (HI.out.bytes.alloc _) HI.out.len (by rw [← HI.out.len]; exact h12) HI.out.cap HI.out.by8
   rw [show shead (rest.getD 0 0) (u24of (rest.drop 1)) (u16of (rest.drop 4)) (u24of (rest.drop 6)) (u24of (rest.drop 9)) = shead (hdOf rest).1 (hdOf rest).2.1 (hdOf rest).2.2.1 (hdOf rest).2.2.2.1 (hdOf rest).2.2.2.2 from rfl] at HSH
   unfold St.frag at hfr
   rw [HI.out.len] at h12 hfl
   have hle := HI.out.cap
   obtain ⟨hd, hhd⟩ : ∃ x, x = hdOf rest := ⟨_, rfl⟩
   rw [← hhd] at hfl hfr hrun hlt hagain HSH
   obtain ⟨t, l, q, fo, fl⟩ := hd
   simp only at hfl hfr hrun hlt hagain HSH
   obtain ⟨lt1, lt2, lt3, lt4, lt5⟩ := hlt
   obtain ⟨X, hX⟩ : ∃ X, X = wr.heap.size := ⟨_, rfl⟩
   obtain ⟨W3, hW3⟩ : ∃ W, W = wr.alloc (.cells (shead 0 0 0 0 0) 97) := ⟨_, rfl⟩
   rw [← hX, ← hW3] at HSH
   have hb3 : Below wr.heap.size wr W3 := by rw [hW3]; exact (Below.refl _ _).alloc (Nat.le_refl _) _
   have HB4 : Aside0 (∀ w4, W3.grownBy w4 (some X) → Below wr.heap.size wr w4) := ⟨fun w4 hg => keep_own hb3 hg (by omega)⟩
   replace HSH := Aside0.mk HSH
   have HX := Aside0.mk hX
   have HW3 : Aside0 (W3 = wr.alloc (.cells #[.int .u8 0, .int .u32 0, .int .u16 0, .int .u32 0, .int .u32 0] 97)) := ⟨hW3⟩
   obtain ⟨o2, hs2, ho2⟩ := sl_lh b o m cc 12 (12 + fl) (by omega) (by omega)
   obtain ⟨o3, hs3, ho3⟩ := sl_l b o m cc (12 + fl) hfl hle
   rw [show ((12 : Nat) : Int) = 12 from rfl, show ((12 + fl : Nat) : Int) = 12 + (fl : Int) by omega] at hs2
   rw [show ((12 + fl : Nat) : Int) = 12 + (fl : Int) by omega] at hs3
   rw [show 12 + fl - 12 = fl by omega] at hs2
   obtain ⟨m', hm'⟩ : ∃ x, x = m - (12 + fl) := ⟨_, rfl⟩
   obtain ⟨cc', hcc'⟩ : ∃ x, x = cc - (12 + fl) := ⟨_, rfl⟩
   rw [← hm', ← hcc'] at hs3
   obtain ⟨cd, hcd⟩ : ∃ x, x = cc - 12 := ⟨_, rfl⟩
   rw [← hcd] at hs2
   have n0 : ((m : Int) == 0) = false := by simp; omega
   have n1 : IntKind.u32.wrap (12 + (fl : Int)) = 12 + (fl : Int) := by rw [IntKind.wrap_u32]; omega
   have n2 : IntKind.i64.wrap (12 + (fl : Int)) = 12 + (fl : Int) := by rw [IntKind.wrap_i64]; omega
   have n3 : ¬ ((m : Int) < 12 + (fl : Int)) := by omega
   have HREST : Aside0 (∀ w4, Below wr.heap.size wr w4 → Bytes w4 b o3 (rest.drop (12 + fl)) ∧ Bytes w4 b o2 ((rest.drop 12).take fl)) := ⟨fun w4 hb4 => by
    have hl := HI.out.len
    refine ⟨(bytes_below HI.out.bytes hb4).at (k := 12 + fl) (by rw [List.take_of_length_le (by simp)]) (fun h0 => ho3 (by rw [List.length_drop] at h0; omega)), (bytes_below HI.out.bytes hb4).at (k := 12) (by rw [List.length_take, List.length_drop]; congr 1; omega) (fun h0 => ho2 (by rw [List.length_take, List.length_drop] at h0; omega))⟩⟩
   have HHD := Aside0.mk hhd
   have HRUN := Aside0.mk hrun
   have HAG := Aside0.mk hagain
   have HNUM : Aside0 (12 + fl ≤ m ∧ m ≤ cc ∧ m' = m - (12 + fl) ∧ cc' = cc - (12 + fl) ∧ cd = cc - 12 ∧ rest.length = m) := ⟨⟨hfl, hle, hm', hcc', hcd, HI.out.len⟩⟩
   clear hm0 h12 hfl hrun hagain hhd hX hW3 hb3 ho2 ho3 hm' hcc' hcd hle
   by_cases hold : q < s1.cur
   ·rw [if_pos hold] at hfr
    injection hfr with hfr
    subst hfr
    have hold' : (q : Int) < (s1.cur : Int) := by omega
    have HNEXT : Aside0 (∀ w5, Below wr.heap.size wr w5 → PushInv w w5 B g rm b H ep fin o3 m' cc' k' (rest.drop (12 + fl)) s1 a1 (againOf s1 rest)) := ⟨fun w5 hb5 => by
     have hI := HI.out
     have hN := HNUM.out
     obtain ⟨sq, hr⟩ := hI.rh
     exact ⟨by rw [List.length_drop]; omega, by omega, by have := hI.le; omega, fun x hx => hI.by8 x (List.mem_of_mem_drop hx), (HREST.out w5 hb5).1, hI.buf.hold (Hold.below hb5), ⟨sq, (hb5.block H (blk_lt hr)).trans hr⟩, Fr.below hI.bel (Nat.le_trans hI.buf.g (Nat.le_of_lt (blk_lt hI.buf.h))) hb5, HRUN.out⟩⟩
    have HAG2 : Aside0 (againOf s1 rest = decide (fo = 0)) := ⟨by rw [HAG.out]; simp [hold]⟩
    by_cases hf0 : fo = 0
    ·subst hf0
     have HAG3 : Aside0 (againOf s1 rest = true) := ⟨by rw [HAG2.out]; rfl⟩
     go_wp2_with (fail)
     rw [← HW3.out, ← HX.out]
     refine (HSH.out).mono ?_
     rintro e w4 ⟨rfl, q1, q2⟩
     have hb4 := HB4.out w4 q2
     have x0 : w4.cell? ⟨X, 0, none⟩ = some (.int .u8 (t : Int)) := blk_cell q1 0
     have x1 : w4.cell? ⟨X, 1, none⟩ = some (.int .u32 (l : Int)) := blk_cell q1 1
     have x2 : w4.cell? ⟨X, 2, none⟩ = some (.int .u16 (q : Int)) := blk_cell q1 2
     have x3 : w4.cell? ⟨X, 3, none⟩ = some (.int .u32 0) := blk_cell q1 3
     have x4 : w4.cell? ⟨X, 4, none⟩ = some (.int .u32 (fl : Int)) := blk_cell q1 4
     have y1 : w4.cell? ⟨g, 1, none⟩ = some (.int .u16 (s1.cur : Int)) := blk_cell (HI.out.buf.hold (Hold.below hb4)).h 1
     have HB4 := Aside0.mk hb4
     clear hb4 q1 q2
     go_wp2_with (fail)
     go_region
     go_wp2_with (fail)
     go_region
     go_wp2_with (fail)
     go_roundg m'
     case measure => have := HNUM.out; have := HK.out; omega
     case rel =>
      refine ⟨o3, m', cc', k', rest.drop (12 + fl), s1, a1, true, rfl, rfl, ⟨rfl⟩, ⟨?_⟩⟩
      rw [← HAG3.out]
      exact HNEXT.out _ HB4.out.drew.drew
    ·have HAG3 : Aside0 (againOf s1 rest = false) := ⟨by rw [HAG2.out]; simp [hf0]⟩
     have ef0 : ((fo : Int) == 0) = false := by simp; omega
     clear hf0
     go_wp2_with (fail)
     rw [← HW3.out, ← HX.out]
     refine (HSH.out).mono ?_
     rintro e w4 ⟨rfl, q1, q2⟩
     have hb4 := HB4.out w4 q2
     have x0 : w4.cell? ⟨X, 0, none⟩ = some (.int .u8 (t : Int)) := blk_cell q1 0
     have x1 : w4.cell? ⟨X, 1, none⟩ = some (.int .u32 (l : Int)) := blk_cell q1 1
     have x2 : w4.cell? ⟨X, 2, none⟩ = some (.int .u16 (q : Int)) := blk_cell q1 2
     have x3 : w4.cell? ⟨X, 3, none⟩ = some (.int .u32 (fo : Int)) := blk_cell q1 3
     have x4 : w4.cell? ⟨X, 4, none⟩ = some (.int .u32 (fl : Int)) := blk_cell q1 4
     have y1 : w4.cell? ⟨g, 1, none⟩ = some (.int .u16 (s1.cur : Int)) := blk_cell (HI.out.buf.hold (Hold.below hb4)).h 1
     have HB4 := Aside0.mk hb4
     clear hb4 q1 q2
     go_wp2_with (fail)
     go_region
     go_wp2_with (fail)
     go_region
     go_wp2_with (fail)
     go_roundg m'
     case measure => have := HNUM.out; have := HK.out; omega
     case rel =>
      refine ⟨o3, m', cc', k', rest.drop (12 + fl), s1, a1, false, rfl, rfl, ⟨rfl⟩, ⟨?_⟩⟩
      rw [← HAG3.out]
      exact HNEXT.out _ HB4.out.drew.drew
   ·rw [if_neg hold] at hfr
    split at hfr
    case isFalse => cases hfr
    rename_i hfc
    obtain ⟨hfc, hok⟩ := hfc
    have hok0 := Aside0.mk hok
    clear hok
    have hok := hok0
    clear hok0
    have hold' : ¬ (q : Int) < (s1.cur : Int) := by omega
    have HAG3 : Aside0 (againOf s1 rest = false) := ⟨by rw [HAG.out]; simp [hold]⟩
    have DLEN : Aside0 (((rest.drop 12).take fl).length = fl) := ⟨by rw [List.length_take, List.length_drop]; have := HNUM.out; omega⟩
    have DBY : Aside0 (∀ y ∈ (rest.drop 12).take fl, y < 256) := ⟨fun y hy => HI.out.by8 y (List.mem_of_mem_drop (List.mem_of_mem_take hy))⟩
    have DCD : Aside0 (fl ≤ cd) := ⟨by have := HNUM.out; omega⟩
    have nl1 : ¬ (l : Int) < (fo : Int) := by omega
    have nl2 : ¬ (l : Int) - (fo : Int) < (fl : Int) := by omega
    have nl4 : fo ≤ l := by omega
    have nl5 : s1.cur ≤ q := by omega
    have nl6 : (fl : Int) ≤ (l : Int) - (fo : Int) := by omega
    have nl3 : IntKind.u32.wrap ((l : Int) - (fo : Int)) = (l : Int) - (fo : Int) := by rw [IntKind.wrap_u32]; omega
    cases hx : s1.m q with
    | none =>
      rw [hx] at hfr
      simp only at hfr
      injection hfr with hfr
      replace hx := Aside0.mk hx
      have HFR := Aside0.mk hfr
      clear hfr
      by_cases hf0 : fo = 0
      ·subst hf0
       have nl7 : ¬ (l : Int) < (fl : Int) := by omega
       have nl8 : fl ≤ l := by omega
       have nl9 : IntKind.u32.wrap (l : Int) = (l : Int) := by rw [IntKind.wrap_u32]; omega
       clear nl1 nl2 nl3 nl4 nl6
       go_wp2_with (fail)
       rw [← HW3.out, ← HX.out]
       refine (HSH.out).mono ?_
       rintro e w4 ⟨rfl, q1, q2⟩
       have hb4 := HB4.out w4 q2
       have x0 : w4.cell? ⟨X, 0, none⟩ = some (.int .u8 (t : Int)) := blk_cell q1 0
       have x1 : w4.cell? ⟨X, 1, none⟩ = some (.int .u32 (l : Int)) := blk_cell q1 1
       have x2 : w4.cell? ⟨X, 2, none⟩ = some (.int .u16 (q : Int)) := blk_cell q1 2
       have x3 : w4.cell? ⟨X, 3, none⟩ = some (.int .u32 0) := blk_cell q1 3
       have x4 : w4.cell? ⟨X, 4, none⟩ = some (.int .u32 (fl : Int)) := blk_cell q1 4
       have y1 : w4.cell? ⟨g, 1, none⟩ = some (.int .u16 (s1.cur : Int)) := blk_cell (HI.out.buf.hold (Hold.below hb4)).h 1
       have HB4 := Aside0.mk hb4
       have Q4 := Aside0.mk q1
       clear hb4 q1 q2
       go_wp2_with (fail)
       go_region
       go_wp2_with (fail)
       go_quiet (fail)
       go_wp2_with (fail)
       obtain ⟨W5, hW5⟩ : ∃ W, W = w4.drew.drewN nq := ⟨_, rfl⟩
       rw [← hW5]
       have HB5 : Aside0 (Below wr.heap.size wr W5) := ⟨by rw [hW5]; exact Below.drewN HB4.out.drew nq⟩
       have Q5 : Aside0 (W5.heap[X]? = some (.cells (shead t l q 0 fl) 97 (0, 0))) := ⟨by rw [hW5]; exact Q4.out⟩
       clear x0 x1 x2 x3 x4 y1 hW5 hold' n0 n1 n2 n3 hs2 hs3 nl5 nl7 nl8 nl9
       have hBu : BufAt W5 B g rm s1 a1 := HI.out.buf.hold (Hold.below HB5.out)
       have x0 : W5.cell? ⟨X, 0, none⟩ = some (.int .u8 (t : Int)) := blk_cell Q5.out 0
       have x1 : W5.cell? ⟨X, 1, none⟩ = some (.int .u32 (l : Int)) := blk_cell Q5.out 1
       have x2 : W5.cell? ⟨X, 2, none⟩ = some (.int .u16 (q : Int)) := blk_cell Q5.out 2
       have y0 : W5.cell? ⟨g, 0, none⟩ = some (.map (some rm)) := blk_cell hBu.h 0
       obtain ⟨v5, hl1⟩ := (hBu.map.look q lt3).2 (by simp [hx.out])
       obtain ⟨v6, hl2⟩ := ((hBu.map.kept (w' := W5.drew) rfl).look q lt3).2 (by simp [hx.out])
       have hBu5 := Aside0.mk hBu
       clear hBu
       go_region
       go_wp2_with (fail)
       obtain ⟨W6, hW6⟩ : ∃ W, W = (W5.alloc (.cells #[.slice none 0 0, .int .u32 0, .int .u8 (t : Int), .int .u32 (l : Int), .int .u8 0, .int .u32 0, .int .u16 0, .int .u32 0, .int .u32 0, .int .u16 0, .bool false] 102)).drew := ⟨_, rfl⟩
       obtain ⟨G, hG⟩ : ∃ G, G = W5.heap.size := ⟨_, rfl⟩
       rw [← hW6, ← hG]
       have hb56 : Below W5.heap.size W5 W6 := by rw [hW6]; exact ((Below.refl _ _).alloc (Nat.le_refl _) _).drew
       have Q6 : W6.heap[X]? = some (.cells (shead t l q 0 fl) 97 (0, 0)) := (hb56.block X (blk_lt Q5.out)).trans Q5.out
       have KG : W6.heap[G]? = some (.cells (fcells (.slice none 0 0) 0 t l (0, 0, 0, 0, 0) 0 false) 102 (0, 0)) := by rw [hW6, hG]; exact heap_alloc_new W5 _
       have hB0 : B ≤ W5.heap.size := Nat.le_trans hBu5.out.g (Nat.le_of_lt (blk_lt hBu5.out.h))
       have HADD := Aside0.mk (add_new (W' := W6.drew) hBu5.out hb56.drew hB0 hx.out hok.out t l 0 fl b o2 cd ((rest.drop 12).take fl) KG (by omega) DLEN.out DBY.out hBb (HREST.out W5 HB5.out).2 DCD.out (by omega) lt5)
       have HADD0 := Aside0.mk (add_new (W' := W6) hBu5.out hb56 hB0 hx.out hok.out t l 0 fl b o2 cd ((rest.drop 12).take fl) KG (by omega) DLEN.out DBY.out hBb (HREST.out W5 HB5.out).2 DCD.out (by omega) lt5)
       obtain ⟨xa, hxa⟩ : ∃ y, y = (Msg.fresh t l).add ⟨0, fl, (rest.drop 12).take fl⟩ := ⟨_, rfl⟩
       rw [← hxa] at HADD HADD0
       rw [show ((0 : Nat) : Int) = 0 from rfl] at HADD HADD0
       have HXA := Aside0.mk hxa
       have hst : xa.st = false ∧ xa.hd = (0, 0, 0, 0, 0) ∧ xa.ep = 0 := by
        rw [hxa]
        unfold Msg.add
        split <;> exact ⟨rfl, rfl, rfl⟩
       have HST := Aside0.mk hst
       have HG := Aside0.mk hG
       have hbg : W6.heap[g]? = some (.cells (bcells rm s1.cur s1.sz s1.cnt) 87 (0, 0)) := (hb56.block g (blk_lt hBu5.out.h)).trans hBu5.out.h
       have HAP : Aside0 (∀ w7, Below W5.heap.size W5 w7 → Fr B w w7 ∧ w7.heap[X]? = some (.cells (shead t l q 0 fl) 97 (0, 0)) ∧ (∃ sq, w7.heap[H]? = some (.cells (rhead 22 254 253 ep sq) 92 (0, 0))) ∧ Bytes w7 b o3 (rest.drop (12 + fl)) ∧ BufAt w7 B g rm s1 a1) := ⟨fun w7 hA => by
        have hI := HI.out
        have hbel : Fr B w W5 := Fr.below hI.bel (Nat.le_trans hI.buf.g (Nat.le_of_lt (blk_lt hI.buf.h))) HB5.out
        obtain ⟨sq, hr⟩ := hI.rh
        have hr5 : W5.heap[H]? = _ := (HB5.out.block H (blk_lt hr)).trans hr
        exact ⟨Fr.below hbel hB0 hA, (hA.block X (blk_lt Q5.out)).trans Q5.out, ⟨sq, (hA.block H (blk_lt hr5)).trans hr5⟩, bytes_below (HREST.out W5 HB5.out).1 hA, hBu5.out.hold (Hold.below hA)⟩⟩
       have HNE : Aside0 (∀ y : At, y.g = G → W5.heap.size ≤ y.b → ∀ k' x', s1.m k' = some x' → (a1 k').g ≠ y.g ∧ (a1 k').b ≠ y.b) := ⟨fun y h1 h2 k' x' hk' => by
        have hm := hBu5.out.msg k' x' hk'
        have z1 := blk_lt hm.fb.h
        have z2 := blk_lt hm.fb.r.h
        have z3 := HG.out
        omega⟩
       obtain ⟨k1, k2, k3, k4, k5, _⟩ := hok.out
       have K5 := Aside0.mk k5
       have HS : Aside0 (∀ w' : World, w'.heap[X]? = some (.cells (shead t l q 0 fl) 97 (0, 0)) → w'.heap[g]? = some (.cells (bcells rm s1.cur s1.sz s1.cnt) 87 (0, 0)) → w'.cell? ⟨X, 3, none⟩ = some (.int .u32 0) ∧ w'.cell? ⟨g, 3, none⟩ = some (.int .i64 s1.cnt)) := ⟨fun w' h1 h2 => ⟨blk_cell h1 3, blk_cell h2 3⟩⟩
       have HBR : Aside0 (W6.heap[X]? = some (.cells (shead t l q 0 fl) 97 (0, 0)) ∧ W6.heap[g]? = some (.cells (bcells rm s1.cur s1.sz s1.cnt) 87 (0, 0))) := ⟨⟨Q6, hbg⟩⟩
       clear x0 x1 x2 y0 hl1 hl2 hW6 hb56 Q6 KG hB0 hxa hst hG hbg k5
       have nw : IntKind.i64.wrap (1000 - s1.cnt) = 1000 - s1.cnt := IntWalk.i64_in _ (by omega)
       go_region_held3 (fun w' : World => w'.cell? ⟨X, 3, none⟩ = some (.int .u32 0) ∧ w'.cell? ⟨g, 3, none⟩ = some (.int .i64 s1.cnt)) (exact HS.out _ HBR.out.1 HBR.out.2) (first | (go_at_call 45; go_loud ((first | (with_reducible refine (HADD.out).mono ?_) | (with_reducible refine (HADD0.out).mono ?_)); rintro e w7 ⟨rfl, hA, y, hyg, hyb, hMn⟩; obtain ⟨p1, p2, p3, p4, p5⟩ := HAP.out w7 hA; have P1 := Aside0.mk p1; have P2 := Aside0.mk p2; have P3 := Aside0.mk p3; have P4 := Aside0.mk p4; have P5 := Aside0.mk p5; have MN := Aside0.mk hMn; have YG := Aside0.mk hyg; have YB := Aside0.mk hyb; clear HBR; have HBR : Aside0 (w7.heap[X]? = some (.cells (shead t l q 0 fl) 97 (0, 0)) ∧ w7.heap[g]? = some (.cells (bcells rm s1.cur s1.sz s1.cnt) 87 (0, 0))) := ⟨⟨p2, p5.h⟩⟩; clear p1 p2 p3 p4 p5 hA hMn hyg hyb)))
       clear nw
       go_wp2_with (fail)
       have x2 : w7.cell? ⟨X, 2, none⟩ = some (.int .u16 (q : Int)) := blk_cell P2.out 2
       have y0 : w7.cell? ⟨g, 0, none⟩ = some (.map (some rm)) := blk_cell P5.out.h 0
       obtain ⟨sq, hrh⟩ := P3.out
       obtain ⟨w8, hput, r1, r2, r3, r4, hBn⟩ := put_at P5.out MN.out hx.out K5.out lt3 (HNE.out y YG.out YB.out) P1.out P2.out hrh P4.out
       rw [YG.out] at hput
       clear P1 P2 P3 P4
       have P1 := Aside0.mk r1
       have P2 := Aside0.mk r2
       have P3 : Aside0 (∃ sq, w8.heap[H]? = some (.cells (rhead 22 254 253 ep sq) 92 (0, 0))) := ⟨⟨sq, r3⟩⟩
       have P4 := Aside0.mk r4
       have BN := Aside0.mk hBn
       clear r1 r2 r3 r4 hBn hrh
       have x3 : w8.cell? ⟨X, 3, none⟩ = some (.int .u32 0) := blk_cell P2.out 3
       have y3 : w8.cell? ⟨g, 3, none⟩ = some (.int .i64 s1.cnt) := blk_cell BN.out.h 3
       have y2 : w8.cell? ⟨g, 2, none⟩ = some (.int .i64 s1.sz) := blk_cell BN.out.h 2
       have z3 := blk_frozen BN.out.h 3
       have z2 := blk_frozen BN.out.h 2
       have hmG := BufAt.own' (x := xa) (q := q) BN.out (by simp [St.set])
       have hgb := hmG.fb.h
       rw [YG.out] at hgb
       have t10 : w8.cell? ⟨G, 10, none⟩ = some (.bool false) := by rw [← HST.out.1]; exact blk_cell hgb 10
       have HGB := Aside0.mk hgb
       clear hmG hgb
       go_still_tail 7, (by kernel_rfl)
       change wpList _ _ _ _ _ w7.drew
       go_upto_region 32 with (fail)
       have HRX := Aside0.mk (range_hd P2.out)
       have HTH := Aside0.mk (there_hd HGB.out)
       obtain ⟨d97, hu97, hd97⟩ := row97
       have HU := Aside0.mk hu97
       have HD := Aside0.mk hd97
       clear hu97 hd97
       refine wp_region_lit ?_
       refine at_val rfl (.pointer (some ⟨G, 0, none⟩)) w8 (by kernel_rfl) ?_
       refine wpList_load_mid rfl 97 _ rfl X 0 rfl (hdVals (t, l, q, 0, fl)) _ HRX.out HU.out HD.out size97 ?_
       refine at_val rfl (.pointer (some ⟨G, 0, none⟩)) w8 (by kernel_rfl) ?_
       refine at_val rfl (.pointer (some ⟨G, 4, none⟩)) w8 (by kernel_rfl) ?_
       refine wpList_store_mid rfl 97 _ _ rfl G 4 (hdVals (t, l, q, 0, fl)).toArray rfl rfl HTH.out size97 (hdVals_one _) ?_
       refine wpList_nil ?_
       obtain ⟨wS, hwS⟩ : ∃ W, W = w8.setCells G 4 (hdVals (t, l, q, 0, fl)) := ⟨_, rfl⟩
       rw [show (hdVals (t, l, q, 0, fl)).toArray.toList = hdVals (t, l, q, 0, fl) from rfl, ← hwS]
       have hgS := hd_stored0 (hd' := (t, l, q, 0, fl)) HGB.out
       rw [← hwS] at hgS
       have v9 : wS.cell? ⟨G, 9, none⟩ = some (.int .u16 (xa.ep : Int)) := blk_cell hgS 9
       have v10 : wS.cell? ⟨G, 10, none⟩ = some (.bool xa.st) := blk_cell hgS 10
       have u9 := blk_frozen hgS 9
       have u10 := blk_frozen hgS 10
       obtain ⟨sqH, hrH⟩ := P3.out
       have hep : wS.cell? ⟨H, 4, none⟩ = some (.int .u16 (ep : Int)) := by
        have : wS.heap[H]? = some (.cells (rhead 22 254 253 ep sqH) 92 (0, 0)) := by rw [hwS, setCells_other _ _ _ _ _ (blk_ne hrH HGB.out (by decide))]; exact hrH
        exact blk_cell this 4
       have HWS := Aside0.mk hwS
       have HRH9 := Aside0.mk hrH
       clear x3 y3 y2 z3 z2 t10 hwS hgS hrH
       go_upto_region 35 with (fail)
       obtain ⟨w9, hw9⟩ : ∃ W, W = (wS.setCell ⟨G, 9, none⟩ (.int .u16 (ep : Int))).setCell ⟨G, 10, none⟩ (.bool true) := ⟨_, rfl⟩
       rw [← hw9]
       obtain ⟨r1, r3, r4, hBn⟩ := started (s7 := ({ s1.set q xa with np := s1.np + 1 } : St)) (a7 := updA a1 q y) (xa := xa) (q := q) (G := G) (ep := ep) (t, l, q, 0, fl) BN.out (by simp [St.set]) (by unfold updA; rw [if_pos rfl]; exact YG.out) P1.out HRH9.out P4.out w9 (by rw [hw9, HWS.out])
       clear P1 P3 P4 BN v9 v10 u9 u10 hep hw9
       have P1 := Aside0.mk r1
       have P3 : Aside0 (∃ sq, w9.heap[H]? = some (.cells (rhead 22 254 253 ep sq) 92 (0, 0))) := ⟨⟨sqH, r3⟩⟩
       have P4 := Aside0.mk r4
       have y3 : w9.cell? ⟨g, 3, none⟩ = some (.int .i64 s1.cnt) := blk_cell hBn.h 3
       have y2 : w9.cell? ⟨g, 2, none⟩ = some (.int .i64 s1.sz) := blk_cell hBn.h 2
       have z3 := blk_frozen hBn.h 3
       have z2 := blk_frozen hBn.h 2
       have BN := Aside0.mk hBn
       clear r1 r3 r4 hBn
       go_wp2_with (fail)
       go_roundg m'
       case measure => have := HNUM.out; have := HK.out; omega
       case rel =>
        have hN := HNUM.out
        have hI := HI.out
        have hs8 : s2 = ⟨(({ s1.set q xa with np := s1.np + 1 } : St).set q { xa with hd := (t, l, q, 0, fl), ep := ep, st := true }).cur, (({ s1.set q xa with np := s1.np + 1 } : St).set q { xa with hd := (t, l, q, 0, fl), ep := ep, st := true }).sz + (fl : Int), (({ s1.set q xa with np := s1.np + 1 } : St).set q { xa with hd := (t, l, q, 0, fl), ep := ep, st := true }).cnt + 1, (({ s1.set q xa with np := s1.np + 1 } : St).set q { xa with hd := (t, l, q, 0, fl), ep := ep, st := true }).np, (({ s1.set q xa with np := s1.np + 1 } : St).set q { xa with hd := (t, l, q, 0, fl), ep := ep, st := true }).m⟩ := by
         rw [← HFR.out, ← HXA.out]
         rw [show xa.start (t, l, q, 0, fl) ep = { xa with hd := (t, l, q, 0, fl), ep := ep, st := true } from by unfold Msg.start; rw [if_pos ⟨rfl, by rw [HST.out.1]⟩]]
         exact congrArg (fun mm => (⟨s1.cur, s1.sz + (fl : Int), s1.cnt + 1, s1.np + 1, mm⟩ : St)) (funext fun k' => by show (if k' = q then _ else _) = (if k' = q then _ else (if k' = q then _ else _)); split <;> rfl)
        refine ⟨o3, m', cc', k', rest.drop (12 + fl), s2, updA a1 q y, false, rfl, rfl, ⟨rfl⟩, ⟨?_⟩⟩
        exact PushInv.last (s7 := (({ s1.set q xa with np := s1.np + 1 } : St).set q { xa with hd := (t, l, q, 0, fl), ep := ep, st := true })) BN.out P1.out P3.out P4.out 1 (fl : Int) (by rw [List.length_drop]; omega) (by omega) (by have := hI.le; omega) (fun x hx => hI.by8 x (List.mem_of_mem_drop hx)) s2 hs8 (by rw [← HAG3.out]; exact HRUN.out)
      ·have ef0 : ((fo : Int) == 0) = false := by simp; omega
       have HF0 := Aside0.mk hf0
       clear hf0
       go_wp2_with (fail)
       rw [← HW3.out, ← HX.out]
       refine (HSH.out).mono ?_
       rintro e w4 ⟨rfl, q1, q2⟩
       have hb4 := HB4.out w4 q2
       have x0 : w4.cell? ⟨X, 0, none⟩ = some (.int .u8 (t : Int)) := blk_cell q1 0
       have x1 : w4.cell? ⟨X, 1, none⟩ = some (.int .u32 (l : Int)) := blk_cell q1 1
       have x2 : w4.cell? ⟨X, 2, none⟩ = some (.int .u16 (q : Int)) := blk_cell q1 2
       have x3 : w4.cell? ⟨X, 3, none⟩ = some (.int .u32 (fo : Int)) := blk_cell q1 3
       have x4 : w4.cell? ⟨X, 4, none⟩ = some (.int .u32 (fl : Int)) := blk_cell q1 4
       have y1 : w4.cell? ⟨g, 1, none⟩ = some (.int .u16 (s1.cur : Int)) := blk_cell (HI.out.buf.hold (Hold.below hb4)).h 1
       have HB4 := Aside0.mk hb4
       have Q4 := Aside0.mk q1
       clear hb4 q1 q2
       go_wp2_with (fail)
       go_region
       go_wp2_with (fail)
       go_quiet (fail)
       go_wp2_with (fail)
       obtain ⟨W5, hW5⟩ : ∃ W, W = w4.drew.drewN nq := ⟨_, rfl⟩
       rw [← hW5]
       have HB5 : Aside0 (Below wr.heap.size wr W5) := ⟨by rw [hW5]; exact Below.drewN HB4.out.drew nq⟩
       have Q5 : Aside0 (W5.heap[X]? = some (.cells (shead t l q fo fl) 97 (0, 0))) := ⟨by rw [hW5]; exact Q4.out⟩
       clear x0 x1 x2 x3 x4 y1 hW5 hold' n0 n1 n2 n3 hs2 hs3 nl1 nl2 nl3 nl4 nl5 nl6
       have hBu : BufAt W5 B g rm s1 a1 := HI.out.buf.hold (Hold.below HB5.out)
       have x0 : W5.cell? ⟨X, 0, none⟩ = some (.int .u8 (t : Int)) := blk_cell Q5.out 0
       have x1 : W5.cell? ⟨X, 1, none⟩ = some (.int .u32 (l : Int)) := blk_cell Q5.out 1
       have x2 : W5.cell? ⟨X, 2, none⟩ = some (.int .u16 (q : Int)) := blk_cell Q5.out 2
       have y0 : W5.cell? ⟨g, 0, none⟩ = some (.map (some rm)) := blk_cell hBu.h 0
       obtain ⟨v5, hl1⟩ := (hBu.map.look q lt3).2 (by simp [hx.out])
       obtain ⟨v6, hl2⟩ := ((hBu.map.kept (w' := W5.drew) rfl).look q lt3).2 (by simp [hx.out])
       have hBu5 := Aside0.mk hBu
       clear hBu
       go_region
       go_wp2_with (fail)
       obtain ⟨W6, hW6⟩ : ∃ W, W = (W5.alloc (.cells #[.slice none 0 0, .int .u32 0, .int .u8 (t : Int), .int .u32 (l : Int), .int .u8 0, .int .u32 0, .int .u16 0, .int .u32 0, .int .u32 0, .int .u16 0, .bool false] 102)).drew := ⟨_, rfl⟩
       obtain ⟨G, hG⟩ : ∃ G, G = W5.heap.size := ⟨_, rfl⟩
       rw [← hW6, ← hG]
       have hb56 : Below W5.heap.size W5 W6 := by rw [hW6]; exact ((Below.refl _ _).alloc (Nat.le_refl _) _).drew
       have Q6 : W6.heap[X]? = some (.cells (shead t l q fo fl) 97 (0, 0)) := (hb56.block X (blk_lt Q5.out)).trans Q5.out
       have KG : W6.heap[G]? = some (.cells (fcells (.slice none 0 0) 0 t l (0, 0, 0, 0, 0) 0 false) 102 (0, 0)) := by rw [hW6, hG]; exact heap_alloc_new W5 _
       have hB0 : B ≤ W5.heap.size := Nat.le_trans hBu5.out.g (Nat.le_of_lt (blk_lt hBu5.out.h))
       have HADD := Aside0.mk (add_new (W' := W6.drew) hBu5.out hb56.drew hB0 hx.out hok.out t l fo fl b o2 cd ((rest.drop 12).take fl) KG (by omega) DLEN.out DBY.out hBb (HREST.out W5 HB5.out).2 DCD.out lt4 lt5)
       have HADD0 := Aside0.mk (add_new (W' := W6) hBu5.out hb56 hB0 hx.out hok.out t l fo fl b o2 cd ((rest.drop 12).take fl) KG (by omega) DLEN.out DBY.out hBb (HREST.out W5 HB5.out).2 DCD.out lt4 lt5)
       obtain ⟨xa, hxa⟩ : ∃ y, y = (Msg.fresh t l).add ⟨fo, fl, (rest.drop 12).take fl⟩ := ⟨_, rfl⟩
       rw [← hxa] at HADD HADD0
       have HXA := Aside0.mk hxa
       have hst : xa.st = false ∧ xa.hd = (0, 0, 0, 0, 0) ∧ xa.ep = 0 := by
        rw [hxa]
        unfold Msg.add
        split <;> exact ⟨rfl, rfl, rfl⟩
       have HST := Aside0.mk hst
       have HG := Aside0.mk hG
       have hbg : W6.heap[g]? = some (.cells (bcells rm s1.cur s1.sz s1.cnt) 87 (0, 0)) := (hb56.block g (blk_lt hBu5.out.h)).trans hBu5.out.h
       have HAP : Aside0 (∀ w7, Below W5.heap.size W5 w7 → Fr B w w7 ∧ w7.heap[X]? = some (.cells (shead t l q fo fl) 97 (0, 0)) ∧ (∃ sq, w7.heap[H]? = some (.cells (rhead 22 254 253 ep sq) 92 (0, 0))) ∧ Bytes w7 b o3 (rest.drop (12 + fl)) ∧ BufAt w7 B g rm s1 a1) := ⟨fun w7 hA => by
        have hI := HI.out
        have hbel : Fr B w W5 := Fr.below hI.bel (Nat.le_trans hI.buf.g (Nat.le_of_lt (blk_lt hI.buf.h))) HB5.out
        obtain ⟨sq, hr⟩ := hI.rh
        have hr5 : W5.heap[H]? = _ := (HB5.out.block H (blk_lt hr)).trans hr
        exact ⟨Fr.below hbel hB0 hA, (hA.block X (blk_lt Q5.out)).trans Q5.out, ⟨sq, (hA.block H (blk_lt hr5)).trans hr5⟩, bytes_below (HREST.out W5 HB5.out).1 hA, hBu5.out.hold (Hold.below hA)⟩⟩
       have HNE : Aside0 (∀ y : At, y.g = G → W5.heap.size ≤ y.b → ∀ k' x', s1.m k' = some x' → (a1 k').g ≠ y.g ∧ (a1 k').b ≠ y.b) := ⟨fun y h1 h2 k' x' hk' => by
        have hm := hBu5.out.msg k' x' hk'
        have z1 := blk_lt hm.fb.h
        have z2 := blk_lt hm.fb.r.h
        have z3 := HG.out
        omega⟩
       obtain ⟨k1, k2, k3, k4, k5, _⟩ := hok.out
       have K5 := Aside0.mk k5
       have HS : Aside0 (∀ w' : World, w'.heap[X]? = some (.cells (shead t l q fo fl) 97 (0, 0)) → w'.heap[g]? = some (.cells (bcells rm s1.cur s1.sz s1.cnt) 87 (0, 0)) → w'.cell? ⟨X, 3, none⟩ = some (.int .u32 (fo : Int)) ∧ w'.cell? ⟨g, 3, none⟩ = some (.int .i64 s1.cnt)) := ⟨fun w' h1 h2 => ⟨blk_cell h1 3, blk_cell h2 3⟩⟩
       have HBR : Aside0 (W6.heap[X]? = some (.cells (shead t l q fo fl) 97 (0, 0)) ∧ W6.heap[g]? = some (.cells (bcells rm s1.cur s1.sz s1.cnt) 87 (0, 0))) := ⟨⟨Q6, hbg⟩⟩
       clear x0 x1 x2 y0 hl1 hl2 hW6 hb56 Q6 KG hB0 hxa hst hG hbg k5
       have nw : IntKind.i64.wrap (1000 - s1.cnt) = 1000 - s1.cnt := IntWalk.i64_in _ (by omega)
       go_region_held3 (fun w' : World => w'.cell? ⟨X, 3, none⟩ = some (.int .u32 (fo : Int)) ∧ w'.cell? ⟨g, 3, none⟩ = some (.int .i64 s1.cnt)) (exact HS.out _ HBR.out.1 HBR.out.2) (first | (go_at_call 45; go_loud ((first | (with_reducible refine (HADD.out).mono ?_) | (with_reducible refine (HADD0.out).mono ?_)); rintro e w7 ⟨rfl, hA, y, hyg, hyb, hMn⟩; obtain ⟨p1, p2, p3, p4, p5⟩ := HAP.out w7 hA; have P1 := Aside0.mk p1; have P2 := Aside0.mk p2; have P3 := Aside0.mk p3; have P4 := Aside0.mk p4; have P5 := Aside0.mk p5; have MN := Aside0.mk hMn; have YG := Aside0.mk hyg; have YB := Aside0.mk hyb; clear HBR; have HBR : Aside0 (w7.heap[X]? = some (.cells (shead t l q fo fl) 97 (0, 0)) ∧ w7.heap[g]? = some (.cells (bcells rm s1.cur s1.sz s1.cnt) 87 (0, 0))) := ⟨⟨p2, p5.h⟩⟩; clear p1 p2 p3 p4 p5 hA hMn hyg hyb)))
       clear nw
       go_wp2_with (fail)
       have x2 : w7.cell? ⟨X, 2, none⟩ = some (.int .u16 (q : Int)) := blk_cell P2.out 2
       have y0 : w7.cell? ⟨g, 0, none⟩ = some (.map (some rm)) := blk_cell P5.out.h 0
       obtain ⟨sq, hrh⟩ := P3.out
       obtain ⟨w8, hput, r1, r2, r3, r4, hBn⟩ := put_at P5.out MN.out hx.out K5.out lt3 (HNE.out y YG.out YB.out) P1.out P2.out hrh P4.out
       rw [YG.out] at hput
       clear P1 P2 P3 P4
       have P1 := Aside0.mk r1
       have P2 := Aside0.mk r2
       have P3 : Aside0 (∃ sq, w8.heap[H]? = some (.cells (rhead 22 254 253 ep sq) 92 (0, 0))) := ⟨⟨sq, r3⟩⟩
       have P4 := Aside0.mk r4
       have BN := Aside0.mk hBn
       clear r1 r2 r3 r4 hBn hrh
       have x3 : w8.cell? ⟨X, 3, none⟩ = some (.int .u32 (fo : Int)) := blk_cell P2.out 3
       have y3 : w8.cell? ⟨g, 3, none⟩ = some (.int .i64 s1.cnt) := blk_cell BN.out.h 3
       have y2 : w8.cell? ⟨g, 2, none⟩ = some (.int .i64 s1.sz) := blk_cell BN.out.h 2
       have z3 := blk_frozen BN.out.h 3
       have z2 := blk_frozen BN.out.h 2
       go_still_tail 7, (by kernel_rfl)
       change wpList _ _ _ _ _ w7.drew
       go_wp2_with (fail)
       go_roundg m'
       case measure => have := HNUM.out; have := HK.out; omega
       case rel =>
        have hN := HNUM.out
        have hI := HI.out
        have hs8 : s2 = ⟨({ s1.set q xa with np := s1.np + 1 } : St).cur, ({ s1.set q xa with np := s1.np + 1 } : St).sz + (fl : Int), ({ s1.set q xa with np := s1.np + 1 } : St).cnt + 1, ({ s1.set q xa with np := s1.np + 1 } : St).np, ({ s1.set q xa with np := s1.np + 1 } : St).m⟩ := by
         rw [← HFR.out, ← HXA.out]
         rw [show xa.start (t, l, q, fo, fl) ep = xa from by unfold Msg.start; rw [if_neg (by rintro ⟨h1, h2⟩; exact HF0.out h1)]]; rfl
        refine ⟨o3, m', cc', k', rest.drop (12 + fl), s2, updA a1 q y, false, rfl, rfl, ⟨rfl⟩, ⟨?_⟩⟩
        exact PushInv.last (s7 := ({ s1.set q xa with np := s1.np + 1 } : St)) BN.out P1.out P3.out P4.out 1 (fl : Int) (by rw [List.length_drop]; omega) (by omega) (by have := hI.le; omega) (fun x hx => hI.by8 x (List.mem_of_mem_drop hx)) s2 hs8 (by rw [← HAG3.out]; exact HRUN.out)
    | some x =>
      rw [hx] at hfr
      simp only at hfr
      split at hfr
      case isFalse => cases hfr
      rename_i hxc
      obtain ⟨hxt, hxl, hokr⟩ := hxc
      injection hfr with hfr
      replace hx := Aside0.mk hx
      replace hxt := Aside0.mk hxt
      replace hxl := Aside0.mk hxl
      replace hokr := Aside0.mk hokr
      have HFR := Aside0.mk hfr
      clear hfr
      by_cases hf0 : fo = 0
      ·subst hf0
       cases hst0 : x.st
       ·have HST0 := Aside0.mk hst0
        clear hst0
        have nl7 : ¬ (l : Int) < (fl : Int) := by omega
        have nl8 : fl ≤ l := by omega
        have nl9 : IntKind.u32.wrap (l : Int) = (l : Int) := by rw [IntKind.wrap_u32]; omega
        clear nl1 nl2 nl3 nl4 nl6
        go_wp2_with (fail)
        rw [← HW3.out, ← HX.out]
        refine (HSH.out).mono ?_
        rintro e w4 ⟨rfl, q1, q2⟩
        have hb4 := HB4.out w4 q2
        have x0 : w4.cell? ⟨X, 0, none⟩ = some (.int .u8 (t : Int)) := blk_cell q1 0
        have x1 : w4.cell? ⟨X, 1, none⟩ = some (.int .u32 (l : Int)) := blk_cell q1 1
        have x2 : w4.cell? ⟨X, 2, none⟩ = some (.int .u16 (q : Int)) := blk_cell q1 2
        have x3 : w4.cell? ⟨X, 3, none⟩ = some (.int .u32 0) := blk_cell q1 3
        have x4 : w4.cell? ⟨X, 4, none⟩ = some (.int .u32 (fl : Int)) := blk_cell q1 4
        have y1 : w4.cell? ⟨g, 1, none⟩ = some (.int .u16 (s1.cur : Int)) := blk_cell (HI.out.buf.hold (Hold.below hb4)).h 1
        have HB4 := Aside0.mk hb4
        have Q4 := Aside0.mk q1
        clear hb4 q1 q2
        go_wp2_with (fail)
        go_region
        go_wp2_with (fail)
        go_quiet (fail)
        go_wp2_with (fail)
        obtain ⟨W5, hW5⟩ : ∃ W, W = w4.drew.drewN nq := ⟨_, rfl⟩
        rw [← hW5]
        have HB5 : Aside0 (Below wr.heap.size wr W5) := ⟨by rw [hW5]; exact Below.drewN HB4.out.drew nq⟩
        have Q5 : Aside0 (W5.heap[X]? = some (.cells (shead t l q 0 fl) 97 (0, 0))) := ⟨by rw [hW5]; exact Q4.out⟩
        clear x0 x1 x2 x3 x4 y1 hW5 hold' n0 n1 n2 n3 hs2 hs3 nl5 nl7 nl8 nl9
        have hBu : BufAt W5 B g rm s1 a1 := HI.out.buf.hold (Hold.below HB5.out)
        have x0 : W5.cell? ⟨X, 0, none⟩ = some (.int .u8 (t : Int)) := blk_cell Q5.out 0
        have x1 : W5.cell? ⟨X, 1, none⟩ = some (.int .u32 (l : Int)) := blk_cell Q5.out 1
        have x2 : W5.cell? ⟨X, 2, none⟩ = some (.int .u16 (q : Int)) := blk_cell Q5.out 2
        have y0 : W5.cell? ⟨g, 0, none⟩ = some (.map (some rm)) := blk_cell hBu.h 0
        have hm := hBu.msg q x hx.out
        obtain ⟨G, hG⟩ : ∃ G, G = (a1 q).g := ⟨_, rfl⟩
        have hl1 := (hBu.map.look q lt3).1 G (by simp [hx.out, hG])
        have hl2 := ((hBu.map.kept (w' := W5.drew) rfl).look q lt3).1 G (by simp [hx.out, hG])
        have g2 : W5.cell? ⟨G, 2, none⟩ = some (.int .u8 (t : Int)) := by rw [hG, ← hxt.out]; exact blk_cell hm.fb.h 2
        have g3 : W5.cell? ⟨G, 3, none⟩ = some (.int .u32 (l : Int)) := by rw [hG, ← hxl.out]; exact blk_cell hm.fb.h 3
        have HG := Aside0.mk hG
        clear hBu hm hG
        go_region
        go_wp2_with (fail)
        go_quiet (fail)
        go_wp2_with (fail)
        obtain ⟨W6, hW6⟩ : ∃ W, W = W5.drew.drewN nq := ⟨_, rfl⟩
        rw [← hW6]
        have HB6 : Aside0 (Below wr.heap.size wr W6) := ⟨by rw [hW6]; exact Below.drewN HB5.out.drew nq⟩
        have Q6 : Aside0 (W6.heap[X]? = some (.cells (shead t l q 0 fl) 97 (0, 0))) := ⟨by rw [hW6]; exact Q5.out⟩
        clear x0 x1 x2 y0 g2 g3 hl1 hl2 hW6
        have hBu : BufAt W6 B g rm s1 a1 := HI.out.buf.hold (Hold.below HB6.out)
        have x3 : W6.cell? ⟨X, 3, none⟩ = some (.int .u32 0) := blk_cell Q6.out 3
        have y3 : W6.cell? ⟨g, 3, none⟩ = some (.int .i64 s1.cnt) := blk_cell hBu.h 3
        have HADD := Aside0.mk (add_at (hBu.hold (Hold.below (Below.refl W6.heap.size W6).drew)) hx.out hok.out hokr.out 0 fl b o2 cd ((rest.drop 12).take fl) DLEN.out DBY.out hBb (HREST.out W6.drew HB6.out.drew).2 DCD.out (by omega) lt5)
        have HADD0 := Aside0.mk (add_at hBu hx.out hok.out hokr.out 0 fl b o2 cd ((rest.drop 12).take fl) DLEN.out DBY.out hBb (HREST.out W6 HB6.out).2 DCD.out (by omega) lt5)
        have HBG := Aside0.mk hBu.h
        rw [← HG.out] at HADD HADD0
        rw [show ((0 : Nat) : Int) = 0 from rfl] at HADD HADD0
        obtain ⟨d1, hd1⟩ : ∃ d, d = dCnt x.rs ⟨0, fl, (rest.drop 12).take fl⟩ := ⟨_, rfl⟩
        obtain ⟨d2, hd2⟩ : ∃ d, d = dSz x.rs ⟨0, fl, (rest.drop 12).take fl⟩ := ⟨_, rfl⟩
        rw [← hd1, ← hd2] at HADD HADD0
        obtain ⟨xa, hxa⟩ : ∃ y, y = x.add ⟨0, fl, (rest.drop 12).take fl⟩ := ⟨_, rfl⟩
        rw [← hxa] at HADD HADD0
        have b1 := dCnt_le x.rs (⟨0, fl, (rest.drop 12).take fl⟩ : Rg (List Nat)) hokr.out.1
        have b2 := dSz_le x.rs (⟨0, fl, (rest.drop 12).take fl⟩ : Rg (List Nat)) x.l hokr.out lt5
        rw [← hd1] at b1
        rw [← hd2] at b2
        obtain ⟨b11, b12⟩ := b1
        obtain ⟨b21, b22⟩ := b2
        have HD1 := Aside0.mk hd1
        have HD2 := Aside0.mk hd2
        have HXA := Aside0.mk hxa
        have hst : xa.st = x.st ∧ xa.hd = x.hd ∧ xa.ep = x.ep := by
         rw [hxa]
         unfold Msg.add
         split <;> exact ⟨rfl, rfl, rfl⟩
        have HST := Aside0.mk hst
        have hkb := (hBu.msg q x hx.out).fb.r.h
        have hkg := (hBu.msg q x hx.out).fb.h
        rw [← HG.out] at hkg
        have HAP : Aside0 (∀ w7, Apart W6.drew w7 G (a1 q).b → Fr B w w7 ∧ w7.heap[X]? = some (.cells (shead t l q 0 fl) 97 (0, 0)) ∧ (∃ sq, w7.heap[H]? = some (.cells (rhead 22 254 253 ep sq) 92 (0, 0))) ∧ Bytes w7 b o3 (rest.drop (12 + fl))) := ⟨fun w7 hA => by
         have hA0 := hA
         obtain ⟨p1, p2, p3, p4, p5⟩ := hA
         have hI := HI.out
         have hbel : Fr B w W6 := Fr.below hI.bel (Nat.le_trans hI.buf.g (Nat.le_of_lt (blk_lt hI.buf.h))) HB6.out
         have hBG := (hBu.msg q x hx.out).g
         have hBbb := (hBu.msg q x hx.out).b
         obtain ⟨sq, hr⟩ := hI.rh
         have hr6 : W6.heap[H]? = _ := (HB6.out.block H (blk_lt hr)).trans hr
         have hbt := (HREST.out W6 HB6.out).1
         refine ⟨hbel.drew.apart hA0 hkg hkb (by rw [HG.out]; exact hBG) hBbb, ?_, ⟨sq, ?_⟩, ?_⟩
         ·exact (p5 X (blk_lt Q6.out) (blk_ne Q6.out hkg (by decide)) (blk_ne Q6.out hkb (by decide))).trans Q6.out
         ·exact (p5 H (blk_lt hr6) (blk_ne hr6 hkg (by decide)) (blk_ne hr6 hkb (by decide))).trans hr6
         ·refine hbt.kept ?_
          obtain ⟨arr, fz, h1, _⟩ := hbt
          exact p5 b (blk_lt h1) (blk_ne' h1 hkg (by decide)) (blk_ne' h1 hkb (by decide))⟩
        obtain ⟨k1, k2, k3, k4, _, _⟩ := hok.out
        clear hBu hd1 hd2 hxa hst hkb hkg
        have HS : Aside0 (∀ w' : World, w'.heap[X]? = some (.cells (shead t l q 0 fl) 97 (0, 0)) → w'.heap[g]? = some (.cells (bcells rm s1.cur s1.sz s1.cnt) 87 (0, 0)) → w'.cell? ⟨X, 3, none⟩ = some (.int .u32 0) ∧ w'.cell? ⟨g, 3, none⟩ = some (.int .i64 s1.cnt)) := ⟨fun w' h1 h2 => ⟨blk_cell h1 3, blk_cell h2 3⟩⟩
        have HBR : Aside0 (W6.heap[X]? = some (.cells (shead t l q 0 fl) 97 (0, 0)) ∧ W6.heap[g]? = some (.cells (bcells rm s1.cur s1.sz s1.cnt) 87 (0, 0))) := ⟨⟨Q6.out, HBG.out⟩⟩
        clear x3 y3
        have nw : IntKind.i64.wrap (1000 - s1.cnt) = 1000 - s1.cnt := IntWalk.i64_in _ (by omega)
        go_region_held3 (fun w' : World => w'.cell? ⟨X, 3, none⟩ = some (.int .u32 0) ∧ w'.cell? ⟨g, 3, none⟩ = some (.int .i64 s1.cnt)) (exact HS.out _ HBR.out.1 HBR.out.2) (first | (go_at_call 45; go_loud ((first | (with_reducible refine (HADD.out).mono ?_) | (with_reducible refine (HADD0.out).mono ?_)); rintro e w7 ⟨rfl, hA, y, hyg, hBn⟩; obtain ⟨p1, p2, p3, p4⟩ := HAP.out w7 hA; have P1 := Aside0.mk p1; have P2 := Aside0.mk p2; have P3 := Aside0.mk p3; have P4 := Aside0.mk p4; have BN := Aside0.mk hBn; have YG := Aside0.mk hyg; clear HBR; have HBR : Aside0 (w7.heap[X]? = some (.cells (shead t l q 0 fl) 97 (0, 0)) ∧ w7.heap[g]? = some (.cells (bcells rm s1.cur s1.sz s1.cnt) 87 (0, 0))) := ⟨⟨p2, hBn.h⟩⟩; clear p1 p2 p3 p4 hA hBn hyg)))
        clear nw
        have x3 : w7.cell? ⟨X, 3, none⟩ = some (.int .u32 0) := blk_cell P2.out 3
        have y3 : w7.cell? ⟨g, 3, none⟩ = some (.int .i64 s1.cnt) := blk_cell BN.out.h 3
        have y2 : w7.cell? ⟨g, 2, none⟩ = some (.int .i64 s1.sz) := blk_cell BN.out.h 2
        have z3 := blk_frozen BN.out.h 3
        have z2 := blk_frozen BN.out.h 2
        have hmG := BufAt.own' (x := xa) (q := q) BN.out (by simp [St.set])
        have hgb := hmG.fb.h
        rw [YG.out] at hgb
        have t10 : w7.cell? ⟨G, 10, none⟩ = some (.bool false) := by rw [← HST0.out, ← HST.out.1]; exact blk_cell hgb 10
        have HGB := Aside0.mk hgb
        clear hmG hgb
        go_upto_region 32 with (fail)
        have HRX := Aside0.mk (range_hd P2.out)
        have HTH := Aside0.mk (there_hd HGB.out)
        obtain ⟨d97, hu97, hd97⟩ := row97
        have HU := Aside0.mk hu97
        have HD := Aside0.mk hd97
        clear hu97 hd97
        refine wp_region_lit ?_
        refine at_val rfl (.pointer (some ⟨G, 0, none⟩)) w7 (by kernel_rfl) ?_
        refine wpList_load_mid rfl 97 _ rfl X 0 rfl (hdVals (t, l, q, 0, fl)) _ HRX.out HU.out HD.out size97 ?_
        refine at_val rfl (.pointer (some ⟨G, 0, none⟩)) w7 (by kernel_rfl) ?_
        refine at_val rfl (.pointer (some ⟨G, 4, none⟩)) w7 (by kernel_rfl) ?_
        refine wpList_store_mid rfl 97 _ _ rfl G 4 (hdVals (t, l, q, 0, fl)).toArray rfl rfl HTH.out size97 (hdVals_one _) ?_
        refine wpList_nil ?_
        obtain ⟨wS, hwS⟩ : ∃ W, W = w7.setCells G 4 (hdVals (t, l, q, 0, fl)) := ⟨_, rfl⟩
        rw [show (hdVals (t, l, q, 0, fl)).toArray.toList = hdVals (t, l, q, 0, fl) from rfl, ← hwS]
        have hgS := hd_stored0 (hd' := (t, l, q, 0, fl)) HGB.out
        rw [← hwS] at hgS
        have v9 : wS.cell? ⟨G, 9, none⟩ = some (.int .u16 (xa.ep : Int)) := blk_cell hgS 9
        have v10 : wS.cell? ⟨G, 10, none⟩ = some (.bool xa.st) := blk_cell hgS 10
        have u9 := blk_frozen hgS 9
        have u10 := blk_frozen hgS 10
        obtain ⟨sqH, hrH⟩ := P3.out
        have hep : wS.cell? ⟨H, 4, none⟩ = some (.int .u16 (ep : Int)) := by
         have : wS.heap[H]? = some (.cells (rhead 22 254 253 ep sqH) 92 (0, 0)) := by rw [hwS, setCells_other _ _ _ _ _ (blk_ne hrH HGB.out (by decide))]; exact hrH
         exact blk_cell this 4
        have HWS := Aside0.mk hwS
        have HRH9 := Aside0.mk hrH
        clear x3 y3 y2 z3 z2 t10 hwS hgS hrH
        go_upto_region 35 with (fail)
        obtain ⟨w9, hw9⟩ : ∃ W, W = (wS.setCell ⟨G, 9, none⟩ (.int .u16 (ep : Int))).setCell ⟨G, 10, none⟩ (.bool true) := ⟨_, rfl⟩
        rw [← hw9]
        obtain ⟨r1, r3, r4, hBn⟩ := started (s7 := (s1.set q xa)) (a7 := updA a1 q y) (xa := xa) (q := q) (G := G) (ep := ep) (t, l, q, 0, fl) BN.out (by simp [St.set]) (by unfold updA; rw [if_pos rfl]; exact YG.out) P1.out HRH9.out P4.out w9 (by rw [hw9, HWS.out])
        clear P1 P3 P4 BN v9 v10 u9 u10 hep hw9
        have P1 := Aside0.mk r1
        have P3 : Aside0 (∃ sq, w9.heap[H]? = some (.cells (rhead 22 254 253 ep sq) 92 (0, 0))) := ⟨⟨sqH, r3⟩⟩
        have P4 := Aside0.mk r4
        have y3 : w9.cell? ⟨g, 3, none⟩ = some (.int .i64 s1.cnt) := blk_cell hBn.h 3
        have y2 : w9.cell? ⟨g, 2, none⟩ = some (.int .i64 s1.sz) := blk_cell hBn.h 2
        have z3 := blk_frozen hBn.h 3
        have z2 := blk_frozen hBn.h 2
        have BN := Aside0.mk hBn
        clear r1 r3 r4 hBn
        go_wp2_with (fail)
        go_roundg m'
        case measure => have := HNUM.out; have := HK.out; omega
        case rel =>
         have hN := HNUM.out
         have hI := HI.out
         have hs8 : s2 = ⟨((s1.set q xa).set q { xa with hd := (t, l, q, 0, fl), ep := ep, st := true }).cur, ((s1.set q xa).set q { xa with hd := (t, l, q, 0, fl), ep := ep, st := true }).sz + d2, ((s1.set q xa).set q { xa with hd := (t, l, q, 0, fl), ep := ep, st := true }).cnt + d1, ((s1.set q xa).set q { xa with hd := (t, l, q, 0, fl), ep := ep, st := true }).np, ((s1.set q xa).set q { xa with hd := (t, l, q, 0, fl), ep := ep, st := true }).m⟩ := by
          rw [← HFR.out, ← HXA.out, ← HD1.out, ← HD2.out]
          rw [show xa.start (t, l, q, 0, fl) ep = { xa with hd := (t, l, q, 0, fl), ep := ep, st := true } from by unfold Msg.start; rw [if_pos ⟨rfl, by rw [HST.out.1, HST0.out]⟩]]
          exact congrArg (fun mm => (⟨s1.cur, s1.sz + d2, s1.cnt + d1, s1.np + 0, mm⟩ : St)) (funext fun k' => by show (if k' = q then _ else _) = (if k' = q then _ else (if k' = q then _ else _)); split <;> rfl)
         refine ⟨o3, m', cc', k', rest.drop (12 + fl), s2, updA a1 q y, false, rfl, rfl, ⟨rfl⟩, ⟨?_⟩⟩
         exact PushInv.last (s7 := ((s1.set q xa).set q { xa with hd := (t, l, q, 0, fl), ep := ep, st := true })) BN.out P1.out P3.out P4.out d1 d2 (by rw [List.length_drop]; omega) (by omega) (by have := hI.le; omega) (fun x hx => hI.by8 x (List.mem_of_mem_drop hx)) s2 hs8 (by rw [← HAG3.out]; exact HRUN.out)
       ·have HST0 := Aside0.mk hst0
        clear hst0
        have nl7 : ¬ (l : Int) < (fl : Int) := by omega
        have nl8 : fl ≤ l := by omega
        have nl9 : IntKind.u32.wrap (l : Int) = (l : Int) := by rw [IntKind.wrap_u32]; omega
        clear nl1 nl2 nl3 nl4 nl6
        go_wp2_with (fail)
        rw [← HW3.out, ← HX.out]
        refine (HSH.out).mono ?_
        rintro e w4 ⟨rfl, q1, q2⟩
        have hb4 := HB4.out w4 q2
        have x0 : w4.cell? ⟨X, 0, none⟩ = some (.int .u8 (t : Int)) := blk_cell q1 0
        have x1 : w4.cell? ⟨X, 1, none⟩ = some (.int .u32 (l : Int)) := blk_cell q1 1
        have x2 : w4.cell? ⟨X, 2, none⟩ = some (.int .u16 (q : Int)) := blk_cell q1 2
        have x3 : w4.cell? ⟨X, 3, none⟩ = some (.int .u32 0) := blk_cell q1 3
        have x4 : w4.cell? ⟨X, 4, none⟩ = some (.int .u32 (fl : Int)) := blk_cell q1 4
        have y1 : w4.cell? ⟨g, 1, none⟩ = some (.int .u16 (s1.cur : Int)) := blk_cell (HI.out.buf.hold (Hold.below hb4)).h 1
        have HB4 := Aside0.mk hb4
        have Q4 := Aside0.mk q1
        clear hb4 q1 q2
        go_wp2_with (fail)
        go_region
        go_wp2_with (fail)
        go_quiet (fail)
        go_wp2_with (fail)
        obtain ⟨W5, hW5⟩ : ∃ W, W = w4.drew.drewN nq := ⟨_, rfl⟩
        rw [← hW5]
        have HB5 : Aside0 (Below wr.heap.size wr W5) := ⟨by rw [hW5]; exact Below.drewN HB4.out.drew nq⟩
        have Q5 : Aside0 (W5.heap[X]? = some (.cells (shead t l q 0 fl) 97 (0, 0))) := ⟨by rw [hW5]; exact Q4.out⟩
        clear x0 x1 x2 x3 x4 y1 hW5 hold' n0 n1 n2 n3 hs2 hs3 nl5 nl7 nl8 nl9
        have hBu : BufAt W5 B g rm s1 a1 := HI.out.buf.hold (Hold.below HB5.out)
        have x0 : W5.cell? ⟨X, 0, none⟩ = some (.int .u8 (t : Int)) := blk_cell Q5.out 0
        have x1 : W5.cell? ⟨X, 1, none⟩ = some (.int .u32 (l : Int)) := blk_cell Q5.out 1
        have x2 : W5.cell? ⟨X, 2, none⟩ = some (.int .u16 (q : Int)) := blk_cell Q5.out 2
        have y0 : W5.cell? ⟨g, 0, none⟩ = some (.map (some rm)) := blk_cell hBu.h 0
        have hm := hBu.msg q x hx.out
        obtain ⟨G, hG⟩ : ∃ G, G = (a1 q).g := ⟨_, rfl⟩
        have hl1 := (hBu.map.look q lt3).1 G (by simp [hx.out, hG])
        have hl2 := ((hBu.map.kept (w' := W5.drew) rfl).look q lt3).1 G (by simp [hx.out, hG])
        have g2 : W5.cell? ⟨G, 2, none⟩ = some (.int .u8 (t : Int)) := by rw [hG, ← hxt.out]; exact blk_cell hm.fb.h 2
        have g3 : W5.cell? ⟨G, 3, none⟩ = some (.int .u32 (l : Int)) := by rw [hG, ← hxl.out]; exact blk_cell hm.fb.h 3
        have HG := Aside0.mk hG
        clear hBu hm hG
        go_region
        go_wp2_with (fail)
        go_quiet (fail)
        go_wp2_with (fail)
        obtain ⟨W6, hW6⟩ : ∃ W, W = W5.drew.drewN nq := ⟨_, rfl⟩
        rw [← hW6]
        have HB6 : Aside0 (Below wr.heap.size wr W6) := ⟨by rw [hW6]; exact Below.drewN HB5.out.drew nq⟩
        have Q6 : Aside0 (W6.heap[X]? = some (.cells (shead t l q 0 fl) 97 (0, 0))) := ⟨by rw [hW6]; exact Q5.out⟩
        clear x0 x1 x2 y0 g2 g3 hl1 hl2 hW6
        have hBu : BufAt W6 B g rm s1 a1 := HI.out.buf.hold (Hold.below HB6.out)
        have x3 : W6.cell? ⟨X, 3, none⟩ = some (.int .u32 0) := blk_cell Q6.out 3
        have y3 : W6.cell? ⟨g, 3, none⟩ = some (.int .i64 s1.cnt) := blk_cell hBu.h 3
        have HADD := Aside0.mk (add_at (hBu.hold (Hold.below (Below.refl W6.heap.size W6).drew)) hx.out hok.out hokr.out 0 fl b o2 cd ((rest.drop 12).take fl) DLEN.out DBY.out hBb (HREST.out W6.drew HB6.out.drew).2 DCD.out (by omega) lt5)
        have HADD0 := Aside0.mk (add_at hBu hx.out hok.out hokr.out 0 fl b o2 cd ((rest.drop 12).take fl) DLEN.out DBY.out hBb (HREST.out W6 HB6.out).2 DCD.out (by omega) lt5)
        have HBG := Aside0.mk hBu.h
        rw [← HG.out] at HADD HADD0
        rw [show ((0 : Nat) : Int) = 0 from rfl] at HADD HADD0
        obtain ⟨d1, hd1⟩ : ∃ d, d = dCnt x.rs ⟨0, fl, (rest.drop 12).take fl⟩ := ⟨_, rfl⟩
        obtain ⟨d2, hd2⟩ : ∃ d, d = dSz x.rs ⟨0, fl, (rest.drop 12).take fl⟩ := ⟨_, rfl⟩
        rw [← hd1, ← hd2] at HADD HADD0
        obtain ⟨xa, hxa⟩ : ∃ y, y = x.add ⟨0, fl, (rest.drop 12).take fl⟩ := ⟨_, rfl⟩
        rw [← hxa] at HADD HADD0
        have b1 := dCnt_le x.rs (⟨0, fl, (rest.drop 12).take fl⟩ : Rg (List Nat)) hokr.out.1
        have b2 := dSz_le x.rs (⟨0, fl, (rest.drop 12).take fl⟩ : Rg (List Nat)) x.l hokr.out lt5
        rw [← hd1] at b1
        rw [← hd2] at b2
        obtain ⟨b11, b12⟩ := b1
        obtain ⟨b21, b22⟩ := b2
        have HD1 := Aside0.mk hd1
        have HD2 := Aside0.mk hd2
        have HXA := Aside0.mk hxa
        have hst : xa.st = x.st ∧ xa.hd = x.hd ∧ xa.ep = x.ep := by
         rw [hxa]
         unfold Msg.add
         split <;> exact ⟨rfl, rfl, rfl⟩
        have HST := Aside0.mk hst
        have hkb := (hBu.msg q x hx.out).fb.r.h
        have hkg := (hBu.msg q x hx.out).fb.h
        rw [← HG.out] at hkg
        have HAP : Aside0 (∀ w7, Apart W6.drew w7 G (a1 q).b → Fr B w w7 ∧ w7.heap[X]? = some (.cells (shead t l q 0 fl) 97 (0, 0)) ∧ (∃ sq, w7.heap[H]? = some (.cells (rhead 22 254 253 ep sq) 92 (0, 0))) ∧ Bytes w7 b o3 (rest.drop (12 + fl))) := ⟨fun w7 hA => by
         have hA0 := hA
         obtain ⟨p1, p2, p3, p4, p5⟩ := hA
         have hI := HI.out
         have hbel : Fr B w W6 := Fr.below hI.bel (Nat.le_trans hI.buf.g (Nat.le_of_lt (blk_lt hI.buf.h))) HB6.out
         have hBG := (hBu.msg q x hx.out).g
         have hBbb := (hBu.msg q x hx.out).b
         obtain ⟨sq, hr⟩ := hI.rh
         have hr6 : W6.heap[H]? = _ := (HB6.out.block H (blk_lt hr)).trans hr
         have hbt := (HREST.out W6 HB6.out).1
         refine ⟨hbel.drew.apart hA0 hkg hkb (by rw [HG.out]; exact hBG) hBbb, ?_, ⟨sq, ?_⟩, ?_⟩
         ·exact (p5 X (blk_lt Q6.out) (blk_ne Q6.out hkg (by decide)) (blk_ne Q6.out hkb (by decide))).trans Q6.out
         ·exact (p5 H (blk_lt hr6) (blk_ne hr6 hkg (by decide)) (blk_ne hr6 hkb (by decide))).trans hr6
         ·refine hbt.kept ?_
          obtain ⟨arr, fz, h1, _⟩ := hbt
          exact p5 b (blk_lt h1) (blk_ne' h1 hkg (by decide)) (blk_ne' h1 hkb (by decide))⟩
        obtain ⟨k1, k2, k3, k4, _, _⟩ := hok.out
        clear hBu hd1 hd2 hxa hst hkb hkg
        have HS : Aside0 (∀ w' : World, w'.heap[X]? = some (.cells (shead t l q 0 fl) 97 (0, 0)) → w'.heap[g]? = some (.cells (bcells rm s1.cur s1.sz s1.cnt) 87 (0, 0)) → w'.cell? ⟨X, 3, none⟩ = some (.int .u32 0) ∧ w'.cell? ⟨g, 3, none⟩ = some (.int .i64 s1.cnt)) := ⟨fun w' h1 h2 => ⟨blk_cell h1 3, blk_cell h2 3⟩⟩
        have HBR : Aside0 (W6.heap[X]? = some (.cells (shead t l q 0 fl) 97 (0, 0)) ∧ W6.heap[g]? = some (.cells (bcells rm s1.cur s1.sz s1.cnt) 87 (0, 0))) := ⟨⟨Q6.out, HBG.out⟩⟩
        clear x3 y3
        have nw : IntKind.i64.wrap (1000 - s1.cnt) = 1000 - s1.cnt := IntWalk.i64_in _ (by omega)
        go_region_held3 (fun w' : World => w'.cell? ⟨X, 3, none⟩ = some (.int .u32 0) ∧ w'.cell? ⟨g, 3, none⟩ = some (.int .i64 s1.cnt)) (exact HS.out _ HBR.out.1 HBR.out.2) (first | (go_at_call 45; go_loud ((first | (with_reducible refine (HADD.out).mono ?_) | (with_reducible refine (HADD0.out).mono ?_)); rintro e w7 ⟨rfl, hA, y, hyg, hBn⟩; obtain ⟨p1, p2, p3, p4⟩ := HAP.out w7 hA; have P1 := Aside0.mk p1; have P2 := Aside0.mk p2; have P3 := Aside0.mk p3; have P4 := Aside0.mk p4; have BN := Aside0.mk hBn; have YG := Aside0.mk hyg; clear HBR; have HBR : Aside0 (w7.heap[X]? = some (.cells (shead t l q 0 fl) 97 (0, 0)) ∧ w7.heap[g]? = some (.cells (bcells rm s1.cur s1.sz s1.cnt) 87 (0, 0))) := ⟨⟨p2, hBn.h⟩⟩; clear p1 p2 p3 p4 hA hBn hyg)))
        clear nw
        have x3 : w7.cell? ⟨X, 3, none⟩ = some (.int .u32 0) := blk_cell P2.out 3
        have y3 : w7.cell? ⟨g, 3, none⟩ = some (.int .i64 s1.cnt) := blk_cell BN.out.h 3
        have y2 : w7.cell? ⟨g, 2, none⟩ = some (.int .i64 s1.sz) := blk_cell BN.out.h 2
        have z3 := blk_frozen BN.out.h 3
        have z2 := blk_frozen BN.out.h 2
        have hmG := BufAt.own' (x := xa) (q := q) BN.out (by simp [St.set])
        have hgb := hmG.fb.h
        rw [YG.out] at hgb
        have t10 : w7.cell? ⟨G, 10, none⟩ = some (.bool true) := by rw [← HST0.out, ← HST.out.1]; exact blk_cell hgb 10
        have HGB := Aside0.mk hgb
        clear hmG hgb
        go_wp2_with (fail)
        go_roundg m'
        case measure => have := HNUM.out; have := HK.out; omega
        case rel =>
         have hN := HNUM.out
         have hI := HI.out
         have hs8 : s2 = ⟨(s1.set q xa).cur, (s1.set q xa).sz + d2, (s1.set q xa).cnt + d1, (s1.set q xa).np, (s1.set q xa).m⟩ := by
          rw [← HFR.out, ← HXA.out, ← HD1.out, ← HD2.out]
          rw [show xa.start (t, l, q, 0, fl) ep = xa from by unfold Msg.start; rw [if_neg (by rintro ⟨h1, h2⟩; rw [HST.out.1, HST0.out] at h2; cases h2)]]; rfl
         refine ⟨o3, m', cc', k', rest.drop (12 + fl), s2, updA a1 q y, false, rfl, rfl, ⟨rfl⟩, ⟨?_⟩⟩
         exact PushInv.last (s7 := (s1.set q xa)) BN.out P1.out P3.out P4.out d1 d2 (by rw [List.length_drop]; omega) (by omega) (by have := hI.le; omega) (fun x hx => hI.by8 x (List.mem_of_mem_drop hx)) s2 hs8 (by rw [← HAG3.out]; exact HRUN.out)
      ·have ef0 : ((fo : Int) == 0) = false := by simp; omega
       have HF0 := Aside0.mk hf0
       clear hf0
       go_wp2_with (fail)
       rw [← HW3.out, ← HX.out]
       refine (HSH.out).mono ?_
       rintro e w4 ⟨rfl, q1, q2⟩
       have hb4 := HB4.out w4 q2
       have x0 : w4.cell? ⟨X, 0, none⟩ = some (.int .u8 (t : Int)) := blk_cell q1 0
       have x1 : w4.cell? ⟨X, 1, none⟩ = some (.int .u32 (l : Int)) := blk_cell q1 1
       have x2 : w4.cell? ⟨X, 2, none⟩ = some (.int .u16 (q : Int)) := blk_cell q1 2
       have x3 : w4.cell? ⟨X, 3, none⟩ = some (.int .u32 (fo : Int)) := blk_cell q1 3
       have x4 : w4.cell? ⟨X, 4, none⟩ = some (.int .u32 (fl : Int)) := blk_cell q1 4
       have y1 : w4.cell? ⟨g, 1, none⟩ = some (.int .u16 (s1.cur : Int)) := blk_cell (HI.out.buf.hold (Hold.below hb4)).h 1
       have HB4 := Aside0.mk hb4
       have Q4 := Aside0.mk q1
       clear hb4 q1 q2
       go_wp2_with (fail)
       go_region
       go_wp2_with (fail)
       go_quiet (fail)
       go_wp2_with (fail)
       obtain ⟨W5, hW5⟩ : ∃ W, W = w4.drew.drewN nq := ⟨_, rfl⟩
       rw [← hW5]
       have HB5 : Aside0 (Below wr.heap.size wr W5) := ⟨by rw [hW5]; exact Below.drewN HB4.out.drew nq⟩
       have Q5 : Aside0 (W5.heap[X]? = some (.cells (shead t l q fo fl) 97 (0, 0))) := ⟨by rw [hW5]; exact Q4.out⟩
       clear x0 x1 x2 x3 x4 y1 hW5 hold' n0 n1 n2 n3 hs2 hs3 nl1 nl2 nl3 nl4 nl5 nl6
       have hBu : BufAt W5 B g rm s1 a1 := HI.out.buf.hold (Hold.below HB5.out)
       have x0 : W5.cell? ⟨X, 0, none⟩ = some (.int .u8 (t : Int)) := blk_cell Q5.out 0
       have x1 : W5.cell? ⟨X, 1, none⟩ = some (.int .u32 (l : Int)) := blk_cell Q5.out 1
       have x2 : W5.cell? ⟨X, 2, none⟩ = some (.int .u16 (q : Int)) := blk_cell Q5.out 2
       have y0 : W5.cell? ⟨g, 0, none⟩ = some (.map (some rm)) := blk_cell hBu.h 0
       have hm := hBu.msg q x hx.out
       obtain ⟨G, hG⟩ : ∃ G, G = (a1 q).g := ⟨_, rfl⟩
       have hl1 := (hBu.map.look q lt3).1 G (by simp [hx.out, hG])
       have hl2 := ((hBu.map.kept (w' := W5.drew) rfl).look q lt3).1 G (by simp [hx.out, hG])
       have g2 : W5.cell? ⟨G, 2, none⟩ = some (.int .u8 (t : Int)) := by rw [hG, ← hxt.out]; exact blk_cell hm.fb.h 2
       have g3 : W5.cell? ⟨G, 3, none⟩ = some (.int .u32 (l : Int)) := by rw [hG, ← hxl.out]; exact blk_cell hm.fb.h 3
       have HG := Aside0.mk hG
       clear hBu hm hG
       go_region
       go_wp2_with (fail)
       go_quiet (fail)
       go_wp2_with (fail)
       obtain ⟨W6, hW6⟩ : ∃ W, W = W5.drew.drewN nq := ⟨_, rfl⟩
       rw [← hW6]
       have HB6 : Aside0 (Below wr.heap.size wr W6) := ⟨by rw [hW6]; exact Below.drewN HB5.out.drew nq⟩
       have Q6 : Aside0 (W6.heap[X]? = some (.cells (shead t l q fo fl) 97 (0, 0))) := ⟨by rw [hW6]; exact Q5.out⟩
       clear x0 x1 x2 y0 g2 g3 hl1 hl2 hW6
       have hBu : BufAt W6 B g rm s1 a1 := HI.out.buf.hold (Hold.below HB6.out)
       have x3 : W6.cell? ⟨X, 3, none⟩ = some (.int .u32 (fo : Int)) := blk_cell Q6.out 3
       have y3 : W6.cell? ⟨g, 3, none⟩ = some (.int .i64 s1.cnt) := blk_cell hBu.h 3
       have HADD := Aside0.mk (add_at (hBu.hold (Hold.below (Below.refl W6.heap.size W6).drew)) hx.out hok.out hokr.out fo fl b o2 cd ((rest.drop 12).take fl) DLEN.out DBY.out hBb (HREST.out W6.drew HB6.out.drew).2 DCD.out lt4 lt5)
       have HADD0 := Aside0.mk (add_at hBu hx.out hok.out hokr.out fo fl b o2 cd ((rest.drop 12).take fl) DLEN.out DBY.out hBb (HREST.out W6 HB6.out).2 DCD.out lt4 lt5)
       have HBG := Aside0.mk hBu.h
       rw [← HG.out] at HADD HADD0
       obtain ⟨d1, hd1⟩ : ∃ d, d = dCnt x.rs ⟨fo, fl, (rest.drop 12).take fl⟩ := ⟨_, rfl⟩
       obtain ⟨d2, hd2⟩ : ∃ d, d = dSz x.rs ⟨fo, fl, (rest.drop 12).take fl⟩ := ⟨_, rfl⟩
       rw [← hd1, ← hd2] at HADD HADD0
       obtain ⟨xa, hxa⟩ : ∃ y, y = x.add ⟨fo, fl, (rest.drop 12).take fl⟩ := ⟨_, rfl⟩
       rw [← hxa] at HADD HADD0
       have b1 := dCnt_le x.rs (⟨fo, fl, (rest.drop 12).take fl⟩ : Rg (List Nat)) hokr.out.1
       have b2 := dSz_le x.rs (⟨fo, fl, (rest.drop 12).take fl⟩ : Rg (List Nat)) x.l hokr.out lt5
       rw [← hd1] at b1
       rw [← hd2] at b2
       obtain ⟨b11, b12⟩ := b1
       obtain ⟨b21, b22⟩ := b2
       have HD1 := Aside0.mk hd1
       have HD2 := Aside0.mk hd2
       have HXA := Aside0.mk hxa
       have hst : xa.st = x.st ∧ xa.hd = x.hd ∧ xa.ep = x.ep := by
        rw [hxa]
        unfold Msg.add
        split <;> exact ⟨rfl, rfl, rfl⟩
       have HST := Aside0.mk hst
       have hkb := (hBu.msg q x hx.out).fb.r.h
       have hkg := (hBu.msg q x hx.out).fb.h
       rw [← HG.out] at hkg
       have HAP : Aside0 (∀ w7, Apart W6.drew w7 G (a1 q).b → Fr B w w7 ∧ w7.heap[X]? = some (.cells (shead t l q fo fl) 97 (0, 0)) ∧ (∃ sq, w7.heap[H]? = some (.cells (rhead 22 254 253 ep sq) 92 (0, 0))) ∧ Bytes w7 b o3 (rest.drop (12 + fl))) := ⟨fun w7 hA => by
        have hA0 := hA
        obtain ⟨p1, p2, p3, p4, p5⟩ := hA
        have hI := HI.out
        have hbel : Fr B w W6 := Fr.below hI.bel (Nat.le_trans hI.buf.g (Nat.le_of_lt (blk_lt hI.buf.h))) HB6.out
        have hBG := (hBu.msg q x hx.out).g
        have hBbb := (hBu.msg q x hx.out).b
        obtain ⟨sq, hr⟩ := hI.rh
        have hr6 : W6.heap[H]? = _ := (HB6.out.block H (blk_lt hr)).trans hr
        have hbt := (HREST.out W6 HB6.out).1
        refine ⟨hbel.drew.apart hA0 hkg hkb (by rw [HG.out]; exact hBG) hBbb, ?_, ⟨sq, ?_⟩, ?_⟩
        ·exact (p5 X (blk_lt Q6.out) (blk_ne Q6.out hkg (by decide)) (blk_ne Q6.out hkb (by decide))).trans Q6.out
        ·exact (p5 H (blk_lt hr6) (blk_ne hr6 hkg (by decide)) (blk_ne hr6 hkb (by decide))).trans hr6
        ·refine hbt.kept ?_
         obtain ⟨arr, fz, h1, _⟩ := hbt
         exact p5 b (blk_lt h1) (blk_ne' h1 hkg (by decide)) (blk_ne' h1 hkb (by decide))⟩
       obtain ⟨k1, k2, k3, k4, _, _⟩ := hok.out
       clear hBu hd1 hd2 hxa hst hkb hkg
       have HS : Aside0 (∀ w' : World, w'.heap[X]? = some (.cells (shead t l q fo fl) 97 (0, 0)) → w'.heap[g]? = some (.cells (bcells rm s1.cur s1.sz s1.cnt) 87 (0, 0)) → w'.cell? ⟨X, 3, none⟩ = some (.int .u32 (fo : Int)) ∧ w'.cell? ⟨g, 3, none⟩ = some (.int .i64 s1.cnt)) := ⟨fun w' h1 h2 => ⟨blk_cell h1 3, blk_cell h2 3⟩⟩
       have HBR : Aside0 (W6.heap[X]? = some (.cells (shead t l q fo fl) 97 (0, 0)) ∧ W6.heap[g]? = some (.cells (bcells rm s1.cur s1.sz s1.cnt) 87 (0, 0))) := ⟨⟨Q6.out, HBG.out⟩⟩
       clear x3 y3
       have nw : IntKind.i64.wrap (1000 - s1.cnt) = 1000 - s1.cnt := IntWalk.i64_in _ (by omega)
       go_region_held3 (fun w' : World => w'.cell? ⟨X, 3, none⟩ = some (.int .u32 (fo : Int)) ∧ w'.cell? ⟨g, 3, none⟩ = some (.int .i64 s1.cnt)) (exact HS.out _ HBR.out.1 HBR.out.2) (first | (go_at_call 45; go_loud ((first | (with_reducible refine (HADD.out).mono ?_) | (with_reducible refine (HADD0.out).mono ?_)); rintro e w7 ⟨rfl, hA, y, hyg, hBn⟩; obtain ⟨p1, p2, p3, p4⟩ := HAP.out w7 hA; have P1 := Aside0.mk p1; have P2 := Aside0.mk p2; have P3 := Aside0.mk p3; have P4 := Aside0.mk p4; have BN := Aside0.mk hBn; have YG := Aside0.mk hyg; clear HBR; have HBR : Aside0 (w7.heap[X]? = some (.cells (shead t l q fo fl) 97 (0, 0)) ∧ w7.heap[g]? = some (.cells (bcells rm s1.cur s1.sz s1.cnt) 87 (0, 0))) := ⟨⟨p2, hBn.h⟩⟩; clear p1 p2 p3 p4 hA hBn hyg)))
       clear nw
       have x3 : w7.cell? ⟨X, 3, none⟩ = some (.int .u32 (fo : Int)) := blk_cell P2.out 3
       have y3 : w7.cell? ⟨g, 3, none⟩ = some (.int .i64 s1.cnt) := blk_cell BN.out.h 3
       have y2 : w7.cell? ⟨g, 2, none⟩ = some (.int .i64 s1.sz) := blk_cell BN.out.h 2
       have z3 := blk_frozen BN.out.h 3
       have z2 := blk_frozen BN.out.h 2
       go_wp2_with (fail)
       go_roundg m'
       case measure => have := HNUM.out; have := HK.out; omega
       case rel =>
        have hN := HNUM.out
        have hI := HI.out
        have hs8 : s2 = ⟨(s1.set q xa).cur, (s1.set q xa).sz + d2, (s1.set q xa).cnt + d1, (s1.set q xa).np, (s1.set q xa).m⟩ := by
         rw [← HFR.out, ← HXA.out, ← HD1.out, ← HD2.out]
         rw [show xa.start (t, l, q, fo, fl) ep = xa from by unfold Msg.start; rw [if_neg (by rintro ⟨h1, h2⟩; exact HF0.out h1)]]; rfl
        refine ⟨o3, m', cc', k', rest.drop (12 + fl), s2, updA a1 q y, false, rfl, rfl, ⟨rfl⟩, ⟨?_⟩⟩
        exact PushInv.last (s7 := (s1.set q xa)) BN.out P1.out P3.out P4.out d1 d2 (by rw [List.length_drop]; omega) (by omega) (by have := hI.le; omega) (fun x hx => hI.by8 x (List.mem_of_mem_drop hx)) s2 hs8 (by rw [← HAG3.out]; exact HRUN.out)
end Go.Proofs.YtjflijebcpcbmaaDoor.G
