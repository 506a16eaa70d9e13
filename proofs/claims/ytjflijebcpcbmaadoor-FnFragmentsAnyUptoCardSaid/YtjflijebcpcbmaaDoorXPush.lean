/-
 What is proved: what push tells of a record that is none of handshake messages. Conditions: at least 13 bytes, the version 254 253, few bytes kept.
-/
import Derived.Test.YtjflijebcpcbmaaDoorXBuf
import Derived.Test.YtjflijebcpcbmaaDoorXAddN
namespace Go.Proofs.YtjflijebcpcbmaaDoor.G
open Go.RowKit Go.Proofs.YtjflijebcpcbmaaDoorW.PrintWords Go.Proofs.YtjflijebcpcbmaaDoorW.PrintLast Go.Proofs.YtjflijebcpcbmaaDoorW.PrintMore
set_option linter.unusedVariables false
set_option linter.unusedSimpArgs false

set_option maxHeartbeats 8000000 in
set_option maxRecDepth 100000 in
theorem push_other (g rm cur b n c : Nat) (size count : Int) (bs : List Nat) (w : World) (HL : Laid w) (hg : w.heap[g]? = some (.cells (bcells rm cur size count) 87 (0, 0))) (h : Bytes w b 0 bs) (hl : bs.length = n) (hn : 13 ≤ n) (hnc : n ≤ c) (hb : ∀ x ∈ bs, x < 256)
 (h1 : bs.getD 1 0 = 254) (h2 : bs.getD 2 0 = 253) (h0 : bs.getD 0 0 ≠ 25) (h22 : bs.getD 0 0 ≠ 22) (hs0 : 0 ≤ size) (hs : size + n < 2000000) :
 Calls Tryd.prog 35 #[.pointer (some ⟨g, 0, none⟩), .slice (some ⟨b, 0, none⟩) n c] w fun e w' => e = .returned (.tuple #[.bool false, .bool false, .nilIface]) ∧ Below w.heap.size w w' := by
 have HSZ := Aside0.mk (size_calls g rm cur size count w hg)
 obtain ⟨W1, hW1⟩ : ∃ W, W = w.alloc (.cells #[.int .u8 0, .int .u16 0, .int .u8 0, .int .u8 0, .int .u16 0, .int .u64 0, .slice none 0 0] 92) := ⟨_, rfl⟩
 obtain ⟨H, hH⟩ : ∃ H, H = w.heap.size := ⟨_, rfl⟩
 have hb1 : Below w.heap.size w W1 := by rw [hW1]; exact (Below.refl _ _).alloc (Nat.le_refl _) _
 have hk : W1.heap[H]? = some (.cells (rhead 0 0 0 0 0) 92 (0, 0)) := by rw [hW1, hH]; exact heap_alloc_new _ _
 have HRH := Aside0.mk (rhead_calls H b n c bs W1 (HL.below hb1) hk (bytes_below h hb1) hl hn hnc hb h1 h2 h0)
 obtain ⟨ct, hct⟩ : ∃ x, x = bs.getD 0 0 := ⟨_, rfl⟩
 rw [← hct] at HRH h22
 have e1 : ((ct : Int) == 22) = false := by simp; omega
 have e2 : ¬ ((2000000 : Int) ≤ size + (n : Int)) := by omega
 have HW1 := Aside0.mk hW1
 have HH := Aside0.mk hH
 have HB1 := Aside0.mk hb1
 clear HL hg h hl hn hnc hb h1 h2 h0 h22 hs hct hk hb1 hW1 hH
 go_enter Tryd.func35, Tryd.ntmps35
 go_wp2_with (fail)
 refine (HSZ.out).mono ?_
 rintro e w1 ⟨rfl, rfl⟩
 go_wp2_with (fail)
 rw [← HW1.out, ← HH.out]
 refine (HRH.out).mono ?_
 rintro e w2 ⟨rfl, ⟨sq, q1⟩, q2⟩
 have c0 : w2.cell? ⟨H, 0, none⟩ = some (.int .u8 (ct : Int)) := blk_cell q1 0
 have HB2 : Aside0 (Below w.heap.size w w2) := ⟨by
  have h1 := HB1.out
  have hh := HH.out
  have h1s := h1.size
  exact ⟨q2.os.trans h1.os, q2.tape.trans h1.tape, q2.output.trans h1.output, Nat.le_trans h1s q2.size, fun k hk => (q2.block k (by omega) (fun e => by injection e with e; omega)).trans (h1.block k hk)⟩⟩
 clear q1 q2
 go_wp2
 exact bodyPost_ret (v := .tuple #[.bool false, .bool false, .nilIface]) (by simp [results, Tryd.results35, go_sem]) rfl ⟨rfl, HB2.out⟩
end Go.Proofs.YtjflijebcpcbmaaDoor.G
