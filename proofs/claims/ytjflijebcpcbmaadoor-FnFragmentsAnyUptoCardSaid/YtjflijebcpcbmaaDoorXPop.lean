/-
 What is proved: what pop tells and makes of the buffer. Conditions: the model pops.
-/
import Derived.Test.YtjflijebcpcbmaaDoorXPp
namespace Go.Proofs.YtjflijebcpcbmaaDoor.G
open Go.RowKit Go.Proofs.YtjflijebcpcbmaaDoorW.PrintWords Go.Proofs.YtjflijebcpcbmaaDoorW.PrintLast Go.Proofs.YtjflijebcpcbmaaDoorW.PrintMore
set_option linter.unusedVariables false
set_option linter.unusedSimpArgs false

set_option maxHeartbeats 8000000 in
set_option maxRecDepth 100000 in
theorem pop_none (B g rm : Nat) (s s' : St) (a : Nat → At) (w : World) (hB : BufAt w B g rm s a) (hBw : B ≤ w.heap.size) (hc : s.cur < 65536) (hp : s.pop = some (none, s')) :
 Calls Tryd.prog 36 #[.pointer (some ⟨g, 0, none⟩)] w fun e w' => e = .returned (.tuple #[.slice none 0 0, .int .u16 0]) ∧ BufAt w' B g rm s' a ∧ Fr B w w' := by
 have hss : s' = s ∧ (s.m s.cur = none ∨ ∃ x, s.m s.cur = some x ∧ x.cov < x.l) := by
  unfold St.pop at hp
  cases hx : s.m s.cur with
  | none => rw [hx] at hp; simp at hp; exact ⟨hp.symm, .inl rfl⟩
  | some x =>
    rw [hx] at hp
    simp only at hp
    split at hp
    case isTrue h => simp at hp; exact ⟨hp.symm, .inr ⟨x, rfl, h⟩⟩
    case isFalse =>
     split at hp
     case isFalse => cases hp
     cases ha : asm x.rs 0 with
     | none => rw [ha] at hp; cases hp
     | some b => rw [ha] at hp; simp at hp
 obtain ⟨rfl, hx⟩ := hss
 have y0 : w.cell? ⟨g, 0, none⟩ = some (.map (some rm)) := blk_cell hB.h 0
 have y1 : w.cell? ⟨g, 1, none⟩ = some (.int .u16 (s'.cur : Int)) := blk_cell hB.h 1
 rcases hx with hx | ⟨x, hx, hlt⟩
 ·obtain ⟨v5, hl1⟩ := (hB.map.look s'.cur hc).2 (by simp [hx])
  obtain ⟨v6, hl2⟩ := ((hB.map.kept (w' := w.drew) rfl).look s'.cur hc).2 (by simp [hx])
  have HB := Aside0.mk hB
  have HBW := Aside0.mk hBw
  clear hB hx hBw hp
  go_enter Tryd.func36, Tryd.ntmps36
  go_wp2_with (fail)
  go_region
  go_wp2_with (fail)
  go_quiet (fail)
  go_wp2_with (fail)
  exact bodyPost_ret (v := .tuple #[.slice none 0 0, .int .u16 0]) (by simp [results, Tryd.results36, go_sem]) rfl ⟨rfl, HB.out.hold (Hold.below (Below.drewN (Below.refl w.heap.size w).drew nq)), Fr.of_below HBW.out (Below.drewN (Below.refl w.heap.size w).drew nq)⟩
 ·obtain ⟨G, hG⟩ : ∃ G, G = (a s'.cur).g := ⟨_, rfl⟩
  have hl1 := (hB.map.look s'.cur hc).1 G (by simp [hx, hG])
  have hl2 := ((hB.map.kept (w' := w.drew) rfl).look s'.cur hc).1 G (by simp [hx, hG])
  have hm := hB.msg _ x hx
  have g1 : w.cell? ⟨G, 1, none⟩ = some (.int .u32 (x.cov : Int)) := by rw [hG]; exact blk_cell hm.fb.h 1
  have g3 : w.cell? ⟨G, 3, none⟩ = some (.int .u32 (x.l : Int)) := by rw [hG]; exact blk_cell hm.fb.h 3
  have n1 : (x.cov : Int) < (x.l : Int) := by omega
  have HB := Aside0.mk hB
  have HBW := Aside0.mk hBw
  clear hB hx hBw hp hm hG
  go_enter Tryd.func36, Tryd.ntmps36
  go_wp2_with (fail)
  go_region
  go_wp2_with (fail)
  go_quiet (fail)
  go_wp2_with (fail)
  exact bodyPost_ret (v := .tuple #[.slice none 0 0, .int .u16 0]) (by simp [results, Tryd.results36, go_sem]) rfl ⟨rfl, HB.out.hold (Hold.below (Below.drewN (Below.refl w.heap.size w).drew nq)), Fr.of_below HBW.out (Below.drewN (Below.refl w.heap.size w).drew nq)⟩

/-- What pop tells of a message. -/
def PopEnd (B g rm : Nat) (s' : St) (a : Nat → At) (w : World) (body : List Nat) (ep : Nat) (e : Ending) (w' : World) : Prop :=
 (∃ cb cp, e = .returned (.tuple #[.slice (some ⟨cb, 0, none⟩) body.length cp, .int .u16 (ep : Int)]) ∧ body.length ≤ cp ∧ Bytes w' cb 0 body) ∧ BufAt w' B g rm s' a ∧ Fr B w w'

set_option maxHeartbeats 8000000 in
set_option maxRecDepth 100000 in
theorem pop_some (B g rm : Nat) (s s' : St) (a : Nat → At) (body : List Nat) (ep : Nat) (w : World) (hB : BufAt w B g rm s a) (hBw : B ≤ w.heap.size) (hp : s.pop = some (some (body, ep), s')) :
 Calls Tryd.prog 36 #[.pointer (some ⟨g, 0, none⟩)] w (PopEnd B g rm s' a w body ep) := by
 obtain ⟨x, b0, hx, hcov, hokr, hok, hhd, hcur, hasm, hbody, hep, hs'⟩ : ∃ x b0, s.m s.cur = some x ∧ ¬ x.cov < x.l ∧ okR x.l x.rs ∧ s.ok ∧ hdOk x.hd ∧ s.cur < 65535 ∧ asm x.rs 0 = some b0 ∧ body = hdr12 x.hd.1 x.hd.2.1 x.hd.2.2.1 0 x.hd.2.1 ++ b0 ∧ ep = x.ep ∧ s' = { s with cur := s.cur + 1, sz := s.sz - sumL x.rs, cnt := s.cnt - x.rs.length, m := fun k => if k = s.cur then none else s.m k } := by
  unfold St.pop at hp
  cases hx : s.m s.cur with
  | none => rw [hx] at hp; simp at hp
  | some x =>
    rw [hx] at hp
    simp only at hp
    split at hp
    case isTrue h => simp at hp
    case isFalse hc =>
     split at hp
     case isFalse => cases hp
     rename_i hcond
     cases ha : asm x.rs 0 with
     | none => rw [ha] at hp; cases hp
     | some b =>
       rw [ha] at hp
       simp at hp
       exact ⟨x, b, rfl, hc, hcond.1, hcond.2.1, hcond.2.2.1, hcond.2.2.2, ha, hp.1.1.symm, hp.1.2.symm, hp.2.symm⟩
 obtain ⟨hd1, hd2, hd3⟩ := hhd
 have y0 : w.cell? ⟨g, 0, none⟩ = some (.map (some rm)) := blk_cell hB.h 0
 have y1 : w.cell? ⟨g, 1, none⟩ = some (.int .u16 (s.cur : Int)) := blk_cell hB.h 1
 obtain ⟨G, hG⟩ : ∃ G, G = (a s.cur).g := ⟨_, rfl⟩
 have hl1 := (hB.map.look s.cur (by omega)).1 G (by simp [hx, hG])
 have hl2 := ((hB.map.kept (w' := w.drew) rfl).look s.cur (by omega)).1 G (by simp [hx, hG])
 have hm := hB.msg _ x hx
 have g1 : w.cell? ⟨G, 1, none⟩ = some (.int .u32 (x.cov : Int)) := by rw [hG]; exact blk_cell hm.fb.h 1
 have g3 : w.cell? ⟨G, 3, none⟩ = some (.int .u32 (x.l : Int)) := by rw [hG]; exact blk_cell hm.fb.h 3
 have n1 : x.l ≤ x.cov := by omega
 obtain ⟨l, hl⟩ : ∃ l, l = x.l := ⟨_, rfl⟩
 have HB := Aside0.mk hB
 have HBW := Aside0.mk hBw
 have HX := Aside0.mk hx
 have HG := Aside0.mk hG
 have HCUR := Aside0.mk hcur
 have HASM := Aside0.mk hasm
 have HBODY := Aside0.mk hbody
 have HEP := Aside0.mk hep
 have HS' := Aside0.mk hs'
 have HOKR := Aside0.mk hokr
 have HOK := Aside0.mk hok
 clear hB hx hBw hp hm hG hcov hokr hok hcur hasm hbody hep hs' hl
 go_enter Tryd.func36, Tryd.ntmps36
 go_wp2_with (fail)
 go_region
 go_wp2_with (fail)
 go_quiet (fail)
 go_upto_region 4 with (fail)
 obtain ⟨W3, hW3⟩ : ∃ W, W = w.drew.drewN nq := ⟨_, rfl⟩
 rw [← hW3]
 have hb3 : Below w.heap.size w W3 := by rw [hW3]; exact Below.drewN (Below.refl w.heap.size w).drew nq
 have HB3 := Aside0.mk hb3
 have hBu : BufAt W3 B g rm s a := HB.out.hold (Hold.below hb3)
 have hm := hBu.msg _ x HX.out
 have hgb := hm.fb.h
 rw [← HG.out] at hgb
 clear y0 y1 hl1 hl2 g1 g3 n1 hW3 hb3
 have t4 : W3.cell? ⟨G, 4, none⟩ = some (.int .u8 (x.hd.1 : Int)) := blk_cell hgb 4
 have t5 : W3.cell? ⟨G, 5, none⟩ = some (.int .u32 (x.hd.2.1 : Int)) := blk_cell hgb 5
 have t6 : W3.cell? ⟨G, 6, none⟩ = some (.int .u16 (x.hd.2.2.1 : Int)) := blk_cell hgb 6
 have t7 : W3.cell? ⟨G, 7, none⟩ = some (.int .u32 (x.hd.2.2.2.1 : Int)) := blk_cell hgb 7
 have t8 : W3.cell? ⟨G, 8, none⟩ = some (.int .u32 (x.hd.2.2.2.2 : Int)) := blk_cell hgb 8
 have HGB := Aside0.mk hgb
 have HBU := Aside0.mk hBu
 clear hm hgb hBu
 go_upto_region 7 with (fail)
 obtain ⟨W4, hW4⟩ : ∃ W, W = W3.alloc (.cells #[.int .u8 (x.hd.1 : Int), .int .u32 (x.hd.2.1 : Int), .int .u16 (x.hd.2.2.1 : Int), .int .u32 0, .int .u32 (x.hd.2.1 : Int)] 97) := ⟨_, rfl⟩
 obtain ⟨Y, hY⟩ : ∃ Y, Y = W3.heap.size := ⟨_, rfl⟩
 rw [← hW4, ← hY]
 have hk4 : W4.heap[Y]? = some (.cells (shead x.hd.1 x.hd.2.1 x.hd.2.2.1 0 x.hd.2.1) 97 (0, 0)) := by rw [hW4, hY]; exact heap_alloc_new _ _
 have HM := Aside0.mk (marshal_calls Y x.hd.1 x.hd.2.1 x.hd.2.2.1 0 x.hd.2.1 W4 hk4 hd1 hd2 hd3 (by omega) hd2)
 have hb34 : Below W3.heap.size W3 W4 := by rw [hW4]; exact (Below.refl _ _).alloc (Nat.le_refl _) _
 have HB4 : Aside0 (Below w.heap.size w W4) := ⟨below_then HB3.out HB3.out.size hb34⟩
 clear t4 t5 t6 t7 t8 hW4 hY hk4 hb34
 go_wp2_with (fail)
 refine (HM.out).mono ?_
 rintro e w5 ⟨rfl, q1, q2⟩
 have hb5 : Below w.heap.size w w5 := below_then HB4.out HB4.out.size q2
 have hL : x.l < 16777216 := HOKR.out.2.2.2
 obtain ⟨c6, w6, cb, cp, w7, hmk, hap, hown, hb7, hcb, hcp⟩ := pop_head hb5 (Nat.le_refl _) q1 (by rfl) hL
 have hG0 : w.heap[G]? = some (.cells (fcells (.slice (some ⟨(a s.cur).b, 0, none⟩) (a s.cur).rv.length (a s.cur).c) x.cov x.t x.l x.hd x.ep x.st) 102 (0, 0)) := by rw [HG.out]; exact (HB.out.msg _ x HX.out).fb.h
 have g3 : w5.cell? ⟨G, 3, none⟩ = some (.int .u32 (x.l : Int)) := blk_cell ((hb5.block G (blk_lt hG0)).trans hG0) 3
 have g0 : w7.cell? ⟨G, 0, none⟩ = some (.slice (some ⟨(a s.cur).b, 0, none⟩) (a s.cur).rv.length (a s.cur).c) := blk_cell ((hb7.block G (blk_lt hG0)).trans hG0) 0
 have HAP := Aside0.mk hap
 have HOWN := Aside0.mk hown
 have HB7 := Aside0.mk hb7
 have HCB : Aside0 (w.heap.size ≤ cb ∧ 12 ≤ cp) := ⟨⟨hcb, hcp⟩⟩
 have HG0 := Aside0.mk hG0
 obtain ⟨n, hn⟩ : ∃ n, n = (a s.cur).rv.length := ⟨_, rfl⟩
 obtain ⟨b, hb⟩ : ∃ b, b = (a s.cur).b := ⟨_, rfl⟩
 obtain ⟨c, hc⟩ : ∃ c, c = (a s.cur).c := ⟨_, rfl⟩
 rw [← hn, ← hb, ← hc] at g0
 have HN := Aside0.mk hn
 have HBB := Aside0.mk hb
 have HC := Aside0.mk hc
 clear q1 q2 hb5 hap hown hb7 hcb hcp hG0 hn hb hc
 go_wp2_with (at_builtin; go_loud (refine at_app _ rfl _ _ 59 59 rfl _ _ rfl rfl HAP.out ?_))
 have HI : Aside0 (PopInv w w7 B g rm s x body 0 0 12 cp cb (hdr12 x.hd.1 x.hd.2.1 x.hd.2.2.1 0 x.hd.2.1) b0) := ⟨⟨grown_below HB7.out _, by
  have := (HB7.out.block g (blk_lt HB.out.h)).trans HB.out.h
  rw [this]
  show some (Obj.cells (bcells rm s.cur s.sz s.cnt) 87 (0, 0)) = some (Obj.cells (bcells rm s.cur (s.sz - ((0 : Nat) : Int)) s.cnt) 87 (0, 0))
  rw [show s.sz - ((0 : Nat) : Int) = s.sz by omega], HOWN.out, HCB.out.1, rfl, HASM.out, HBODY.out.symm, Nat.zero_le _⟩⟩
 clear g0 g3 hmk HOWN
 go_loopg [2, 9, 66] n (fun kq v2 v9 v66 wr => ∃ (k cu m cp cb : Nat) (acc tl : List Nat), v2 = .slice (some ⟨cb, 0, none⟩) m cp ∧ v9 = .int .u32 (cu : Int) ∧ v66 = .int .i64 (k : Int) ∧ Aside0 (kq = n - k) ∧ Aside0 (PopInv w wr B g rm s x body k cu m cp cb acc tl))
 case atStart => exact ⟨0, 0, 12, cp, cb, _, b0, rfl, rfl, rfl, ⟨rfl⟩, HI⟩
 case round =>
  obtain ⟨k, cu, m, cp, cb, acc, tl, rfl, rfl, rfl, HK, HI⟩ := hrel
  by_cases hk : k < n
  ·have hkn : (k : Int) < (n : Int) := by omega
   have hBm := HB.out.msg _ x HX.out
   have hlk := hBm.rs
   have hlen := hlk.eqc.length
   have hkl : k < (a s.cur).rv.length := by rw [← HN.out]; exact hk
   obtain ⟨y, hy⟩ : ∃ y, (a s.cur).rv[k]? = some y := ⟨_, List.getElem?_eq_getElem hkl⟩
   obtain ⟨r, hr, hlike⟩ := likes_at hlk hy
   obtain ⟨ho, hl', hdat⟩ := hlike
   have hrx := HOKR.out.2.2.1 r (List.mem_of_getElem? hr)
   obtain ⟨q1, q2, _⟩ := asm_cons HI.out.run hr
   rw [← ho] at q1 q2
   rw [← hl'] at q2
   have hyl : y.off + y.len < 16777216 := by omega
   have hG0 := HI.out.grown
   have hb0 := hBm.fb.r.h
   have hbw : wr.heap[b]? = some (.cells (rcells (a s.cur).rv ++ (a s.cur).sp).toArray 108 (0, 0)) := by
    rw [HBB.out]
    exact (hG0.block _ (blk_lt hb0) (fun e => by injection e with e; exact blk_ne hb0 HB.out.h (by decide) e)).trans hb0
   have hRS : RS wr b c (a s.cur).rv (a s.cur).sp := ⟨hbw, by rw [HC.out]; exact hBm.fb.r.l⟩
   have z0 := (hRS.off k y hy).1
   have z1 : wr.cell? ⟨b, k * 2 + 1, none⟩ = some (.slice y.p.1 y.len y.p.2) := (hRS.off k y hy).2
   obtain ⟨P, hP⟩ : ∃ P, P = wr.heap.size := ⟨_, rfl⟩
   obtain ⟨W1, hW1⟩ : ∃ W, W = wr.alloc (.cells #[.int .u32 (y.off : Int), .slice y.p.1 y.len y.p.2] 108) := ⟨_, rfl⟩
   have hb1 : Below wr.heap.size wr W1 := by rw [hW1]; exact (Below.refl _ _).alloc (Nat.le_refl _) _
   have hkP : W1.heap[P]? = some (.cells #[.int .u32 (y.off : Int), .slice y.p.1 y.len y.p.2] 108 (0, 0)) := by rw [hW1, hP]; exact heap_alloc_new _ _
   have hown1 := own_kept HI.out.own (hb1.block cb (own_lt HI.out.own))
   have hdat1 : Dat W1 B y r.p := hdat.hold fun A o bs hby => by
    refine hby.kept ?_
    obtain ⟨arr, fz, h1, _⟩ := hby
    exact (hb1.block A (Nat.lt_of_lt_of_le (blk_lt h1) hG0.size)).trans (hG0.block A (blk_lt h1) (fun e => by injection e with e; exact blk_ne' h1 HB.out.h (by decide) e))
   have hmm : m + y.len < 1099511627776 := by
    have h1 := HI.out.n
    have h2 := HI.out.tot
    have h3 : acc.length ≤ body.length := by rw [← h2, List.length_append]; omega
    have h4 : body.length = 12 + b0.length := by rw [HBODY.out, List.length_append]; rfl
    have h5 := asm_len x.rs 0 b0 HASM.out (fun z hz => by
     obtain ⟨i, hi, rfl⟩ := List.getElem_of_mem hz
     obtain ⟨v, hv⟩ : ∃ v, (a s.cur).rv[i]? = some v := ⟨_, List.getElem?_eq_getElem (by omega)⟩
     obtain ⟨r', hr', hk'⟩ := likes_at hlk hv
     rw [List.getElem?_eq_getElem hi] at hr'
     injection hr' with hr'
     rw [hr', hk'.2.2.1, hk'.2.1])
    have h6 := sumL_le x.rs x.l HOKR.out.2.2.1
    have h7 : x.rs.length * x.l ≤ 900 * 16777216 := Nat.mul_le_mul HOKR.out.1 (by omega)
    omega
   obtain ⟨sl, hsl, cb', cp', w2, hap, hown2, hgr2, hcb2, hcp2⟩ := app_dat hown1 hdat1 (cu - y.off) (by omega) hmm (Nat.le_trans hG0.size hb1.size)
   rw [show ((cu - y.off : Nat) : Int) = (cu : Int) - (y.off : Int) by omega] at hsl
   have hkP2 : w2.heap[P]? = some (.cells #[.int .u32 (y.off : Int), .slice y.p.1 y.len y.p.2] 108 (0, 0)) := (hgr2.block P (blk_lt hkP) (fun e => by injection e with e; have := own_lt HI.out.own; omega)).trans hkP
   rw [hP] at hkP2
   have p0 : w2.cell? ⟨wr.heap.size, 0, none⟩ = some (.int .u32 (y.off : Int)) := blk_cell hkP2 0
   have p1 : w2.cell? ⟨wr.heap.size, 1, none⟩ = some (.slice y.p.1 y.len y.p.2) := blk_cell hkP2 1
   have hg2 : w2.heap[g]? = some (.cells (bcells rm s.cur (s.sz - (sumL (x.rs.take k) : Int)) s.cnt) 87 (0, 0)) := by
    have a1 := (hb1.block g (blk_lt HI.out.hg)).trans HI.out.hg
    exact (hgr2.block g (blk_lt a1) (fun e => by injection e with e; have := HI.out.cb; have := blk_lt HB.out.h; omega)).trans a1
   have EA : Aside0 (∀ W, Calls Tryd.prog 47 #[.agg #[.int .u32 (y.off : Int), .slice y.p.1 y.len y.p.2]] W fun e w' => e = .returned (.int .u32 ((y.off + y.len : Nat) : Int)) ∧ Below W.heap.size W w') := ⟨fun W => end_calls y.off y.len y.p.1 y.p.2 W (by omega)⟩
   have HAP2 := Aside0.mk hap
   have HNX : Aside0 (∀ w3, Below w2.heap.size w2 w3 → ∃ tl', PopInv w (w3.drew.setCell ⟨g, 2, none⟩ (.int .i64 (s.sz - (sumL (x.rs.take k) : Int) - (y.len : Int)))) B g rm s x body (k + 1) (y.off + y.len) (m + (y.len - (cu - y.off))) cp' cb' (acc ++ r.p.drop (cu - y.off)) tl') := ⟨fun w3 h3 => HI.out.next hr ho hl' hb1 hown2 hgr2 hcb2 h3 rfl (by rw [hdat.1, hl']) (blk_lt HB.out.h)⟩
   have HSUM : Aside0 (sumL (x.rs.take k) ≤ 900 * 16777216) := ⟨by
    have h6 := sumL_le (x.rs.take k) x.l (fun z hz => HOKR.out.2.2.1 z (List.mem_of_mem_take hz))
    have h7 : (x.rs.take k).length * x.l ≤ 900 * 16777216 := Nat.mul_le_mul (by rw [List.length_take]; have := HOKR.out.1; omega) (by omega)
    omega⟩
   obtain ⟨zk, hzk⟩ : ∃ z, z = s.sz - (sumL (x.rs.take k) : Int) := ⟨_, rfl⟩
   rw [← hzk] at hg2 HNX
   have hz1 : -34359738368 < zk ∧ zk < 2000000 := by have := HOK.out.2.2.1; have := HOK.out.2.2.2.1; have := HSUM.out; omega
   have hn900 : n ≤ 900 := by rw [HN.out, hlen]; exact HOKR.out.1
   have HW1 := Aside0.mk hW1
   have HP := Aside0.mk hP
   have HKP2 := Aside0.mk hkP2
   have HG2 := Aside0.mk hg2
   have HN9 := Aside0.mk hn900
   have HYL := Aside0.mk hyl
   obtain ⟨hz1, hz2⟩ := hz1
   clear hBm hlk hlen hkl hy hr ho hl' hdat hrx hG0 hb0 hbw hRS hP hW1 hb1 hkP hown1 hdat1 hmm hap hown2 hgr2 hcb2 hcp2 hkP2 hg2 hzk hn900
   go_wp2_with (first | (at_builtin; go_loud (rw [← HW1.out]; refine at_app _ rfl _ _ 59 59 rfl _ _ rfl rfl HAP2.out ?_)) | (go_at_call 47; go_loud ((with_reducible refine (EA.out _).mono ?_); rintro e w3 ⟨rfl, h3⟩; have HB33 := Aside0.mk h3; have hkp3 := (h3.block _ (blk_lt HKP2.out)).trans HKP2.out; have hg3 := (h3.block g (blk_lt HG2.out)).trans HG2.out; have p2 : w3.cell? ⟨wr.heap.size, 1, none⟩ = some (.slice y.p.1 y.len y.p.2) := blk_cell hkp3 1; have y2 : w3.cell? ⟨g, 2, none⟩ = some (.int .i64 zk) := blk_cell hg3 2; have f2 := blk_frozen hg3 2; have nw : IntKind.i64.wrap (zk - (y.len : Int)) = zk - (y.len : Int) := IntWalk.i64_in _ (by have := HYL.out; omega); clear h3 hkp3 hg3)))
   go_region
   go_wp2_with (fail)
   clear nw
   go_roundg (n - (k + 1))
   case measure => have := HK.out; omega
   case rel =>
    obtain ⟨tl', hPI⟩ := HNX.out w3 HB33.out
    have hk9 := HN9.out
    refine ⟨k + 1, y.off + y.len, _, cp', cb', _, tl', rfl, ?_, ?_, ⟨rfl⟩, ⟨hPI⟩⟩
    ·first
      | rfl
      | (congr 1)
      | (congr 1; omega)
    ·first
      | rfl
      | (rw [wnext k (by omega)])
      | (congr 1; exact wnext k (by omega))
      | (congr 1)
  ·have hkn : ¬ (k : Int) < (n : Int) := by omega
   have hlen := (HB.out.msg _ x HX.out).rs.eqc.length
   have hkx : x.rs.length ≤ k := by rw [← hlen, ← HN.out]; omega
   have htl : tl = [] := by
    have := HI.out.run
    rw [List.drop_of_length_le hkx] at this
    simp only [asm, Option.some.injEq] at this
    exact this.symm
   have hacc : acc = body := by
    have := HI.out.tot
    rw [htl, List.append_nil] at this
    exact this
   have hke : k = x.rs.length := Nat.le_antisymm HI.out.le hkx
   have hG0 := HI.out.grown
   have y3 : wr.cell? ⟨g, 3, none⟩ = some (.int .i64 s.cnt) := blk_cell HI.out.hg 3
   have f3 := blk_frozen HI.out.hg 3
   have hGr : wr.heap[G]? = some (.cells (fcells (.slice (some ⟨b, 0, none⟩) n c) x.cov x.t x.l x.hd x.ep x.st) 102 (0, 0)) := by
    rw [HN.out, HBB.out, HC.out]
    exact (hG0.block G (blk_lt HG0.out) (fun e => by injection e with e; exact blk_ne HG0.out HB.out.h (by decide) e)).trans HG0.out
   have g0 : wr.cell? ⟨G, 0, none⟩ = some (.slice (some ⟨b, 0, none⟩) n c) := blk_cell hGr 0
   have hn9 : n ≤ 900 := by rw [HN.out, hlen]; exact HOKR.out.1
   obtain ⟨k1, k2, k3, k4, k5, k6⟩ := HOK.out
   have nw : IntKind.i64.wrap (s.cnt - (n : Int)) = s.cnt - (n : Int) := IntWalk.i64_in _ (by omega)
   have HGR := Aside0.mk hGr
   have HACC := Aside0.mk hacc
   have HKE := Aside0.mk hke
   have HN9 := Aside0.mk hn9
   have HLEN := Aside0.mk hlen
   clear hlen hkx htl hacc hke hG0 hGr hn9
   go_wp2_with (fail)
   go_region
   go_upto_region 19 with (fail)
   obtain ⟨W8, hW8⟩ : ∃ W, W = (wr.setCell ⟨g, 3, none⟩ (.int .i64 (s.cnt - (n : Int)))).drew := ⟨_, rfl⟩
   rw [← hW8]
   have hWh : W8.heap = (wr.setCell ⟨g, 3, none⟩ (.int .i64 (s.cnt - (n : Int)))).heap := by rw [hW8]; rfl
   have hg8 : W8.heap[g]? = some (.cells (bcells rm s.cur (s.sz - (sumL x.rs : Int)) (s.cnt - (x.rs.length : Int))) 87 (0, 0)) := by
    rw [hWh, blk_set (w := wr) HI.out.hg 3 _, HKE.out, List.take_length, HN.out, HLEN.out]
    rfl
   have ho8 : ∀ X, X < w.heap.size → X ≠ g → W8.heap[X]? = w.heap[X]? := fun X hX hne => by
    rw [hWh, Below.heap_setCell wr _ _ _ hne]
    exact HI.out.grown.block X hX (fun e => by injection e with e; exact hne e)
   have hB8 := HB.out.bufset' s.cur (s.sz - (sumL x.rs : Int)) (s.cnt - (x.rs.length : Int)) s.np hg8 rfl ho8
   have hB8d : BufAt W8.drew B g rm ⟨s.cur, s.sz - (sumL x.rs : Int), s.cnt - (x.rs.length : Int), s.np, s.m⟩ a := hB8.hold ⟨fun _ _ _ _ _ _ => rfl, fun _ _ _ _ => rfl⟩
   obtain ⟨w9, hdel, hcm9, hgr9⟩ := hB8d.map.del s.cur (by have := HCUR.out; omega) 0
   have hB9 := hB8d.delmsg hcm9 hgr9
   obtain ⟨es, cl, hmm⟩ := hB8d.map.obj
   have hc9 : ∀ (X : Nat) (arr : Array Value) (T : TypeId) (fz : Nat × Nat), W8.heap[X]? = some (Obj.cells arr T fz) → w9.heap[X]? = some (Obj.cells arr T fz) := fun X arr T fz hX => (hgr9.block X (blk_lt (w := W8.drew) hX) (fun e => by injection e with e; rw [e] at hX; have hmm' : W8.heap[rm]? = _ := hmm; rw [hmm'] at hX; cases hX)).trans hX
   have hGw8 : W8.heap[G]? = some (.cells (fcells (.slice (some ⟨b, 0, none⟩) n c) x.cov x.t x.l x.hd x.ep x.st) 102 (0, 0)) := by rw [hWh, Below.heap_setCell wr _ _ _ (blk_ne HGR.out HI.out.hg (by decide))]; exact HGR.out
   have hGw9 := hc9 _ _ _ _ hGw8
   have hcg : cb ≠ g := fun e => by have := HI.out.cb; have := blk_lt HB.out.h; omega
   have hby : Bytes w9 cb 0 body := by
    obtain ⟨⟨arr, fz, h1, h2⟩, _⟩ := own_bytes HI.out.own
    rw [HACC.out] at h2
    have h8 : W8.heap[cb]? = some (.cells arr 5 fz) := by rw [hWh, Below.heap_setCell wr _ _ _ hcg]; exact h1
    exact ⟨arr, fz, hc9 _ _ _ _ h8, h2⟩
   have hbel : Fr B w w9 := by
    have hgg := HI.out.grown
    have frw : Fr B w wr := ⟨⟨hgg.os, hgg.tape, hgg.output, hgg.size, fun X hX => hgg.block X (Nat.lt_of_lt_of_le hX HBW.out) (fun e => by injection e with e; have := HB.out.g; omega)⟩, fun k cs T fz hk a b c => hgg.block k (blk_lt hk) (fun e => by injection e with e; exact (blk_ne' hk HB.out.h a) e)⟩
    refine Fr.map (W := W8.drew) ?_ hgr9 hmm HB.out.rm
    rw [hW8]
    exact ((frw.set HI.out.hg (.inl rfl) HB.out.g 3 _).drew).drew
   have y0 : W8.cell? ⟨g, 0, none⟩ = some (.map (some rm)) := blk_cell hg8 0
   have y1 : W8.cell? ⟨g, 1, none⟩ = some (.int .u16 (s.cur : Int)) := blk_cell hg8 1
   have y9 : w9.cell? ⟨g, 1, none⟩ = some (.int .u16 (s.cur : Int)) := blk_cell hB9.h 1
   have f9 := blk_frozen hB9.h 1
   have e9 : w9.cell? ⟨G, 9, none⟩ = some (.int .u16 (x.ep : Int)) := blk_cell hGw9 9
   have nw2 : IntKind.u16.wrap ((s.cur : Int) + 1) = (s.cur : Int) + 1 := by rw [IntKind.wrap_u16]; have := HCUR.out; omega
   have HDEL := Aside0.mk hdel
   have HB9 := Aside0.mk hB9
   have HBY := Aside0.mk hby
   have HBEL := Aside0.mk hbel
   have HLM : Aside0 (m = body.length ∧ m ≤ cp) := ⟨⟨by rw [← HACC.out, HI.out.n], (own_bytes HI.out.own).2⟩⟩
   clear nw y3 f3 g0 hWh hW8 hg8 ho8 hB8 hB8d hdel hcm9 hgr9 hB9 hmm hc9 hGw8 hGw9 hcg hby hbel
   go_still_tail 8, (by kernel_rfl)
   change wpList _ _ _ _ _ W8.drew
   go_wp2_with ((with_reducible refine gate_builtin (b := .delete) (xs := #[.tmp 107, .tmp 111]) rfl ?_); go_loud (refine at_del _ rfl _ _ 85 38 rfl _ _ rfl rfl HDEL.out ?_))
   have HEND : Aside0 (PopEnd B g rm s' a w body ep (.returned (.tuple #[.slice (some ⟨cb, 0, none⟩) m cp, .int .u16 (x.ep : Int)])) (w9.setCell ⟨g, 1, none⟩ (.int .u16 ((s.cur : Int) + 1))).drew) := ⟨by
    have hb9 := HB9.out
    have hgk : (w9.setCell ⟨g, 1, none⟩ (.int .u16 ((s.cur : Int) + 1))).heap[g]? = some (.cells (bcells rm (s.cur + 1) (s.sz - (sumL x.rs : Int)) (s.cnt - (x.rs.length : Int))) 87 (0, 0)) := by
     rw [blk_set hb9.h 1 _]
     rfl
    have hbs := hb9.bufset (s.cur + 1) (s.sz - (sumL x.rs : Int)) (s.cnt - (x.rs.length : Int)) s.np hgk rfl (fun X hX => Below.heap_setCell w9 _ _ _ hX)
    refine ⟨⟨cb, cp, by rw [← HLM.out.1, HEP.out], by rw [← HLM.out.1]; exact HLM.out.2, ?_⟩, ?_, (HBEL.out.set hb9.h (.inl rfl) HB.out.g 1 _).drew⟩
    ·have hcg : cb ≠ g := fun e => by have := HI.out.cb; have := blk_lt HB.out.h; omega
     obtain ⟨arr, fz, h1, h2⟩ := HBY.out
     exact ⟨arr, fz, (Below.heap_setCell w9 ⟨g, 1, none⟩ _ cb hcg).trans h1, h2⟩
    ·rw [HS'.out]
     exact hbs.hold ⟨fun _ _ _ _ _ _ => rfl, fun _ _ _ _ => rfl⟩⟩
   clear nw2 y0 y1
   go_region
   go_wp2_with (fail)
   exact bodyPost_ret (v := .tuple #[.slice (some ⟨cb, 0, none⟩) m cp, .int .u16 (x.ep : Int)]) (by simp [results, Tryd.results36, go_sem]) rfl HEND.out
end Go.Proofs.YtjflijebcpcbmaaDoor.G
