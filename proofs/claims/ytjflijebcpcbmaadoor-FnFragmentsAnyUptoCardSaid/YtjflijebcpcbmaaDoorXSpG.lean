/-
 What is proved: the reference's buffer takes a record in as the Lean function says; the reference's Fragments answers as the Lean function says. Conditions: records of few bytes.
-/
import Derived.Test.YtjflijebcpcbmaaDoorXSpF
namespace Go.Proofs.YtjflijebcpcbmaaDoor.G
open Go.RowKit Go.Proofs.YtjflijebcpcbmaaDoorW.PrintWords Go.Proofs.YtjflijebcpcbmaaDoorW.PrintLast Go.Proofs.YtjflijebcpcbmaaDoorW.PrintMore
set_option linter.unusedVariables false
set_option linter.unusedSimpArgs false

/-- Pieces are taken in: what is kept, and whether the last one came again. -/
def pushGo (nx : Nat) : List S69 → List S69 → Bool → List S69 × Bool
 | [], acc, ag => (acc, ag)
 | p :: l, acc, ag => pushGo nx l (if p.f2 < (nx : Int) then acc else acc ++ [p]) (decide (p.f2 < (nx : Int)) && decide (p.f3 = 0))
instance (p : S69) : Decidable (Okp p) := by unfold Okp; infer_instance
def sbPush (l : List S69) (nx : Nat) (rec : ByteArray) : Option (S40 × List S69) :=
 if 0 < rec.size then (if bt rec 0 = 22 then (spec_pieces.f rec).bind fun r => (if (∀ p ∈ r.1, Okp p) ∧ l.length + r.1.length ≤ 100000 then some (⟨true, (pushGo nx r.1 l false).2, false, false, ⟨#[]⟩, 0, 0⟩, (pushGo nx r.1 l false).1) else none) else some (z40, l)) else none
theorem R69_own {w w' : World} {base : Nat} {ok : Nat → Prop} {v : Value} {xs : List S69} (h : Kd.R k69 69 w base ok v xs) (hk : ∀ k, v.ownBlock = some k → w'.heap[k]? = w.heap[k]?) : Kd.R k69 69 w' base ok v xs := by
 obtain ⟨h0, inner, ho, hr⟩ := h
 exact ⟨h0, inner, own_move ho hk, hr.imp_ (fun x cs hp => by rw [k69_openM hp]; exact k69_mkM _ _ _ _)⟩
/-- The world behind some pieces. -/
structure PushIn (w wr : World) (B g T R nx : Nat) (v vv vp : Value) (lp acc : List S69) (ag : Bool) : Prop where
 hg : wr.heap[g]? = some (.cells #[vv, .int .i64 (nx : Int)] 73 (0, 0))
 hr : Kd.R k69 69 wr B (fun k => some k ≠ vp.ownBlock) vv acc
 hl : Kd.R k69 69 wr w.heap.size (fun _ => True) vp lp
 ht : wr.heap[T]? = some (.cells #[.bool true, .bool ag, .bool false, .bool false, .string ⟨#[]⟩, .int .u16 0, .int .i64 0] 40 (0, 0))
 hz : wr.heap[R]? = some (.cells #[.bool false, .bool false, .bool false, .bool false, .string ⟨#[]⟩, .int .u16 0, .int .i64 0] 40 (0, 0))
 tr : T ≠ R
 lo : w.heap.size ≤ T ∧ w.heap.size ≤ R
 fr : FrS B g v w wr
 own : vv.ownBlock = v.ownBlock ∨ ∀ k, vv.ownBlock = some k → w.heap.size ≤ k

theorem set_size (W : World) (a : Addr) (v : Value) : (W.setCell a v).heap.size = W.heap.size := by simp [World.setCell]
theorem set_os (W : World) (a : Addr) (v : Value) : (W.setCell a v).os = W.os := rfl
theorem set_tape (W : World) (a : Addr) (v : Value) : (W.setCell a v).tape = W.tape := rfl
theorem set_output (W : World) (a : Addr) (v : Value) : (W.setCell a v).output = W.output := rfl
/-- append of one piece, as one operation of a region that draws. -/
theorem app69_step {ops : Array Oper} {o : Oper} {a : Act} {Q : Exit → Act → World → Prop} {K : Act → World → Prop} {E : Prop} {w0 W : World} (base : Nat) (hgd : o.guard = none) (s x : Operand) (ho : o.op = .call { callee := .builtin .append, args := #[s, x], argTypes := #[64, 64] })
 (v : Value) (xs : List S69) (p : S69) (ok : Nat → Prop) (hs : a.eval s = v) (hx : a.eval x = .slice (some ⟨W.heap.size, 0, none⟩) 1 1) (hfresh : ∀ k, W.heap.size ≤ k → ok k) (HO : Kd.R k69 69 W base ok v xs) (HB : Below base w0 W) (hbase : base ≤ W.heap.size) (hl : xs.length < 1000000)
 (h : ∀ v1 w1, Kd.R k69 69 w1 base ok v1 (xs ++ [p]) → Below base w0 w1 → W.grownBy w1 v.ownBlock → (v1.ownBlock = v.ownBlock ∨ ∃ b, v1.ownBlock = some b ∧ W.heap.size ≤ b) → K (a.put o.dst v1) w1) :
 if Region.wanted o (yielded ops a.tmps) = true then Oper.wp Tryd.prog o a (W.alloc (.cells #[.int .u8 p.f0, .int .i64 p.f1, .int .i64 p.f2, .int .i64 p.f3, .string p.f4, .int .u16 p.f5] 69)) K Q else E := by
 have hw : Region.wanted o (yielded ops a.tmps) = true := by simp [Region.wanted, hgd]
 rw [if_pos hw]
 have := Kd.R_append_step (P := Tryd.prog) (Q := Q) (Kc := K) k69 (w0 := w0) (W := W) base hw s x 64 69 (.agg #[(.int .u8 0), (.int .i64 0), (.int .i64 0), (.int .i64 0), (.string ⟨#[]⟩), (.int .u16 0)]) 56 ho Tryd.underlying64 info69 rfl (by decide) (by omega) v xs p [.int .u8 p.f0, .int .i64 p.f1, .int .i64 p.f2, .int .i64 p.f3, .string p.f4, .int .u16 p.f5] ok (fun _ => False) hs hx (k69_mkM _ _ _ p) (fun _ hk => hk.elim) hfresh HO HB hbase (by omega) h
 rwa [if_pos hw] at this
theorem own_ne {w : World} {base k : Nat} {ok : Nat → Prop} {v : Value} {xs : List S69} {cs : Array Value} {t : TypeId} {z : Nat × Nat} (h : Kd.R k69 69 w base ok v xs) (hk : w.heap[k]? = some (.cells cs t z)) (ht : t ≠ 69) : some k ≠ v.ownBlock :=
 R69_ne h hk (fun c e => by injection e with _ e2 _; exact ht e2)
theorem PushIn.again {w wr : World} {B g T R nx : Nat} {v vv vp : Value} {lp acc : List S69} {ag : Bool} (h : PushIn w wr B g T R nx v vv vp lp acc ag) (b : Bool) : PushIn w (wr.setCell ⟨T, 1, none⟩ (.bool b)) B g T R nx v vv vp lp acc b := by
 have ho : ∀ k, k ≠ T → (wr.setCell ⟨T, 1, none⟩ (.bool b)).heap[k]? = wr.heap[k]? := fun k hk => Below.heap_setCell _ _ _ _ hk
 refine ⟨(ho g (blk_ne' h.hg h.ht (by decide))).trans h.hg, R69_own h.hr (fun k hk => ho k (fun e => own_ne h.hr h.ht (by decide) (by rw [← e, hk]))), R69_own h.hl (fun k hk => ho k (fun e => own_ne h.hl h.ht (by decide) (by rw [← e, hk]))), ?_, (ho R (fun e => h.tr e.symm)).trans h.hz, h.tr, h.lo, ⟨h.fr.os, h.fr.tape, h.fr.output, by have := h.fr.size; simpa [World.setCell] using this, fun k h1 h2 h3 => (ho k (by have := h.lo; omega)).trans (h.fr.keep k h1 h2 h3)⟩, h.own⟩
 rw [blk_set h.ht 1 _]
 rfl
theorem PushIn.drew {w wr : World} {B g T R nx : Nat} {v vv vp : Value} {lp acc : List S69} {ag : Bool} (h : PushIn w wr B g T R nx v vv vp lp acc ag) : PushIn w wr.drew B g T R nx v vv vp lp acc ag :=
 ⟨h.hg, R69_own h.hr (fun _ _ => rfl), R69_own h.hl (fun _ _ => rfl), h.ht, h.hz, h.tr, h.lo, ⟨h.fr.os, h.fr.tape, h.fr.output, h.fr.size, h.fr.keep⟩, h.own⟩
/-- A piece is kept. -/
theorem PushIn.put {w wr w8 : World} {B g T R nx : Nat} {v vv vp v8 : Value} {lp acc acc' : List S69} {ag : Bool} (h : PushIn w wr B g T R nx v vv vp lp acc ag) (ho : Kd.R k69 69 w8 B (fun k => some k ≠ vp.ownBlock) v8 acc') (hb : wr.os = w8.os ∧ wr.tape = w8.tape ∧ wr.output = w8.output) (hg : wr.grownBy w8 vv.ownBlock) (hat : v8.ownBlock = vv.ownBlock ∨ ∃ b, v8.ownBlock = some b ∧ wr.heap.size ≤ b) :
 PushIn w (w8.setCell ⟨g, 0, none⟩ v8) B g T R nx v v8 vp lp acc' ag := by
 have hk8 : ∀ (k : Nat) (cs : Array Value) (t : TypeId) (z : Nat × Nat), wr.heap[k]? = some (.cells cs t z) → t ≠ 69 → w8.heap[k]? = some (.cells cs t z) := fun k cs t z hk ht => (hg.block k (blk_lt hk) (own_ne h.hr hk ht)).trans hk
 have hg8 := hk8 g _ _ _ h.hg (by decide)
 have ho' : ∀ k, k ≠ g → (w8.setCell ⟨g, 0, none⟩ v8).heap[k]? = w8.heap[k]? := fun k hk => Below.heap_setCell _ _ _ _ hk
 have hT := hk8 T _ _ _ h.ht (by decide)
 have hR := hk8 R _ _ _ h.hz (by decide)
 refine ⟨?_, R69_own ho (fun k hk => ho' k (fun e => own_ne ho hg8 (by decide) (by rw [← e, hk]))), ?_, (ho' T (blk_ne' hT hg8 (by decide))).trans hT, (ho' R (blk_ne' hR hg8 (by decide))).trans hR, h.tr, h.lo, ?_, ?_⟩
 ·rw [blk_set hg8 0 _]
  rfl
 ·refine R69_own h.hl (fun k hk => ?_)
  have h1 : k ≠ g := fun e => own_ne h.hl h.hg (by decide) (by rw [← e, hk])
  rw [ho' k h1]
  exact hg.block k (Kd.R_lt h.hl k hk) (fun e => h.hr.1 k e.symm hk.symm)
 ·refine ⟨hb.1.symm.trans h.fr.os, hb.2.1.symm.trans h.fr.tape, hb.2.2.symm.trans h.fr.output, by have := h.fr.size; have := hg.size; simp [World.setCell]; omega, fun k h1 h2 h3 => ?_⟩
  rw [ho' k h2]
  refine (hg.block k (Nat.lt_of_lt_of_le h1 h.fr.size) (fun e => ?_)).trans (h.fr.keep k h1 h2 h3)
  rcases h.own with h4 | h4
  ·exact h3 (e.trans h4)
  ·have := h4 k e.symm
   omega
 ·rcases hat with h4 | ⟨b, h4, h5⟩
  ·rcases h.own with h6 | h6
   ·exact .inl (h4.trans h6)
   ·exact .inr (fun k hk => h6 k (h4 ▸ hk))
  ·exact .inr (fun k hk => by rw [h4] at hk; injection hk with hk; have := h.fr.size; omega)

set_option maxHeartbeats 16000000 in
set_option maxRecDepth 100000 in
theorem sbpush_calls (B g : Nat) (v : Value) (l l' : List S69) (nx : Nat) (rec : ByteArray) (t : S40) (w : World) (hS : SB w B g v l nx) (hB : B ≤ g) (hBw : B ≤ w.heap.size) (hp : sbPush l nx rec = some (t, l')) :
 Calls Tryd.prog 32 #[.pointer (some ⟨g, 0, none⟩), .string rec] w fun e w' => e = .returned (agg40 t) ∧ (∃ v', SB w' B g v' l' nx ∧ (v'.ownBlock = v.ownBlock ∨ ∀ k, v'.ownBlock = some k → w.heap.size ≤ k)) ∧ FrS B g v w w' := by
 unfold sbPush at hp
 split at hp
 case isFalse => cases hp
 rename_i hr0
 have hr1 : (0 : Int) < (rec.size : Int) := by omega
 obtain ⟨W0, hW0⟩ : ∃ W, W = w.alloc (.cells #[.bool false, .bool false, .bool false, .bool false, .string ⟨#[]⟩, .int .u16 0, .int .i64 0] 40) := ⟨_, rfl⟩
 have hb0 : Below w.heap.size w W0 := by rw [hW0]; exact (Below.refl _ _).alloc (Nat.le_refl _) _
 have rt : W0.heap[w.heap.size]? = some (.cells #[.bool false, .bool false, .bool false, .bool false, .string ⟨#[]⟩, .int .u16 0, .int .i64 0] 40 (0, 0)) := by rw [hW0]; exact heap_alloc_new _ _
 have hx0 : ∀ h : 0 < rec.size, ((rec[0]'h).toNat : Int) = bt rec 0 := bt_at rec 0
 have HS := Aside0.mk hS
 have HB := Aside0.mk hB
 have HBW := Aside0.mk hBw
 have HB0 := Aside0.mk hb0
 have RT0 := Aside0.mk rt
 by_cases h22 : bt rec 0 = 22
 ·rw [if_pos h22] at hp
  have e22 : (bt rec 0 == 22) = true := beq_iff_eq.mpr h22
  have e22b : (bt rec 0 != 22) = false := bne_eq_false_iff_eq.mpr h22
  obtain ⟨r, hr, hp⟩ := Option.bind_eq_some_iff.1 hp
  obtain ⟨lp, okp⟩ := r
  split at hp
  case isFalse => cases hp
  rename_i hcond
  have HP := Aside0.mk hp
  have HCN := Aside0.mk hcond
  have HPC := Aside0.mk (spec_pieces.calls rec lp okp W0 hr)
  clear hp hS hB hBw hb0 rt hcond hr
  go_enter Tryd.func32, Tryd.ntmps32
  go_wp2_with (fail)
  rw [← hW0]
  refine (HPC.out).mono ?_
  rintro e w1 ⟨v1, rfl, ho1, hb1⟩
  obtain ⟨A1, c1, e1⟩ := Kd.R_slice ho1
  subst e1
  have HO1 := Aside0.mk ho1
  have HB1 := Aside0.mk hb1
  have RT1 : Aside0 (w1.heap[w.heap.size]? = _) := ⟨(hb1.block _ (blk_lt RT0.out)).trans RT0.out⟩
  clear ho1 hb1 HPC
  go_wp2_with (fail)
  obtain ⟨W2, hW2⟩ : ∃ W, W = w1.alloc (.cells #[.bool true, .bool false, .bool false, .bool false, .string ⟨#[]⟩, .int .u16 0, .int .i64 0] 40) := ⟨_, rfl⟩
  rw [← hW2]
  obtain ⟨T, hT⟩ : ∃ T, T = w1.heap.size := ⟨_, rfl⟩
  have hb2 : Below w1.heap.size w1 W2 := by rw [hW2]; exact (Below.refl _ _).alloc (Nat.le_refl _) _
  have t2 : W2.heap[T]? = some (.cells #[.bool true, .bool false, .bool false, .bool false, .string ⟨#[]⟩, .int .u16 0, .int .i64 0] 40 (0, 0)) := by rw [hW2, hT]; exact heap_alloc_new _ _
  have hl01 : w.heap.size < W0.heap.size := blk_lt RT0.out
  have hl12 := HB1.out.size
  have hl22 := hb2.size
  have hbw2 : Below w.heap.size w W2 := ⟨(hb2.os.trans HB1.out.os).trans HB0.out.os, (hb2.tape.trans HB1.out.tape).trans HB0.out.tape, (hb2.output.trans HB1.out.output).trans HB0.out.output, by omega, fun k hk => by rw [hb2.block k (by omega), HB1.out.block k (by omega), HB0.out.block k hk]⟩
  have HINV : Aside0 (PushIn w W2 B g T w.heap.size nx v v (.slice A1 lp.length c1) lp l false) := ⟨⟨(hbw2.block g (blk_lt HS.out.hg)).trans HS.out.hg,
   R69_own (Kd.R_mono (Kd.R_bound HS.out.hr) (fun k hk e => by have := Kd.R_base HO1.out k e.symm; have := hk.2.2.1; omega)) (fun k hk => hbw2.block k (Kd.R_lt HS.out.hr k hk)),
   Kd.R_lower (R69_own HO1.out (fun k hk => hb2.block k (Kd.R_lt HO1.out k hk))) (by omega), t2, (hb2.block _ (blk_lt RT1.out)).trans RT1.out, by omega, by omega, FrS.of_below hbw2, .inl rfl⟩⟩
  rw [← hT]
  obtain ⟨fl, fag, hfin, ht, hl'⟩ : ∃ fl fag, pushGo nx lp l false = (fl, fag) ∧ t = ⟨true, fag, false, false, ⟨#[]⟩, 0, 0⟩ ∧ l' = fl := by
   have hp := HP.out
   injection hp with hp
   injection hp with e1 e2
   exact ⟨_, _, rfl, e1.symm, e2.symm⟩
  have HFIN := Aside0.mk hfin
  have HT := Aside0.mk (And.intro ht hl')
  obtain ⟨m, hm⟩ : ∃ m, m = lp.length := ⟨_, rfl⟩
  have HM := Aside0.mk hm
  rw [← hm] at HINV ⊢
  clear hW2 hT hb2 t2 hl01 hl12 hl22 hbw2 hfin ht hl' hm HO1 HB1 RT1 RT0 HB0 hW0
  go_loopg [8] m (fun kq v8 wr => ∃ (i : Nat) (acc : List S69) (ag : Bool) (vv : Value), v8 = .int .i64 (i : Int) ∧ Aside0 (kq = m - i) ∧ Aside0 (i ≤ m) ∧ Aside0 (PushIn w wr B g T w.heap.size nx v vv (.slice A1 m c1) lp acc ag) ∧ Aside0 (pushGo nx (lp.drop i) acc ag = (fl, fag)) ∧ Aside0 (acc.length ≤ l.length + i ∧ ∀ p ∈ acc, Okp p))
  case atStart => exact ⟨0, l, false, v, rfl, ⟨rfl⟩, ⟨Nat.zero_le _⟩, HINV, HFIN, ⟨Nat.le_refl _, HS.out.ok⟩⟩
  case round =>
   obtain ⟨i, acc, ag, vv, rfl, HI, HIM, HV, HF, HA⟩ := hrel
   clear HINV HFIN
   by_cases hi : i < m
   ·have hi1 : (i : Int) < (m : Int) := by omega
    have hil : i < lp.length := by rw [← HM.out]; exact hi
    have hC := (Kd.R_reads' HV.out.hl).2.2
    obtain ⟨ad, hAe, a0, a1, a2, a3, a4, a5⟩ := at69 hC i hil
    subst hAe
    have g1 : wr.cell? ⟨g, 1, none⟩ = some (.int .i64 (nx : Int)) := by rw [blk_cell HV.out.hg]; rfl
    have hgo := HF.out
    rw [List.drop_eq_getElem_cons hil, pushGo] at hgo
    have hok := HCN.out.1 lp[i] (List.getElem_mem _)
    obtain ⟨x, hx⟩ : ∃ x, x = lp[i] := ⟨_, rfl⟩
    rw [← hx] at a0 a1 a2 a3 a4 a5 hgo hok
    have t1 : wr.cell? ⟨T, 1, none⟩ = some (.bool ag) := by rw [blk_cell HV.out.ht]; rfl
    have f1 := blk_frozen HV.out.ht 1
    have hwi : wrap64 ((i : Int) + 1) = ((i + 1 : Nat) : Int) := by unfold wrap64; have := HIM.out; have := HM.out; have := HCN.out.2; omega
    have HGO := Aside0.mk hgo
    have HOK := Aside0.mk hok
    have HXX := Aside0.mk hx
    clear hgo hok hC hx
    by_cases e1 : x.f2 < (nx : Int)
    ·by_cases e2 : x.f3 = 0
     ·have e2b : (x.f3 == 0) = true := beq_iff_eq.mpr e2
      go_upto_region 8 with (fail)
      go_region
      go_wp2_with (fail)
      go_roundg (m - (i + 1))
      case measure => have := HI.out; omega
      case rel =>
       refine ⟨i + 1, acc, true, vv, congrArg (Value.int .i64) (by first | exact hwi | omega), ⟨rfl⟩, ⟨hi⟩, ⟨by first | exact (HV.out.again true).drew | exact HV.out.drew.again true⟩, ⟨?_⟩, ⟨by have := HA.out.1; omega, HA.out.2⟩⟩
       have := HGO.out
       rw [if_pos e1, decide_eq_true e1, decide_eq_true e2] at this
       exact this
     ·have e2b : (x.f3 == 0) = false := beq_eq_false_iff_ne.mpr e2
      go_upto_region 8 with (fail)
      go_region
      go_wp2_with (fail)
      go_roundg (m - (i + 1))
      case measure => have := HI.out; omega
      case rel =>
       refine ⟨i + 1, acc, false, vv, congrArg (Value.int .i64) (by first | exact hwi | omega), ⟨rfl⟩, ⟨hi⟩, ⟨by first | exact (HV.out.again false).drew | exact HV.out.drew.again false⟩, ⟨?_⟩, ⟨by have := HA.out.1; omega, HA.out.2⟩⟩
       have := HGO.out
       rw [if_pos e1, decide_eq_true e1, decide_eq_false e2] at this
       exact this
    ·go_upto_region 8 with (fail)
     go_region
     go_upto_region 11 with (fail)
     obtain ⟨W3, hW3⟩ : ∃ W, W = (wr.setCell ⟨T, 1, none⟩ (.bool false)).drew := ⟨_, rfl⟩
     first | rw [← hW3] | (change Code.wp _ _ _ _ ((wr.setCell ⟨T, 1, none⟩ (.bool false)).drew); rw [← hW3])
     have HV3 : Aside0 (PushIn w W3 B g T w.heap.size nx v vv (.slice (some ad) m c1) lp acc false) := ⟨by rw [hW3]; exact (HV.out.again false).drew⟩
     clear a0 a1 a2 a3 a4 a5 g1 t1 f1
     obtain ⟨ad', hAe', a0, a1, a2, a3, a4, a5⟩ := at69 (Kd.R_reads' HV3.out.hl).2.2 i hil
     injection hAe' with hAe'
     subst hAe'
     have hx3 : x = lp[i] := HXX.out
     rw [← hx3] at a0 a1 a2 a3 a4 a5
     have g0 : W3.cell? ⟨g, 0, none⟩ = some vv := by rw [blk_cell HV3.out.hg]; rfl
     have g0a : (W3.alloc (.cells #[.int .u8 x.f0, .int .i64 x.f1, .int .i64 x.f2, .int .i64 x.f3, .string x.f4, .int .u16 x.f5] 69)).cell? ⟨g, 0, none⟩ = some vv := by
      rw [blk_cell ((((Below.refl W3.heap.size W3).alloc (Nat.le_refl _) _).block g (blk_lt HV3.out.hg)).trans HV3.out.hg)]
      rfl
     clear hW3 hx3
     have mixed : Tryd.prog.follows Departure.mixedOrders = true := by kernel_rfl
     have HV4 := Aside0.mk HV3.out.drew
     have HAL : Aside0 (acc.length < 1000000) := ⟨by have := HA.out.1; have := HCN.out.2; have := HIM.out; have := HM.out; omega⟩
     go_region_law_o (refine app69_step (w0 := W3.drew) B rfl (.tmp 52) (.tmp 57) rfl vv acc x (fun k => some k ≠ (Value.slice (some ad) m c1).ownBlock) (by simp [Act.eval, Act.put]) (by simp [Act.eval, Act.put]) (fun k hk e => by have := Kd.R_lt HV4.out.hl k e.symm; omega) HV4.out.hr (Below.refl _ _) (Nat.le_trans HBW.out HV4.out.fr.size) HAL.out ?_; intro v8 w8 ho hb hg hat; have RO := Aside0.mk ho; have RB := Aside0.mk hb; have RG := Aside0.mk hg; have RA := Aside0.mk hat; obtain ⟨A8, c8, e8⟩ := Kd.R_slice ho; rw [show (acc ++ [x]).length = acc.length + 1 from (by simp)] at e8; subst e8; have hgg := (hg.block g (blk_lt HV4.out.hg) (own_ne HV4.out.hr HV4.out.hg (by decide))).trans HV4.out.hg; have z0 : w8.cell? ⟨g, 0, none⟩ = some vv := (by rw [blk_cell hgg]; rfl); have zf := blk_frozen hgg 0; clear ho hb hg hat hgg)
     all_goals
      go_wp2_with (fail)
      have HV5 := Aside0.mk (PushIn.put HV4.out RO.out ⟨RB.out.os.symm, RB.out.tape.symm, RB.out.output.symm⟩ RG.out RA.out)
      go_roundg (m - (i + 1))
      case measure => have := HI.out; omega
      case rel =>
       refine ⟨i + 1, acc ++ [x], false, _, congrArg (Value.int .i64) (by first | exact hwi | omega), ⟨rfl⟩, ⟨hi⟩, HV5, ⟨?_⟩, ⟨by have := HA.out.1; rw [List.length_append]; simp only [List.length_cons, List.length_nil]; omega, fun y hy => ?_⟩⟩
       ·have := HGO.out
        have e1n : ¬ x.f2 < (nx : Int) := by omega
        rw [if_neg e1n, decide_eq_false e1n, Bool.false_and] at this
        exact this
       ·rcases List.mem_append.1 hy with hy | hy
        ·exact HA.out.2 y hy
        ·simp at hy
         subst hy
         exact HOK.out
   ·have hi1 : ¬ (i : Int) < (m : Int) := by omega
    have t0 : wr.cell? ⟨T, 0, none⟩ = some (.bool true) := by rw [blk_cell HV.out.ht]; rfl
    have t1 : wr.cell? ⟨T, 1, none⟩ = some (.bool ag) := by rw [blk_cell HV.out.ht]; rfl
    have t2 : wr.cell? ⟨T, 2, none⟩ = some (.bool false) := by rw [blk_cell HV.out.ht]; rfl
    have t3 : wr.cell? ⟨T, 3, none⟩ = some (.bool false) := by rw [blk_cell HV.out.ht]; rfl
    have t4 : wr.cell? ⟨T, 4, none⟩ = some (.string ⟨#[]⟩) := by rw [blk_cell HV.out.ht]; rfl
    have t5 : wr.cell? ⟨T, 5, none⟩ = some (.int .u16 0) := by rw [blk_cell HV.out.ht]; rfl
    have t6 : wr.cell? ⟨T, 6, none⟩ = some (.int .i64 0) := by rw [blk_cell HV.out.ht]; rfl
    have z0 : wr.cell? ⟨w.heap.size, 0, none⟩ = some (.bool false) := by rw [blk_cell HV.out.hz]; rfl
    have zf0 := blk_frozen HV.out.hz 0
    have z1 : wr.cell? ⟨w.heap.size, 1, none⟩ = some (.bool false) := by rw [blk_cell HV.out.hz]; rfl
    have zf1 := blk_frozen HV.out.hz 1
    have z2 : wr.cell? ⟨w.heap.size, 2, none⟩ = some (.bool false) := by rw [blk_cell HV.out.hz]; rfl
    have zf2 := blk_frozen HV.out.hz 2
    have z3 : wr.cell? ⟨w.heap.size, 3, none⟩ = some (.bool false) := by rw [blk_cell HV.out.hz]; rfl
    have zf3 := blk_frozen HV.out.hz 3
    have z4 : wr.cell? ⟨w.heap.size, 4, none⟩ = some (.string ⟨#[]⟩) := by rw [blk_cell HV.out.hz]; rfl
    have zf4 := blk_frozen HV.out.hz 4
    have z5 : wr.cell? ⟨w.heap.size, 5, none⟩ = some (.int .u16 0) := by rw [blk_cell HV.out.hz]; rfl
    have zf5 := blk_frozen HV.out.hz 5
    have z6 : wr.cell? ⟨w.heap.size, 6, none⟩ = some (.int .i64 0) := by rw [blk_cell HV.out.hz]; rfl
    have zf6 := blk_frozen HV.out.hz 6
    go_wp2_with (fail)
    obtain ⟨W9, hW9⟩ : ∃ W, W = (((((((wr.setCell ⟨w.heap.size, 0, none⟩ (.bool true)).setCell ⟨w.heap.size, 1, none⟩ (.bool ag)).setCell ⟨w.heap.size, 2, none⟩ (.bool false)).setCell ⟨w.heap.size, 3, none⟩ (.bool false)).setCell ⟨w.heap.size, 4, none⟩ (.string ⟨#[]⟩)).setCell ⟨w.heap.size, 5, none⟩ (.int .u16 0)).setCell ⟨w.heap.size, 6, none⟩ (.int .i64 0)) := ⟨_, rfl⟩
    rw [← hW9]
    have p9 : W9.heap[w.heap.size]? = some (.cells #[.bool true, .bool ag, .bool false, .bool false, .string ⟨#[]⟩, .int .u16 0, .int .i64 0] 40 (0, 0)) := by
     rw [hW9, blk_set (blk_set (blk_set (blk_set (blk_set (blk_set (blk_set HV.out.hz 0 _) 1 _) 2 _) 3 _) 4 _) 5 _) 6 _]
     rfl
    have ho9 : ∀ k, k ≠ w.heap.size → W9.heap[k]? = wr.heap[k]? := fun k hne => by
     rw [hW9, Below.heap_setCell _ _ _ _ hne, Below.heap_setCell _ _ _ _ hne, Below.heap_setCell _ _ _ _ hne, Below.heap_setCell _ _ _ _ hne, Below.heap_setCell _ _ _ _ hne, Below.heap_setCell _ _ _ _ hne, Below.heap_setCell _ _ _ _ hne]
    have hs9 : W9.heap.size = wr.heap.size ∧ W9.os = wr.os ∧ W9.tape = wr.tape ∧ W9.output = wr.output := by
     rw [hW9]
     exact ⟨by rw [set_size, set_size, set_size, set_size, set_size, set_size, set_size], by rw [set_os, set_os, set_os, set_os, set_os, set_os, set_os], by rw [set_tape, set_tape, set_tape, set_tape, set_tape, set_tape, set_tape], by rw [set_output, set_output, set_output, set_output, set_output, set_output, set_output]⟩
    have y0 : W9.cell? ⟨w.heap.size, 0, none⟩ = some (.bool true) := by rw [blk_cell p9]; rfl
    have y1 : W9.cell? ⟨w.heap.size, 1, none⟩ = some (.bool ag) := by rw [blk_cell p9]; rfl
    have y2 : W9.cell? ⟨w.heap.size, 2, none⟩ = some (.bool false) := by rw [blk_cell p9]; rfl
    have y3 : W9.cell? ⟨w.heap.size, 3, none⟩ = some (.bool false) := by rw [blk_cell p9]; rfl
    have y4 : W9.cell? ⟨w.heap.size, 4, none⟩ = some (.string ⟨#[]⟩) := by rw [blk_cell p9]; rfl
    have y5 : W9.cell? ⟨w.heap.size, 5, none⟩ = some (.int .u16 0) := by rw [blk_cell p9]; rfl
    have y6 : W9.cell? ⟨w.heap.size, 6, none⟩ = some (.int .i64 0) := by rw [blk_cell p9]; rfl
    clear hW9
    refine bodyPost_ret (v := agg40 ⟨true, ag, false, false, ⟨#[]⟩, 0, 0⟩) (by simp [results, Tryd.results32, go_sem, y0, y1, y2, y3, y4, y5, y6, agg40]) rfl ?_
    have hf := HF.out
    rw [List.drop_of_length_le (by have := HM.out; omega), pushGo] at hf
    injection hf with h1 h2
    obtain ⟨ht, hl'⟩ := HT.out
    subst ht
    subst hl'
    subst h1
    subst h2
    have hlen : acc.length ≤ 100000 := by have := HA.out.1; have := HCN.out.2; have := HM.out; have := HIM.out; omega
    refine ⟨rfl, ⟨vv, ⟨(ho9 g (blk_ne' HV.out.hg HV.out.hz (by decide))).trans HV.out.hg, Kd.R_mono (R69_own HV.out.hr (fun k hk => ho9 k (fun e => own_ne HV.out.hr HV.out.hz (by decide) (by rw [← e, hk])))) (fun _ _ => trivial), HA.out.2, hlen⟩, HV.out.own⟩, ⟨hs9.2.1.trans HV.out.fr.os, hs9.2.2.1.trans HV.out.fr.tape, hs9.2.2.2.trans HV.out.fr.output, by have := HV.out.fr.size; omega, fun k h1 h2 h3 => (ho9 k (by omega)).trans (HV.out.fr.keep k h1 h2 h3)⟩⟩
 ·rw [if_neg h22] at hp
  have e22 : (bt rec 0 == 22) = false := beq_eq_false_iff_ne.mpr h22
  have e22b : (bt rec 0 != 22) = true := bne_iff_ne.mpr h22
  have HP := Aside0.mk hp
  clear hp hS hB hBw hb0 rt
  go_enter Tryd.func32, Tryd.ntmps32
  go_wp2_with (fail)
  rw [← hW0]
  obtain ⟨W1, hW1⟩ : ∃ W, W = W0 := ⟨_, rfl⟩
  rw [← hW1]
  have p9 := RT0.out
  rw [← hW1] at p9
  have y0 : W1.cell? ⟨w.heap.size, 0, none⟩ = some (.bool false) := by rw [blk_cell p9]; rfl
  have y1 : W1.cell? ⟨w.heap.size, 1, none⟩ = some (.bool false) := by rw [blk_cell p9]; rfl
  have y2 : W1.cell? ⟨w.heap.size, 2, none⟩ = some (.bool false) := by rw [blk_cell p9]; rfl
  have y3 : W1.cell? ⟨w.heap.size, 3, none⟩ = some (.bool false) := by rw [blk_cell p9]; rfl
  have y4 : W1.cell? ⟨w.heap.size, 4, none⟩ = some (.string ⟨#[]⟩) := by rw [blk_cell p9]; rfl
  have y5 : W1.cell? ⟨w.heap.size, 5, none⟩ = some (.int .u16 0) := by rw [blk_cell p9]; rfl
  have y6 : W1.cell? ⟨w.heap.size, 6, none⟩ = some (.int .i64 0) := by rw [blk_cell p9]; rfl
  have hb9 := HB0.out
  rw [← hW1] at hb9
  refine bodyPost_ret (v := agg40 z40) (by simp [results, Tryd.results32, go_sem, y0, y1, y2, y3, y4, y5, y6, agg40, z40]) rfl ?_
  have hp := HP.out
  injection hp with hp
  injection hp with e1 e2
  subst e1
  subst e2
  exact ⟨rfl, ⟨_, HS.out.keep hb9, .inl rfl⟩, FrS.of_below hb9⟩
end Go.Proofs.YtjflijebcpcbmaaDoor.G
