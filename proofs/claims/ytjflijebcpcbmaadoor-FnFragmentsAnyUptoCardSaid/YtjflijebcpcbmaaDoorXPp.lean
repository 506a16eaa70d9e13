/-
 What is proved: what pop's loop needs of the model: the appends of a message's bytes. Conditions: fewer than 2^40 bytes.
-/
import Derived.Test.YtjflijebcpcbmaaDoorXRnd
import Derived.Laws.AppendOwnNone
namespace Go.Proofs.YtjflijebcpcbmaaDoor.G
open Go.RowKit Go.Proofs.YtjflijebcpcbmaaDoorW.PrintWords Go.Proofs.YtjflijebcpcbmaaDoorW.PrintLast Go.Proofs.YtjflijebcpcbmaaDoorW.PrintMore
set_option linter.unusedVariables false
set_option linter.unusedSimpArgs false

theorem at_app {P : Program} (w : World) {ops : Array Oper} {rest : List Oper} {o : Oper} {a : Act} {Q : Exit → Act → World → Prop} (hgd : o.guard = none) (d s : Operand) (t t' : TypeId)
 (ho : o.op = .call { callee := .builtin .append, args := #[d, s], argTypes := #[t, t'] }) (v u : Value) (hd : a.eval d = v) (hs : a.eval s = u) {v' : Value} {w' : World}
 (hr : (Builtin.append_ #[t, t'] o.type #[v, u]).run P w = .ok v' w') (h : wpList P ops Q rest (a.put o.dst v') w') : wpList P ops Q (o :: rest) a w := by
 refine wpList_plain hgd fun K hK => ?_
 unfold Oper.wp
 simp only [execOp, ho, resolve, invoke, builtin, Sem.run_bind, Sem.run_pure, Result.andThen_ok, List.map_toArray, List.map_cons, List.map_nil, hd, hs, hr]
 exact hK _ _ h

theorem at_del {P : Program} (w : World) {ops : Array Oper} {rest : List Oper} {o : Oper} {a : Act} {Q : Exit → Act → World → Prop} (hgd : o.guard = none) (d s : Operand) (t t' : TypeId)
 (ho : o.op = .call { callee := .builtin .delete, args := #[d, s], argTypes := #[t, t'] }) (v u : Value) (hd : a.eval d = v) (hs : a.eval s = u) {v' : Value} {w' : World}
 (hr : (Builtin.delete_ #[t, t'] o.type #[v, u]).run P w = .ok v' w') (h : wpList P ops Q rest (a.put o.dst v') w') : wpList P ops Q (o :: rest) a w := by
 refine wpList_plain hgd fun K hK => ?_
 unfold Oper.wp
 simp only [execOp, ho, resolve, invoke, builtin, Sem.run_bind, Sem.run_pure, Result.andThen_ok, List.map_toArray, List.map_cons, List.map_nil, hd, hs, hr]
 exact hK _ _ h

theorem u8s_length (l : List Nat) : (u8s l).length = l.length := by simp [u8s]
theorem own_form {w : World} {base n : Nat} {v : Value} {xs : List Value} (h : w.ownsRow base 5 1 v n xs) (hv : v ≠ .slice none 0 0) : ∃ cb cp, v = .slice (some ⟨cb, 0, none⟩) n cp ∧ base ≤ cb ∧ n ≤ cp := by
 obtain ⟨_, ⟨h1, _⟩ | ⟨g, cap, cur, h1, h2, h3, h4, _⟩⟩ := h
 ·exact absurd h1 hv
 ·exact ⟨g, cap, h1, h2, h4⟩
set_option maxRecDepth 100000 in
/-- Bytes are appended to the call's own bytes. -/
theorem app_bytes {w : World} {base cb n cp A o m c : Nat} {acc bs : List Nat} (hown : w.ownsRow base 5 1 (.slice (some ⟨cb, 0, none⟩) n cp) n (u8s acc)) (hb : Bytes w A o bs) (hm : bs.length = m) (hlim : n + m < 1099511627776) (hbase : base ≤ w.heap.size) :
 ∃ cb' cp' w', ((Builtin.append_ #[59, 59] 59 #[.slice (some ⟨cb, 0, none⟩) n cp, .slice (some ⟨A, o, none⟩) m c]).run Tryd.prog w = .ok (.slice (some ⟨cb', 0, none⟩) (n + m) cp') w') ∧ w'.ownsRow base 5 1 (.slice (some ⟨cb', 0, none⟩) (n + m) cp') (n + m) (u8s (acc ++ bs)) ∧ w.grownBy w' (some cb) ∧ base ≤ cb' ∧ n + m ≤ cp' := by
 obtain ⟨i0, hi, hz0, hz1, hz2⟩ := info_parts info5
 have key := run_append_own (P := Tryd.prog) w base 59 59 5 i0 (.int .u8 0) 1 1 Tryd.underlying59 hi hz0 hz1 hz2 rfl (by decide) (.slice (some ⟨cb, 0, none⟩) n cp) n (u8s acc) hown ⟨A, o, none⟩ m c (u8s bs) (by rw [u8s_length, hm, Nat.mul_one])
  (fun j u hj => by
   obtain ⟨arr, fz, h1, h2⟩ := hb
   rw [Addr.add_mid, blk_cell' h1]
   unfold u8s at hj
   rw [List.getElem?_map] at hj
   cases hx : bs[j]? with
   | none => rw [hx] at hj; cases hj
   | some x =>
     rw [hx] at hj
     injection hj with hj
     rw [← hj]
     exact h2 j x hx)
  (u8s_one bs) (by unfold maxLen; omega) (by omega) hbase
 obtain ⟨v', w', h1, h2, h3, h4⟩ := key
 obtain ⟨cb', cp', rfl, h5, h6⟩ := own_form h2 (fun e => by have := (h4.1 e).1; cases this)
 refine ⟨cb', cp', w', ?_, by rw [u8s_append]; exact h2, h3, h5, h6⟩
 first
  | exact h1
  | (rw [← h1])

set_option maxRecDepth 100000 in
/-- A range's bytes from place k on are appended. -/
theorem app_dat {w : World} {B base cb n cp : Nat} {acc bs : List Nat} {v : Rv} (hown : w.ownsRow base 5 1 (.slice (some ⟨cb, 0, none⟩) n cp) n (u8s acc)) (hd : Dat w B v bs) (k : Nat) (hk : k ≤ v.len) (hlim : n + v.len < 1099511627776) (hbase : base ≤ w.heap.size) :
 ∃ sl, (∀ W, (Instr.slice 59 (.slice v.p.1 v.len v.p.2) (some (.int .u32 (k : Int))) none none).run Tryd.prog W = .ok sl W) ∧
 ∃ cb' cp' w', ((Builtin.append_ #[59, 59] 59 #[.slice (some ⟨cb, 0, none⟩) n cp, sl]).run Tryd.prog w = .ok (.slice (some ⟨cb', 0, none⟩) (n + (v.len - k)) cp') w') ∧ w'.ownsRow base 5 1 (.slice (some ⟨cb', 0, none⟩) (n + (v.len - k)) cp') (n + (v.len - k)) (u8s (acc ++ bs.drop k)) ∧ w.grownBy w' (some cb) ∧ base ≤ cb' ∧ n + (v.len - k) ≤ cp' := by
 obtain ⟨hl, hb, hc⟩ := hd
 have hs : ∀ W, (sizeOf (Tryd.prog.elem 59)).run Tryd.prog W = .ok 1 W := fun W => by kernel_rfl
 rcases hc with ⟨h0, hp⟩ | ⟨A, o, hA, hcap, hB, hby⟩
 ·have hk0 : k = 0 := by omega
  subst hk0
  have hbs : bs = [] := List.eq_nil_of_length_eq_zero (by omega)
  refine ⟨.slice none 0 0, fun W => ?_, cb, cp, w, ?_, ?_, World.grownBy.refl w _, ?_⟩
  ·rw [h0, hp, run_slice_l W 59 none 0 0 (by kernel_rfl) .u32 ((0 : Nat) : Int) (by omega) (by omega), hs]
   rfl
  ·obtain ⟨i0, hi, _⟩ := info_parts info5
   rw [h0]
   exact run_append_owned_none (P := Tryd.prog) w base 59 59 5 i0 1 Tryd.underlying59 hi _ _ _ hown
  ·rw [h0, hbs]
   simpa using hown
  ·rw [h0]
   obtain ⟨_, ⟨h1, _⟩ | ⟨g, cap, cur, h1, h2, h3, h4, _⟩⟩ := hown
   ·cases h1
   ·injection h1 with h1 _ h5
    injection h1 with h1
    injection h1 with h1
    exact ⟨by omega, by omega⟩
 ·obtain ⟨o', ho'⟩ : ∃ o', o' = if v.p.2 = k then o else o + k := ⟨_, rfl⟩
  have hby' : Bytes w A o' (bs.drop k) := hby.at (k := k) (by rw [List.take_of_length_le (by simp)]) (fun h => by rw [List.length_drop] at h; rw [ho', if_neg (by omega)])
  have := app_bytes (m := v.len - k) (c := v.p.2 - k) hown hby' (by rw [List.length_drop]; omega) (by omega) hbase
  refine ⟨.slice (some ⟨A, o', none⟩) (v.len - k) (v.p.2 - k), fun W => ?_, this⟩
  rw [hA, run_slice_l W 59 (some ⟨A, o, none⟩) v.len v.p.2 (by kernel_rfl) .u32 (k : Int) (by omega) (by omega), hs]
  simp only [Result.andThen, sliced, Int.toNat_natCast, ho']
  split
  ·rfl
  ·simp [Addr.add]

theorem BufAt.bufset' {w w' : World} {B g rm : Nat} {s : St} {a : Nat → At} (h : BufAt w B g rm s a) (cur : Nat) (sz cnt : Int) (np : Nat)
 (hg : w'.heap[g]? = some (.cells (bcells rm cur sz cnt) 87 (0, 0))) (hn : np = s.np) (ho : ∀ X, X < w.heap.size → X ≠ g → w'.heap[X]? = w.heap[X]?) : BufAt w' B g rm ⟨cur, sz, cnt, np, s.m⟩ a := by
 have hbytes : ∀ A o bs, Bytes w A o bs → Bytes w' A o bs := fun A o bs hB => by
  refine hB.kept ?_
  obtain ⟨arr, fz, h1, _⟩ := hB
  exact ho _ (blk_lt h1) (blk_ne' h1 h.h (by decide))
 refine ⟨hg, ?_, h.g, h.rm, ?_, h.apart⟩
 ·show CM w' rm np _
  rw [hn]
  obtain ⟨es, cl, hmm⟩ := h.map.obj
  exact h.map.kept (ho rm (blk_lt hmm) (fun e => by have := h.h; rw [← e, hmm] at this; cases this))
 ·intro k' x' hk'
  have h' := h.msg k' x' hk'
  exact ⟨⟨(ho _ (blk_lt h'.fb.h) (blk_ne h'.fb.h h.h (by decide))).trans h'.fb.h, ⟨(ho _ (blk_lt h'.fb.r.h) (blk_ne h'.fb.r.h h.h (by decide))).trans h'.fb.r.h, h'.fb.r.l⟩⟩, h'.c, h'.g, h'.b, likes_hold h'.rs hbytes⟩

/-- The first message is taken out of the cache. -/
theorem BufAt.delmsg {w w' : World} {B g rm k : Nat} {s : St} {a : Nat → At} (h : BufAt w B g rm s a)
 (hc : CM w' rm s.np (fun k' => if k' = k then none else (s.m k').map fun _ => (a k').g)) (hg : w.grownBy w' (some rm)) :
 BufAt w' B g rm ⟨s.cur, s.sz, s.cnt, s.np, fun k' => if k' = k then none else s.m k'⟩ a := by
 obtain ⟨es, cl, hmm⟩ := h.map.obj
 have hc5 : ∀ (X : Nat) (arr : Array Value) (T : TypeId) (fz : Nat × Nat), w.heap[X]? = some (Obj.cells arr T fz) → w'.heap[X]? = w.heap[X]? := fun X arr T fz hX => hg.block X (blk_lt hX) (fun e => by injection e with e; rw [e, hmm] at hX; cases hX)
 have hkeep : ∀ x' a', MsgAt w B x' a' → MsgAt w' B x' a' := fun x' a' h' => ⟨⟨(hc5 _ _ _ _ h'.fb.h).trans h'.fb.h, ⟨(hc5 _ _ _ _ h'.fb.r.h).trans h'.fb.r.h, h'.fb.r.l⟩⟩, h'.c, h'.g, h'.b, likes_hold h'.rs fun A o bs hB => by
  refine hB.kept ?_
  obtain ⟨arr, fz, h1, _⟩ := hB
  exact hc5 _ _ _ _ h1⟩
 have hm' : ∀ k' x', (if k' = k then none else s.m k') = some x' → s.m k' = some x' := fun k' x' hk' => by
  split at hk'
  ·cases hk'
  ·exact hk'
 refine ⟨(hc5 _ _ _ _ h.h).trans h.h, ?_, h.g, h.rm, fun k' x' hk' => hkeep _ _ (h.msg k' x' (hm' k' x' hk')), fun k1 k2 x1 x2 hne h1 h2 => h.apart k1 k2 x1 x2 hne (hm' _ _ h1) (hm' _ _ h2)⟩
 show CM w' rm s.np _
 have : (fun k' => (if k' = k then none else s.m k').map fun _ => (a k').g) = fun k' => if k' = k then none else (s.m k').map fun _ => (a k').g := by
  funext k'
  split <;> rfl
 exact this ▸ hc

theorem below_grown0 {B : Nat} {w W W' : World} (h : Below B w W) (hg : W.grownBy W' none) (hB : B ≤ W.heap.size) : Below B w W' :=
 ⟨hg.os.trans h.os, hg.tape.trans h.tape, hg.output.trans h.output, Nat.le_trans h.size hg.size, fun k hk => (hg.block k (Nat.lt_of_lt_of_le hk hB) (fun e => by cases e)).trans (h.block k hk)⟩
theorem grown_below {w W : World} (h : Below w.heap.size w W) (r : Option Nat) : w.grownBy W r := ⟨h.os, h.tape, h.output, h.size, fun k hk _ => h.block k hk⟩
set_option maxRecDepth 100000 in
/-- Room for a message's bytes, and its header in it. -/
theorem pop_head {w w5 : World} {base Hb l : Nat} {hs : List Nat} (hb : Below base w w5) (hbs : base ≤ w.heap.size) (ho : Out w5 Hb hs) (hh : hs.length = 12) (hl : l < 16777216) :
 ∃ c6 w6 cb cp w7, (Instr.makeSlice 59 (.int .i64 0) (.int .i64 (12 + (l : Int)))).run Tryd.prog w5 = .ok (.slice (some ⟨c6, 0, none⟩) 0 (12 + l)) w6 ∧
  (Builtin.append_ #[59, 59] 59 #[.slice (some ⟨c6, 0, none⟩) 0 (12 + l), .slice (some ⟨Hb, 0, none⟩) 12 12]).run Tryd.prog w6 = .ok (.slice (some ⟨cb, 0, none⟩) 12 cp) w7 ∧
  w7.ownsRow base 5 1 (.slice (some ⟨cb, 0, none⟩) 12 cp) 12 (u8s hs) ∧ Below base w w7 ∧ base ≤ cb ∧ 12 ≤ cp := by
 obtain ⟨i0, hi, hz0, hz1, hz2⟩ := info_parts info5
 have hb5 : base ≤ w5.heap.size := Nat.le_trans hbs hb.size
 obtain ⟨w6, hmk, hown, hgr⟩ := run_make_own (P := Tryd.prog) w5 base 59 5 i0 (.int .u8 0) 1 Tryd.underlying59 hi hz0 hz1 .i64 .i64 (12 + l) (by rw [hz2]; omega) (by unfold maxLen; omega) hb5
 rw [show ((12 + l : Nat) : Int) = 12 + (l : Int) by omega] at hmk
 have hb6 := below_grown0 hb hgr hb5
 have hby : Bytes w6 Hb 0 hs := Bytes.of_cells ((hgr.block Hb (blk_lt ho) (fun e => by cases e)).trans ho)
 obtain ⟨cb, cp, w7, h1, h2, h3, h4, h5⟩ := app_bytes (acc := []) (m := 12) (c := 12) hown hby hh (by omega) (Nat.le_trans hbs hb6.size)
 rw [Nat.zero_add] at h1 h2 h5
 rw [List.nil_append] at h2
 exact ⟨w5.heap.size, w6, cb, cp, w7, hmk, h1, h2, below_grown hb6 h3 hb5 (Nat.le_trans hbs hb6.size), h4, h5⟩
/-- What holds at the head of each round of pop's loop. -/
structure PopInv (w wr : World) (B g rm : Nat) (s : St) (x : Msg) (tot : List Nat) (k c n cp cb : Nat) (acc tl : List Nat) : Prop where
 grown : w.grownBy wr (some g)
 hg : wr.heap[g]? = some (.cells (bcells rm s.cur (s.sz - (sumL (x.rs.take k) : Int)) s.cnt) 87 (0, 0))
 own : wr.ownsRow w.heap.size 5 1 (.slice (some ⟨cb, 0, none⟩) n cp) n (u8s acc)
 cb : w.heap.size ≤ cb
 n : acc.length = n
 run : asm (x.rs.drop k) c = some tl
 tot : acc ++ tl = tot
 le : k ≤ x.rs.length
theorem likes_at {w : World} {B : Nat} {rv : List Rv} {rs : List (Rg (List Nat))} (h : Likes w B rv rs) {k : Nat} {v : Rv} (hk : rv[k]? = some v) : ∃ r, rs[k]? = some r ∧ Like w B v r := by
 induction h generalizing k with
 | nil => simp at hk
 | cons h1 _ ih =>
   cases k with
   | zero => simp at hk; subst hk; exact ⟨_, rfl, h1⟩
   | succ k => simpa using ih (k := k) (by simpa using hk)
theorem own_kept {w w' : World} {base n cp cb : Nat} {xs : List Value} (h : w.ownsRow base 5 1 (.slice (some ⟨cb, 0, none⟩) n cp) n xs) (hk : w'.heap[cb]? = w.heap[cb]?) : w'.ownsRow base 5 1 (.slice (some ⟨cb, 0, none⟩) n cp) n xs := by
 obtain ⟨h0, ⟨h1, _⟩ | ⟨g, cap, cur, h1, h2, h3, h4⟩⟩ := h
 ·cases h1
 ·refine ⟨h0, .inr ⟨g, cap, cur, h1, h2, ?_, h4⟩⟩
  injection h1 with h1 _ _
  injection h1 with h1
  injection h1 with h1
  rw [← h1, hk, h1]
  exact h3
theorem own_lt {w : World} {base n cp cb : Nat} {xs : List Value} (h : w.ownsRow base 5 1 (.slice (some ⟨cb, 0, none⟩) n cp) n xs) : cb < w.heap.size := by
 obtain ⟨h0, ⟨h1, _⟩ | ⟨g, cap, cur, h1, h2, h3, h4⟩⟩ := h
 ·cases h1
 ·injection h1 with h1 _ _
  injection h1 with h1
  injection h1 with h1
  rw [h1]
  exact blk_lt h3
theorem own_bytes {w : World} {base n cp cb : Nat} {l : List Nat} (h : w.ownsRow base 5 1 (.slice (some ⟨cb, 0, none⟩) n cp) n (u8s l)) : Bytes w cb 0 l ∧ n ≤ cp := by
 obtain ⟨h0, ⟨h1, _⟩ | ⟨g, cap, cur, h1, h2, h3, h4, h5, h6, h7⟩⟩ := h
 ·cases h1
 ·injection h1 with h1 _ h8
  injection h1 with h1
  injection h1 with h1
  subst h1
  refine ⟨⟨cur, _, h3, fun i x hx => ?_⟩, by omega⟩
  rw [Nat.zero_add, ← Array.getElem?_toList]
  have h9 : (u8s l)[i]? = some (.int .u8 (x : Int)) := by unfold u8s; rw [List.getElem?_map, hx]; rfl
  rw [← h7, List.getElem?_take] at h9
  split at h9
  ·exact h9
  ·cases h9
theorem asm_cons {rs : List (Rg (List Nat))} {k c : Nat} {tl : List Nat} {r : Rg (List Nat)} (h : asm (rs.drop k) c = some tl) (hr : rs[k]? = some r) :
 r.off ≤ c ∧ c ≤ r.off + r.len ∧ ∃ tl', asm (rs.drop (k + 1)) (r.off + r.len) = some tl' ∧ tl = r.p.drop (c - r.off) ++ tl' := by
 obtain ⟨hlt, he⟩ := List.getElem?_eq_some_iff.1 hr
 rw [List.drop_eq_getElem_cons hlt, he] at h
 unfold asm at h
 split at h
 case isFalse => cases h
 rename_i hc
 cases ha : asm (rs.drop (k + 1)) (r.off + r.len) with
 | none => rw [ha] at h; cases h
 | some b =>
   rw [ha] at h
   simp at h
   exact ⟨hc.1, hc.2, b, rfl, h.symm⟩
theorem sum_take {α : Type} (rs : List (Rg α)) (k : Nat) (r : Rg α) (hr : rs[k]? = some r) : sumL (rs.take (k + 1)) = sumL (rs.take k) + r.len := by
 obtain ⟨hlt, he⟩ := List.getElem?_eq_some_iff.1 hr
 unfold sumL
 rw [List.take_succ_eq_append_getElem hlt, he]
 simp
theorem PopInv.next {w wr W1 w2 w3 : World} {B g rm k c n cp cb cp' cb' n' : Nat} {s : St} {x : Msg} {tot acc tl : List Nat} {y : Rv} {r : Rg (List Nat)} (hI : PopInv w wr B g rm s x tot k c n cp cb acc tl) (hr : x.rs[k]? = some r) (ho : y.off = r.off) (hl : y.len = r.len)
 (hW1 : Below wr.heap.size wr W1) (own2 : w2.ownsRow w.heap.size 5 1 (.slice (some ⟨cb', 0, none⟩) n' cp') n' (u8s (acc ++ r.p.drop (c - y.off)))) (gr2 : W1.grownBy w2 (some cb)) (hcb' : w.heap.size ≤ cb') (h3 : Below w2.heap.size w2 w3) (hn' : n' = n + (y.len - (c - y.off))) (hrl : r.p.length = r.len) (hg0 : g < w.heap.size) :
 ∃ tl', PopInv w (w3.drew.setCell ⟨g, 2, none⟩ (.int .i64 (s.sz - (sumL (x.rs.take k) : Int) - (y.len : Int)))) B g rm s x tot (k + 1) (y.off + y.len) n' cp' cb' (acc ++ r.p.drop (c - y.off)) tl' := by
 obtain ⟨h1, h2, tl', h4, h5⟩ := asm_cons hI.run hr
 have hwr := hI.grown.size
 have hW1s := hW1.size
 have hw2s := gr2.size
 have hcb := hI.cb
 have g3 : w3.heap[g]? = some (.cells (bcells rm s.cur (s.sz - (sumL (x.rs.take k) : Int)) s.cnt) 87 (0, 0)) := by
  have a1 := (hW1.block g (blk_lt hI.hg)).trans hI.hg
  have a2 := (gr2.block g (blk_lt a1) (fun e => by injection e with e; omega)).trans a1
  exact (h3.block g (blk_lt a2)).trans a2
 refine ⟨tl', ⟨?_, ?_, ?_, hcb', ?_, by rw [ho, hl]; exact h4, ?_, (List.getElem?_eq_some_iff.1 hr).1⟩⟩
 ·refine gset ?_ 2 _
  refine ⟨h3.os.trans (gr2.os.trans (hW1.os.trans hI.grown.os)), h3.tape.trans (gr2.tape.trans (hW1.tape.trans hI.grown.tape)), h3.output.trans (gr2.output.trans (hW1.output.trans hI.grown.output)), Nat.le_trans hwr (Nat.le_trans hW1s (Nat.le_trans hw2s h3.size)), fun X hX hne => ?_⟩
  have a0 := hI.grown.block X hX hne
  have a1 := (hW1.block X (by omega)).trans a0
  have a2 := (gr2.block X (by omega) (fun e => by injection e with e; omega)).trans a1
  exact (h3.block X (by omega)).trans a2
 ·rw [blk_set (w := w3.drew) g3 2 _, sum_take _ _ _ hr, hl]
  show some (Obj.cells (bcells rm s.cur (s.sz - (sumL (x.rs.take k) : Int) - (r.len : Int)) s.cnt) 87 (0, 0)) = _
  rw [show s.sz - ((sumL (x.rs.take k) + r.len : Nat) : Int) = s.sz - (sumL (x.rs.take k) : Int) - (r.len : Int) by omega]
 ·refine own_kept (own_kept own2 ((h3.block cb' (own_lt own2)))) ?_
  exact Below.heap_setCell w3.drew ⟨g, 2, none⟩ _ cb' (by show cb' ≠ g; omega)
 ·rw [List.length_append, List.length_drop, hI.n, hn']
  omega
 ·rw [← hI.tot, h5, ho, List.append_assoc]
theorem asm_len : ∀ (rs : List (Rg (List Nat))) (c : Nat) (tl : List Nat), asm rs c = some tl → (∀ r ∈ rs, r.p.length = r.len) → tl.length ≤ sumL rs
 | [], _, tl, h, _ => by simp only [asm, Option.some.injEq] at h; rw [← h]; exact Nat.zero_le _
 | r :: rs, c, tl, h, hl => by
   unfold asm at h
   split at h
   case isFalse => cases h
   cases ha : asm rs (r.off + r.len) with
   | none => rw [ha] at h; cases h
   | some b =>
     rw [ha] at h
     simp at h
     have := asm_len rs _ b ha (fun x hx => hl x (by simp [hx]))
     have hr := hl r (by simp)
     rw [← h, List.length_append, List.length_drop]
     unfold sumL at this ⊢
     rw [List.map_cons, List.sum_cons]
     omega
end Go.Proofs.YtjflijebcpcbmaaDoor.G
