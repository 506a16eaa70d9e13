/-
 What is proved: what push's loop needs of the model: its rounds, the slices, the calls of add. Conditions: the model takes the fragment.
-/
import Derived.Test.YtjflijebcpcbmaaDoorXBri
import Derived.Deep.MidRow
namespace Go.Proofs.YtjflijebcpcbmaaDoor.G
open Go.RowKit Go.Proofs.YtjflijebcpcbmaaDoorW.PrintWords Go.Proofs.YtjflijebcpcbmaaDoorW.PrintLast Go.Proofs.YtjflijebcpcbmaaDoorW.PrintMore
set_option linter.unusedVariables false
set_option linter.unusedSimpArgs false

theorem sl_lh (b o m cc k e : Nat) (h : k ≤ e) (he : e ≤ cc) : ∃ o', (∀ W, (Instr.slice 59 (.slice (some ⟨b, o, none⟩) m cc) (some (.int .i64 (k : Int))) (some (.int .i64 (e : Int))) none).run Tryd.prog W = .ok (.slice (some ⟨b, o', none⟩) (e - k) (cc - k)) W) ∧ (k < e → o' = o + k) := by
 have hs : ∀ W, (sizeOf (Tryd.prog.elem 59)).run Tryd.prog W = .ok 1 W := fun W => by kernel_rfl
 refine ⟨if cc = k then o else o + k, fun W => ?_, fun hk => by rw [if_neg (by omega)]⟩
 rw [run_slice_lh W 59 (some ⟨b, o, none⟩) m cc (by kernel_rfl) .i64 .i64 (k : Int) (e : Int) (by omega) (by omega) (by omega), hs]
 simp only [Result.andThen, sliced, Int.toNat_natCast]
 split
 ·rfl
 ·simp [Addr.add]
theorem sl_l (b o m cc k : Nat) (h : k ≤ m) (he : m ≤ cc) : ∃ o', (∀ W, (Instr.slice 59 (.slice (some ⟨b, o, none⟩) m cc) (some (.int .i64 (k : Int))) none none).run Tryd.prog W = .ok (.slice (some ⟨b, o', none⟩) (m - k) (cc - k)) W) ∧ (k < m → o' = o + k) := by
 have hs : ∀ W, (sizeOf (Tryd.prog.elem 59)).run Tryd.prog W = .ok 1 W := fun W => by kernel_rfl
 refine ⟨if cc = k then o else o + k, fun W => ?_, fun hk => by rw [if_neg (by omega)]⟩
 rw [run_slice_l W 59 (some ⟨b, o, none⟩) m cc (by kernel_rfl) .i64 (k : Int) (by omega) (by omega), hs]
 simp only [Result.andThen, sliced, Int.toNat_natCast]
 split
 ·rfl
 ·simp [Addr.add]
theorem Bytes.at {w : World} {b o o' k : Nat} {bs cs : List Nat} (h : Bytes w b o bs) (hc : cs = (bs.drop k).take cs.length) (ho : 0 < cs.length → o' = o + k) : Bytes w b o' cs := by
 by_cases h0 : 0 < cs.length
 ·rw [ho h0, hc]
  exact (h.drop k).take _
 ·have : cs = [] := List.eq_nil_of_length_eq_zero (by omega)
  obtain ⟨arr, fz, h1, _⟩ := h
  exact ⟨arr, fz, h1, fun i x hx => by rw [this] at hx; simp at hx⟩

theorem frags_nil {k ep : Nat} {s : St} {rest : List Nat} {ag : Bool} {fin : St × Bool} (h : St.frags k s ep rest ag = some fin) (h0 : rest.length = 0) : fin = (s, ag) := by
 cases k <;> simp [St.frags, h0] at h <;> exact h.symm
theorem frags_cons {k ep : Nat} {s : St} {rest : List Nat} {ag : Bool} {fin : St × Bool} (h : St.frags k s ep rest ag = some fin) (h0 : rest.length ≠ 0) :
 ∃ k' s2, k = k' + 1 ∧ 12 ≤ rest.length ∧ 12 + (hdOf rest).2.2.2.2 ≤ rest.length ∧ s.frag ep rest = some s2 ∧ St.frags k' s2 ep (rest.drop (12 + (hdOf rest).2.2.2.2)) (againOf s rest) = some fin := by
 cases k with
 | zero => rw [St.frags, if_neg h0] at h; cases h
 | succ k =>
   rw [St.frags, if_neg h0] at h
   split at h
   case isFalse => cases h
   rename_i hc
   cases hf : s.frag ep rest with
   | none => rw [hf] at h; cases h
   | some s2 => rw [hf] at h; exact ⟨k, s2, rfl, hc.1, hc.2, rfl, h⟩
theorem getD_lt {bs : List Nat} (h : ∀ x ∈ bs, x < 256) (i : Nat) : bs.getD i 0 < 256 := by
 rw [List.getD_eq_getElem?_getD]
 cases hi : bs[i]? with
 | none => simp
 | some x => exact h x (List.mem_of_getElem? hi)
theorem hdOf_lt {bs : List Nat} (h : ∀ x ∈ bs, x < 256) : (hdOf bs).1 < 256 ∧ (hdOf bs).2.1 < 16777216 ∧ (hdOf bs).2.2.1 < 65536 ∧ (hdOf bs).2.2.2.1 < 16777216 ∧ (hdOf bs).2.2.2.2 < 16777216 := by
 have hd : ∀ k, ∀ x ∈ bs.drop k, x < 256 := fun k x hx => h x (List.mem_of_mem_drop hx)
 have a0 := getD_lt h 0
 have a1 := getD_lt (hd 1) 0
 have a2 := getD_lt (hd 1) 1
 have a3 := getD_lt (hd 1) 2
 have a4 := getD_lt (hd 4) 0
 have a5 := getD_lt (hd 4) 1
 have a6 := getD_lt (hd 6) 0
 have a7 := getD_lt (hd 6) 1
 have a8 := getD_lt (hd 6) 2
 have a9 := getD_lt (hd 9) 0
 have a10 := getD_lt (hd 9) 1
 have a11 := getD_lt (hd 9) 2
 unfold hdOf u24of u16of
 exact ⟨a0, by show _ + _ + _ < _; omega, by show _ + _ < _; omega, by show _ + _ + _ < _; omega, by show _ + _ + _ < _; omega⟩

theorem til_le {α : Type} (rs : List (Rg α)) (e i : Nat) : tillOf rs e i - i ≤ rs.length := by
 unfold tillOf
 have h1 : ((rs.drop i).takeWhile fun r => decide (r.off + r.len ≤ e)).length ≤ (rs.drop i).length := (List.takeWhile_sublist _).length_le
 rw [List.length_drop] at h1
 omega
theorem dCnt_le {α : Type} (rs : List (Rg α)) (r : Rg α) (h : rs.length ≤ 900) : -900 ≤ dCnt rs r ∧ dCnt rs r ≤ 1 := by
 unfold dCnt
 have := til_le rs (r.off + r.len) (idxOf rs r.off)
 split <;> omega
theorem sumL_le {α : Type} (rs : List (Rg α)) (l : Nat) (h : ∀ r ∈ rs, r.off + r.len ≤ l) : sumL rs ≤ rs.length * l := by
 unfold sumL
 induction rs with
 | nil => simp
 | cons r rs ih =>
   have h1 := h r (by simp)
   have h2 := ih (fun x hx => h x (by simp [hx]))
   simp only [List.map_cons, List.sum_cons, List.length_cons, Nat.add_mul, Nat.one_mul]
   omega
theorem dSz_le {α : Type} (rs : List (Rg α)) (r : Rg α) (l : Nat) (h : okR l rs) (hr : r.len < 16777216) : -17179869184 ≤ dSz rs r ∧ dSz rs r ≤ 16777216 := by
 unfold dSz
 obtain ⟨h1, _, h3, h4⟩ := h
 have hs := sumL_le ((rs.drop (idxOf rs r.off)).take (tillOf rs (r.off + r.len) (idxOf rs r.off) - idxOf rs r.off)) l (fun x hx => h3 x (List.mem_of_mem_drop (List.mem_of_mem_take hx)))
 have hl : ((rs.drop (idxOf rs r.off)).take (tillOf rs (r.off + r.len) (idxOf rs r.off) - idxOf rs r.off)).length ≤ 900 := by
  rw [List.length_take, List.length_drop]
  omega
 have hm : ((rs.drop (idxOf rs r.off)).take (tillOf rs (r.off + r.len) (idxOf rs r.off) - idxOf rs r.off)).length * l ≤ 900 * 16777216 := Nat.mul_le_mul hl (by omega)
 split <;> omega

/-- A fragment of a message that has some. -/
theorem add_at {W : World} {B g rm q : Nat} {s : St} {a : Nat → At} {x : Msg} (h : BufAt W B g rm s a) (hx : s.m q = some x) (hok : s.ok) (hr : okR x.l x.rs) (fo fl b o cd : Nat) (data : List Nat)
 (hd : data.length = fl) (hb : ∀ y ∈ data, y < 256) (hB : B ≤ b) (hby : Bytes W b o data) (hcd : fl ≤ cd) (hfo : fo < 16777216) (hfl : fl < 16777216) :
 Calls Tryd.prog 45 #[.pointer (some ⟨(a q).g, 0, none⟩), .int .u32 (fo : Int), .slice (some ⟨b, o, none⟩) fl cd, .int .i64 (1000 - s.cnt)] W fun e w' =>
  e = .returned (.tuple #[.int .i64 (dCnt x.rs ⟨fo, fl, data⟩), .int .i64 (dSz x.rs ⟨fo, fl, data⟩), .nilIface]) ∧ Apart W w' (a q).g (a q).b ∧ ∃ y : At, y.g = (a q).g ∧ BufAt w' B g rm (s.set q (x.add ⟨fo, fl, data⟩)) (updA a q y) := by
 have hm := h.msg q x hx
 obtain ⟨k1, k2, k3, k4, k5, k6⟩ := hok
 obtain ⟨r1, r2, r3, r4⟩ := hr
 have hlen := hm.rs.eqc.length
 obtain ⟨cn, hcn⟩ : ∃ cn : Nat, s.cnt = cn := ⟨s.cnt.toNat, by omega⟩
 have key : ∀ v : Rv, v.off = fo → v.len = fl → ((v.len ≠ 0 ∧ v.p = (some ⟨b, o, none⟩, cd)) ∨ (v.len = 0 ∧ v.p = (none, 0))) → Calls Tryd.prog 45 #[.pointer (some ⟨(a q).g, 0, none⟩), .int .u32 (fo : Int), .slice (some ⟨b, o, none⟩) fl cd, .int .i64 (1000 - s.cnt)] W fun e w' =>
  e = .returned (.tuple #[.int .i64 (dCnt x.rs ⟨fo, fl, data⟩), .int .i64 (dSz x.rs ⟨fo, fl, data⟩), .nilIface]) ∧ Apart W w' (a q).g (a q).b ∧ ∃ y : At, y.g = (a q).g ∧ BufAt w' B g rm (s.set q (x.add ⟨fo, fl, data⟩)) (updA a q y) := by
  intro v v1 v2 v3
  have hlike : Like W B v ⟨fo, fl, data⟩ := by
   refine ⟨v1, v2, by rw [v2]; exact hd, hb, ?_⟩
   rcases v3 with ⟨z1, z2⟩ | ⟨z1, z2⟩
   ·exact .inr ⟨b, o, by rw [z2], by rw [z2, v2]; exact hcd, hB, hby⟩
   ·exact .inl ⟨z1, z2⟩
  have hc := add_calls (a q).g (a q).b (a q).c x.cov x.t x.l x.ep (1000 - cn) x.hd x.st (a q).rv (a q).sp v (some ⟨b, o, none⟩) cd W hm.fb hm.c
   (fun i j r' s' hij hi hj => by
    have hri : x.rs[i]? = some ⟨r'.off, r'.len, (x.rs[i]?.getD ⟨0, 0, []⟩).p⟩ := by
     have := hm.rs.eqc.at i
     rw [hi] at this
     cases hx' : x.rs[i]? with
     | none => rw [hx'] at this; simp at this
     | some z => rw [hx'] at this; simp at this; simp [this.1, this.2]
    have hrj : x.rs[j]? = some ⟨s'.off, s'.len, (x.rs[j]?.getD ⟨0, 0, []⟩).p⟩ := by
     have := hm.rs.eqc.at j
     rw [hj] at this
     cases hx' : x.rs[j]? with
     | none => rw [hx'] at this; simp at this
     | some z => rw [hx'] at this; simp at this; simp [this.1, this.2]
    obtain ⟨hil, hie⟩ := List.getElem?_eq_some_iff.1 hri
    obtain ⟨hjl, hje⟩ := List.getElem?_eq_some_iff.1 hrj
    have := (List.pairwise_iff_getElem.1 r2) i j hil hjl hij
    rw [hie, hje] at this
    exact this)
   (by omega)
   (fun y hy => by
    obtain ⟨i, hi, rfl⟩ := List.getElem_of_mem hy
    have := hm.rs.eqc.at i
    rw [List.getElem?_eq_getElem hi, List.getElem?_eq_getElem (by omega)] at this
    simp at this
    have h3 := r3 (x.rs[i]'(by omega)) (List.getElem_mem _)
    omega)
   (by omega) v3 (by omega) (by omega)
  rw [v1, v2, show ((1000 - cn : Nat) : Int) = 1000 - s.cnt by omega] at hc
  exact hc.mono fun e w' hA => h.added hx hlike hA
 by_cases h0 : fl = 0
 ·exact key ⟨fo, fl, (none, 0)⟩ rfl rfl (.inr ⟨h0, rfl⟩)
 ·exact key ⟨fo, fl, (some ⟨b, o, none⟩, cd)⟩ rfl rfl (.inl ⟨h0, rfl⟩)

/-- The first fragment of a message. -/
theorem add_new {W W' : World} {B g rm q G : Nat} {s : St} {a : Nat → At} (h : BufAt W B g rm s a) (hbel : Below W.heap.size W W') (hB0 : B ≤ W.heap.size) (hq : s.m q = none) (hok : s.ok) (t l fo fl b o cd : Nat) (data : List Nat)
 (hG : W'.heap[G]? = some (.cells (fcells (.slice none 0 0) 0 t l (0, 0, 0, 0, 0) 0 false) 102 (0, 0))) (hGn : W.heap.size ≤ G)
 (hd : data.length = fl) (hb : ∀ y ∈ data, y < 256) (hB : B ≤ b) (hby : Bytes W b o data) (hcd : fl ≤ cd) (hfo : fo < 16777216) (hfl : fl < 16777216) :
 Calls Tryd.prog 45 #[.pointer (some ⟨G, 0, none⟩), .int .u32 (fo : Int), .slice (some ⟨b, o, none⟩) fl cd, .int .i64 (1000 - s.cnt)] W' fun e w' =>
  e = .returned (.tuple #[.int .i64 1, .int .i64 (fl : Int), .nilIface]) ∧ Below W.heap.size W w' ∧ ∃ y : At, y.g = G ∧ W.heap.size ≤ y.b ∧ MsgAt w' B ((Msg.fresh t l).add ⟨fo, fl, data⟩) y := by
 obtain ⟨k1, k2, k3, k4, k5, k6⟩ := hok
 obtain ⟨cn, hcn⟩ : ∃ cn : Nat, s.cnt = cn := ⟨s.cnt.toNat, by omega⟩
 have key : ∀ v : Rv, v.off = fo → v.len = fl → ((v.len ≠ 0 ∧ v.p = (some ⟨b, o, none⟩, cd)) ∨ (v.len = 0 ∧ v.p = (none, 0))) → Calls Tryd.prog 45 #[.pointer (some ⟨G, 0, none⟩), .int .u32 (fo : Int), .slice (some ⟨b, o, none⟩) fl cd, .int .i64 (1000 - s.cnt)] W' fun e w' =>
  e = .returned (.tuple #[.int .i64 1, .int .i64 (fl : Int), .nilIface]) ∧ Below W.heap.size W w' ∧ ∃ y : At, y.g = G ∧ W.heap.size ≤ y.b ∧ MsgAt w' B ((Msg.fresh t l).add ⟨fo, fl, data⟩) y := by
  intro v v1 v2 v3
  have hc := addn_calls G 0 t l 0 (1000 - cn) (0, 0, 0, 0, 0) false v (some ⟨b, o, none⟩) cd W' hG (by omega) v3 (by omega) (by omega)
  rw [v1, v2, show ((1000 - cn : Nat) : Int) = 1000 - s.cnt by omega] at hc
  refine hc.mono fun e w' hA => ?_
  obtain ⟨rfl, b', c', sp', p1, p2, p3, p4⟩ := hA
  have hbw : Below W.heap.size W w' := keep_own hbel p4 hGn
  have hsz := hbel.size
  refine ⟨by rw [v2], hbw, ⟨G, b', c', [v], sp'⟩, rfl, by show W.heap.size ≤ b'; omega, ?_⟩
  have hadd : (Msg.fresh t l).add ⟨fo, fl, data⟩ = ⟨[⟨fo, fl, data⟩], advance [(⟨fo, fl, data⟩ : Rg (List Nat))] 0, t, l, (0, 0, 0, 0, 0), 0, false⟩ := by
   simp [Msg.fresh, Msg.add, hasR, coversAt, idxOf, putR, tillOf]
  rw [hadd]
  have hlike : Like w' B v ⟨fo, fl, data⟩ := by
   refine ⟨v1, v2, by rw [v2]; exact hd, hb, ?_⟩
   rcases v3 with ⟨z1, z2⟩ | ⟨z1, z2⟩
   ·exact .inr ⟨b, o, by rw [z2], by rw [z2, v2]; exact hcd, hB, bytes_below hby hbw⟩
   ·exact .inl ⟨z1, z2⟩
  have hlk : Likes w' B [v] [(⟨fo, fl, data⟩ : Rg (List Nat))] := .cons hlike .nil
  refine ⟨?_, p2, by show B ≤ G; omega, by show B ≤ b'; omega, hlk⟩
  have := hlk.eqc.adv 0
  show FB w' G b' c' [v] sp' (advance [(⟨fo, fl, data⟩ : Rg (List Nat))] 0) t l (0, 0, 0, 0, 0) 0 false
  rw [← this]
  exact p1
 by_cases h0 : fl = 0
 ·exact key ⟨fo, fl, (none, 0)⟩ rfl rfl (.inr ⟨h0, rfl⟩)
 ·exact key ⟨fo, fl, (some ⟨b, o, none⟩, cd)⟩ rfl rfl (.inl ⟨h0, rfl⟩)

/-- What holds at the head of each round of push's loop. -/
structure PushInv (w wr : World) (B g rm b H ep : Nat) (fin : St × Bool) (o m cc k : Nat) (rest : List Nat) (s : St) (a : Nat → At) (ag : Bool) : Prop where
 len : rest.length = m
 cap : m ≤ cc
 le : m ≤ k
 by8 : ∀ x ∈ rest, x < 256
 bytes : Bytes wr b o rest
 buf : BufAt wr B g rm s a
 rh : ∃ sq, wr.heap[H]? = some (.cells (rhead 22 254 253 ep sq) 92 (0, 0))
 bel : Fr B w wr
 run : St.frags k s ep rest ag = some fin

def hdVals (hd : Nat × Nat × Nat × Nat × Nat) : List Value := [.int .u8 (hd.1 : Int), .int .u32 (hd.2.1 : Int), .int .u16 (hd.2.2.1 : Int), .int .u32 (hd.2.2.2.1 : Int), .int .u32 (hd.2.2.2.2 : Int)]
theorem hdVals_one (hd : Nat × Nat × Nat × Nat × Nat) : (hdVals hd).toArray.all (·.oneCell') = true := all_oneCell_toArray fun v hv => by
 simp only [hdVals, List.mem_cons, List.not_mem_nil, or_false] at hv
 rcases hv with rfl | rfl | rfl | rfl | rfl <;> rfl
theorem hd_stored0 {w : World} {G cov t l ep : Nat} {v : Value} {hd hd' : Nat × Nat × Nat × Nat × Nat} {st : Bool} (h : w.heap[G]? = some (.cells (fcells v cov t l hd ep st) 102 (0, 0))) :
 (w.setCells G 4 (hdVals hd')).heap[G]? = some (.cells (fcells v cov t l hd' ep st) 102 (0, 0)) := by
 have := setCells_blk G 102 (hdVals hd') 4 w [v, .int .u32 (cov : Int), .int .u8 (t : Int), .int .u32 (l : Int)] (hdVals hd) [.int .u16 (ep : Int), .bool st] h rfl rfl
 exact this
theorem hd_stored {w : World} {G cov t l ep ep' : Nat} {v : Value} {hd hd' : Nat × Nat × Nat × Nat × Nat} {st : Bool} (h : w.heap[G]? = some (.cells (fcells v cov t l hd ep st) 102 (0, 0))) :
 (((w.setCells G 4 (hdVals hd')).setCell ⟨G, 9, none⟩ (.int .u16 (ep' : Int))).setCell ⟨G, 10, none⟩ (.bool true)).heap[G]? = some (.cells (fcells v cov t l hd' ep' true) 102 (0, 0)) := by
 rw [blk_set (blk_set (hd_stored0 h) 9 _) 10 _]
 rfl
theorem hd_other {w : World} {G : Nat} {hd' : Nat × Nat × Nat × Nat × Nat} {u v : Value} (X : Nat) (h : X ≠ G) : (((w.setCells G 4 (hdVals hd')).setCell ⟨G, 9, none⟩ u).setCell ⟨G, 10, none⟩ v).heap[X]? = w.heap[X]? := by
 rw [Below.heap_setCell _ _ _ _ h, Below.heap_setCell _ _ _ _ h, setCells_other _ _ _ _ _ h]
theorem size97 : (Tryd.prog.info? 97).map (·.size) = some 5 := by kernel_rfl
theorem row97 : ∃ d, Tryd.prog.underlying 97 = some d ∧ d.isRow = true := ⟨_, Tryd.underlying97, rfl⟩
theorem at_val {P : Program} {ops : Array Oper} {rest : List Oper} {o : Oper} {a : Act} {w : World} {Q : Exit → Act → World → Prop} (hgd : o.guard = none) (v : Value) (w' : World) (hr : (execOp a.eval o).run P w = .ok (.value v) w')
 (h : wpList P ops Q rest (a.put o.dst v) w') : wpList P ops Q (o :: rest) a w :=
 wpList_plain hgd fun K hK => by
  unfold Oper.wp
  rw [hr]
  exact hK _ _ h
theorem range_hd {w : World} {X t l q o f : Nat} (h : w.heap[X]? = some (.cells (shead t l q o f) 97 (0, 0))) : w.rangeAt X 0 (hdVals (t, l, q, o, f)) := fun j v hv => by
 rw [Nat.zero_add, blk_cell h j]
 have : shead t l q o f = (hdVals (t, l, q, o, f)).toArray := rfl
 rw [this, List.getElem?_toArray]
 exact hv
theorem there_hd {w : World} {G cov t l ep : Nat} {v : Value} {hd : Nat × Nat × Nat × Nat × Nat} {st : Bool} (h : w.heap[G]? = some (.cells (fcells v cov t l hd ep st) 102 (0, 0))) : w.there G 4 5 := fun j hj => by
 rw [blk_cell h (4 + j)]
 refine ⟨?_, blk_frozen h _⟩
 have : 4 + j < (fcells v cov t l hd ep st).size := by show 4 + j < 11; omega
 rw [Array.getElem?_eq_getElem this]
 rfl
/-- The header of a message's first fragment is stored. -/
theorem started {w w7 : World} {B g rm q b o3 H G ep : Nat} {s7 : St} {a7 : Nat → At} {xa : Msg} {rest' : List Nat} {cc : Array Value} (hd : Nat × Nat × Nat × Nat × Nat) (BN : BufAt w7 B g rm s7 a7) (hm : s7.m q = some xa) (hG : (a7 q).g = G)
 (P1 : Fr B w w7) (P3 : w7.heap[H]? = some (.cells cc 92 (0, 0))) (P4 : Bytes w7 b o3 rest') (w9 : World) (h9 : w9 = ((w7.setCells G 4 (hdVals hd)).setCell ⟨G, 9, none⟩ (.int .u16 (ep : Int))).setCell ⟨G, 10, none⟩ (.bool true)) :
 Fr B w w9 ∧ w9.heap[H]? = some (.cells cc 92 (0, 0)) ∧ Bytes w9 b o3 rest' ∧ BufAt w9 B g rm (s7.set q { xa with hd := hd, ep := ep, st := true }) a7 := by
 have hmm := BN.msg q xa hm
 have hb := hmm.fb.h
 have hBG := hmm.g
 rw [hG] at hb hBG
 have ho : ∀ X, X ≠ G → w9.heap[X]? = w7.heap[X]? := fun X hX => by rw [h9]; exact hd_other X hX
 refine ⟨?_, (ho H (blk_ne P3 hb (by decide))).trans P3, P4.kept (ho b ?_), ?_⟩
 ·rw [h9]
  exact ((P1.sets hb (.inr (.inl rfl)) hBG 4 _).set (hd_stored0 hb) (.inr (.inl rfl)) hBG 9 _).set (blk_set (hd_stored0 hb) 9 _) (.inr (.inl rfl)) hBG 10 _
 ·obtain ⟨arr, fz, h1, _⟩ := P4
  exact blk_ne' h1 hb (by decide)
 ·refine BN.msgset hm ?_ rfl (by rw [hG]; exact ho)
  rw [hG, h9]
  exact hd_stored hb

theorem BufAt.own' {w : World} {B g rm q : Nat} {s : St} {a : Nat → At} {x : Msg} {y : At} (h : BufAt w B g rm s (updA a q y)) (hm : s.m q = some x) : MsgAt w B x y := by
 have := h.msg q x hm
 unfold updA at this
 rwa [if_pos rfl] at this
theorem BufAt.own {w : World} {B g rm q : Nat} {s : St} {a : Nat → At} {x : Msg} {y : At} (h : BufAt w B g rm (s.set q x) (updA a q y)) : MsgAt w B x y := by
 have := h.msg q x (by simp [St.set])
 unfold updA at this
 rwa [if_pos rfl] at this

theorem below_grown {B R : Nat} {w W W' : World} (h : Below B w W) (hg : W.grownBy W' (some R)) (hR : B ≤ R) (hB : B ≤ W.heap.size) : Below B w W' :=
 ⟨hg.os.trans h.os, hg.tape.trans h.tape, hg.output.trans h.output, Nat.le_trans h.size hg.size, fun k hk => (hg.block k (Nat.lt_of_lt_of_le hk hB) (fun e => by injection e with e; omega)).trans (h.block k hk)⟩
/-- A new message is laid into the cache: the store of push. -/
theorem put_at {w w7 : World} {B g rm q b o3 X H : Nat} {s1 : St} {a1 : Nat → At} {xa : Msg} {y : At} {rest' : List Nat} {cx cr : Array Value} (BN : BufAt w7 B g rm s1 a1) (MN : MsgAt w7 B xa y) (hq : s1.m q = none) (hnp : s1.np < 100000) (hlt : q < 65536)
 (hn : ∀ k' x', s1.m k' = some x' → (a1 k').g ≠ y.g ∧ (a1 k').b ≠ y.b) (P1 : Fr B w w7) (P2 : w7.heap[X]? = some (.cells cx 97 (0, 0))) (P3 : w7.heap[H]? = some (.cells cr 92 (0, 0))) (P4 : Bytes w7 b o3 rest') :
 ∃ w8, (Instr.mapUpdate 85 (.map (some rm)) (.int .u16 (q : Int)) (.pointer (some ⟨y.g, 0, none⟩))).run Tryd.prog w7.drew = .ok () w8 ∧ Fr B w w8 ∧ w8.heap[X]? = some (.cells cx 97 (0, 0)) ∧ w8.heap[H]? = some (.cells cr 92 (0, 0)) ∧ Bytes w8 b o3 rest' ∧ BufAt w8 B g rm { s1.set q xa with np := s1.np + 1 } (updA a1 q y) := by
 have hh : Hold w7 w7.drew := ⟨fun _ _ _ _ _ _ => rfl, fun _ _ _ _ => rfl⟩
 have BN' := BN.hold hh
 have MN' := MN.hold hh
 obtain ⟨w8, hrun, hcm, hg⟩ := BN'.map.put (by unfold maxLen; omega) q y.g hlt
 obtain ⟨es, cl, hmm⟩ := BN'.map.obj
 have hc5 : ∀ (k : Nat) (arr : Array Value) (T : TypeId) (fz : Nat × Nat), w7.heap[k]? = some (Obj.cells arr T fz) → w8.heap[k]? = some (Obj.cells arr T fz) := fun k arr T fz hk => (hg.block k (blk_lt (w := w7.drew) hk) (fun e => by injection e with e; rw [e] at hk; have hmm' : w7.heap[rm]? = _ := hmm; rw [hmm'] at hk; cases hk)).trans hk
 refine ⟨w8, hrun, P1.drew.map hg hmm BN.rm, hc5 _ _ _ _ P2, hc5 _ _ _ _ P3, ?_, ?_⟩
 ·obtain ⟨arr, fz, h1, h2⟩ := P4
  exact ⟨arr, fz, hc5 _ _ _ _ h1, h2⟩
 ·exact BN'.newmsg hq MN' hn hcm hg

/-- The end of a round: the buffer's numbers are stored. -/
theorem PushInv.last {w w7 : World} {B g rm b H ep k' o3 m' cc' : Nat} {s7 : St} {a7 : Nat → At} {fin : St × Bool} {rest' : List Nat} (BN : BufAt w7 B g rm s7 a7) (P1 : Fr B w w7) (P3 : ∃ sq, w7.heap[H]? = some (.cells (rhead 22 254 253 ep sq) 92 (0, 0))) (P4 : Bytes w7 b o3 rest') (d1 d2 : Int)
 (hlen : rest'.length = m') (hcap : m' ≤ cc') (hle : m' ≤ k') (hby : ∀ x ∈ rest', x < 256) (s8 : St) (hs8 : s8 = ⟨s7.cur, s7.sz + d2, s7.cnt + d1, s7.np, s7.m⟩) (hrun : St.frags k' s8 ep rest' false = some fin) :
 PushInv w ((w7.setCell ⟨g, 3, none⟩ (.int .i64 (s7.cnt + d1))).setCell ⟨g, 2, none⟩ (.int .i64 (s7.sz + d2))) B g rm b H ep fin o3 m' cc' k' rest' s8 a7 false := by
 have ho : ∀ X, X ≠ g → ((w7.setCell ⟨g, 3, none⟩ (.int .i64 (s7.cnt + d1))).setCell ⟨g, 2, none⟩ (.int .i64 (s7.sz + d2))).heap[X]? = w7.heap[X]? := fun X hX => by
  rw [Below.heap_setCell _ _ _ _ hX, Below.heap_setCell _ _ _ _ hX]
 have hg : ((w7.setCell ⟨g, 3, none⟩ (.int .i64 (s7.cnt + d1))).setCell ⟨g, 2, none⟩ (.int .i64 (s7.sz + d2))).heap[g]? = some (.cells (bcells rm s7.cur (s7.sz + d2) (s7.cnt + d1)) 87 (0, 0)) := by
  rw [blk_set (blk_set BN.h 3 _) 2 _]
  rfl
 obtain ⟨sq, hr⟩ := P3
 refine ⟨hlen, hcap, hle, hby, ?_, ?_, ⟨sq, ?_⟩, (P1.set BN.h (.inl rfl) BN.g 3 _).set (blk_set BN.h 3 _) (.inl rfl) BN.g 2 _, hrun⟩
 ·refine P4.kept (ho b ?_)
  obtain ⟨arr, fz, h1, _⟩ := P4
  exact blk_ne' h1 BN.h (by decide)
 ·rw [hs8]
  exact BN.bufset s7.cur (s7.sz + d2) (s7.cnt + d1) s7.np hg rfl ho
 ·exact (ho H (blk_ne hr BN.h (by decide))).trans hr
end Go.Proofs.YtjflijebcpcbmaaDoor.G
