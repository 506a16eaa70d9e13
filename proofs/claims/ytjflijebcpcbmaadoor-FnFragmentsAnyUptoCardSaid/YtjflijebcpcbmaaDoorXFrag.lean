/-
 What is proved: impl.Fragments tells of a script what the plain model tells. Conditions: the model takes the script.
-/
import Derived.Test.YtjflijebcpcbmaaDoorXStp
namespace Go.Proofs.YtjflijebcpcbmaaDoor.G
open Go.RowKit Go.Proofs.YtjflijebcpcbmaaDoorW.PrintWords Go.Proofs.YtjflijebcpcbmaaDoorW.PrintLast Go.Proofs.YtjflijebcpcbmaaDoorW.PrintMore
set_option linter.unusedVariables false
set_option linter.unusedSimpArgs false

/-- The string's bytes lie in a new block. -/
theorem conv_push {w : World} {B g rm Z T : Nat} {s : St} {a : Nat → At} {cz ct : Array Value} (x : ByteArray) (hx : x.size ≤ 4294967296) (hB : BufAt w B g rm s a) (hBw : B ≤ w.heap.size) (hZ : w.heap[Z]? = some (.cells cz 53 (0, 0))) (hT : w.heap[T]? = some (.cells ct 40 (0, 0))) :
 ∃ b c w2, (convert 9 59 (.string x)).run Tryd.prog w = .ok (.slice (some ⟨b, 0, none⟩) x.size c) w2 ∧ Below w.heap.size w w2 ∧ B ≤ b ∧ x.size ≤ c ∧ c ≤ maxLen ∧ Bytes w2 b 0 (baNat x) := by
 refine ⟨w.heap.size, grownCap w x.size 0 5, Lib.bytesWorld w 5 x, ?_, ?_, hBw, grownCap_ge w x.size 0 5, grownCap_le_maxLen w x.size 0 5 (by unfold maxLen; omega), ?_⟩
 ·exact Lib.run_convert_string_bytes (P := Tryd.prog) w 9 59 5 x Tryd.underlying9 Tryd.underlying59 Tryd.underlying5
 ·exact ⟨rfl, rfl, rfl, by rw [Lib.bytesWorld_size]; omega, fun k hk => Lib.bytesWorld_at_old w 5 x k hk⟩
 ·refine ⟨_, _, Lib.bytesWorld_at_new w 5 x, fun i y hy => ?_⟩
  rw [Nat.zero_add]
  unfold Lib.bytesCells
  unfold baNat at hy
  rw [List.getElem?_map] at hy
  cases hz : x.data.toList[i]? with
  | none => rw [hz] at hy; cases hy
  | some z =>
    rw [hz] at hy
    injection hy with hy
    have hil : i < x.data.size := by have := (List.getElem?_eq_some_iff.1 hz).1; simpa using this
    rw [Array.getElem?_append_left (by simpa using hil), Array.getElem?_map]
    have : x.data[i]? = some z := by rw [← Array.getElem?_toList]; exact hz
    rw [this, ← hy]
    rfl
theorem natBa_eq (l : List Nat) : strOfNums (l.map fun x : Nat => (x : Int)) = natBa l := by
 unfold strOfNums natBa
 rw [List.map_map]
 congr 2
theorem conv_pop {w : World} {cb n c : Nat} {l : List Nat} (h : Bytes w cb 0 l) (hl : l.length = n) : (convert 59 9 (.slice (some ⟨cb, 0, none⟩) n c)).run Tryd.prog w = .ok (.string (natBa l)) w := by
 rw [← natBa_eq]
 refine run_convert_bytes_arg w 59 5 Tryd.underlying59 Tryd.underlying5 cb 0 n c _ (by simp [hl]) (fun i hi => ?_) 9 Tryd.underlying9
 have := h.cell i (by omega)
 rw [this]
 simp [List.getD_eq_getElem?_getD, List.getElem?_map]
 cases l[i]? <;> rfl

theorem neq_nil (W : World) : (binOp BinOp.neq 59 (.slice none 0 0) (.slice none 0 0)).run Tryd.prog W = .ok (.bool false) W := by kernel_rfl
theorem neq_some (cb n cp : Nat) (W : World) : (binOp BinOp.neq 59 (.slice (some ⟨cb, 0, none⟩) n cp) (.slice none 0 0)).run Tryd.prog W = .ok (.bool true) W := by kernel_rfl
/-- What holds at the head of each round of impl.Fragments' loop. -/
structure FragInv (w wr : World) (g rm Z : Nat) (l0 : List S45) (r : List S40) (k : Nat) (v4 : Value) (acc rest : List S40) (s : St) (a : Nat → At) : Prop where
 buf : BufAt wr w.heap.size g rm s a
 z : wr.heap[Z]? = some (.cells #[.pointer (some ⟨g, 0, none⟩)] 53 (0, 0))
 zl : w.heap.size ≤ Z
 bel : Below w.heap.size w wr
 out : Kd.R k40 40 wr w.heap.size (fun _ => True) v4 acc
 run : St.run s (l0.drop k) = some rest
 tot : acc ++ rest = r
 le : k ≤ l0.length
 al : acc.length = k
theorem R_keepN {w w' : World} {base : Nat} {v : Value} {xs : List S40} (h : Kd.R k40 40 w base (fun _ => True) v xs) (hk : ∀ (k : Nat) (cs : Array Value), w.heap[k]? = some (.cells cs 40 (0, 0)) → w'.heap[k]? = w.heap[k]?) : Kd.R k40 40 w' base (fun _ => True) v xs := by
 refine Kd.R_mono (Kd.R_move (Kd.R_bound h) (fun k hq => ?_)) (fun k _ => trivial)
 obtain ⟨_, _, _, q, hq, cells, hc⟩ := hq
 have : q = 40 := by
  have hE : k40.E = [] := rfl
  rw [hE] at hq
  simpa using hq
 subst this
 exact hk k cells hc
theorem R_ne' {w : World} {base k : Nat} {v : Value} {xs : List S40} {o : Obj} (h : Kd.R k40 40 w base (fun _ => True) v xs) (hk : w.heap[k]? = some o) (ho : ∀ cs, o ≠ .cells cs 40 (0, 0)) : some k ≠ v.ownBlock := fun e => by
 obtain ⟨inner, hown⟩ := Kd.R_own h
 obtain ⟨cells, hc⟩ := own_typed hown k e.symm
 rw [hk] at hc
 injection hc with hc
 exact ho cells hc
theorem wnx' (k : Nat) (h : k < 1000000) : wrap64 ((k : Int) + 1) = ((k + 1 : Nat) : Int) := by
 unfold wrap64
 omega
/-- The world behind the stores of a step's told. -/
structure Told (w4 W5 : World) (T : Nat) (cs : Array Value) : Prop where
 t : W5.heap[T]? = some (.cells cs 40 (0, 0))
 o : ∀ Y, Y ≠ T → W5.heap[Y]? = w4.heap[Y]?
 os : W5.os = w4.os
 tape : W5.tape = w4.tape
 output : W5.output = w4.output
 size : W5.heap.size = w4.heap.size
theorem Told.set {w4 W5 : World} {T : Nat} {cs : Array Value} (h : Told w4 W5 T cs) (j : Nat) (v : Value) : Told w4 (W5.setCell ⟨T, j, none⟩ v) T (cs.setIfInBounds j v) :=
 ⟨blk_set h.t j v, fun Y hY => (Below.heap_setCell W5 ⟨T, j, none⟩ v Y hY).trans (h.o Y hY), h.os, h.tape, h.output, by simpa [World.setCell] using h.size⟩
theorem Told.refl {w4 : World} {T : Nat} {cs : Array Value} (h : w4.heap[T]? = some (.cells cs 40 (0, 0))) : Told w4 w4 T cs := ⟨h, fun _ _ => rfl, rfl, rfl, rfl, rfl⟩
theorem Told.drew {w4 W5 : World} {T : Nat} {cs : Array Value} (h : Told w4 W5 T cs) : Told w4 W5.drew T cs := ⟨h.t, h.o, h.os, h.tape, h.output, h.size⟩
theorem Told.hold {w4 W5 : World} {T : Nat} {cs cs0 : Array Value} (h : Told w4 W5 T cs) (h0 : w4.heap[T]? = some (.cells cs0 40 (0, 0))) : Hold w4 W5 :=
 ⟨fun k arr T' fz hk hT => h.o k (blk_ne' hk h0 (by rcases hT with e | e | e | e | e <;> rw [e] <;> decide)), fun k es cl hk => h.o k (fun e => by rw [e, h0] at hk; cases hk)⟩
theorem Told.below {B : Nat} {w w4 W5 : World} {T : Nat} {cs : Array Value} (h : Told w4 W5 T cs) (hb : Below B w w4) (hT : B ≤ T) : Below B w W5 :=
 ⟨h.os.trans hb.os, h.tape.trans hb.tape, h.output.trans hb.output, by rw [h.size]; exact hb.size, fun k hk => (h.o k (by omega)).trans (hb.block k hk)⟩

set_option maxHeartbeats 8000000 in
set_option maxRecDepth 100000 in
theorem impl_Fragments.calls (A0 : Option Addr) (c0 : Nat) (l0 : List S45) (r : List S40) (w : World) (hr0 : Kd.C k45 w A0 l0.length l0) (hc0 : l0.length ≤ c0) (h : impl_Fragments.f l0 = some r) (HL : Laid w) :
 Calls Tryd.prog 14 #[.slice A0 l0.length c0] w fun e w' => ∃ v0_ : Value, e = .returned v0_ ∧ Kd.R k40 40 w' w.heap.size (fun _ => True) v0_ r ∧ Below w.heap.size w w' := by
 unfold impl_Fragments.f at h
 split at h
 case isFalse => cases h
 rename_i hlt
 have HLT := Aside0.mk hlt
 have HR0 := Aside0.mk hr0
 have HC0 := Aside0.mk hc0
 have HRUN := Aside0.mk h
 have HLL := Aside0.mk HL
 have hu40 := Tryd.underlying40
 clear hr0 hc0 h HL hlt
 go_enter Tryd.func14, Tryd.ntmps14
 go_wp2_with (fail)
 refine (zznew_calls w).mono ?_
 rintro e w1 ⟨g, rm, rfl, q1, q2, q3, q4, q5⟩
 have hbuf : BufAt w1 w.heap.size g rm St.new (fun _ => ⟨0, 0, 0, [], []⟩) := ⟨q1, q2, q3, q4, fun k x hk => (by cases hk), fun k k' x x' _ hk _ => (by cases hk)⟩
 have HBUF := Aside0.mk hbuf
 have HB1 := Aside0.mk q5
 clear q1 q2 q3 q4 q5 hbuf
 go_wp2_with (fail)
 obtain ⟨W0, hW0⟩ : ∃ W, W = w1.alloc (.cells #[.pointer (some ⟨g, 0, none⟩)] 53) := ⟨_, rfl⟩
 obtain ⟨Z, hZ⟩ : ∃ Z, Z = w1.heap.size := ⟨_, rfl⟩
 rw [← hW0, ← hZ]
 have hb01 : Below w1.heap.size w1 W0 := by rw [hW0]; exact (Below.refl _ _).alloc (Nat.le_refl _) _
 have HI : Aside0 (FragInv w W0 g rm Z l0 r 0 (.slice none 0 0) [] r St.new (fun _ => ⟨0, 0, 0, [], []⟩)) := ⟨⟨HBUF.out.hold (Hold.below hb01), by rw [hW0, hZ]; exact heap_alloc_new _ _, by rw [hZ]; exact HB1.out.size, below_then HB1.out HB1.out.size hb01, Kd.R_nil _ _ _ _ _, HRUN.out, rfl, Nat.zero_le _, rfl⟩⟩
 clear hW0 hZ hb01
 obtain ⟨n, hn⟩ : ∃ n, n = l0.length := ⟨_, rfl⟩
 rw [← hn]
 have HN := Aside0.mk hn
 clear hn
 go_loopg [4, 16] n (fun kq v4 v16 wr => ∃ (k : Nat) (acc rest : List S40) (s : St) (a : Nat → At), v16 = .int .i64 (k : Int) ∧ Aside0 (kq = n - k) ∧ Aside0 (FragInv w wr g rm Z l0 r k v4 acc rest s a))
 case atStart => exact ⟨0, [], r, St.new, _, rfl, ⟨rfl⟩, HI⟩
 case round =>
  clear HI
  obtain ⟨k, acc, rest, s, a, rfl, HK, HI⟩ := hrel
  by_cases hk : k < n
  ·have hkn : (k : Int) < (n : Int) := by omega
   have hkl : k < l0.length := by rw [← HN.out]; exact hk
   obtain ⟨ad0, e0, u0, u1⟩ := at_T45 HR0.out (k : Int) (by omega) (by omega)
   cases e0
   rw [Int.toNat_natCast] at u0 u1
   have hbw := HI.out.bel
   replace u0 := (hbw.cell (World.block_lt_of_cell? w _ u0)).trans u0
   replace u1 := (hbw.cell (World.block_lt_of_cell? w _ u1)).trans u1
   have hrd : rd_T45 l0 k = l0[k] := by simp [rd_T45, List.getD_eq_getElem?_getD, List.getElem?_eq_getElem hkl]
   obtain ⟨x, hx⟩ : ∃ x, x = rd_T45 l0 k := ⟨_, rfl⟩
   rw [← hx] at u0 u1 hrd
   have hrun := HI.out.run
   rw [List.drop_eq_getElem_cons hkl, ← hrd, St.run] at hrun
   obtain ⟨t, s', rest', hstep, hrun', hrest⟩ : ∃ t s' rest', s.step x = some (t, s') ∧ St.run s' (l0.drop (k + 1)) = some rest' ∧ rest = t :: rest' := by
    cases hs : s.step x with
    | none => rw [hs] at hrun; cases hrun
    | some p =>
      rw [hs] at hrun
      cases hr' : St.run p.2 (l0.drop (k + 1)) with
      | none => simp [hr'] at hrun
      | some l => simp [hr'] at hrun; exact ⟨p.1, p.2, l, rfl, hr', hrun.symm⟩
   have HRUN' := Aside0.mk hrun'
   have HREST := Aside0.mk hrest
   have HL1 : Aside0 (Laid wr) := ⟨HLL.out.below hbw⟩
   have hz := HI.out.z
   clear hkl hbw hrd hx hrun hrun' hrest
   obtain ⟨xb, xd⟩ := x
   simp only at u0 u1
   unfold St.step at hstep
   cases xb
   ·rw [if_neg (fun e => by cases e)] at hstep
    split at hstep
    case isFalse => cases hstep
    rename_i hcur
    obtain ⟨told, hp, ht⟩ : ∃ told, s.pop = some (told, s') ∧ t = (match told with
     | none => ⟨false, false, false, false, (⟨#[]⟩ : ByteArray), 0, s'.sz⟩
     | some (b, ep) => ⟨false, false, false, true, natBa b, (ep : Int), s'.sz⟩ : S40) := by
     cases hp : s.pop with
     | none => rw [hp] at hstep; cases hstep
     | some p =>
       obtain ⟨p1, p2⟩ := p
       rw [hp] at hstep
       simp at hstep
       obtain ⟨h1, rfl⟩ := hstep
       exact ⟨p1, rfl, h1.symm⟩
    clear hstep
    cases told with
    | none =>
      simp only at ht
      go_upto_region 10 with (fail)
      obtain ⟨W2, hW2⟩ : ∃ W, W = (wr.alloc (.cells #[.bool false, .string xd] 45)).alloc (.cells #[.bool false, .bool false, .bool false, .bool false, .string ⟨#[]⟩, .int .u16 0, .int .i64 0] 40) := ⟨_, rfl⟩
      obtain ⟨X, hX⟩ : ∃ X, X = wr.heap.size := ⟨_, rfl⟩
      obtain ⟨T, hT⟩ : ∃ T, T = wr.heap.size + 1 := ⟨_, rfl⟩
      rw [← hW2, ← hT]
      have hb2 : Below wr.heap.size wr W2 := by rw [hW2]; exact ((Below.refl _ _).alloc (Nat.le_refl _) _).alloc (by simp) _
      have kX : W2.heap[X]? = some (.cells #[.bool false, .string xd] 45 (0, 0)) := by rw [hW2, hX]; exact heap_alloc2_old wr _ _
      have kT : W2.heap[T]? = some (.cells #[.bool false, .bool false, .bool false, .bool false, .string ⟨#[]⟩, .int .u16 0, .int .i64 0] 40 (0, 0)) := by rw [hW2, hT]; exact heap_alloc2_new wr _ _
      have kZ : W2.heap[Z]? = some (.cells #[.pointer (some ⟨g, 0, none⟩)] 53 (0, 0)) := (hb2.block Z (blk_lt hz)).trans hz
      have hB2 : BufAt W2 w.heap.size g rm s a := HI.out.buf.hold (Hold.below hb2)
      have hw2 : w.heap.size ≤ W2.heap.size := Nat.le_trans HI.out.bel.size hb2.size
      try rw [← hX]
      have z0 : W2.cell? ⟨Z, 0, none⟩ = some (.pointer (some ⟨g, 0, none⟩)) := blk_cell kZ 0
      have HB23 : Aside0 (Below wr.heap.size wr W2) := ⟨hb2⟩
      have KT3 := Aside0.mk kT
      have KZ3 := Aside0.mk kZ
      have HTT : Aside0 (wr.heap.size ≤ T) := ⟨by omega⟩
      have HTV := Aside0.mk ht
      have HST := Aside0.mk (step_none w.heap.size g rm s s' a W2 hB2 hw2 hcur hp)
      clear hW2 hX hT hb2 kX kT kZ hB2 hw2 hp ht u0 u1 hz hcur
      go_wp2_with (fail)
      refine (HST.out).mono ?_
      rintro e w4 ⟨_, _, rfl, rfl, rfl, ⟨a', hB4⟩, hF4⟩
      have hne := neq_nil w4.drew
      have hcv0 : ∀ W, (convert 59 9 (.slice none 0 0)).run Tryd.prog W = .ok (.string (⟨#[]⟩ : ByteArray)) W := fun W => run_convert_bytes_nil (P := Tryd.prog) W 59 5 Tryd.underlying59 Tryd.underlying5 0 0 9 Tryd.underlying9
      have hcv1 := hcv0 w4
      have hcv2 := hcv1
      have kT4 := (hF4.keep _ _ _ _ KT3.out (by decide) (by decide) (by decide)).trans KT3.out
      have kZ4 := (hF4.keep _ _ _ _ KZ3.out (by decide) (by decide) (by decide)).trans KZ3.out
      have HB4 := Aside0.mk hB4
      have HF4 := Aside0.mk hF4
      have KZ4 := Aside0.mk kZ4
      have KT4 := Aside0.mk kT4
      have s0 : w4.cell? ⟨T, 0, none⟩ = some (.bool false) := blk_cell kT4 0
      have s1 : w4.cell? ⟨T, 1, none⟩ = some (.bool false) := blk_cell kT4 1
      have s2 : w4.cell? ⟨T, 2, none⟩ = some (.bool false) := blk_cell kT4 2
      have s3 : w4.cell? ⟨T, 3, none⟩ = some (.bool false) := blk_cell kT4 3
      have s4 : w4.cell? ⟨T, 4, none⟩ = some (.string ⟨#[]⟩) := blk_cell kT4 4
      have s5 : w4.cell? ⟨T, 5, none⟩ = some (.int .u16 0) := blk_cell kT4 5
      have f0 := blk_frozen kT4 0
      have f1 := blk_frozen kT4 1
      have f2 := blk_frozen kT4 2
      have f3 := blk_frozen kT4 3
      have f4 := blk_frozen kT4 4
      have f5 := blk_frozen kT4 5
      clear hB4 hF4 kT4 kZ4
      go_upto_region 11 with (fail)
      go_region
      go_upto_region 12 with (fail)
      clear hcv0 hcv1 hcv2 hne
      obtain ⟨W5, hW5⟩ : ∃ W, W = (((w4.setCell ⟨T, 3, none⟩ (.bool false)).setCell ⟨T, 4, none⟩ (.string (⟨#[]⟩ : ByteArray))).setCell ⟨T, 5, none⟩ (.int .u16 0)).drew := ⟨_, rfl⟩
      rw [← hW5]
      have hT5 : Told w4 W5 T #[.bool false, .bool false, .bool false, .bool false, .string (⟨#[]⟩ : ByteArray), .int .u16 0, .int .i64 0] := by rw [hW5]; exact ((((Told.refl KT4.out).set 3 _).set 4 _).set 5 _).drew
      have hB5 := HB4.out.hold (hT5.hold KT4.out)
      have kZ5 : W5.heap[Z]? = some (.cells #[.pointer (some ⟨g, 0, none⟩)] 53 (0, 0)) := (hT5.o Z (blk_ne' KZ4.out KT4.out (by decide))).trans KZ4.out
      have HSZ := Aside0.mk (zzsize_calls g rm s'.cur s'.sz s'.cnt W5 hB5.h)
      have z5 : W5.cell? ⟨Z, 0, none⟩ = some (.pointer (some ⟨g, 0, none⟩)) := blk_cell kZ5 0
      have HT5 := Aside0.mk hT5
      have HB5 := Aside0.mk hB5
      have KZ5 := Aside0.mk kZ5
      clear hT5 hB5 kZ5 hW5 s0 s1 s2 s3 s4 s5 f0 f1 f2 f3 f4 f5
      go_wp2_with (fail)
      refine (HSZ.out).mono ?_
      rintro e w6 ⟨rfl, h6⟩
      have kT6 := (h6.block T (blk_lt HT5.out.t)).trans HT5.out.t
      have s6 : w6.cell? ⟨T, 6, none⟩ = some (.int .i64 0) := blk_cell kT6 6
      have f6 := blk_frozen kT6 6
      have H6 := Aside0.mk h6
      have KT6 := Aside0.mk kT6
      clear h6 kT6
      go_upto_region 13 with (fail)
      obtain ⟨W7, hW7⟩ : ∃ W, W = w6.setCell ⟨T, 6, none⟩ (.int .i64 s'.sz) := ⟨_, rfl⟩
      rw [← hW7]
      have hT7 : Told w6 W7 T #[.bool false, .bool false, .bool false, .bool false, .string (⟨#[]⟩ : ByteArray), .int .u16 0, .int .i64 s'.sz] := by rw [hW7]; exact (Told.refl KT6.out).set 6 _
      have hB6 := HB5.out.hold (Hold.below H6.out)
      have hB7 := hB6.hold (hT7.hold KT6.out)
      have kZ6 := (H6.out.block Z (blk_lt KZ5.out)).trans KZ5.out
      have kZ7 : W7.heap[Z]? = some (.cells #[.pointer (some ⟨g, 0, none⟩)] 53 (0, 0)) := (hT7.o Z (blk_ne' kZ6 KT6.out (by decide))).trans kZ6
      have hbw4 : Below w.heap.size w w4 := (below_then HI.out.bel HI.out.bel.size HB23.out).trans HF4.out.bel
      have hTB : w.heap.size ≤ T := Nat.le_trans HI.out.bel.size HTT.out
      have hbw5 := HT5.out.below hbw4 hTB
      have hbw6 : Below w.heap.size w w6 := below_then hbw5 hbw5.size H6.out
      have hbw7 := hT7.below hbw6 hTB
      have hR7 : Kd.R k40 40 W7 w.heap.size (fun _ => True) u4 acc := R_keepN HI.out.out (fun q cs hq => by
       have hql := blk_lt hq
       have hqT : q ≠ T := by have := HTT.out; omega
       have a3 := (HB23.out.block q hql).trans hq
       have a4 := (HF4.out.keep q cs 40 (0, 0) a3 (by decide) (by decide) (by decide)).trans a3
       have a5 := (HT5.out.o q hqT).trans a4
       have a6 := (H6.out.block q (blk_lt a5)).trans a5
       exact ((hT7.o q hqT).trans a6).trans hq.symm)
      have c0 : W7.cell? ⟨T, 0, none⟩ = some (.bool false) := blk_cell hT7.t 0
      have c1 : W7.cell? ⟨T, 1, none⟩ = some (.bool false) := blk_cell hT7.t 1
      have c2 : W7.cell? ⟨T, 2, none⟩ = some (.bool false) := blk_cell hT7.t 2
      have c3 : W7.cell? ⟨T, 3, none⟩ = some (.bool false) := blk_cell hT7.t 3
      have c4 : W7.cell? ⟨T, 4, none⟩ = some (.string (⟨#[]⟩ : ByteArray)) := blk_cell hT7.t 4
      have c5 : W7.cell? ⟨T, 5, none⟩ = some (.int .u16 0) := blk_cell hT7.t 5
      have c6 : W7.cell? ⟨T, 6, none⟩ = some (.int .i64 s'.sz) := blk_cell hT7.t 6
      have HB7 := Aside0.mk hB7
      have KZ7 := Aside0.mk kZ7
      have HW7 := Aside0.mk hbw7
      have HR7 := Aside0.mk hR7
      have HAL : Aside0 (acc.length < 1000000) := ⟨by have := HI.out.al; have := HN.out; have := HLT.out; omega⟩
      clear hW7 hT7 hB6 hB7 kZ6 kZ7 hbw4 hTB hbw5 hbw6 hbw7 hR7 s6 f6 z5
      go_wp2_with (first | ((with_reducible refine gate_builtin (b := .append) (xs := #[.tmp 54, .tmp 56]) rfl ?_); at_builtin; go_loud (refine Kd.R_append k40 (w0 := w) w.heap.size rfl (.tmp 54) (.tmp 56) 32 40 (.agg #[.bool false, .bool false, .bool false, .bool false, .string ⟨#[]⟩, .int .u16 0, .int .i64 0]) 40 rfl Tryd.underlying32 info40 rfl (by decide) (by omega) u4 acc (⟨false, false, false, false, (⟨#[]⟩ : ByteArray), 0, s'.sz⟩ : S40) [.bool false, .bool false, .bool false, .bool false, .string (⟨#[]⟩ : ByteArray), .int .u16 0, .int .i64 s'.sz] (fun _ => True) (fun _ => False) rfl rfl (k40_mkM _ _ _ (⟨false, false, false, false, (⟨#[]⟩ : ByteArray), 0, s'.sz⟩ : S40)) (fun _ hk => hk.elim) (fun _ _ => trivial) HR7.out HW7.out HW7.out.size (by have := HAL.out; omega) ?_; intro v8 w8 ho hb hg hat; have RO := Aside0.mk ho; have RB := Aside0.mk hb; have RG := Aside0.mk hg; clear ho hb hg hat)))
      go_roundg (n - (k + 1))
      case measure => have := HK.out; omega
      case rel =>
       have hkl : k < 1000000 := by have := HN.out; have := HLT.out; omega
       refine ⟨k + 1, acc ++ [(⟨false, false, false, false, (⟨#[]⟩ : ByteArray), 0, s'.sz⟩ : S40)], rest', s', a', by rw [wnx' k hkl], ⟨rfl⟩, ⟨⟨?_, ?_, HI.out.zl, RB.out, RO.out, HRUN'.out, ?_, by have := HN.out; omega, by rw [List.length_append, HI.out.al]; rfl⟩⟩⟩
       ·exact HB7.out.hold ⟨fun q arr T' fz hq hT => RG.out.block q (blk_lt hq) (R_ne' HR7.out hq (fun cs e => by injection e with _ e2 _; rcases hT with r | r | r | r | r <;> (rw [r] at e2; exact absurd e2 (by decide)))), fun q es cl hq => RG.out.block q (blk_lt hq) (R_ne' HR7.out hq (fun cs e => by cases e))⟩
       ·exact (RG.out.block Z (blk_lt KZ7.out) (R_ne' HR7.out KZ7.out (fun cs e => by injection e with _ e2 _; exact absurd e2 (by decide)))).trans KZ7.out
       ·rw [← HI.out.tot, HREST.out, HTV.out, List.append_assoc]
        rfl
    | some be =>
      obtain ⟨body, ep⟩ := be
      simp only at ht
      go_upto_region 10 with (fail)
      obtain ⟨W2, hW2⟩ : ∃ W, W = (wr.alloc (.cells #[.bool false, .string xd] 45)).alloc (.cells #[.bool false, .bool false, .bool false, .bool false, .string ⟨#[]⟩, .int .u16 0, .int .i64 0] 40) := ⟨_, rfl⟩
      obtain ⟨X, hX⟩ : ∃ X, X = wr.heap.size := ⟨_, rfl⟩
      obtain ⟨T, hT⟩ : ∃ T, T = wr.heap.size + 1 := ⟨_, rfl⟩
      rw [← hW2, ← hT]
      have hb2 : Below wr.heap.size wr W2 := by rw [hW2]; exact ((Below.refl _ _).alloc (Nat.le_refl _) _).alloc (by simp) _
      have kX : W2.heap[X]? = some (.cells #[.bool false, .string xd] 45 (0, 0)) := by rw [hW2, hX]; exact heap_alloc2_old wr _ _
      have kT : W2.heap[T]? = some (.cells #[.bool false, .bool false, .bool false, .bool false, .string ⟨#[]⟩, .int .u16 0, .int .i64 0] 40 (0, 0)) := by rw [hW2, hT]; exact heap_alloc2_new wr _ _
      have kZ : W2.heap[Z]? = some (.cells #[.pointer (some ⟨g, 0, none⟩)] 53 (0, 0)) := (hb2.block Z (blk_lt hz)).trans hz
      have hB2 : BufAt W2 w.heap.size g rm s a := HI.out.buf.hold (Hold.below hb2)
      have hw2 : w.heap.size ≤ W2.heap.size := Nat.le_trans HI.out.bel.size hb2.size
      try rw [← hX]
      have z0 : W2.cell? ⟨Z, 0, none⟩ = some (.pointer (some ⟨g, 0, none⟩)) := blk_cell kZ 0
      have HB23 : Aside0 (Below wr.heap.size wr W2) := ⟨hb2⟩
      have KT3 := Aside0.mk kT
      have KZ3 := Aside0.mk kZ
      have HTT : Aside0 (wr.heap.size ≤ T) := ⟨by omega⟩
      have HTV := Aside0.mk ht
      have HST := Aside0.mk (step_some w.heap.size g rm s s' a body ep W2 hB2 hw2 hp)
      clear hW2 hX hT hb2 kX kT kZ hB2 hw2 hp ht u0 u1 hz hcur
      go_wp2_with (fail)
      refine (HST.out).mono ?_
      rintro e w4 ⟨_, _, rfl, ⟨cb, cp, rfl, hcp, hby⟩, rfl, ⟨a', hB4⟩, hF4⟩
      have hne := neq_some cb body.length cp w4.drew
      have hcv0 := conv_pop (c := cp) hby rfl
      have hcv1 := conv_pop (w := w4.drew) (c := cp) hby rfl
      have kT4 := (hF4.keep _ _ _ _ KT3.out (by decide) (by decide) (by decide)).trans KT3.out
      have kZ4 := (hF4.keep _ _ _ _ KZ3.out (by decide) (by decide) (by decide)).trans KZ3.out
      have HB4 := Aside0.mk hB4
      have HF4 := Aside0.mk hF4
      have KZ4 := Aside0.mk kZ4
      have KT4 := Aside0.mk kT4
      have s0 : w4.cell? ⟨T, 0, none⟩ = some (.bool false) := blk_cell kT4 0
      have s1 : w4.cell? ⟨T, 1, none⟩ = some (.bool false) := blk_cell kT4 1
      have s2 : w4.cell? ⟨T, 2, none⟩ = some (.bool false) := blk_cell kT4 2
      have s3 : w4.cell? ⟨T, 3, none⟩ = some (.bool false) := blk_cell kT4 3
      have s4 : w4.cell? ⟨T, 4, none⟩ = some (.string ⟨#[]⟩) := blk_cell kT4 4
      have s5 : w4.cell? ⟨T, 5, none⟩ = some (.int .u16 0) := blk_cell kT4 5
      have f0 := blk_frozen kT4 0
      have f1 := blk_frozen kT4 1
      have f2 := blk_frozen kT4 2
      have f3 := blk_frozen kT4 3
      have f4 := blk_frozen kT4 4
      have f5 := blk_frozen kT4 5
      clear hB4 hF4 kT4 kZ4
      have hcv2 : ∀ j v, (convert 59 9 (.slice (some ⟨cb, 0, none⟩) body.length cp)).run Tryd.prog (w4.setCell ⟨T, j, none⟩ v).drew = .ok (.string (natBa body)) (w4.setCell ⟨T, j, none⟩ v).drew := fun j v => conv_pop (w := (w4.setCell ⟨T, j, none⟩ v).drew) (by
       obtain ⟨arr, fz, h1, h2⟩ := hby
       exact ⟨arr, fz, (Below.heap_setCell w4 ⟨T, j, none⟩ v cb (blk_ne' h1 KT4.out (by decide))).trans h1, h2⟩) rfl
      have hcv3 : ∀ j v j' v', (convert 59 9 (.slice (some ⟨cb, 0, none⟩) body.length cp)).run Tryd.prog ((w4.setCell ⟨T, j, none⟩ v).setCell ⟨T, j', none⟩ v').drew = .ok (.string (natBa body)) ((w4.setCell ⟨T, j, none⟩ v).setCell ⟨T, j', none⟩ v').drew := fun j v j' v' => conv_pop (w := ((w4.setCell ⟨T, j, none⟩ v).setCell ⟨T, j', none⟩ v').drew) (by
       obtain ⟨arr, fz, h1, h2⟩ := hby
       exact ⟨arr, fz, (Below.heap_setCell _ ⟨T, j', none⟩ v' cb (blk_ne' h1 KT4.out (by decide))).trans ((Below.heap_setCell w4 ⟨T, j, none⟩ v cb (blk_ne' h1 KT4.out (by decide))).trans h1), h2⟩) rfl
      clear hby
      go_upto_region 11 with (fail)
      go_region
      go_upto_region 12 with (fail)
      clear hcv0 hcv1 hcv2 hcv3 hne
      obtain ⟨W5, hW5⟩ : ∃ W, W = (((w4.setCell ⟨T, 3, none⟩ (.bool true)).setCell ⟨T, 4, none⟩ (.string (natBa body))).setCell ⟨T, 5, none⟩ (.int .u16 (ep : Int))).drew := ⟨_, rfl⟩
      rw [← hW5]
      have hT5 : Told w4 W5 T #[.bool false, .bool false, .bool false, .bool true, .string (natBa body), .int .u16 (ep : Int), .int .i64 0] := by rw [hW5]; exact ((((Told.refl KT4.out).set 3 _).set 4 _).set 5 _).drew
      have hB5 := HB4.out.hold (hT5.hold KT4.out)
      have kZ5 : W5.heap[Z]? = some (.cells #[.pointer (some ⟨g, 0, none⟩)] 53 (0, 0)) := (hT5.o Z (blk_ne' KZ4.out KT4.out (by decide))).trans KZ4.out
      have HSZ := Aside0.mk (zzsize_calls g rm s'.cur s'.sz s'.cnt W5 hB5.h)
      have z5 : W5.cell? ⟨Z, 0, none⟩ = some (.pointer (some ⟨g, 0, none⟩)) := blk_cell kZ5 0
      have HT5 := Aside0.mk hT5
      have HB5 := Aside0.mk hB5
      have KZ5 := Aside0.mk kZ5
      clear hT5 hB5 kZ5 hW5 s0 s1 s2 s3 s4 s5 f0 f1 f2 f3 f4 f5
      go_wp2_with (fail)
      refine (HSZ.out).mono ?_
      rintro e w6 ⟨rfl, h6⟩
      have kT6 := (h6.block T (blk_lt HT5.out.t)).trans HT5.out.t
      have s6 : w6.cell? ⟨T, 6, none⟩ = some (.int .i64 0) := blk_cell kT6 6
      have f6 := blk_frozen kT6 6
      have H6 := Aside0.mk h6
      have KT6 := Aside0.mk kT6
      clear h6 kT6
      go_upto_region 13 with (fail)
      obtain ⟨W7, hW7⟩ : ∃ W, W = w6.setCell ⟨T, 6, none⟩ (.int .i64 s'.sz) := ⟨_, rfl⟩
      rw [← hW7]
      have hT7 : Told w6 W7 T #[.bool false, .bool false, .bool false, .bool true, .string (natBa body), .int .u16 (ep : Int), .int .i64 s'.sz] := by rw [hW7]; exact (Told.refl KT6.out).set 6 _
      have hB6 := HB5.out.hold (Hold.below H6.out)
      have hB7 := hB6.hold (hT7.hold KT6.out)
      have kZ6 := (H6.out.block Z (blk_lt KZ5.out)).trans KZ5.out
      have kZ7 : W7.heap[Z]? = some (.cells #[.pointer (some ⟨g, 0, none⟩)] 53 (0, 0)) := (hT7.o Z (blk_ne' kZ6 KT6.out (by decide))).trans kZ6
      have hbw4 : Below w.heap.size w w4 := (below_then HI.out.bel HI.out.bel.size HB23.out).trans HF4.out.bel
      have hTB : w.heap.size ≤ T := Nat.le_trans HI.out.bel.size HTT.out
      have hbw5 := HT5.out.below hbw4 hTB
      have hbw6 : Below w.heap.size w w6 := below_then hbw5 hbw5.size H6.out
      have hbw7 := hT7.below hbw6 hTB
      have hR7 : Kd.R k40 40 W7 w.heap.size (fun _ => True) u4 acc := R_keepN HI.out.out (fun q cs hq => by
       have hql := blk_lt hq
       have hqT : q ≠ T := by have := HTT.out; omega
       have a3 := (HB23.out.block q hql).trans hq
       have a4 := (HF4.out.keep q cs 40 (0, 0) a3 (by decide) (by decide) (by decide)).trans a3
       have a5 := (HT5.out.o q hqT).trans a4
       have a6 := (H6.out.block q (blk_lt a5)).trans a5
       exact ((hT7.o q hqT).trans a6).trans hq.symm)
      have c0 : W7.cell? ⟨T, 0, none⟩ = some (.bool false) := blk_cell hT7.t 0
      have c1 : W7.cell? ⟨T, 1, none⟩ = some (.bool false) := blk_cell hT7.t 1
      have c2 : W7.cell? ⟨T, 2, none⟩ = some (.bool false) := blk_cell hT7.t 2
      have c3 : W7.cell? ⟨T, 3, none⟩ = some (.bool true) := blk_cell hT7.t 3
      have c4 : W7.cell? ⟨T, 4, none⟩ = some (.string (natBa body)) := blk_cell hT7.t 4
      have c5 : W7.cell? ⟨T, 5, none⟩ = some (.int .u16 (ep : Int)) := blk_cell hT7.t 5
      have c6 : W7.cell? ⟨T, 6, none⟩ = some (.int .i64 s'.sz) := blk_cell hT7.t 6
      have HB7 := Aside0.mk hB7
      have KZ7 := Aside0.mk kZ7
      have HW7 := Aside0.mk hbw7
      have HR7 := Aside0.mk hR7
      have HAL : Aside0 (acc.length < 1000000) := ⟨by have := HI.out.al; have := HN.out; have := HLT.out; omega⟩
      clear hW7 hT7 hB6 hB7 kZ6 kZ7 hbw4 hTB hbw5 hbw6 hbw7 hR7 s6 f6 z5
      go_wp2_with (first | ((with_reducible refine gate_builtin (b := .append) (xs := #[.tmp 54, .tmp 56]) rfl ?_); at_builtin; go_loud (refine Kd.R_append k40 (w0 := w) w.heap.size rfl (.tmp 54) (.tmp 56) 32 40 (.agg #[.bool false, .bool false, .bool false, .bool false, .string ⟨#[]⟩, .int .u16 0, .int .i64 0]) 40 rfl Tryd.underlying32 info40 rfl (by decide) (by omega) u4 acc (⟨false, false, false, true, (natBa body), (ep : Int), s'.sz⟩ : S40) [.bool false, .bool false, .bool false, .bool true, .string (natBa body), .int .u16 (ep : Int), .int .i64 s'.sz] (fun _ => True) (fun _ => False) rfl rfl (k40_mkM _ _ _ (⟨false, false, false, true, (natBa body), (ep : Int), s'.sz⟩ : S40)) (fun _ hk => hk.elim) (fun _ _ => trivial) HR7.out HW7.out HW7.out.size (by have := HAL.out; omega) ?_; intro v8 w8 ho hb hg hat; have RO := Aside0.mk ho; have RB := Aside0.mk hb; have RG := Aside0.mk hg; clear ho hb hg hat)))
      go_roundg (n - (k + 1))
      case measure => have := HK.out; omega
      case rel =>
       have hkl : k < 1000000 := by have := HN.out; have := HLT.out; omega
       refine ⟨k + 1, acc ++ [(⟨false, false, false, true, (natBa body), (ep : Int), s'.sz⟩ : S40)], rest', s', a', by rw [wnx' k hkl], ⟨rfl⟩, ⟨⟨?_, ?_, HI.out.zl, RB.out, RO.out, HRUN'.out, ?_, by have := HN.out; omega, by rw [List.length_append, HI.out.al]; rfl⟩⟩⟩
       ·exact HB7.out.hold ⟨fun q arr T' fz hq hT => RG.out.block q (blk_lt hq) (R_ne' HR7.out hq (fun cs e => by injection e with _ e2 _; rcases hT with r | r | r | r | r <;> (rw [r] at e2; exact absurd e2 (by decide)))), fun q es cl hq => RG.out.block q (blk_lt hq) (R_ne' HR7.out hq (fun cs e => by cases e))⟩
       ·exact (RG.out.block Z (blk_lt KZ7.out) (R_ne' HR7.out KZ7.out (fun cs e => by injection e with _ e2 _; exact absurd e2 (by decide)))).trans KZ7.out
       ·rw [← HI.out.tot, HREST.out, HTV.out, List.append_assoc]
        rfl
   ·rw [if_pos rfl] at hstep
    obtain ⟨hs, ag, hp, ht⟩ : ∃ hs ag, s.push (baNat xd) = some (hs, ag, s') ∧ t = ⟨hs, ag, false, false, (⟨#[]⟩ : ByteArray), 0, s'.sz⟩ := by
     cases hp : s.push (baNat xd) with
     | none => rw [hp] at hstep; cases hstep
     | some p =>
       obtain ⟨p1, p2, p3⟩ := p
       rw [hp] at hstep
       simp at hstep
       obtain ⟨h1, rfl⟩ := hstep
       exact ⟨p1, p2, rfl, h1.symm⟩
    have hsz : xd.size ≤ 4294967296 := by
     unfold St.push at hp
     split at hp
     case isFalse => cases hp
     rename_i hc
     have := hc.2.2.2.2.1
     have := hc.2.2.2.2.2
     rw [baNat_length] at this
     omega
    clear hstep
    go_upto_region 8 with (fail)
    obtain ⟨W2, hW2⟩ : ∃ W, W = (wr.alloc (.cells #[.bool true, .string xd] 45)).alloc (.cells #[.bool false, .bool false, .bool false, .bool false, .string ⟨#[]⟩, .int .u16 0, .int .i64 0] 40) := ⟨_, rfl⟩
    obtain ⟨X, hX⟩ : ∃ X, X = wr.heap.size := ⟨_, rfl⟩
    obtain ⟨T, hT⟩ : ∃ T, T = wr.heap.size + 1 := ⟨_, rfl⟩
    rw [← hW2, ← hT]
    have hb2 : Below wr.heap.size wr W2 := by rw [hW2]; exact ((Below.refl _ _).alloc (Nat.le_refl _) _).alloc (by simp) _
    have kX : W2.heap[X]? = some (.cells #[.bool true, .string xd] 45 (0, 0)) := by rw [hW2, hX]; exact heap_alloc2_old wr _ _
    have kT : W2.heap[T]? = some (.cells #[.bool false, .bool false, .bool false, .bool false, .string ⟨#[]⟩, .int .u16 0, .int .i64 0] 40 (0, 0)) := by rw [hW2, hT]; exact heap_alloc2_new wr _ _
    have kZ : W2.heap[Z]? = some (.cells #[.pointer (some ⟨g, 0, none⟩)] 53 (0, 0)) := (hb2.block Z (blk_lt hz)).trans hz
    have hB2 : BufAt W2 w.heap.size g rm s a := HI.out.buf.hold (Hold.below hb2)
    have hw2 : w.heap.size ≤ W2.heap.size := Nat.le_trans HI.out.bel.size hb2.size
    try rw [← hX]
    obtain ⟨b, c, W3, hcv, hb3, hBb, hc1, hc2, hby⟩ := conv_push xd hsz hB2 hw2 kZ kT
    have x1 : W2.cell? ⟨X, 1, none⟩ = some (.string xd) := blk_cell kX 1
    have z0 : W2.cell? ⟨Z, 0, none⟩ = some (.pointer (some ⟨g, 0, none⟩)) := blk_cell kZ 0
    have HST := Aside0.mk (step_push w.heap.size g rm b xd.size c s s' a (baNat xd) hs ag W3 ((HL1.out.below hb2).below hb3) (hB2.hold (Hold.below hb3)) hBb (Nat.le_trans hw2 hb3.size) hby (baNat_length xd) hc1 hc2 (baNat_lt xd) hp)
    have HB23 : Aside0 (Below wr.heap.size wr W3) := ⟨below_then hb2 hb2.size hb3⟩
    have KT3 : Aside0 (W3.heap[T]? = some (.cells #[.bool false, .bool false, .bool false, .bool false, .string ⟨#[]⟩, .int .u16 0, .int .i64 0] 40 (0, 0))) := ⟨(hb3.block T (blk_lt kT)).trans kT⟩
    have KZ3 : Aside0 (W3.heap[Z]? = some (.cells #[.pointer (some ⟨g, 0, none⟩)] 53 (0, 0))) := ⟨(hb3.block Z (blk_lt kZ)).trans kZ⟩
    have HTT : Aside0 (wr.heap.size ≤ T) := ⟨by omega⟩
    have HTV := Aside0.mk ht
    clear hW2 hX hT hb2 kX kT kZ hB2 hw2 hb3 hBb hc1 hc2 hby hp ht u0 u1 hz hsz
    go_wp2_with (fail)
    refine (HST.out).mono ?_
    rintro e w4 ⟨p1, p2, p3, rfl, rfl, rfl, rfl, ⟨a', hB4⟩, hF4⟩
    have kT4 := (hF4.keep _ _ _ _ KT3.out (by decide) (by decide) (by decide)).trans KT3.out
    have kZ4 := (hF4.keep _ _ _ _ KZ3.out (by decide) (by decide) (by decide)).trans KZ3.out
    have HB4 := Aside0.mk hB4
    have HF4 := Aside0.mk hF4
    have KZ4 := Aside0.mk kZ4
    have KT4 := Aside0.mk kT4
    have s0 : w4.cell? ⟨T, 0, none⟩ = some (.bool false) := blk_cell kT4 0
    have s1 : w4.cell? ⟨T, 1, none⟩ = some (.bool false) := blk_cell kT4 1
    have s2 : w4.cell? ⟨T, 2, none⟩ = some (.bool false) := blk_cell kT4 2
    have s3 : w4.cell? ⟨T, 3, none⟩ = some (.bool false) := blk_cell kT4 3
    have s4 : w4.cell? ⟨T, 4, none⟩ = some (.string ⟨#[]⟩) := blk_cell kT4 4
    have s5 : w4.cell? ⟨T, 5, none⟩ = some (.int .u16 0) := blk_cell kT4 5
    have f0 := blk_frozen kT4 0
    have f1 := blk_frozen kT4 1
    have f2 := blk_frozen kT4 2
    have f3 := blk_frozen kT4 3
    have f4 := blk_frozen kT4 4
    have f5 := blk_frozen kT4 5
    clear hB4 hF4 kT4 kZ4
    go_upto_region 9 with (fail)
    go_region
    go_upto_region 12 with (fail)
    obtain ⟨W5, hW5⟩ : ∃ W, W = (((w4.setCell ⟨T, 0, none⟩ (.bool p1)).setCell ⟨T, 1, none⟩ (.bool p2)).setCell ⟨T, 2, none⟩ (.bool false)).drew := ⟨_, rfl⟩
    rw [← hW5]
    have hT5 : Told w4 W5 T #[.bool p1, .bool p2, .bool false, .bool false, .string (⟨#[]⟩ : ByteArray), .int .u16 0, .int .i64 0] := by rw [hW5]; exact ((((Told.refl KT4.out).set 0 _).set 1 _).set 2 _).drew
    have hB5 := HB4.out.hold (hT5.hold KT4.out)
    have kZ5 : W5.heap[Z]? = some (.cells #[.pointer (some ⟨g, 0, none⟩)] 53 (0, 0)) := (hT5.o Z (blk_ne' KZ4.out KT4.out (by decide))).trans KZ4.out
    have HSZ := Aside0.mk (zzsize_calls g rm s'.cur s'.sz s'.cnt W5 hB5.h)
    have z5 : W5.cell? ⟨Z, 0, none⟩ = some (.pointer (some ⟨g, 0, none⟩)) := blk_cell kZ5 0
    have HT5 := Aside0.mk hT5
    have HB5 := Aside0.mk hB5
    have KZ5 := Aside0.mk kZ5
    clear hT5 hB5 kZ5 hW5 s0 s1 s2 s3 s4 s5 f0 f1 f2 f3 f4 f5
    go_wp2_with (fail)
    refine (HSZ.out).mono ?_
    rintro e w6 ⟨rfl, h6⟩
    have kT6 := (h6.block T (blk_lt HT5.out.t)).trans HT5.out.t
    have s6 : w6.cell? ⟨T, 6, none⟩ = some (.int .i64 0) := blk_cell kT6 6
    have f6 := blk_frozen kT6 6
    have H6 := Aside0.mk h6
    have KT6 := Aside0.mk kT6
    clear h6 kT6
    go_upto_region 13 with (fail)
    obtain ⟨W7, hW7⟩ : ∃ W, W = w6.setCell ⟨T, 6, none⟩ (.int .i64 s'.sz) := ⟨_, rfl⟩
    rw [← hW7]
    have hT7 : Told w6 W7 T #[.bool p1, .bool p2, .bool false, .bool false, .string (⟨#[]⟩ : ByteArray), .int .u16 0, .int .i64 s'.sz] := by rw [hW7]; exact (Told.refl KT6.out).set 6 _
    have hB6 := HB5.out.hold (Hold.below H6.out)
    have hB7 := hB6.hold (hT7.hold KT6.out)
    have kZ6 := (H6.out.block Z (blk_lt KZ5.out)).trans KZ5.out
    have kZ7 : W7.heap[Z]? = some (.cells #[.pointer (some ⟨g, 0, none⟩)] 53 (0, 0)) := (hT7.o Z (blk_ne' kZ6 KT6.out (by decide))).trans kZ6
    have hbw4 : Below w.heap.size w w4 := (below_then HI.out.bel HI.out.bel.size HB23.out).trans HF4.out.bel
    have hTB : w.heap.size ≤ T := Nat.le_trans HI.out.bel.size HTT.out
    have hbw5 := HT5.out.below hbw4 hTB
    have hbw6 : Below w.heap.size w w6 := below_then hbw5 hbw5.size H6.out
    have hbw7 := hT7.below hbw6 hTB
    have hR7 : Kd.R k40 40 W7 w.heap.size (fun _ => True) u4 acc := R_keepN HI.out.out (fun q cs hq => by
     have hql := blk_lt hq
     have hqT : q ≠ T := by have := HTT.out; omega
     have a3 := (HB23.out.block q hql).trans hq
     have a4 := (HF4.out.keep q cs 40 (0, 0) a3 (by decide) (by decide) (by decide)).trans a3
     have a5 := (HT5.out.o q hqT).trans a4
     have a6 := (H6.out.block q (blk_lt a5)).trans a5
     exact ((hT7.o q hqT).trans a6).trans hq.symm)
    have c0 : W7.cell? ⟨T, 0, none⟩ = some (.bool p1) := blk_cell hT7.t 0
    have c1 : W7.cell? ⟨T, 1, none⟩ = some (.bool p2) := blk_cell hT7.t 1
    have c2 : W7.cell? ⟨T, 2, none⟩ = some (.bool false) := blk_cell hT7.t 2
    have c3 : W7.cell? ⟨T, 3, none⟩ = some (.bool false) := blk_cell hT7.t 3
    have c4 : W7.cell? ⟨T, 4, none⟩ = some (.string (⟨#[]⟩ : ByteArray)) := blk_cell hT7.t 4
    have c5 : W7.cell? ⟨T, 5, none⟩ = some (.int .u16 0) := blk_cell hT7.t 5
    have c6 : W7.cell? ⟨T, 6, none⟩ = some (.int .i64 s'.sz) := blk_cell hT7.t 6
    have HB7 := Aside0.mk hB7
    have KZ7 := Aside0.mk kZ7
    have HW7 := Aside0.mk hbw7
    have HR7 := Aside0.mk hR7
    have HAL : Aside0 (acc.length < 1000000) := ⟨by have := HI.out.al; have := HN.out; have := HLT.out; omega⟩
    clear hW7 hT7 hB6 hB7 kZ6 kZ7 hbw4 hTB hbw5 hbw6 hbw7 hR7 s6 f6 z5
    go_wp2_with (first | ((with_reducible refine gate_builtin (b := .append) (xs := #[.tmp 54, .tmp 56]) rfl ?_); at_builtin; go_loud (refine Kd.R_append k40 (w0 := w) w.heap.size rfl (.tmp 54) (.tmp 56) 32 40 (.agg #[.bool false, .bool false, .bool false, .bool false, .string ⟨#[]⟩, .int .u16 0, .int .i64 0]) 40 rfl Tryd.underlying32 info40 rfl (by decide) (by omega) u4 acc (⟨p1, p2, false, false, (⟨#[]⟩ : ByteArray), 0, s'.sz⟩ : S40) [.bool p1, .bool p2, .bool false, .bool false, .string (⟨#[]⟩ : ByteArray), .int .u16 0, .int .i64 s'.sz] (fun _ => True) (fun _ => False) rfl rfl (k40_mkM _ _ _ (⟨p1, p2, false, false, (⟨#[]⟩ : ByteArray), 0, s'.sz⟩ : S40)) (fun _ hk => hk.elim) (fun _ _ => trivial) HR7.out HW7.out HW7.out.size (by have := HAL.out; omega) ?_; intro v8 w8 ho hb hg hat; have RO := Aside0.mk ho; have RB := Aside0.mk hb; have RG := Aside0.mk hg; clear ho hb hg hat)))
    go_roundg (n - (k + 1))
    case measure => have := HK.out; omega
    case rel =>
     have hkl : k < 1000000 := by have := HN.out; have := HLT.out; omega
     refine ⟨k + 1, acc ++ [(⟨p1, p2, false, false, (⟨#[]⟩ : ByteArray), 0, s'.sz⟩ : S40)], rest', s', a', by rw [wnx' k hkl], ⟨rfl⟩, ⟨⟨?_, ?_, HI.out.zl, RB.out, RO.out, HRUN'.out, ?_, by have := HN.out; omega, by rw [List.length_append, HI.out.al]; rfl⟩⟩⟩
     ·exact HB7.out.hold ⟨fun q arr T' fz hq hT => RG.out.block q (blk_lt hq) (R_ne' HR7.out hq (fun cs e => by injection e with _ e2 _; rcases hT with r | r | r | r | r <;> (rw [r] at e2; exact absurd e2 (by decide)))), fun q es cl hq => RG.out.block q (blk_lt hq) (R_ne' HR7.out hq (fun cs e => by cases e))⟩
     ·exact (RG.out.block Z (blk_lt KZ7.out) (R_ne' HR7.out KZ7.out (fun cs e => by injection e with _ e2 _; exact absurd e2 (by decide)))).trans KZ7.out
     ·rw [← HI.out.tot, HREST.out, HTV.out, List.append_assoc]
      rfl
  ·have hkn : ¬ (k : Int) < (n : Int) := by omega
   have hrun := HI.out.run
   rw [List.drop_of_length_le (by have := HN.out; omega), St.run] at hrun
   injection hrun with hrun
   have htot := HI.out.tot
   rw [← hrun, List.append_nil] at htot
   subst htot
   clear hrun
   go_wp2_with (fail)
   go_ret
   exact ⟨_, rfl, HI.out.out, HI.out.bel⟩
end Go.Proofs.YtjflijebcpcbmaaDoor.G
