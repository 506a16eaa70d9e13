/-
  What is proved: impl.raw (strings as slices of bytes) answers with the bytes of each string. Condition: the list is shorter than 2^40.
-/
import Derived.Test.YtaifkiafoebgcaaP0
namespace Go.Proofs.Ytaifkiafoebgcaa.P
open Go.RowKit Go.Proofs.YtaifkiafoebgcaaW.PrintWords Go.Proofs.YtaifkiafoebgcaaW.PrintLast Go.Proofs.YtaifkiafoebgcaaW.PrintMore
set_option linter.unusedVariables false
set_option linter.unusedSimpArgs false

theorem info45' : (Try.prog.info? 45).map (fun i => (i.zero, i.size, i.bytes)) = some (some (.slice none 0 0), 1, 24) := by kernel_rfl
theorem info5' : (Try.prog.info? 5).map (fun i => (i.zero, i.size, i.bytes)) = some (some (.int .u8 0), 1, 1) := by kernel_rfl

/-- A slice of bytes at the head of a block of type 5. -/
def BK (w : World) (base : Nat) (xs : List Int) (cs : List Value) : Prop :=
  ∃ b cap c m, cs = [.slice (some ⟨b, 0, none⟩) xs.length cap] ∧ xs.length ≤ cap ∧ xs.length ≤ 9223372036854775807 ∧ base ≤ b ∧ w.heap[b]? = some (.cells c 5 m) ∧ ∀ j, j < xs.length → c[j]? = some (.int .u8 (xs.getD j 0))

theorem BK.len {w : World} {base : Nat} {xs : List Int} {cs : List Value} (h : BK w base xs cs) : cs.length = 1 := by
  obtain ⟨b, cap, c, m, rfl, _⟩ := h
  rfl

theorem BK.reads {w : World} {base : Nat} {xs : List Int} {cs : List Value} (h : BK w base xs cs) : (Kd.slice 5 (Kd.int .u8)).K w xs cs := by
  obtain ⟨b, cap, c, m, rfl, h1, h2, _, h3, h4⟩ := h
  refine ⟨some ⟨b, 0, none⟩, cap, rfl, h1, ?_⟩
  refine Kd.C_of_reads (d := (0 : Int)) (h1 := fun _ => rfl) (⟨rfl, h2, fun _ => ⟨_, rfl, fun j hj => ?_⟩⟩ : ReadsOf (Value.int .u8) 0 w _ _ _)
  rw [add_plain]
  simp [World.cell?, h3, h4 j hj]

/-- What stays: blocks of type 5. -/
theorem BK.move {w w1 : World} {base : Nat} {xs : List Int} {cs : List Value} (h : BK w base xs cs)
    (hm : ∀ (b : Nat) (c : Array Value) (m : Nat × Nat), w.heap[b]? = some (Obj.cells c 5 m) → w1.heap[b]? = some (Obj.cells c 5 m)) : BK w1 base xs cs := by
  obtain ⟨b, cap, c, m, rfl, h1, h2, h0, h3, h4⟩ := h
  exact ⟨b, cap, c, m, rfl, h1, h2, h0, hm _ _ _ h3, h4⟩

theorem BK.of_bytes (W : World) (s : ByteArray) (hs : s.size ≤ 9223372036854775807) (base : Nat) (hb : base ≤ W.heap.size) :
    BK (Lib.bytesWorld W 5 s) base (bytesOf s) [.slice (some ⟨W.heap.size, 0, none⟩) s.size (grownCap W s.size 0 5)] := by
  refine ⟨W.heap.size, grownCap W s.size 0 5, _, _, by rw [bytesOf_length], by rw [bytesOf_length]; exact grownCap_ge _ _ _ _, by rw [bytesOf_length]; exact hs, hb, Lib.bytesWorld_at_new W 5 s, fun j hj => ?_⟩
  rw [bytesOf_length] at hj
  have h := Lib.bytesWorld_cell W 5 s j hj
  simp only [World.cell?, Lib.bytesWorld_at_new] at h
  simp only [Option.isSome_none, Bool.false_eq_true, if_false] at h
  rw [h]
  have h' : j < s.data.toList.length := by rw [data_length]; exact hj
  simp [bytesOf, List.getD_eq_getElem?_getD, List.getElem?_eq_getElem h']

/-- The outer row. -/
def RawRow (w : World) (base : Nat) (v : Value) (xs : List (List Int)) : Prop :=
  ∃ inner, w.ownsRow base 45 1 v xs.length inner ∧ Reps (BK w base) 1 xs inner

theorem RawRow.nil (w : World) (base : Nat) : RawRow w base (.slice none 0 0) [] := ⟨[], own_nil _ _ _ _, Reps.none _ _⟩

theorem RawRow.alloc {w : World} {base : Nat} {v : Value} {xs : List (List Int)} (h : RawRow w base v xs) (o : Obj) : RawRow (w.alloc o) base v xs := by
  obtain ⟨inner, h1, h2⟩ := h
  exact ⟨inner, h1.alloc o, h2.imp_ fun p c hp => hp.move fun b c m hb => (Below.heap_alloc w o b (Array.getElem?_eq_some_iff.1 hb).1).trans hb⟩

theorem RawRow.below {w w1 : World} {base : Nat} {v : Value} {xs : List (List Int)} (h : RawRow w base v xs) (hb : Below w.heap.size w w1) : RawRow w1 base v xs := by
  obtain ⟨inner, h1, h2⟩ := h
  exact ⟨inner, pw_own_below h1 hb, h2.imp_ fun p c hp => hp.move fun b c m hbb => (hb.block b (Array.getElem?_eq_some_iff.1 hbb).1).trans hbb⟩

theorem RawRow.reads {w : World} {base : Nat} {v : Value} {xs : List (List Int)} (h : RawRow w base v xs) : ∃ A c, v = .slice A xs.length c ∧ xs.length ≤ c ∧ Kd.C (Kd.slice 5 (Kd.int .u8)) w A xs.length xs := by
  obtain ⟨inner, h1, h2⟩ := h
  obtain ⟨A, c, he, hl, hr⟩ := OwnRow.reads (R := BK w base) ⟨inner, h1, h2⟩
  exact ⟨A, c, he, hl, hr.imp_ (Below.refl _ _) fun p c hp => hp.reads⟩

theorem type_ne {w : World} {base : Nat} {size n : Nat} {v : Value} {xs : List Value} (h : w.ownsRow base 45 size v n xs) {b : Nat} {c : Array Value} {m : Nat × Nat} (hb : w.heap[b]? = some (.cells c 5 m)) : some b ≠ v.ownBlock := by
  intro e
  obtain ⟨cells, hc⟩ := own_typed h b e.symm
  rw [hb] at hc
  injection hc with hc
  injection hc with _ hc
  exact absurd hc (by decide)

/-- What the append leaves. -/
theorem RawRow.appended {w w0 w1 : World} {base : Nat} {v v1 : Value} {xs : List (List Int)} {p : List Int} {y : Value}
    (hp : BK w base p [y]) {inner : List Value} (hi : w.ownsRow base 45 1 v xs.length inner) (h2 : Reps (BK w base) 1 xs inner)
    (hown : w1.ownsRow base 45 1 v1 (xs.length + 1) (inner ++ [y])) (hg : w.grownBy w1 v.ownBlock) : RawRow w1 base v1 (xs ++ [p]) := by
  have hm : ∀ (b : Nat) (c : Array Value) (m : Nat × Nat), w.heap[b]? = some (Obj.cells c 5 m) → w1.heap[b]? = some (Obj.cells c 5 m) := fun b c m hb =>
    (hg.block b (Array.getElem?_eq_some_iff.1 hb).1 (type_ne hi hb)).trans hb
  refine ⟨inner ++ [y], by simpa using hown, ?_⟩
  exact (h2.imp_ fun _ _ hq => BK.move hq hm).snoc (BK.move hp hm) rfl

section
variable {ops : Array Oper} {rest : List Oper} {o : Oper} {a : Act} {Q : Exit → Act → World → Prop}
theorem raw_append {w0 W : World} (base : Nat) (hgd : o.guard = none) (s x : Operand)
    (ho : o.op = .call { callee := .builtin .append, args := #[s, x], argTypes := #[35, 35] })
    (v : Value) (xs : List (List Int)) (p : List Int) (y : Value) (hs : a.eval s = v) (hx : a.eval x = .slice (some ⟨W.heap.size, 0, none⟩) 1 1) (h1 : y.oneCell' = true)
    (HO : RawRow W base v xs) (HP : BK W base p [y]) (HB : Below base w0 W) (hbase : base ≤ W.heap.size) (hl : (xs.length + 1) * 24 ≤ 140737488355328)
    (h : ∀ v1 w1, RawRow w1 base v1 (xs ++ [p]) → Below base w0 w1 → wpList Try.prog ops Q rest (a.put o.dst v1) w1) :
    wpList Try.prog ops Q (o :: rest) a (W.alloc (.cells #[y] 45)) := by
  obtain ⟨inner, hi, h2⟩ := HO
  have hlen : inner.length = xs.length := by have := h2.1; omega
  refine print_append base hgd s x 35 45 (.slice none 0 0) 24 ho Try.underlying35 info45' rfl (by decide) v inner y hs hx h1 (by rw [hlen]; exact hi) HB hbase (by rw [hlen]; exact hl) ?_
  intro v1 w1 hown hb hg _
  exact h v1 w1 (RawRow.appended (w0 := w0) HP hi h2 (by rw [← hlen]; simpa using hown) hg) hb
end

theorem take_map_snoc (l : List ByteArray) (k : Nat) (h : k < l.length) : (l.take (k + 1)).map bytesOf = (l.take k).map bytesOf ++ [bytesOf (rdOf ByteArray.empty l (k : Int))] := by
  rw [List.take_succ_eq_append_getElem h, List.map_append]
  simp [rdOf, List.getD_eq_getElem?_getD, List.getElem?_eq_getElem h]

set_option maxHeartbeats 4000000 in
set_option maxRecDepth 100000 in
theorem raw_calls (A : Option Addr) (c : Nat) (l : List ByteArray) (w : World) (hr : Kd.C Kd.string w A l.length l) (hc : l.length ≤ c) (hl : l.length ≤ 1099511627776) (hs : ∀ s ∈ l, s.size ≤ 9223372036854775807) :
    Calls Try.prog 17 #[.slice A l.length c] w fun e w' => ∃ A1 c1, e = .returned (.slice A1 (l.map bytesOf).length c1) ∧ (l.map bytesOf).length ≤ c1 ∧ Kd.C (Kd.slice 5 (Kd.int .u8)) w' A1 (l.map bytesOf).length (l.map bytesOf) ∧ Below w.heap.size w w' := by
  have HR := Aside0.mk hr
  have HC := Aside0.mk hc
  have HS := Aside0.mk hs
  clear hr hc hs
  go_enter Try.func17, Try.ntmps17
  go_wp2
  go_loopg [3, 8] l.length (fun kq v3 v8 w' => ∃ k : Nat, k ≤ l.length ∧ Aside0 (kq = l.length - k) ∧ v8 = .int .i64 (k : Int) ∧ Aside0 (RawRow w' w.heap.size v3 ((l.take k).map bytesOf)) ∧ Aside0 (Below w.heap.size w w'))
  case atStart => exact ⟨0, Nat.zero_le _, ⟨by omega⟩, rfl, ⟨RawRow.nil _ _⟩, ⟨Below.refl _ _⟩⟩
  case round =>
    obtain ⟨k, hk, HK, rfl, HO, HB⟩ := hrel
    by_cases hlt : k < l.length
    · obtain ⟨ad, e, hx⟩ := Kd.at_string HR.out (k : Int) (by omega) (by omega)
      cases e
      replace hx := (HB.out.cell (World.block_lt_of_cell? w _ hx)).trans hx
      rw [Int.toNat_natCast] at hx
      obtain ⟨s, hsdef⟩ : ∃ s, s = rdOf ByteArray.empty l (k : Int) := ⟨_, rfl⟩
      rw [← hsdef] at hx
      have HD := Aside0.mk hsdef
      have hsz : s.size ≤ 9223372036854775807 := by
        have h1 : s ∈ l := by rw [hsdef]; simp [rdOf, List.getD_eq_getElem?_getD, List.getElem?_eq_getElem hlt]
        exact HS.out s h1
      have HSZ := Aside0.mk hsz
      clear hsdef hsz
      have kb := fun W => print_bytes (P := Try.prog) 9 45 5 Try.underlying9 Try.underlying45 Try.underlying5 s W
      have hb0 := HB.out.size
      have HO2 := Aside0.mk ((HO.out).below (bytes_below (Below.refl wr.heap.size wr) (Nat.le_refl _) 5 s))
      have HP := Aside0.mk (BK.of_bytes wr s HSZ.out w.heap.size hb0)
      have HB2 := Aside0.mk (bytes_below HB.out hb0 5 s)
      have hsz2 := Aside0.mk (Lib.bytesWorld_size wr 5 s)
      have hkl : (((l.take k).map bytesOf).length + 1) * 24 ≤ 140737488355328 := by simp; omega
      have HKL := Aside0.mk hkl
      clear hkl HO hb0
      go_wp2_with (first | ((with_reducible refine gate_builtin (b := .append) (xs := #[.tmp 12, .tmp 15]) rfl ?_); at_builtin; refine raw_append (w0 := w) w.heap.size rfl (.tmp 12) (.tmp 15) rfl u3 ((l.take k).map bytesOf) (bytesOf s) _ rfl rfl rfl HO2.out HP.out HB2.out ?aS HKL.out ?_; (case aS => have h1_ := hsz2.out; have h2_ := HB.out.size; omega); intro v1 w1 ho hb; have HO3 := Aside0.mk ho; have HB3 := Aside0.mk hb; clear ho hb HO2 HP HB2 hsz2 HKL HB))
      go_roundg (l.length - (k + 1))
      case measure => have := HK.out; omega
      case rel => exact ⟨k + 1, by omega, ⟨rfl⟩, by go_num, ⟨by rw [take_map_snoc l k hlt, ← HD.out]; exact HO3.out⟩, HB3⟩
    · have hk' : k = l.length := by omega
      have HO2 := HO.out
      rw [hk', List.take_length] at HO2
      obtain ⟨A1, c1, rfl, h1, h2⟩ := HO2.reads
      have H1 := Aside0.mk h1
      have H2 := Aside0.mk h2
      clear h1 h2 HO HO2 hk'
      go_wp2
      go_ret
      exact ⟨A1, c1, rfl, H1.out, H2.out, HB.out⟩
end Go.Proofs.Ytaifkiafoebgcaa.P
