/-
 What is proved: how the ranges of one message are searched. Conditions: rising offsets; numbers below 2^31.
-/
import Derived.Test.YtjflijebcpcbmaaDoorXHead
namespace Go.Proofs.YtjflijebcpcbmaaDoor.G
open Go.RowKit Go.Proofs.YtjflijebcpcbmaaDoorW.PrintWords Go.Proofs.YtjflijebcpcbmaaDoorW.PrintLast Go.Proofs.YtjflijebcpcbmaaDoorW.PrintMore
set_option linter.unusedVariables false
set_option linter.unusedSimpArgs false

/-- A range: where it begins, how long it is, what it bears. -/
structure Rg (α : Type) where
 off : Nat
 len : Nat
 p : α
abbrev Rv := Rg (Option Addr × Nat)
def Rv.dat (r : Rv) : Value := .slice r.p.1 r.len r.p.2
def rcells : List Rv → List Value
 | [] => []
 | r :: rs => .int .u32 (r.off : Int) :: Rv.dat r :: rcells rs
theorem rcells_length : ∀ rs : List Rv, (rcells rs).length = 2 * rs.length
 | [] => rfl
 | r :: rs => by simp [rcells, rcells_length rs]; omega
theorem rcells_append : ∀ a b : List Rv, rcells (a ++ b) = rcells a ++ rcells b
 | [], _ => rfl
 | r :: rs, b => by simp [rcells, rcells_append rs b]
theorem rcells_off : ∀ (rs : List Rv) (k : Nat) (r : Rv), rs[k]? = some r → (rcells rs)[k * 2]? = some (.int .u32 (r.off : Int)) ∧ (rcells rs)[k * 2 + 1]? = some (Rv.dat r)
 | [], k, r, h => by simp at h
 | x :: xs, 0, r, h => by
   simp at h
   subst h
   exact ⟨rfl, rfl⟩
 | x :: xs, k + 1, r, h => by
   have := rcells_off xs k r (by simpa using h)
   rw [show (k + 1) * 2 = k * 2 + 1 + 1 by omega]
   exact this

/-- These are the ranges behind a slice of the package's. -/
structure RS (w : World) (b c : Nat) (rs : List Rv) (sp : List Value) : Prop where
 h : w.heap[b]? = some (.cells (rcells rs ++ sp).toArray 108 (0, 0))
 l : (rcells rs ++ sp).length = 2 * c

theorem RS.le {w : World} {b c : Nat} {rs : List Rv} {sp : List Value} (h : RS w b c rs sp) : rs.length ≤ c := by
 have := h.l
 rw [List.length_append, rcells_length] at this
 omega
theorem RS.off {w : World} {b c : Nat} {rs : List Rv} {sp : List Value} (h : RS w b c rs sp) (k : Nat) (r : Rv) (hk : rs[k]? = some r) : w.cell? ⟨b, k * 2, none⟩ = some (.int .u32 (r.off : Int)) ∧ w.cell? ⟨b, k * 2 + 1, none⟩ = some (Rv.dat r) := by
 have hl := (List.getElem?_eq_some_iff.1 hk).1
 have := rcells_off rs k r hk
 have hr := rcells_length rs
 rw [blk_cell h.h, blk_cell h.h]
 refine ⟨?_, ?_⟩
 ·rw [List.getElem?_toArray, List.getElem?_append_left (by omega)]; exact this.1
 ·rw [List.getElem?_toArray, List.getElem?_append_left (by omega)]; exact this.2

set_option maxHeartbeats 4000000 in
set_option maxRecDepth 100000 in
theorem end_calls (off len : Nat) (A : Option Addr) (c : Nat) (w : World) (h : off + len < 4294967296) :
 Calls Tryd.prog 47 #[.agg #[.int .u32 (off : Int), .slice A len c]] w fun e w' => e = .returned (.int .u32 ((off + len : Nat) : Int)) ∧ Below w.heap.size w w' := by
 have HB := Aside0.mk ((Below.refl w.heap.size w).alloc (Nat.le_refl _) (.cells #[.int .u32 (off : Int), .slice A len c] 108))
 have e1 : IntKind.u32.wrap (len : Int) = (len : Int) := by rw [IntKind.wrap_u32]; omega
 have e2 : IntKind.u32.wrap ((off : Int) + (len : Int)) = ((off + len : Nat) : Int) := by rw [IntKind.wrap_u32]; omega
 clear h
 go_enter Tryd.func47, Tryd.ntmps47
 go_wp2
 go_ret
 exact ⟨by first | rfl | (rw [← e2]; rfl), HB.out⟩

/-- The block of a message's fragments. -/
def fcells (v : Value) (cov t l : Nat) (hd : Nat × Nat × Nat × Nat × Nat) (ep : Nat) (st : Bool) : Array Value :=
 #[v, .int .u32 (cov : Int), .int .u8 (t : Int), .int .u32 (l : Int), .int .u8 (hd.1 : Int), .int .u32 (hd.2.1 : Int), .int .u16 (hd.2.2.1 : Int), .int .u32 (hd.2.2.2.1 : Int), .int .u32 (hd.2.2.2.2 : Int), .int .u16 (ep : Int), .bool st]

set_option maxHeartbeats 4000000 in
set_option maxRecDepth 100000 in
theorem probe_calls (p q : Nat) (g b c n k o x : Nat) (w : World) (hp : w.cell? ⟨p, 0, none⟩ = some (.pointer (some ⟨g, 0, none⟩))) (hq : w.cell? ⟨q, 0, none⟩ = some (.int .u32 (o : Int)))
 (hg : w.cell? ⟨g, 0, none⟩ = some (.slice (some ⟨b, 0, none⟩) n c)) (hx : w.cell? ⟨b, k * 2, none⟩ = some (.int .u32 (x : Int))) (hk : k < n) :
 Calls Tryd.prog 55 #[.int .i64 (k : Int), .pointer (some ⟨p, 0, none⟩), .pointer (some ⟨q, 0, none⟩)] w fun e w' => e = .returned (.bool (decide (o ≤ x))) ∧ Drawn0 w w' := by
 have hk' : (k : Int) < (n : Int) := by omega
 by_cases h : o ≤ x
 ·rw [decide_eq_true h]
  go_enter Tryd.func55, Tryd.ntmps55
  go_wp2
  go_quiet (fail)
  go_wp2
  go_ret
  exact ⟨rfl, by repeat (first | exact Drawn0.refl _ | apply Drawn0.step)⟩
 ·rw [decide_eq_false h]
  go_enter Tryd.func55, Tryd.ntmps55
  go_wp2
  go_quiet (fail)
  go_wp2
  go_ret
  exact ⟨rfl, by repeat (first | exact Drawn0.refl _ | apply Drawn0.step)⟩

/-- The first range that begins at o or behind it. -/
def Idx (rs : List Rv) (o i : Nat) : Prop := i ≤ rs.length ∧ (∀ (k : Nat) (r : Rv), k < i → rs[k]? = some r → r.off < o) ∧ (∀ (k : Nat) (r : Rv), i ≤ k → rs[k]? = some r → o ≤ r.off)
def Rises (rs : List Rv) : Prop := ∀ (i j : Nat) (r s : Rv), i < j → rs[i]? = some r → rs[j]? = some s → r.off < s.off ∧ r.off + r.len < s.off + s.len

set_option maxHeartbeats 8000000 in
set_option maxRecDepth 100000 in
theorem search_calls (p q g b c o : Nat) (rs : List Rv) (sp : List Value) (w : World) (hp : w.cell? ⟨p, 0, none⟩ = some (.pointer (some ⟨g, 0, none⟩))) (hq : w.cell? ⟨q, 0, none⟩ = some (.int .u32 (o : Int)))
 (hg : w.cell? ⟨g, 0, none⟩ = some (.slice (some ⟨b, 0, none⟩) rs.length c)) (hr : RS w b c rs sp) (hs : Rises rs) (hl : rs.length ≤ 1000) :
 Calls Tryd.prog 54 #[.int .i64 (rs.length : Int), .func (.func 55) #[] #[.pointer (some ⟨p, 0, none⟩), .pointer (some ⟨q, 0, none⟩)]] w fun e w' => ∃ i : Nat, e = .returned (.int .i64 (i : Int)) ∧ Idx rs o i ∧ Drawn0 w w' := by
 have HP : Aside0 (∀ m k x, k < rs.length → rs[k]? = some x → Calls Tryd.prog 55 #[.int .i64 (k : Int), .pointer (some ⟨p, 0, none⟩), .pointer (some ⟨q, 0, none⟩)] (w.drewN m) fun e w' => e = .returned (.bool (decide (o ≤ x.off))) ∧ Drawn0 (w.drewN m) w') := ⟨fun m k x hk hx => probe_calls p q g b c rs.length k o x.off (w.drewN m) hp hq hg ((hr.off k x hx).1) hk⟩
 have HS := Aside0.mk hs
 have HL := Aside0.mk hl
 clear hp hq hg hr hs hl
 go_enter Tryd.func54, Tryd.ntmps54
 go_wp2
 go_loopg [5, 6] rs.length (fun kq v5 v6 wr => ∃ (i j m : Nat), v5 = .int .i64 (i : Int) ∧ v6 = .int .i64 (j : Int) ∧ wr = w.drewN m ∧ Aside0 (i ≤ j ∧ j ≤ rs.length ∧ kq = j - i ∧ (∀ k r, k < i → rs[k]? = some r → r.off < o) ∧ (∀ k r, j ≤ k → rs[k]? = some r → o ≤ r.off)))
 case atStart => exact ⟨0, rs.length, 0, rfl, rfl, rfl, ⟨by omega, by omega, by omega, fun k r h => by omega, fun k r h1 h2 => by have := (List.getElem?_eq_some_iff.1 h2).1; omega⟩⟩
 case round =>
  obtain ⟨i, j, m, rfl, rfl, rfl, HI⟩ := hrel
  by_cases hij : i < j
  ·have hij' : (i : Int) < (j : Int) := by omega
   obtain ⟨h, hh⟩ : ∃ h, h = (i + j) / 2 := ⟨_, rfl⟩
   have hi1 : i ≤ h ∧ h < j := by omega
   have e1 : IntKind.i64.wrap ((i : Int) + (j : Int)) = (i : Int) + (j : Int) := IntWalk.i64_in _ (by have := HI.out; have := HL.out; omega)
   have e2 : IntKind.u64.wrap ((i : Int) + (j : Int)) = (i : Int) + (j : Int) := by rw [IntKind.wrap_u64]; have := HI.out; have := HL.out; omega
   have e3 : ((i : Int) + (j : Int)) / 2 = (h : Int) := by omega
   have e4 : IntKind.i64.wrap (h : Int) = (h : Int) := IntWalk.i64_in _ (by have := HI.out; have := HL.out; omega)
   obtain ⟨x, hx⟩ : ∃ x, rs[h]? = some x := ⟨_, List.getElem?_eq_getElem (by have := HI.out; omega)⟩
   have HH := Aside0.mk hi1
   have HX := Aside0.mk hx
   have HC := Aside0.mk (HP.out m h x (by have := HI.out; omega) hx)
   clear hx hi1 hh hij
   by_cases ho : o ≤ x.off
   ·rw [decide_eq_true ho] at HC
    have HO := Aside0.mk ho
    clear ho
    go_wp2_with (go_at_call 55; go_loud ((with_reducible refine (HC.out).mono ?_); rintro e w2 ⟨rfl, ⟨m2, rfl⟩⟩))
    go_roundg (h - i)
    case measure => have := HH.out; have := HI.out; omega
    case rel =>
     have q1 := HH.out
     have q2 := HI.out
     refine ⟨i, h, m + m2, rfl, rfl, rfl, ⟨⟨by omega, by omega, rfl, HI.out.2.2.2.1, fun k r hk hr => ?_⟩⟩⟩
     by_cases e : k = h
     ·subst e
      rw [HX.out] at hr
      obtain rfl := Option.some.inj hr
      exact HO.out
     ·exact Nat.le_trans HO.out (Nat.le_of_lt (HS.out h k x r (by omega) HX.out hr).1)
   ·rw [decide_eq_false ho] at HC
    have HO := Aside0.mk ho
    clear ho
    go_wp2_with (go_at_call 55; go_loud ((with_reducible refine (HC.out).mono ?_); rintro e w2 ⟨rfl, ⟨m2, rfl⟩⟩))
    go_roundg (j - (h + 1))
    case measure => have := HH.out; have := HI.out; omega
    case rel =>
     have q1 := HH.out
     have q2 := HI.out
     refine ⟨h + 1, j, m + m2, ?_, rfl, rfl, ⟨⟨by omega, by omega, rfl, fun k r hk hr => ?_, HI.out.2.2.2.2⟩⟩⟩
     ·congr 1
      rw [show ((h + 1 : Nat) : Int) = (h : Int) + 1 by omega]
      first
       | rfl
       | exact IntWalk.i64_in _ (by have := HH.out; have := HI.out; have := HL.out; omega)
       | (unfold wrap64; have := HH.out; have := HI.out; have := HL.out; omega)
     ·by_cases e : k = h
      ·subst e
       rw [HX.out] at hr
       obtain rfl := Option.some.inj hr
       exact Nat.lt_of_not_le HO.out
      ·exact Nat.lt_trans (HS.out k h r x (by omega) hr HX.out).1 (Nat.lt_of_not_le HO.out)
  ·have hij' : ¬ ((i : Int) < (j : Int)) := by omega
   have HE : Aside0 (i = j) := ⟨by have := HI.out; omega⟩
   clear hij
   go_wp2
   go_ret
   exact ⟨i, rfl, ⟨by have := HI.out; omega, HI.out.2.2.2.1, by have := HI.out.2.2.2.2; rwa [← HE.out] at this⟩, ⟨m, rfl⟩⟩

end Go.Proofs.YtjflijebcpcbmaaDoor.G
