/-
 What is proved: the cache of messages, a map from numbers to blocks. Conditions: numbers below 2^16, at most 1000 entries.
-/
import Derived.Test.YtjflijebcpcbmaaDoorXHead
import Derived.Maps.OwnSet
import Derived.Carry
namespace Go.Proofs.YtjflijebcpcbmaaDoor.G
open Go.RowKit Go.Proofs.YtjflijebcpcbmaaDoorW.PrintWords Go.Proofs.YtjflijebcpcbmaaDoorW.PrintLast Go.Proofs.YtjflijebcpcbmaaDoorW.PrintMore
set_option linter.unusedVariables false
set_option linter.unusedSimpArgs false

/-- How a pointer to a message's block reads. -/
def Rp (v : Value) : Option (DataW Unit × List MemPlace) :=
 match v with
 | .pointer none => some (.lit (.int .i64 0), [])
 | .pointer (some ⟨g, 0, none⟩) => some (.lit (.int .i64 ((g : Int) + 1)), [])
 | _ => none
theorem Rp_mk (g : Nat) : Rp (.pointer (some ⟨g, 0, none⟩)) = some (.lit (.int .i64 ((g : Int) + 1)), []) := rfl
theorem Rp_inv {v : Value} {ps : List MemPlace} {g : Nat} (h : Rp v = some (.lit (.int .i64 ((g : Int) + 1)), ps)) : v = .pointer (some ⟨g, 0, none⟩) := by
 unfold Rp at h
 split at h
 ·injection h with h
  injection h with h _
  injection h with h
  injection h with _ h
  omega
 ·rename_i g'
  injection h with h
  injection h with h _
  injection h with h
  injection h with _ h
  have : g' = g := by omega
  rw [this]
 ·cases h
theorem K38 : Maps.Keyed Tryd.prog 38 := Maps.int_keyed Tryd.underlying38
theorem key38 (k : Nat) (hk : k < 65536) : keyOf Tryd.prog 38 (.int .u16 (k : Int)) = some (.int .u16 (k : Int)) :=
 Maps.keyOf_int_mk Tryd.underlying38 (by simp [Lit.wf, IntKind.min, IntKind.max, IntKind.signed, IntKind.bits]; omega)
theorem zero98 (w : World) : (zeroValue 98).run Tryd.prog w = .ok (.pointer none) w := by kernel_rfl

/-- Block b is the cache: number k has block m k. -/
def CM (w : World) (b n : Nat) (m : Nat → Option Nat) : Prop :=
 ∃ D : DataW Unit, w.ownsMap Tryd.prog 38 Rp b n D ∧ Maps.IsMap D ∧ ∀ k : Nat, k < 65536 → Maps.has D (.int .u16 (k : Int)) = (m k).isSome ∧ ∀ g, m k = some g → ∀ z, D.atKey (.int .u16 (k : Int)) z = .lit (.int .i64 ((g : Int) + 1))

theorem CM.made (w : World) : CM (w.alloc (.map #[] 0)) w.heap.size 0 (fun _ => none) :=
 ⟨.map [], World.ownsMap_made w _ _ _, Maps.isMap_empty, fun k _ => ⟨rfl, fun g h => by cases h⟩⟩
theorem CM.kept {w w' : World} {b n : Nat} {m : Nat → Option Nat} (h : CM w b n m) (hb : w'.heap[b]? = w.heap[b]?) : CM w' b n m := by
 obtain ⟨D, ⟨es, clock, h1, h2⟩, h3⟩ := h
 exact ⟨D, ⟨es, clock, hb.trans h1, h2⟩, h3⟩
theorem CM.obj {w : World} {b n : Nat} {m : Nat → Option Nat} (h : CM w b n m) : ∃ es clock, w.heap[b]? = some (.map es clock) := by
 obtain ⟨D, ⟨es, clock, h1, h2⟩, h3⟩ := h
 exact ⟨es, clock, h1⟩
theorem CM.look {w : World} {b n : Nat} {m : Nat → Option Nat} (h : CM w b n m) (k : Nat) (hk : k < 65536) :
 (∀ g, m k = some g → (Instr.lookup 85 (.map (some b)) (.int .u16 (k : Int)) true).run Tryd.prog w = .ok (.tuple #[.pointer (some ⟨g, 0, none⟩), .bool true]) w) ∧
 (m k = none → ∃ v, (Instr.lookup 85 (.map (some b)) (.int .u16 (k : Int)) true).run Tryd.prog w = .ok (.tuple #[v, .bool false]) w) := by
 obtain ⟨D, h1, h2, h3⟩ := h
 obtain ⟨h4, h5⟩ := h3 k hk
 obtain ⟨v, ps, hrun, hv⟩ := h1.look_ok K38 Tryd.underlying85 (zero98 w) (zd := .lit (.int .i64 0)) (zp := []) rfl (key38 k hk)
 refine ⟨fun g hg => ?_, fun hg => ?_⟩
 ·rw [h5 g hg] at hv
  rw [h4, hg, Rp_inv hv] at hrun
  exact hrun
 ·rw [h4, hg] at hrun
  exact ⟨v, hrun⟩
theorem u16_ne {k k' : Nat} (h : k' ≠ k) : (Lit.int .u16 (k' : Int)) ≠ .int .u16 (k : Int) := fun e => by
 injection e with _ e
 omega
theorem keylit (k : Nat) : WideAt.IsKeyLit (.int .u16 (k : Int)) := by
 first | trivial | (simp [WideAt.IsKeyLit])
theorem CM.put {w : World} {b n : Nat} {m : Nat → Option Nat} (h : CM w b n m) (hn : n < maxLen) (k g : Nat) (hk : k < 65536) :
 ∃ w', (Instr.mapUpdate 85 (.map (some b)) (.int .u16 (k : Int)) (.pointer (some ⟨g, 0, none⟩))).run Tryd.prog w = .ok () w' ∧ CM w' b (n + 1) (fun x => if x = k then some g else m x) ∧ w.grownBy w' (some b) := by
 obtain ⟨D, h1, h2, h3⟩ := h
 obtain ⟨w', hrun, h4, h5⟩ := h1.store K38 Tryd.underlying85 hn (key38 k hk) (Rp_mk g)
 refine ⟨w', hrun, ⟨_, h4, h2.put _ _, fun x hx => ?_⟩, h5.grown⟩
 by_cases e : x = k
 ·rw [e]
  refine ⟨by rw [Maps.has_put_same h2 (keylit k)]; simp, fun g' hg' z => ?_⟩
  simp at hg'
  rw [Maps.atKey_put_same h2 (keylit k), hg']
 ·obtain ⟨q1, q2⟩ := h3 x hx
  refine ⟨by rw [Maps.has_put_other (u16_ne e), q1]; simp [e], fun g' hg' z => ?_⟩
  simp [e] at hg'
  rw [Maps.atKey_put_other (u16_ne e)]
  exact q2 g' hg' z
theorem CM.del {w : World} {b n : Nat} {m : Nat → Option Nat} (h : CM w b n m) (k : Nat) (hk : k < 65536) (ty : TypeId) :
 ∃ w', (Builtin.delete_ #[85, 38] ty #[.map (some b), .int .u16 (k : Int)]).run Tryd.prog w = .ok (.tuple #[]) w' ∧ CM w' b n (fun x => if x = k then none else m x) ∧ w.grownBy w' (some b) := by
 obtain ⟨D, h1, h2, h3⟩ := h
 obtain ⟨w', hrun, h4, h5⟩ := h1.drop K38 Tryd.underlying85 (key38 k hk) ty
 refine ⟨w', hrun, ⟨_, h4, ?_, fun x hx => ?_⟩, h5.grown⟩
 ·obtain ⟨es, rfl⟩ := h2
  exact ⟨_, rfl⟩
 by_cases e : x = k
 ·rw [e]
  exact ⟨by rw [Maps.has_del_same]; simp, fun g' hg' z => by simp at hg'⟩
 ·obtain ⟨q1, q2⟩ := h3 x hx
  refine ⟨by rw [Maps.has_del_other (u16_ne e), q1]; simp [e], fun g' hg' z => ?_⟩
  simp [e] at hg'
  rw [Maps.atKey_del_other (u16_ne e)]
  exact q2 g' hg' z
end Go.Proofs.YtjflijebcpcbmaaDoor.G
