/- What is proved: Go functions answer as the Lean functions of this text (written by a program of this session over the print of the kit). Conditions: those in the hypotheses. -/
import Derived.Test.YtjflijebcpcbmaaDoorProg
import Derived.Test.YtjflijebcpcbmaaDoorXW
import Derived.Below
import Derived.Deep.Draws
import Derived.Deep.AppendLies
import Derived.Maps.AppendAt
import Derived.OwnWalk
import Derived.Laws.BytesArg
import Derived.Laws.MakeOwn
import Derived.Laws.OwnMore
import Derived.Deep.OwnRows
import Derived.Tactics
import Derived.Lib.ConvBytes
import Derived.Laws.Slices
import Derived.WalkKit
import Derived.KernelRfl
import Derived.RowKit3
import Derived.Deep.LoopGhost
import Derived.Deep.QuietTactic
import Derived.BigQuiet
import Derived.WideLaws
import Derived.Deep.DeepCutAuto
import Derived.Deep.CutBlock
import Derived.Deep.RegionHeld3
import Derived.Laws.Rows
import Derived.Lib.AppendStr
import Derived.ArgAppend
import Derived.Laws.IdiomCopy
import Derived.OrdersHeld
import Derived.Laws.BitsLemmas
import Derived.RowKit
namespace Go.Proofs.YtjflijebcpcbmaaDoor.G
open Go.RowKit Go.Proofs.YtjflijebcpcbmaaDoorW.PrintWords Go.Proofs.YtjflijebcpcbmaaDoorW.PrintLast Go.Proofs.YtjflijebcpcbmaaDoorW.PrintMore
attribute [local go_sem] max2_int min2_int max_two min_two max_three min_three max_four min_four   -- for this text's walks alone
set_option linter.unusedVariables false
set_option linter.unusedSimpArgs false

def errW : Option Int → Value
 | none => .nilIface
 | some c => .iface 0 (.int .i64 c)
theorem errW_none : errW none = .nilIface := rfl
theorem errW_some (c : Int) : errW (some c) = .iface 0 (.int .i64 c) := rfl

theorem info5 : (Tryd.prog.info? 5).map (fun i => (i.zero, i.size, i.bytes)) = some (some (.int .u8 0), 1, 1) := by kernel_rfl
/-! #### struct type 45 -/
structure S45 where
 f0 : Bool
 f1 : ByteArray
def z45 : S45 := ⟨false, (⟨#[]⟩ : ByteArray)⟩
def k45 : Kd S45 := Kd.iso (Kd.pair Kd.bool Kd.string) (fun x : S45 => (x.f0, x.f1))
theorem k45_open {w : World} {x : S45} {cs : List Value} (h : k45.K w x cs) : cs = [.bool x.f0, .string x.f1] := by
 obtain ⟨_, _, rfl, rfl, rfl⟩ := h
 exact rfl
theorem k45_mk (w : World) (x : S45)  : k45.K w x [.bool x.f0, .string x.f1] := ⟨[.bool x.f0], [.string x.f1], rfl, rfl, rfl⟩
def rd_T45 (xs : List S45) (i : Int) : S45 := xs.getD i.toNat z45
theorem at_T45 {w : World} {A : Option Addr} {n : Nat} {xs : List S45} (h : Kd.C k45 w A n xs) (i : Int) (h0 : 0 ≤ i) (h1 : i < n) : ∃ ad , A = some ad ∧ w.cell? (ad.add (i.toNat * 2)) = some (.bool (rd_T45 xs i).f0) ∧ w.cell? ⟨(ad.add (i.toNat * 2)).block, (ad.add (i.toNat * 2)).off + 1, none⟩ = some (.string (rd_T45 xs i).f1) := by
 obtain ⟨ad, c, e, _, hK, hc0⟩ := Kd.C_get h z45 i h0 h1
 have hc : ∀ j u, c[j]? = some u → w.cell? (ad.add (i.toNat * 2 + j)) = some u := hc0
 obtain rfl := k45_open hK
 exact ⟨ad, e, hc 0 _ rfl, by rw [← add_field _ _ 1 (by omega)]; exact hc 1 _ rfl⟩

/-! #### struct type 40 -/
structure S40 where
 f0 : Bool
 f1 : Bool
 f2 : Bool
 f3 : Bool
 f4 : ByteArray
 f5 : Int
 f6 : Int
def z40 : S40 := ⟨false, false, false, false, (⟨#[]⟩ : ByteArray), (0 : Int), (0 : Int)⟩
def k40 : Kd S40 := Kd.iso (Kd.pair Kd.bool (Kd.pair Kd.bool (Kd.pair Kd.bool (Kd.pair Kd.bool (Kd.pair Kd.string (Kd.pair (Kd.int .u16) (Kd.int .i64))))))) (fun x : S40 => (x.f0, x.f1, x.f2, x.f3, x.f4, x.f5, x.f6))
theorem k40_open {w : World} {x : S40} {cs : List Value} (h : k40.K w x cs) : cs = [.bool x.f0, .bool x.f1, .bool x.f2, .bool x.f3, .string x.f4, .int .u16 x.f5, .int .i64 x.f6] := by
 obtain ⟨_, _, rfl, rfl, ⟨_, _, rfl, rfl, ⟨_, _, rfl, rfl, ⟨_, _, rfl, rfl, ⟨_, _, rfl, rfl, ⟨_, _, rfl, rfl, rfl⟩⟩⟩⟩⟩⟩ := h
 exact rfl
theorem k40_openM {w : World} {base : Nat} {ok : Nat → Prop} {x : S40} {cs : List Value} (h : k40.M w base ok x cs) : cs = [.bool x.f0, .bool x.f1, .bool x.f2, .bool x.f3, .string x.f4, .int .u16 x.f5, .int .i64 x.f6] := by
 obtain ⟨_, _, rfl, rfl, ⟨_, _, rfl, rfl, ⟨_, _, rfl, rfl, ⟨_, _, rfl, rfl, ⟨_, _, rfl, rfl, ⟨_, _, rfl, rfl, rfl⟩⟩⟩⟩⟩⟩ := h
 exact rfl
theorem k40_mkM (w : World) (base : Nat) (ok : Nat → Prop) (x : S40)  : k40.M w base ok x [.bool x.f0, .bool x.f1, .bool x.f2, .bool x.f3, .string x.f4, .int .u16 x.f5, .int .i64 x.f6] := ⟨[.bool x.f0], [.bool x.f1, .bool x.f2, .bool x.f3, .string x.f4, .int .u16 x.f5, .int .i64 x.f6], rfl, rfl, ⟨[.bool x.f1], [.bool x.f2, .bool x.f3, .string x.f4, .int .u16 x.f5, .int .i64 x.f6], rfl, rfl, ⟨[.bool x.f2], [.bool x.f3, .string x.f4, .int .u16 x.f5, .int .i64 x.f6], rfl, rfl, ⟨[.bool x.f3], [.string x.f4, .int .u16 x.f5, .int .i64 x.f6], rfl, rfl, ⟨[.string x.f4], [.int .u16 x.f5, .int .i64 x.f6], rfl, rfl, ⟨[.int .u16 x.f5], [.int .i64 x.f6], rfl, rfl, rfl⟩⟩⟩⟩⟩⟩
def rd_T40 (xs : List S40) (i : Int) : S40 := xs.getD i.toNat z40
theorem at_T40 {w : World} {A : Option Addr} {n : Nat} {xs : List S40} (h : Kd.C k40 w A n xs) (i : Int) (h0 : 0 ≤ i) (h1 : i < n) : ∃ ad , A = some ad ∧ w.cell? (ad.add (i.toNat * 7)) = some (.bool (rd_T40 xs i).f0) ∧ w.cell? ⟨(ad.add (i.toNat * 7)).block, (ad.add (i.toNat * 7)).off + 1, none⟩ = some (.bool (rd_T40 xs i).f1) ∧ w.cell? ⟨(ad.add (i.toNat * 7)).block, (ad.add (i.toNat * 7)).off + 2, none⟩ = some (.bool (rd_T40 xs i).f2) ∧ w.cell? ⟨(ad.add (i.toNat * 7)).block, (ad.add (i.toNat * 7)).off + 3, none⟩ = some (.bool (rd_T40 xs i).f3) ∧ w.cell? ⟨(ad.add (i.toNat * 7)).block, (ad.add (i.toNat * 7)).off + 4, none⟩ = some (.string (rd_T40 xs i).f4) ∧ w.cell? ⟨(ad.add (i.toNat * 7)).block, (ad.add (i.toNat * 7)).off + 5, none⟩ = some (.int .u16 (rd_T40 xs i).f5) ∧ w.cell? ⟨(ad.add (i.toNat * 7)).block, (ad.add (i.toNat * 7)).off + 6, none⟩ = some (.int .i64 (rd_T40 xs i).f6) := by
 obtain ⟨ad, c, e, _, hK, hc0⟩ := Kd.C_get h z40 i h0 h1
 have hc : ∀ j u, c[j]? = some u → w.cell? (ad.add (i.toNat * 7 + j)) = some u := hc0
 obtain rfl := k40_open hK
 exact ⟨ad, e, hc 0 _ rfl, by rw [← add_field _ _ 1 (by omega)]; exact hc 1 _ rfl, by rw [← add_field _ _ 2 (by omega)]; exact hc 2 _ rfl, by rw [← add_field _ _ 3 (by omega)]; exact hc 3 _ rfl, by rw [← add_field _ _ 4 (by omega)]; exact hc 4 _ rfl, by rw [← add_field _ _ 5 (by omega)]; exact hc 5 _ rfl, by rw [← add_field _ _ 6 (by omega)]; exact hc 6 _ rfl⟩

end Go.Proofs.YtjflijebcpcbmaaDoor.G
