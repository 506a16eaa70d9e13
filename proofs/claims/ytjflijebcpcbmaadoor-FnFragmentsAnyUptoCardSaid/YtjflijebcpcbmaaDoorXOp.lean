/-
 What is proved: how the laws' arguments read as lists, and what the listed variables give. Conditions: none.
-/
import Derived.Test.YtjflijebcpcbmaaDoorXW
import Derived.Test.YtjflijebcpcbmaaDoorRows
import Derived.Test.YtjflijebcpcbmaaDoorXHead
import Derived.WalkKit
import Derived.ProofKit
import Derived.OpenShut
import Derived.SizedLaws
import Derived.Deep.Grids
import Derived.LaidMore
import Derived.Stop.Joined
import Derived.LaidSub
import Derived.ChangeSame
import Derived.MakeChecks
/- What is proved: how the arguments of the laws (lists of strings, of bools, of whole numbers) read as lists. Conditions: none. -/
namespace Go.Proofs.YtjflijebcpcbmaaDoor.Open
open Go.RowKit Go.Proofs.YtjflijebcpcbmaaDoorW.PrintWords Go.ChangeShapes Go.WideShapes
set_option linter.unusedVariables false

section
variable {H : Type} {enc : TypeId × Value → H} {P : Program} {W : World} {base : Nat} {held : Bool} {t e : TypeId} {a : Option Addr} {len cap : Nat} {d : DataW H} {ps : List MemPlace} {ts : List TypeId} {ds : List (DataW H)} {j : Nat}

theorem C_nil {α : Type} (k : Kd α) (w : World) (A : Option Addr) : k.C w A 0 [] := ⟨rfl, by omega, fun h => absurd h (by omega)⟩

end
end Go.Proofs.YtjflijebcpcbmaaDoor.Open

/- What is proved: what the listed package variables give the walks: the two versions lie in memory. Conditions: none. -/
namespace Go.Proofs.YtjflijebcpcbmaaDoor
open Go.ChangeShapes Go.WideShapes Go.ChangeAt Go.WideMaps Go.WideElems Go.RowKit
theorem ownB : ownKnob Tryd.prog.godebug = none := by kernel_rfl
theorem laidOutB' : laidOutB Tryd.prog = true := by kernel_rfl
theorem gV0 : Tryd.prog.globalNamed "pub-tandemry/pub/dtls/pkg/protocol.Version1_0" = some 4 := by kernel_rfl
theorem gV2 : Tryd.prog.globalNamed "pub-tandemry/pub/dtls/pkg/protocol.Version1_2" = some 5 := by kernel_rfl
theorem tV0 : (Tryd.prog.globals[4]?).map (·.type) = some 90 := by kernel_rfl
theorem tV2 : (Tryd.prog.globals[5]?).map (·.type) = some 90 := by kernel_rfl
set_option maxRecDepth 100000 in
theorem door_met (os : Os) (args : Array Value) : laidMetH Tryd.prog Rows.fnCutAnewRow.laid ((World.doorLaid Tryd.prog 1000 os).forCall (fun _ _ => 0) ⟨#[], args, []⟩).memory :=
 laidMetH_of_parts3 (fuel := 12) (laidMet_of_run' 12 (by kernel_rfl) (by kernel_rfl)) (by kernel_rfl) (by kernel_rfl)
set_option maxRecDepth 100000 in
theorem two_cells {W : World} {n : String} {g f : Nat} {cs : Array Value} {a b : Int} {q : List MemPlace} {enc : TypeId × Value → Unit} {sp : Nat → Bool} {held : Bool} {base : Nat} (hg : Tryd.prog.globalNamed n = some g) (hv : W.var? Tryd.prog n = some cs)
 (hd : DataW.trod enc Tryd.prog W base sp held f 90 cs.toList = some (.agg [.lit (.int .u8 a), .lit (.int .u8 b)], q)) : ∃ T fz, W.heap[g]? = some (.cells #[.int .u8 a, .int .u8 b] T fz) := by
 obtain ⟨y0, y1, m, hx, hl, h0, h1⟩ := trod_struct2 Tryd.underlying90 hd
 obtain ⟨k0, e0, r0, _⟩ := DataW.trod_int Tryd.underlying5 h0
 obtain ⟨k1, e1, r1, _⟩ := DataW.trod_int Tryd.underlying5 h1
 have c90 : Tryd.prog.cellsOf 90 = 2 := by kernel_rfl
 have c5 : Tryd.prog.cellsOf 5 = 1 := by kernel_rfl
 rw [c5] at e0 e1
 rw [c90] at hl
 subst r0; subst r1
 simp only [Prod.mk.injEq, DataW.agg.injEq, List.cons.injEq, DataW.lit.injEq, Lit.int.injEq, true_and, and_true] at hx
 obtain ⟨⟨rfl, rfl⟩, _⟩ := hx
 have hcs : cs = #[.int .u8 a, .int .u8 b] := by
  obtain ⟨l⟩ := cs
  match l, hl with
  | [x, y], _ =>
    simp at e0 e1
    rw [e0, e1]
 have hv' : (match W.heap[g]? with | some (.cells cs _ _) => some cs | _ => none) = some cs := by
  have := hv
  unfold World.var? at this
  rw [hg] at this
  exact this
 rw [hcs] at hv'
 clear hv hg hd h0 h1
 cases hh : W.heap[g]? with
 | none => rw [hh] at hv'; cases hv'
 | some o =>
   rw [hh] at hv'
   cases o with
   | cells c T fz => exact ⟨T, fz, by rw [show c = _ from Option.some.inj hv']⟩
   | _ => cases hv'
def isVer (x : String × DataW Unit) : Bool := x.1 == "pub-tandemry/pub/dtls/pkg/protocol.Version1_0" || x.1 == "pub-tandemry/pub/dtls/pkg/protocol.Version1_2"
theorem of_laid {W : World} (h0 : laidMetH Tryd.prog Rows.fnCutAnewRow.laid W) : G.Laid W := by
 have h := h0.filter isVer
 have e : Rows.fnCutAnewRow.laid.filter isVer = [("pub-tandemry/pub/dtls/pkg/protocol.Version1_0", Rows.laid_pub_tandemry_pub_dtls_pkg_protocol_Version1_0), ("pub-tandemry/pub/dtls/pkg/protocol.Version1_2", Rows.laid_pub_tandemry_pub_dtls_pkg_protocol_Version1_2)] := by kernel_rfl
 rw [e, MakeChecks.laidMetH_plain _ _ _ (by kernel_rfl)] at h
 obtain ⟨ps, ⟨g0, t0, cs0, f0, p0, q0, hg0, ht0, hv0, hd0, ⟨g1, t1, cs1, f1, p1, q1, hg1, ht1, hv1, hd1, _, _⟩, _⟩, _, _⟩ := h
 obtain rfl := Option.some.inj (gV0.symm.trans hg0)
 obtain rfl := Option.some.inj (gV2.symm.trans hg1)
 obtain rfl := Option.some.inj (tV0.symm.trans ht0)
 obtain rfl := Option.some.inj (tV2.symm.trans ht1)
 exact ⟨two_cells gV0 hv0 hd0, two_cells gV2 hv1 hd1⟩
end Go.Proofs.YtjflijebcpcbmaaDoor
