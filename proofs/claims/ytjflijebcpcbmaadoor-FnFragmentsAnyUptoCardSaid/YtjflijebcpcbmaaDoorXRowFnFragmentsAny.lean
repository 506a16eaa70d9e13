/-
 What is proved: the card 'FnFragmentsAnyUptoCardSaid': for every input of bulk at most the row's bound the law returns true and leaves its argument as it was, where the listed variables hold what the program's text lays. Conditions: the bound.
-/
import Derived.Test.YtjflijebcpcbmaaDoorCards
import Derived.Test.YtjflijebcpcbmaaDoorTie
import Derived.Test.YtjflijebcpcbmaaDoorXOp
import Derived.Test.YtjflijebcpcbmaaDoorXPuF
import Derived.WalkKit
import Derived.ProofKit
import Derived.OpenShut
import Derived.ShutString
import Derived.ChangeOld
import Derived.ChangeSame
import Derived.Below
import Derived.SizedLaws
import Derived.Handed
import Derived.Stop.Joined
import Derived.Deep.DeepHandedRow
import Derived.Deep.DeepWitnessRowRef
namespace Go.Proofs.YtjflijebcpcbmaaDoor.fnFragmentsAny
open Go.ChangeShapes Go.WideShapes Go.ChangeAt Go.WideMaps Go.WideElems Go.RowKit
open Go.ChangeMaps (open_string shut_string)
open Go.Proofs.YtjflijebcpcbmaaDoorW.PrintWords
set_option linter.unusedVariables false

section
variable {H : Type}
/-- A step, read back from its datum. -/
def stepOf : DataW H → G.S45
 | .agg [.lit (.bool b), .lit (.string s)] => ⟨b, ⟨s.toArray⟩⟩
 | _ => G.z45
theorem bytes_le (ds : List (DataW H)) : G.bytesIn (ds.map stepOf) ≤ Rows.uptoBulkAll ds := by
 induction ds with
 | nil => simp [G.bytesIn, Rows.uptoBulkAll]
 | cons d r ih =>
   have h1 : (if (stepOf d).f0 = true then (stepOf d).f1.size else 0) ≤ Rows.uptoBulk d := by
    unfold stepOf
    split
    ·rename_i b s
     have : (ByteArray.mk s.toArray).size = s.length := by simp [ByteArray.size]
     simp only [Rows.uptoBulk, Rows.uptoBulkAll, this]
     split <;> omega
    ·simp [G.z45]
   simp only [G.bytesIn, List.map_cons, List.sum_cons, Rows.uptoBulkAll] at ih ⊢
   omega
theorem two_of {cs : List Value} {u v : Value} (h : cs.length = 2) (e0 : (cs.drop 0).take 1 = [u]) (e1 : (cs.drop 1).take 1 = [v]) : cs = [u, v] := by
 match cs, h with
 | [x, y], _ =>
   simp at e0 e1
   rw [e0, e1]
theorem open_steps {enc : TypeId × Value → H} {W : World} {base : Nat} {held : Bool} {a : Option Addr} {len cap : Nat} {d : DataW H} {ps : List MemPlace}
 (h : DataW.Trod enc Tryd.prog W base (fun _ => true) held 28 (.slice a len cap) d ps) : ∃ l : List G.S45, l.length = len ∧ len ≤ cap ∧ G.bytesIn l ≤ Rows.uptoBulk d ∧ Kd.C G.k45 W a l.length l := by
 obtain ⟨fuel, hf⟩ := h
 rcases DataW.trod_slice Tryd.underlying28 hf with ⟨hcs, hx⟩ | ⟨x, l, c, elems, rest, n, _, hcs, hx, _, hl, hm, hz, hcell, _⟩
 ·simp [Value.cells] at hcs
  obtain ⟨rfl, rfl, rfl⟩ := hcs
  exact ⟨[], rfl, by omega, by simp [G.bytesIn], Open.C_nil _ _ _⟩
 ·simp [Value.cells] at hcs
  obtain ⟨rfl, rfl, rfl⟩ := hcs
  obtain ⟨hx, _⟩ := Prod.mk.inj hx
  subst hx
  have c45 : Tryd.prog.cellsOf 45 = 2 := by kernel_rfl
  have c4 : Tryd.prog.cellsOf 4 = 1 := by kernel_rfl
  have c9 : Tryd.prog.cellsOf 9 = 1 := by kernel_rfl
  rw [c45] at hcell
  have hlen : ((elems.map (·.1)).map stepOf).length = len := by rw [List.length_map, List.length_map, hz]
  refine ⟨(elems.map (·.1)).map stepOf, hlen, hl, ?_, ?_⟩
  ·have := bytes_le (elems.map (·.1))
   simp only [Rows.uptoBulk]
   omega
  ·refine ⟨rfl, by rw [hlen]; simp only [maxLen] at hm; omega, fun _ => ⟨x, rfl, fun j p hp => ?_⟩⟩
   have hj : j < elems.length := by
    have := (List.getElem?_eq_some_iff.1 hp).1
    rwa [List.length_map, List.length_map] at this
   have hp' : stepOf elems[j].1 = p := by
    rw [List.getElem?_map, List.getElem?_map, List.getElem?_eq_getElem hj] at hp
    exact Option.some.inj hp
   have hc := hcell j (by omega)
   rw [List.getElem?_eq_getElem hj] at hc
   obtain ⟨cs, h1, h2⟩ := Option.bind_eq_some_iff.1 hc
   obtain ⟨_, h3, h4⟩ := World.cells?_some h1
   obtain ⟨y0, y1, m, hx, _, g0, g1⟩ := trod_struct2 Tryd.underlying45 h2
   obtain ⟨b, e0, r0⟩ := DataW.trod_bool Tryd.underlying4 g0
   obtain ⟨s, e1, r1, _⟩ := DataW.trod_string Tryd.underlying9 g1
   rw [c4] at e0
   rw [c9] at e1
   subst r0; subst r1
   obtain rfl := two_of h3 e0 e1
   have hpp : p = ⟨b, s⟩ := by
    rw [← hp', hx]
    show G.S45.mk b ⟨s.data.toList.toArray⟩ = _
    simp
   subst hpp
   refine ⟨_, rfl, G.k45_mk W ⟨b, s⟩, fun i u hu => ?_⟩
   have hi : i < 2 := (List.getElem?_eq_some_iff.1 hu).1
   have := h4 i hi
   rw [hu] at this
   rw [← this]
   exact congrArg W.cell? (Addr.add_add x (j * 2) i).symm
end

set_option maxRecDepth 100000 in
theorem liftedUpto (os : Os) (started : os.Started) (H : Type) (enc : TypeId × Value → H) (F : Stop.Interp) :
 ReturnsInHanded {} Tryd.checked os 4 .any ((Rows.OpenSpec.upto Rows.fnFragmentsAnySpec).preRow enc Tryd.prog Tryd.f4 Rows.fnFragmentsAnyUptoRow.domain false Rows.fnFragmentsAnyUptoRow.laid) (((Rows.OpenSpec.upto Rows.fnFragmentsAnySpec).at F).post enc Tryd.prog Tryd.f4 false true false false) := by
 have hx : DataW.whole enc Tryd.prog ((World.doorLaid Tryd.prog 1000 os).forCall (fun _ _ => 0) ⟨#[], #[.slice none 0 0], []⟩).memory Tryd.f4.params.toList Rows.fnFragmentsAnySpec.vars false (#[Value.slice none 0 0] : Array Value).toList 8 = some ([.nil], [], []) := by kernel_rfl
 refine returnsInHanded_of_row (C := Tryd.checked) (s := Rows.OpenSpec.upto Rows.fnFragmentsAnySpec) ownB started (by kernel_rfl) Tryd.func4
  (witness_row_atRef (enc := enc) (C := Tryd.checked) false (World.doorLaid Tryd.prog 1000 os) #[.slice none 0 0] rfl (by kernel_rfl) (by kernel_rfl) (by kernel_rfl)
   (OpenSpec.preRow_of_cond 8 hx (by kernel_rfl) (fun k hk => by cases hk; kernel_rfl) (by kernel_rfl) (door_met os _))) ?_
 intro W base args ds gs before hval0 hW _ hcond _ hL0 _ _
 have hL : G.Laid W := of_laid hL0
 have hb := of_decide_eq_true (hcond _ rfl)
 have hval : ∀ (j : Nat) t v, Tryd.f4.params[j]? = some t → args[j]? = some v → Value.okWide Tryd.prog W .any base t v := hval0
 have hW' := hW
 obtain ⟨p, q, hA0, hV, rfl, hfz, hnd⟩ := hW
 have hA : DataW.TrodAll enc Tryd.prog W 0 (fun _ => true) true Tryd.f4.params.toList args.toList ds p := hA0
 rw [Tryd.params4] at hA hval
 obtain ⟨v0, vs0, d0, ds0, p0, q0, hargs, rfl, rfl, h0, r0⟩ := trodAll_cons hA
 obtain ⟨rfl, rfl, rfl⟩ := trodAll_nil r0
 obtain rfl : args = #[v0] := by cases args; simp_all
 obtain ⟨rfl, rfl⟩ := trodVars_none hV
 obtain ⟨a0, len0, cap0, rfl⟩ := okWide_slice Tryd.underlying28 (hval 0 28 v0 rfl rfl)
 have k0 := h0
 have lt0 : ∀ x ∈ p0, x.block < W.heap.size := by obtain ⟨m, hm⟩ := k0; exact DataW.trod_lt m _ _ _ hm
 obtain ⟨l0, rfl, hc0, hb0, hr0⟩ := open_steps h0
 have hbb : G.bytesIn l0 ≤ 2000000000000 := by
  simp only [List.append_nil, Rows.uptoBulkAll] at hb
  omega
 clear hA0 hval0
 obtain ⟨k, hp⟩ := G.FragmentsAny l0 hbb
 refine (G.laws_FnFragmentsAny.calls k _ _ l0 true W hr0 hc0 hp hL).mono fun e W' ⟨he, bel⟩ => ?_
 subst he
 exact ⟨_, rfl, _, _, _, [], _, [], hW', trodAll_mk1 (shut_bool Tryd.underlying4 _), (trodAll_cons_mk (Below.trod laidOutB' (by kernel_rfl) (of_decide_eq_true (by kernel_rfl)) k0 bel lt0) trodAll_mk0), rfl, bel.frame _, fun h => by cases h⟩
theorem saidUpto : Rows.FnFragmentsAnyUptoSaid :=
 OpenClaim.holds_of_cond 4 Tryd.f4 rfl rfl rfl rfl rfl rfl rfl ⟨rfl, rfl, rfl, rfl, rfl⟩ rfl rfl rfl rfl rfl (by kernel_rfl) Tryd.func4 (by kernel_rfl)
  (of_decide_eq_true (by kernel_rfl)) (by unfold Func.isWrapper; first | (rw [if_pos (by decide +kernel)]; kernel_rfl) | (rw [if_neg (by decide +kernel)]; exact ⟨rfl, rfl⟩))
  (fun os started H enc _ F => by rw [OpenClaim.pre_eq_preRow]; exact liftedUpto os started H enc F)
theorem plain (f : FuncId) (fn : Func) (hf : Tryd.pinned.checked.prog.funcNamed "pub-tandemry/laws.FnFragmentsAny" = some f) (hfn : Tryd.pinned.checked.prog.funcs[f]? = some fn) :
 false = Tryd.pinned.checked.prog.looks [] ∧ ∀ (j : Nat) t, fn.params[j]? = some t → Tryd.pinned.checked.prog.wantsStandIn t = false := by
 obtain rfl : f = 4 := Option.some.inj ((show Tryd.prog.funcNamed "pub-tandemry/laws.FnFragmentsAny" = some 4 by kernel_rfl).symm.trans hf) |>.symm
 obtain rfl : fn = Tryd.f4 := (Option.some.inj (Tryd.func4.symm.trans hfn)).symm
 refine ⟨by kernel_rfl, fun j t ht => ?_⟩
 rw [Tryd.params4] at ht
 have ht' := Array.mem_of_getElem? ht
 simp only [List.mem_toArray, List.mem_cons, List.not_mem_nil, or_false] at ht'
 rcases ht' with rfl
 ·exact (show Tryd.prog.wantsStandIn 28 = false by kernel_rfl)
end Go.Proofs.YtjflijebcpcbmaaDoor.fnFragmentsAny
namespace Go.Proofs.YtjflijebcpcbmaaDoor
theorem fnFragmentsAnyUpto_holds : Rows.FnFragmentsAnyUptoCardSaid :=
 Claim7.holds_tied_plain_at .later [] _ _ _ _ fnFragmentsAny.saidUpto (fun _ h => by cases h) (by kernel_rfl) (fun _ h => by cases h) fnFragmentsAnyUpto_row_tie rfl ⟨rfl, rfl⟩ (by kernel_rfl) rfl fnFragmentsAny.plain (by kernel_rfl)
#print axioms fnFragmentsAnyUpto_holds
end Go.Proofs.YtjflijebcpcbmaaDoor
