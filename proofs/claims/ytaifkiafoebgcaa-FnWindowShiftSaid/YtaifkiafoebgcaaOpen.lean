/-
  What is proved: how the arguments of the laws (lists of strings, of bools, of whole numbers) read as lists. Conditions: none.
-/
import Derived.Test.YtaifkiafoebgcaaWWords
import Derived.WalkKit
import Derived.ProofKit
import Derived.OpenShut
import Derived.SizedLaws
import Derived.Deep.Grids
namespace Go.Proofs.Ytaifkiafoebgcaa.Open
open Go.RowKit Go.Proofs.YtaifkiafoebgcaaW.PrintWords Go.ChangeShapes Go.WideShapes
set_option linter.unusedVariables false

section
variable {H : Type} {enc : TypeId × Value → H} {P : Program} {W : World} {base : Nat} {held : Bool} {t e : TypeId} {a : Option Addr} {len cap : Nat} {d : DataW H} {ps : List MemPlace} {ts : List TypeId} {ds : List (DataW H)} {j : Nat}

theorem C_nil {α : Type} (k : Kd α) (w : World) (A : Option Addr) : k.C w A 0 [] := ⟨rfl, by omega, fun h => absurd h (by omega)⟩

theorem open_strs (hsz : (DataW.weightsEach P ts ds).all (· ≤ reachBytes) = true) (ht : ts[j]? = some t) (hd : ds[j]? = some d) (hu : P.underlying t = some (.slice e)) (he : P.underlying e = some .string) (hc : P.cellsOf e = 1) {B : Nat} (hB : P.bytesOf e = B)
    (h : DataW.Trod enc P W base (fun _ => true) held t (.slice a len cap) d ps) : ∃ l : List ByteArray, l.length = len ∧ len ≤ cap ∧ len * B ≤ 140737488351232 ∧ Kd.C Kd.string W a l.length l := by
  obtain ⟨fuel, hf⟩ := h
  rcases open_strings hu he hc hf with ⟨hcs, _⟩ | ⟨x, l, c, ss, hcs, _, hl, hm, hz, hx, hcell, _⟩
  · simp [Value.cells] at hcs
    obtain ⟨rfl, rfl, rfl⟩ := hcs
    exact ⟨[], rfl, by omega, by simp, C_nil _ _ _⟩
  · simp [Value.cells] at hcs
    obtain ⟨rfl, rfl, rfl⟩ := hcs
    obtain ⟨hx, _⟩ := Prod.mk.inj hx
    subst hx
    have z := sized_slice hsz ht hd hu
    rw [hB] at z
    have hz' : ss.length = cap := by simpa using hz
    have h1 : (strs (H := H) (ss.take len)).length + (strs (H := H) (ss.drop len)).length = ss.length := by
      simp [strs]
      omega
    rw [h1] at z
    have hlen : (ss.take len).length = len := by rw [List.length_take]; omega
    refine ⟨ss.take len, hlen, hl, Nat.le_trans (Nat.mul_le_mul_right _ (by omega)) z, ?_⟩
    refine Kd.C_of_reads (d := ByteArray.empty) (h1 := fun _ => rfl) (⟨rfl, by rw [hlen]; simp only [maxLen] at hm; omega, fun hn => ⟨x, rfl, fun i hi => ?_⟩⟩ : ReadsOf Value.string ByteArray.empty W _ _ _)
    rw [hlen] at hi
    rw [hcell i (by omega)]
    simp [List.getD_eq_getElem?_getD, hi]

theorem open_bools (hsz : (DataW.weightsEach P ts ds).all (· ≤ reachBytes) = true) (ht : ts[j]? = some t) (hd : ds[j]? = some d) (hu : P.underlying t = some (.slice e)) (he : P.underlying e = some .bool) (hc : P.cellsOf e = 1)
    (h : DataW.Trod enc P W base (fun _ => true) held t (.slice a len cap) d ps) : ∃ l : List Bool, l.length = len ∧ len ≤ cap ∧ Kd.C Kd.bool W a l.length l := by
  obtain ⟨fuel, hf⟩ := h
  rcases Go.Deep.open_bools hu he hc hf with ⟨hcs, _⟩ | ⟨x, l, c, Bf, hcs, _, hl, hm, hx, hcell⟩
  · simp [Value.cells] at hcs
    obtain ⟨rfl, rfl, rfl⟩ := hcs
    exact ⟨[], rfl, by omega, C_nil _ _ _⟩
  · simp [Value.cells] at hcs
    obtain ⟨rfl, rfl, rfl⟩ := hcs
    refine ⟨(List.range len).map Bf, by simp, hl, ?_⟩
    refine Kd.C_of_reads (d := false) (h1 := fun _ => rfl) (⟨rfl, by simp only [maxLen] at hm; simp; omega, fun hn => ⟨x, rfl, fun i hi => ?_⟩⟩ : ReadsOf Value.bool false W _ _ _)
    have hi' : i < len := by simpa using hi
    have hcl := hcell i (by first | exact hi' | (simp; omega) | omega)
    rw [hcl]
    simp [List.getD_eq_getElem?_getD, hi']

theorem open_nums {k : IntKind} (hsz : (DataW.weightsEach P ts ds).all (· ≤ reachBytes) = true) (ht : ts[j]? = some t) (hd : ds[j]? = some d) (hu : P.underlying t = some (.slice e)) (he : P.underlying e = some (.int k)) (hc : P.cellsOf e = 1)
    (h : DataW.Trod enc P W base (fun _ => true) held t (.slice a len cap) d ps) : ∃ l : List Int, l.length = len ∧ len ≤ cap ∧ (∀ x ∈ l, (Lit.int k x).wf = true) ∧ Kd.C (Kd.int k) W a l.length l := by
  obtain ⟨fuel, hf⟩ := h
  rcases open_ints hu he hc hf with ⟨hcs, _⟩ | ⟨x, l, c, zs, hcs, _, hl, hm, hz, hx, hcell, hwz⟩
  · simp [Value.cells] at hcs
    obtain ⟨rfl, rfl, rfl⟩ := hcs
    exact ⟨[], rfl, by omega, (fun x hx => absurd hx List.not_mem_nil), C_nil _ _ _⟩
  · simp [Value.cells] at hcs
    obtain ⟨rfl, rfl, rfl⟩ := hcs
    have hz' : zs.length = cap := by simpa using hz
    have hlen : (zs.take len).length = len := by rw [List.length_take]; omega
    refine ⟨zs.take len, hlen, hl, fun x hx => hwz x (List.mem_of_mem_take hx), ?_⟩
    refine Kd.C_of_reads (d := (0 : Int)) (h1 := fun _ => rfl) (⟨rfl, by rw [hlen]; simp only [maxLen] at hm; omega, fun hn => ⟨x, rfl, fun i hi => ?_⟩⟩ : ReadsOf (Value.int k) 0 W _ _ _)
    rw [hlen] at hi
    rw [hcell i (by omega)]
    simp [List.getD_eq_getElem?_getD, hi]
end
end Go.Proofs.Ytaifkiafoebgcaa.Open
