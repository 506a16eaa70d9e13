/-
  What is proved: the card 'FnCutAnewCardSaid': for every input the law returns true and leaves its arguments as they were, where the listed variables hold what the program's text lays. Conditions: none.
-/
import Derived.Test.YtjflijebcpcbmaaDoorCards
import Derived.Test.YtjflijebcpcbmaaDoorTie
import Derived.Test.YtjflijebcpcbmaaDoorOp
import Derived.Test.YtjflijebcpcbmaaDoorG5
import Derived.Test.YtjflijebcpcbmaaDoorPu
import Derived.WalkKit
import Derived.ProofKit
import Derived.OpenShut
import Derived.ShutString
import Derived.ChangeOld
import Derived.Below
import Derived.SizedLaws
import Derived.Handed
import Derived.Stop.Joined
namespace Go.Proofs.YtjflijebcpcbmaaDoor.G
open Go.RowKit Go.Proofs.YtjflijebcpcbmaaDoorW.PrintWords Go.Proofs.YtjflijebcpcbmaaDoorW.PrintLast Go.Proofs.YtjflijebcpcbmaaDoorW.PrintMore
set_option linter.unusedVariables false
set_option linter.unusedSimpArgs false

theorem isLight_one {b : ByteArray} {n : Int} (h : isLight [b] n = true) : ∃ m : Nat, n = m ∧ b.size < 600 ∧ 1 ≤ m ∧ m ≤ 1000 ∧ b.size ≤ 100 * m := by
  unfold isLight at h
  have hs : sumB [b] = b.size := by simp [sumB]
  rw [hs] at h
  simp only [Bool.and_eq_true, Bool.or_eq_true, decide_eq_true_eq] at h
  obtain ⟨⟨⟨⟨⟨h1, h2⟩, h3⟩, h4⟩, h5⟩, h6⟩ := h
  exact ⟨n.toNat, by omega, h3, by omega, by omega, by omega⟩
theorem piece_small {b : ByteArray} {q : Nat} {x : ByteArray} {p : Pc} (h : IsPiece b q x p) (hb : b.size < 900000) : x.size < 1000000 := by
  obtain ⟨h1, h2, h3, h4⟩ := h
  rw [h4, pieceBa_size _ _ _ _ h2]
  omega
theorem Pieces.all {P : ByteArray → Pc → Prop} {a : List ByteArray} {c : List Pc} (h : Pieces P a c) {Q : ByteArray → Prop} (hi : ∀ x p, P x p → Q x) : ∀ x ∈ a, Q x := by
  induction h with
  | nil => intro x hx; simp at hx
  | cons h1 _ ih =>
    intro x hx
    rcases List.mem_cons.1 hx with rfl | hx
    · exact hi _ _ h1
    · exact ih x hx
theorem Pieces.allp {P : ByteArray → Pc → Prop} {a : List ByteArray} {c : List Pc} (h : Pieces P a c) {Q : Pc → Prop} (hi : ∀ x p, P x p → Q p) : ∀ p ∈ c, Q p := by
  induction h with
  | nil => intro x hx; simp at hx
  | cons h1 _ ih =>
    intro x hx
    rcases List.mem_cons.1 hx with rfl | hx
    · exact hi _ _ h1
    · exact ih x hx

/-! ### A message cut anew -/
theorem cutloop_go (x0 : ByteArray) (res : Bool) (n : Nat) (hn : n < 900000) (fin : List ByteArray) (hf : Evt (fun k => laws_FnCutAnew.l0 k x0 fin (n : Int) (n : Int)) res) : ∀ (d j : Nat) (pre xs : List ByteArray), j + d = n → pre.length = j → xs.length = d → (∀ x ∈ xs, x.size < 1000000) → fin = pre ++ recsFrom 0 j xs → Evt (fun k => laws_FnCutAnew.l0 k x0 (pre ++ xs) (n : Int) (j : Int)) res
  | 0, j, pre, xs, h, hp, hx, hs, hfin => by
    have : xs = [] := List.eq_nil_of_length_eq_zero hx
    subst this
    have hj : j = n := by omega
    subst hj
    rw [hfin] at hf
    exact hf
  | d + 1, j, pre, xs, h, hp, hx, hs, hfin => by
    cases xs with
    | nil => simp at hx
    | cons x xs =>
      have hr := record_evt j x (by omega) (hs x (by simp))
      have ih := cutloop_go x0 res n hn fin hf d (j + 1) (pre ++ [recBa j x]) xs (by omega) (by simp [hp]) (by simpa using hx) (fun y hy => hs y (by simp [hy])) (by rw [hfin, recsFrom, rec_later]; simp)
      have hset : (pre ++ x :: xs).set (j : Int).toNat (recBa j x) = (pre ++ [recBa j x]) ++ xs := by
        rw [Int.toNat_natCast, ← hp, List.set_append_right _ _ (Nat.le_refl _)]
        simp
      have hrd : rdOf ByteArray.empty (pre ++ x :: xs) (j : Int) = x := by
        rw [rdOf_at _ j (by simp [hp])]
        rw [List.getElem_append_right (by omega)]
        simp [hp]
      have hw : wrap64 ((j : Int) + 1) = ((j + 1 : Nat) : Int) := by rw [wrapi _ (by omega) (by omega)]; omega
      have hlen : j < (pre ++ x :: xs).length := by simp [hp]
      refine Evt.step (hr.bind (g := fun k t180 => laws_FnCutAnew.l0 k x0 ((pre ++ x :: xs).set (j : Int).toNat t180) (n : Int) (wrap64 ((j : Int) + 1))) ?_) (fun k => ?_)
      · rw [hset, hw]
        exact ih
      · rw [laws_FnCutAnew.l0, if_pos (by omega), if_pos (by omega), if_pos (by omega), hrd]
theorem cut_main (b : ByteArray) (n m : Nat) (by_ : List Int) (hb : b.size < 600) (hn : 1 ≤ n) (hn' : n ≤ 1000) (hm : 1 ≤ m) (hm' : m ≤ 1000) (h1 : b.size ≤ 100 * n) (h2 : b.size ≤ 100 * m) : Evt (fun k => laws_FnCutAnew.j1 k b (n : Int) (m : Int) by_ false) true := by
  obtain ⟨xs1, ps1, a1, a2, a3, a4, a5⟩ := cut_evt b 0 n 100 (by omega) (by omega) (by omega) (by omega) h1 (by omega) (by omega)
  obtain ⟨xs2, ps2, b1, b2, b3, b4, b5⟩ := cut_evt b 0 m 100 (by omega) (by omega) (by omega) (by omega) h2 (by omega) (by omega)
  obtain ⟨l', c1, c2⟩ := shuffle_evt (xs1 ++ xs2) by_ (by rw [List.length_append]; omega)
  obtain ⟨ps', d1, d2⟩ := (a2.append b2).perm c2
  have hlen : l'.length = xs1.length + xs2.length := by rw [← c2.length_eq, List.length_append]
  have hmem : ∀ p, p ∈ ps1 → p ∈ ps' := fun p hp => d1.mem_iff.1 (by simp [hp])
  have hq : ∀ p ∈ ps', p.q = 0 := d2.allp (fun x p h => h.1)
  have hg : GoodRecs (fun _ => baNat b) 1 0 (recsFrom 0 0 l') ps' := goods_of (fun x p h => pieces_good (q := 0) (by omega) (by omega) (by omega) (fun _ => baNat b) rfl 0 (by omega) h) l' ps' 0 d2 (by omega)
  have hrl := recsFrom_length 0 0 l'
  obtain ⟨ts, us, t1, t2, t3, t4, t5⟩ := script_told (by omega) (recsFrom 0 0 l') ps' hg (by omega) (fun q hq1 => by
    have hq0 : q = 0 := by omega
    subst hq0
    refine ⟨?_, fun k hk => ?_⟩
    · cases hp1 : ps1 with
      | nil => exact absurd hp1 a5
      | cons p l => exact ⟨p, hmem p (by rw [hp1]; simp), hq p (hmem p (by rw [hp1]; simp))⟩
    · obtain ⟨p, p1, p2⟩ := a4 k (by rw [baNat_length] at hk; exact hk)
      exact ⟨p, hmem p p1, hq p (hmem p p1), p2⟩) 3 (by omega)
  have hW := whole_eq (fun _ => baNat b) 0 b rfl (by omega) (by omega)
  have hfin : Evt (fun k => laws_FnCutAnew.l0 k b (recsFrom 0 0 l') (l'.length : Int) (l'.length : Int)) true := by
    have hp := pops_evt (recsFrom 0 0 l') 3 (by omega) (by omega)
    have hwh := whole_evt b 0 (by omega) (by omega)
    rw [hW] at hwh
    have hco : ∀ k, laws_come.f k ((recsFrom 0 0 l').map pushS ++ List.replicate 3 popS) (ts ++ us) = some ([wholeOf (fun _ => baNat b) 0], true) := fun k => by
      unfold laws_come.f
      rw [if_pos ⟨by rw [List.length_append, List.length_append, List.length_map, List.length_replicate, t2, t3], by rw [List.length_append, List.length_map, List.length_replicate]; omega⟩, t4]
      rfl
    have htx := texts_evt [wholeOf (fun _ => baNat b) 0] (by simp)
    refine Evt.step (hp.bind (g := fun k t182 => (impl_Fragments.f t182).bind fun t185 => (laws_come.f k t182 t185).bind fun bt188 => (if bt188.2 = true then ((laws_whole.f k 11 0 b).bind fun t192 => ((laws_texts.f k bt188.1 (([t192] : List ByteArray))).bind fun t196 => (some t196))) else (some false))) ?_) (fun k => by rw [laws_FnCutAnew.l0, if_neg (by omega)]; rfl)
    have e : ∀ k, ((impl_Fragments.f ((recsFrom 0 0 l').map pushS ++ List.replicate 3 popS)).bind fun t185 => (laws_come.f k ((recsFrom 0 0 l').map pushS ++ List.replicate 3 popS) t185).bind fun bt188 => (if bt188.2 = true then ((laws_whole.f k 11 0 b).bind fun t192 => ((laws_texts.f k bt188.1 (([t192] : List ByteArray))).bind fun t196 => (some t196))) else (some false))) = (laws_whole.f k 11 0 b).bind fun t192 => ((laws_texts.f k [wholeOf (fun _ => baNat b) 0] (([t192] : List ByteArray))).bind fun t196 => (some t196)) := fun k => by
      rw [t1]
      simp only [Option.bind_some]
      rw [hco k]
      simp only [Option.bind_some]
      rw [if_pos trivial]
    exact (hwh.bind (g := fun k t192 => (laws_texts.f k [wholeOf (fun _ => baNat b) 0] (([t192] : List ByteArray))).bind fun t196 => (some t196)) (htx.bind (g := fun k t196 => some t196) (Evt.const true))).congr e
  have hloop := cutloop_go b true l'.length (by omega) (recsFrom 0 0 l') hfin l'.length 0 [] l' (by omega) rfl rfl (d2.all (fun x p h => piece_small h (by omega))) rfl
  refine Evt.step (a1.bind (g := fun k t167 => (laws_cutting.f k 11 0 b (m : Int)).bind fun t170 => (if t167.length + t170.length < 8796093022208 then ((laws_shuffle.f k (t167 ++ t170) by_).bind fun t176 => (laws_FnCutAnew.l0 k b t176 (t176.length : Int) 0)) else (none))) (b1.bind (g := fun k t170 => (if xs1.length + t170.length < 8796093022208 then ((laws_shuffle.f k (xs1 ++ t170) by_).bind fun t176 => (laws_FnCutAnew.l0 k b t176 (t176.length : Int) 0)) else (none))) ?_)) (fun k => by rw [laws_FnCutAnew.j1, if_neg (by decide)]; rfl)
  refine (c1.bind (g := fun k t176 => laws_FnCutAnew.l0 k b t176 (t176.length : Int) 0) ?_).congr (fun k => by rw [if_pos (by omega)])
  exact hloop

theorem CutAnew : laws_FnCutAnew.Pure := by
  intro b a1 a2 l3 w0 w1 w2 w3 w4 w5
  have key : Evt (fun k => laws_FnCutAnew.f k b a1 a2 l3) true := by
    have jt : Evt (fun k => laws_FnCutAnew.j0 k b a1 a2 l3 true) true := Evt.step (f := fun _ => some true) (Evt.const _) (fun k => by rw [laws_FnCutAnew.j0, if_pos rfl])
    have j1t : Evt (fun k => laws_FnCutAnew.j1 k b a1 a2 l3 true) true := Evt.step (f := fun _ => some true) (Evt.const _) (fun k => by rw [laws_FnCutAnew.j1, if_pos rfl])
    by_cases hsz : (b.size : Int) > 2147483647
    · exact jt.congr (fun k => by rw [laws_FnCutAnew.f, if_pos hsz])
    · refine Evt.congr (f := fun k => laws_FnCutAnew.j0 k b a1 a2 l3 (decide ((l3.length : Int) > 2147483647))) ?_ (fun k => by rw [laws_FnCutAnew.f, if_neg hsz])
      by_cases hl : (l3.length : Int) > 2147483647
      · rw [decide_eq_true hl]; exact jt
      · rw [decide_eq_false hl]
        have hb : ∀ c ∈ [b], c.size ≤ 2147483647 := fun c hc => by simp at hc; subst hc; omega
        have e1 := light_evt [b] a1 hb (by simp)
        have e2 := light_evt [b] a2 hb (by simp)
        refine Evt.step (e1.bind (g := fun k t162 => (if t162 = true then ((laws_light.f k (([b] : List ByteArray)) a2).bind fun t166 => (laws_FnCutAnew.j1 k b a1 a2 l3 (!t166))) else (laws_FnCutAnew.j1 k b a1 a2 l3 true))) ?_) (fun k => by rw [laws_FnCutAnew.j0, if_neg (by decide)])
        cases h1 : isLight [b] a1
        · exact j1t.congr (fun k => by rw [if_neg (by decide)])
        · refine Evt.congr (f := fun k => (laws_light.f k (([b] : List ByteArray)) a2).bind fun t166 => (laws_FnCutAnew.j1 k b a1 a2 l3 (!t166))) (e2.bind (g := fun k t166 => laws_FnCutAnew.j1 k b a1 a2 l3 (!t166)) ?_) (fun k => by rw [if_pos rfl])
          cases h2 : isLight [b] a2
          · exact j1t
          · obtain ⟨n, rfl, q1, q2, q3, q4⟩ := isLight_one h1
            obtain ⟨m, rfl, p1, p2, p3, p4⟩ := isLight_one h2
            exact cut_main b n m l3 q1 q2 q3 p2 p3 q4 p4
  obtain ⟨K, hK⟩ := key
  exact ⟨K, hK K (Nat.le_refl _)⟩
#print axioms CutAnew
end Go.Proofs.YtjflijebcpcbmaaDoor.G
namespace Go.Proofs.YtjflijebcpcbmaaDoor.fnCutAnew
open Go.ChangeShapes Go.WideShapes Go.ChangeAt Go.WideMaps Go.WideElems Go.RowKit
open Go.ChangeMaps (open_string shut_string)
set_option linter.unusedVariables false
set_option maxRecDepth 100000 in
theorem lifted (os : Os) (started : os.Started) (H : Type) (enc : TypeId × Value → H) :
    ReturnsInHanded {} Tryd.checked os 3 .any (fun w args => (Rows.fnCutAnewSpec.pre enc Tryd.prog Tryd.f3 [] false w args ∧ laidMetH Tryd.prog Rows.fnCutAnewRow.laid w) ∧ sizedMet enc Tryd.prog Tryd.f3 (OpenSpec.ofChange Rows.fnCutAnewSpec) false w args)
      (Rows.fnCutAnewSpec.post enc Tryd.prog Tryd.f3 false true false false) := by
  refine returnsInHanded_of_change_and (C := Tryd.checked) (X := fun w _ => laidMetH Tryd.prog Rows.fnCutAnewRow.laid w) (fun _ _ _ hh h => h.of_heap hh) ownB started (by kernel_rfl) Tryd.func3
    (ChangeSpec.witness_shaped (enc := enc) (C := Tryd.checked) (os := os) (X := fun w _ => laidMetH Tryd.prog Rows.fnCutAnewRow.laid w) false (World.doorLaid Tryd.prog 1000 os) #[.string ⟨#[]⟩, .int .i64 0, .int .i64 0, .slice none 0 0] 8 rfl (World.shaped_of_RefB (by kernel_rfl) (by kernel_rfl)) (by kernel_rfl) (by kernel_rfl) (by kernel_rfl) (door_met os _)) ?_
  intro W base args ds gs before hval0 hW _ hsz0 hL0 _
  have hL : G.Laid W := of_laid hL0
  have hsz : (DataW.weightsEach Tryd.prog (Tryd.f3.params.toList ++ Rows.fnCutAnewSpec.plain.varTypes Tryd.prog) (ds ++ gs)).all (· ≤ reachBytes) = true := hsz0
  have hval : ∀ (j : Nat) t v, Tryd.f3.params[j]? = some t → args[j]? = some v → Value.okWide Tryd.prog W .any base t v := hval0
  have hW' := hW
  obtain ⟨p, q, hA0, hV, rfl, hfz, hnd⟩ := hW
  have hA : DataW.TrodAll enc Tryd.prog W 0 (fun _ => true) true Tryd.f3.params.toList args.toList ds p := hA0
  rw [Tryd.params3] at hA hval hsz
  obtain ⟨v0, vs0, d0, ds0, p0, q0, hargs, rfl, rfl, h0, r0⟩ := trodAll_cons hA
  obtain ⟨v1, vs1, d1, ds1, p1, q1, rfl, rfl, rfl, h1, r1⟩ := trodAll_cons r0
  obtain ⟨v2, vs2, d2, ds2, p2, q2, rfl, rfl, rfl, h2, r2⟩ := trodAll_cons r1
  obtain ⟨v3, vs3, d3, ds3, p3, q3, rfl, rfl, rfl, h3, r3⟩ := trodAll_cons r2
  obtain ⟨rfl, rfl, rfl⟩ := trodAll_nil r3
  obtain rfl : args = #[v0, v1, v2, v3] := by cases args; simp_all
  obtain ⟨rfl, rfl⟩ := trodVars_none hV
  obtain ⟨a0, rfl, rfl, rfl, w0⟩ := open_string Tryd.underlying9 (hval 0 9 v0 rfl rfl) h0
  have z0 : a0.size ≤ 140737488351232 := by
    have := sized_string hsz (j := 0) (t := 9) rfl rfl
    rw [Array.length_toList] at this
    exact Nat.le_trans this (by decide)
  obtain ⟨a1, rfl, rfl, rfl, w1⟩ := open_int Tryd.underlying3 (hval 1 3 v1 rfl rfl) h1
  obtain ⟨a2, rfl, rfl, rfl, w2⟩ := open_int Tryd.underlying3 (hval 2 3 v2 rfl rfl) h2
  obtain ⟨a3, len3, cap3, rfl⟩ := okWide_slice Tryd.underlying22 (hval 3 22 v3 rfl rfl)
  have k3 := h3
  have lt3 : ∀ x ∈ p3, x.block < W.heap.size := by obtain ⟨m, hm⟩ := k3; exact DataW.trod_lt m _ _ _ hm
  obtain ⟨l3, rfl, hc3, hb3, hw3, hr3⟩ := Open.open_numsB hsz (j := 3) (t := 22) rfl rfl Tryd.underlying22 Tryd.underlying3 (by kernel_rfl) (B := 8) (by kernel_rfl) h3
  clear hA0 hval0 hsz0 hsz
  obtain ⟨k, hp⟩ := G.CutAnew a0 a1 a2 l3 z0 w1 w2 (by have : l3.length * 8 ≤ 140737488351232 := hb3; simp only [maxLen]; omega) hb3 hw3
  refine (G.laws_FnCutAnew.calls k a0 a1 a2 _ _ l3 true W hr3 hc3 hp hL).mono fun e W' ⟨he, bel⟩ => ?_
  subst he
  exact ⟨_, rfl, _, _, _, [], _, [], hW', trodAll_mk1 (shut_bool Tryd.underlying4 _), (trodAll_cons_mk (shut_string Tryd.underlying9 w0) (trodAll_cons_mk (shut_int Tryd.underlying3 w1) (trodAll_cons_mk (shut_int Tryd.underlying3 w2) (trodAll_cons_mk (Below.trod laidOutB' (by kernel_rfl) (of_decide_eq_true (by kernel_rfl)) k3 bel lt3) trodAll_mk0)))), rfl, bel.frame _, fun h => by cases h⟩
theorem over : Rows.FnCutAnewSaid :=
  OpenClaim.holds_of_wide 3 Tryd.f3 rfl rfl rfl rfl rfl rfl rfl ⟨rfl, rfl, rfl, rfl, rfl⟩ rfl rfl rfl rfl rfl (by kernel_rfl) Tryd.func3 (by kernel_rfl)
    (of_decide_eq_true (by kernel_rfl)) (by unfold Func.isWrapper; first | (rw [if_pos (by decide +kernel)]; kernel_rfl) | (rw [if_neg (by decide +kernel)]; exact ⟨rfl, rfl⟩))
    (fun os started H enc _ => lifted os started H enc)
theorem plain (f : FuncId) (fn : Func) (hf : Tryd.pinned.checked.prog.funcNamed "pub-tandemry/laws.FnCutAnew" = some f) (hfn : Tryd.pinned.checked.prog.funcs[f]? = some fn) :
    false = Tryd.pinned.checked.prog.looks [] ∧ ∀ (j : Nat) t, fn.params[j]? = some t → Tryd.pinned.checked.prog.wantsStandIn t = false := by
  obtain rfl : f = 3 := Option.some.inj ((show Tryd.prog.funcNamed "pub-tandemry/laws.FnCutAnew" = some 3 by kernel_rfl).symm.trans hf) |>.symm
  obtain rfl : fn = Tryd.f3 := (Option.some.inj (Tryd.func3.symm.trans hfn)).symm
  refine ⟨by kernel_rfl, fun j t ht => ?_⟩
  rw [Tryd.params3] at ht
  have ht' := Array.mem_of_getElem? ht
  simp only [List.mem_toArray, List.mem_cons, List.not_mem_nil, or_false] at ht'
  rcases ht' with rfl | rfl | rfl | rfl
  · exact (show Tryd.prog.wantsStandIn 9 = false by kernel_rfl)
  · exact (show Tryd.prog.wantsStandIn 3 = false by kernel_rfl)
  · exact (show Tryd.prog.wantsStandIn 3 = false by kernel_rfl)
  · exact (show Tryd.prog.wantsStandIn 22 = false by kernel_rfl)
end Go.Proofs.YtjflijebcpcbmaaDoor.fnCutAnew
namespace Go.Proofs.YtjflijebcpcbmaaDoor
theorem fnCutAnew_holds : Rows.FnCutAnewCardSaid :=
  Claim7.holds_tied_plain_at .later [] _ _ _ _ fnCutAnew.over (fun _ h => by cases h) (by kernel_rfl) (fun _ h => by cases h) fnCutAnew_row_tie rfl ⟨rfl, rfl⟩ (by kernel_rfl) rfl fnCutAnew.plain (by kernel_rfl)
#print axioms fnCutAnew_holds
end Go.Proofs.YtjflijebcpcbmaaDoor
