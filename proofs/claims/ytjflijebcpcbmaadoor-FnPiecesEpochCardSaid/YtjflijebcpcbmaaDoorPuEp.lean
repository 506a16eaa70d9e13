/-
  What is proved: the plain statement of the law of pieces in records of one epoch: for every input the printed law answers true. Conditions: none.
-/
import Derived.Test.YtjflijebcpcbmaaDoorPuZ
import Derived.Test.YtjflijebcpcbmaaDoorG7
namespace Go.Proofs.YtjflijebcpcbmaaDoor.G
open Go.RowKit Go.Proofs.YtjflijebcpcbmaaDoorW.PrintWords Go.Proofs.YtjflijebcpcbmaaDoorW.PrintLast Go.Proofs.YtjflijebcpcbmaaDoorW.PrintMore
set_option linter.unusedVariables false
set_option linter.unusedSimpArgs false

theorem pe_l2 (x3 : Int) (S : List S45) (T : List S40) (hT : T.length = S.length) (hlen : T.length < 900000) (h : ∀ (i : Nat) (h1 : i < S.length) (h2 : i < T.length), S[i].f0 = true ∨ T[i].f5 = x3) : ∀ (d j : Nat), j + d = T.length → Evt (fun k => laws_FnPiecesEpoch.l2 k x3 S T (T.length : Int) (j : Int)) true
  | 0, j, hj => Evt.step (f := fun _ => some true) (Evt.const _) (fun k => by rw [laws_FnPiecesEpoch.l2, if_neg (by omega)])
  | d + 1, j, hj => by
    have h2 : j < T.length := by omega
    have h1 : j < S.length := by omega
    have hw : wrap64 ((j : Int) + 1) = ((j + 1 : Nat) : Int) := by rw [wrapi _ (by omega) (by omega)]; omega
    refine (pe_l2 x3 S T hT hlen h d (j + 1) (by omega)).step (fun k => ?_)
    rw [laws_FnPiecesEpoch.l2, if_pos (by omega), if_pos (by omega), if_pos (by omega), if_pos (by omega), rd45_at S j h1, rd40_at T j h2, hw]
    by_cases hf : S[j].f0 = true
    · rw [if_pos hf]
    · rw [if_neg hf, if_pos ((h j h1 h2).resolve_left hf)]

theorem pe_end (l : List ByteArray) (hl : l.length < 8) (hb : ∀ b ∈ l, b.size < 600) (ep : Nat) (he : ep < 65536) (xs : List ByteArray) (ps : List Pc) (h : Acc l l.length xs ps) (xs' : List ByteArray) (hp : xs.Perm xs') :
    Evt (fun k => laws_FnPiecesEpoch.l1 k l (ep : Int) xs' ((List.range' 0 l.length).map (wholeOf (BsOf l))) (xs'.length : Int) 0) true := by
  obtain ⟨ts, us, t1, t2, t3, t4, t5⟩ := h.told hl hb hp ep he l.length (by omega)
  rw [show min l.length l.length = l.length by omega] at t4
  have hlen : xs'.length ≤ 700 := by have := h.len; have := hp.length_eq; omega
  obtain ⟨ps', d1, d2⟩ := h.pc.perm hp
  have hrl := recsFrom_length ep 0 xs'
  refine setloop_go (F := fun k x i => laws_FnPiecesEpoch.l1 k l (ep : Int) x ((List.range' 0 l.length).map (wholeOf (BsOf l))) (xs'.length : Int) i) (R := fun k i x => laws_later.f k (ep : Int) i x) true ep xs'.length (by omega) (fun j x hj hx => later_evt ep j x he hj hx) (fun k x j hj hx => ?_) (recsFrom ep 0 xs') ?_ xs'.length 0 [] xs' (by omega) rfl rfl (d2.all (fun x p g => piece_small g.2 (by
    have := hb _ (List.getElem_mem g.1)
    rw [getD_at l p.q g.1]
    omega))) rfl
  · have hwj : wrap64 ((j : Int) + 1) = ((j + 1 : Nat) : Int) := by rw [wrapi _ (by omega) (by omega)]; omega
    rw [laws_FnPiecesEpoch.l1, if_pos (by omega), if_pos (by omega), if_pos (by omega), rdOf_at x j hj, hwj, Int.toNat_natCast]
  · have hp := pops_evt (recsFrom ep 0 xs') l.length (by omega) (by omega)
    have htx := texts_evt ((List.range' 0 l.length).map (wholeOf (BsOf l))) (by rw [List.length_map, List.length_range']; omega)
    have hS : ((recsFrom ep 0 xs').map pushS ++ List.replicate l.length popS).length = xs'.length + l.length := by rw [List.length_append, List.length_map, List.length_replicate, hrl]
    have hT : (ts ++ us).length = xs'.length + l.length := by rw [List.length_append, t2, t3]
    have hj3 : Evt (fun k => laws_FnPiecesEpoch.j3 k (ep : Int) ((recsFrom ep 0 xs').map pushS ++ List.replicate l.length popS) (ts ++ us) (!true)) true := by
      refine (pe_l2 (ep : Int) ((recsFrom ep 0 xs').map pushS ++ List.replicate l.length popS) (ts ++ us) (by rw [hS, hT]) (by omega) (fun i h1 h2 => ?_) (ts ++ us).length 0 (by omega)).step (fun k => by rw [laws_FnPiecesEpoch.j3, if_neg (by decide)]; rfl)
      by_cases hi : i < xs'.length
      · left
        rw [List.getElem_append_left (by rw [List.length_map, hrl]; exact hi), List.getElem_map]
        rfl
      · right
        rw [List.getElem_append_right (by omega)]
        exact t5 (Nat.le_refl _) _ (List.getElem_mem _)
    refine Evt.step (hp.bind (g := fun k t251 => (impl_Fragments.f t251).bind fun t254 => ((laws_come.f k t251 t254).bind fun bt257 => (if bt257.2 = true then ((laws_texts.f k bt257.1 ((List.range' 0 l.length).map (wholeOf (BsOf l)))).bind fun t261 => (laws_FnPiecesEpoch.j3 k (ep : Int) t251 t254 (!t261))) else (laws_FnPiecesEpoch.j3 k (ep : Int) t251 t254 true)))) ?_) (fun k => by rw [laws_FnPiecesEpoch.l1, if_neg (by omega)])
    refine (htx.bind (g := fun k t261 => laws_FnPiecesEpoch.j3 k (ep : Int) ((recsFrom ep 0 xs').map pushS ++ List.replicate l.length popS) (ts ++ us) (!t261)) hj3).congr (fun k => ?_)
    rw [t1]
    simp only [Option.bind_some]
    rw [t4 k]
    simp only [Option.bind_some]
    rw [if_pos trivial]

theorem pe_l0 (l : List ByteArray) (n : Nat) (by_ : List Int) (ep : Nat) (he : ep < 65536) (hl : l.length < 8) (hb : ∀ b ∈ l, b.size < 600 ∧ b.size ≤ 100 * n) (hn : 1 ≤ n) (hn' : n ≤ 1000) : ∀ (d j : Nat) (acc : List ByteArray) (ps : List Pc), j + d = l.length → Acc l j acc ps →
    Evt (fun k => laws_FnPiecesEpoch.l0 k l (n : Int) by_ (ep : Int) acc ((List.range' 0 j).map (wholeOf (BsOf l))) l (l.length : Int) (j : Int)) true
  | 0, j, acc, ps, h, ha => by
    have hj : j = l.length := by omega
    subst hj
    have hlen := ha.len
    obtain ⟨l', c1, c2⟩ := shuffle_evt acc by_ (by omega)
    exact Evt.step (c1.bind (g := fun k t245 => laws_FnPiecesEpoch.l1 k l (ep : Int) t245 ((List.range' 0 l.length).map (wholeOf (BsOf l))) (t245.length : Int) 0) (pe_end l hl (fun b hb' => (hb b hb').1) ep he acc ps ha l' c2)) (fun k => by rw [laws_FnPiecesEpoch.l0, if_neg (by omega)])
  | d + 1, j, acc, ps, h, ha => by
    have hj : j < l.length := by omega
    have hbj := hb l[j] (List.getElem_mem _)
    have hlen := ha.len
    obtain ⟨ys, rs, a1, a2, a3, a4, a5⟩ := cut_evt l[j] j n 100 (by omega) (by omega) (by omega) (by omega) (by omega) (by omega) (by omega)
    have ih := pe_l0 l n by_ ep he hl hb hn hn' d (j + 1) (acc ++ ys) (ps ++ rs) (by omega) (ha.more hj a2 a3 a4 a5)
    have hw1 : wrap64 ((j : Int) + 1) = ((j + 1 : Nat) : Int) := by rw [wrapi _ (by omega) (by omega)]; omega
    have hwl : ((List.range' 0 j).map (wholeOf (BsOf l))).length = j := by rw [List.length_map, List.length_range']
    have h1 : Evt (fun k => (laws_whole.f k 11 (j : Int) l[j]).bind fun t241 => (if ((List.range' 0 j).map (wholeOf (BsOf l))).length < 8796093022208 then (laws_FnPiecesEpoch.l0 k l n by_ (ep : Int) (acc ++ ys) ((List.range' 0 j).map (wholeOf (BsOf l)) ++ [t241]) l l.length (wrap64 ((j : Int) + 1))) else none)) true := by
      refine (whole_at l j hj hl hbj.1).bind (g := fun k t241 => (if ((List.range' 0 j).map (wholeOf (BsOf l))).length < 8796093022208 then (laws_FnPiecesEpoch.l0 k l n by_ (ep : Int) (acc ++ ys) ((List.range' 0 j).map (wholeOf (BsOf l)) ++ [t241]) l l.length (wrap64 ((j : Int) + 1))) else none)) ?_
      rw [wholes_succ, hw1]
      exact ih.congr (fun k => by rw [if_pos (by omega)])
    refine Evt.step (a1.bind (g := fun k t235 => (if acc.length + t235.length < 8796093022208 then ((laws_whole.f k 11 (j : Int) l[j]).bind fun t241 => (if ((List.range' 0 j).map (wholeOf (BsOf l))).length < 8796093022208 then (laws_FnPiecesEpoch.l0 k l n by_ (ep : Int) (acc ++ t235) ((List.range' 0 j).map (wholeOf (BsOf l)) ++ [t241]) l l.length (wrap64 ((j : Int) + 1))) else none)) else none)) (h1.congr (fun k => by rw [if_pos (by omega)]))) (fun k => ?_)
    rw [laws_FnPiecesEpoch.l0, if_pos (by omega), if_pos (by omega), if_pos (by omega), rdOf_at l j hj]

def laws_FnPiecesEpoch.Pure : Prop := ∀ (l0 : List ByteArray) (a1 : Int) (l2 : List Int) (a3 : Int), l0.length * 16 ≤ 140737488351232 → (Lit.int .i64 a1).wf = true → l2.length ≤ maxLen → l2.length * 8 ≤ 140737488351232 → (∀ x ∈ l2, (Lit.int .i64 x).wf = true) → (Lit.int .u16 a3).wf = true → ∃ k, laws_FnPiecesEpoch.f k l0 a1 l2 a3 = some true
theorem PiecesEpoch : laws_FnPiecesEpoch.Pure := by
  intro l a1 l2 a3 w0 w1 w2 w3 w4 w5
  obtain ⟨ep, rfl, he⟩ : ∃ ep : Nat, a3 = ep ∧ ep < 65536 := by
    have h : 0 ≤ a3 ∧ a3 < 65536 := by
      have h2 := w5
      simp only [Lit.wf, Bool.and_eq_true, decide_eq_true_eq] at h2
      have m1 : IntKind.u16.min = 0 := by decide
      have m2 : IntKind.u16.max = 65535 := by decide
      rw [m1, m2] at h2
      omega
    exact ⟨a3.toNat, by omega, by omega⟩
  have key : Evt (fun k => laws_FnPiecesEpoch.f k l a1 l2 (ep : Int)) true := by
    have jt : Evt (fun k => laws_FnPiecesEpoch.j0 k l a1 l2 (ep : Int) true) true := Evt.step (f := fun _ => some true) (Evt.const _) (fun k => by rw [laws_FnPiecesEpoch.j0, if_pos rfl])
    obtain ⟨r, e, hr⟩ := fits_evt l
    refine Evt.congr (e.bind (g := fun k t232 => (if t232 = true then (laws_FnPiecesEpoch.j0 k l a1 l2 (ep : Int) (decide ((l2.length : Int) > 2147483647))) else (laws_FnPiecesEpoch.j0 k l a1 l2 (ep : Int) true))) ?_) (fun k => rfl)
    cases r
    · exact jt.congr (fun k => by rw [if_neg (by decide)])
    · obtain ⟨f1, f2⟩ := hr rfl
      refine Evt.congr (f := fun k => laws_FnPiecesEpoch.j0 k l a1 l2 (ep : Int) (decide ((l2.length : Int) > 2147483647))) ?_ (fun k => by rw [if_pos rfl])
      by_cases hl : (l2.length : Int) > 2147483647
      · rw [decide_eq_true hl]; exact jt
      · rw [decide_eq_false hl]
        have e1 := light_evt l a1 f2 f1
        refine Evt.step (e1.bind (g := fun k t233 => (if t233 = true then (laws_FnPiecesEpoch.l0 k l a1 l2 (ep : Int) ([] : List ByteArray) ([] : List ByteArray) l (l.length : Int) 0) else (some true))) ?_) (fun k => by rw [laws_FnPiecesEpoch.j0, if_neg (by decide)])
        cases h1 : isLight l a1
        · exact (Evt.const true).congr (fun k => by rw [if_neg (by decide)])
        · obtain ⟨n, rfl, q1, q2, q3, q4, q5⟩ := isLight_all h1
          exact (pe_l0 l n l2 ep he q2 q5 q3 q4 l.length 0 [] [] (by omega) (Acc.nil l)).congr (fun k => by rw [if_pos rfl]; rfl)
  obtain ⟨K, hK⟩ := key
  exact ⟨K, hK K (Nat.le_refl _)⟩
#print axioms PiecesEpoch
end Go.Proofs.YtjflijebcpcbmaaDoor.G
