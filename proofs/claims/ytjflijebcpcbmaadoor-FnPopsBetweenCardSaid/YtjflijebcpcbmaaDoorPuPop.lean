/-
  What is proved: the plain statement of the law of pops between the pieces: for every input the printed law answers true. Conditions: none.
-/
import Derived.Test.YtjflijebcpcbmaaDoorPuZ
import Derived.Test.YtjflijebcpcbmaaDoorG8
namespace Go.Proofs.YtjflijebcpcbmaaDoor.G
open Go.RowKit Go.Proofs.YtjflijebcpcbmaaDoorW.PrintWords Go.Proofs.YtjflijebcpcbmaaDoorW.PrintLast Go.Proofs.YtjflijebcpcbmaaDoorW.PrintMore
set_option linter.unusedVariables false
set_option linter.unusedSimpArgs false

/-- A script that was run from the empty buffer: ps are the pieces that were pushed. -/
def Scr (Bs : Nat → List Nat) (N : Nat) (S : List S45) (ps : List Pc) (np : Nat) : Prop := ∃ (ts : List S40) (s : St), (∀ tail rest, St.run s tail = some rest → St.run St.new (S ++ tail) = some (ts ++ rest)) ∧ ts.length = S.length ∧
  (∀ tail rest, comeGo (S ++ tail) (ts ++ rest) [] = comeGo tail rest ((List.range' 0 s.cur).map (wholeOf Bs))) ∧ BInv Bs N 0 (CovP (fun _ _ => False) ps) (HasP (fun _ => False) ps) np (1000 * np) s
theorem Scr.nil (Bs : Nat → List Nat) (N : Nat) : Scr Bs N [] [] 0 := by
  have h := BInv.new Bs N 0
  have e1 : CovP (fun _ _ => False) [] = (fun _ _ => False) := by funext q k; exact propext ⟨fun g => g.elim id (fun ⟨y, hy, _⟩ => by simp at hy), .inl⟩
  have e2 : HasP (fun _ => False) [] = (fun _ => False) := by funext q; exact propext ⟨fun g => g.elim id (fun ⟨y, hy, _⟩ => by simp at hy), .inl⟩
  exact ⟨[], St.new, fun tail rest hr => hr, rfl, fun _ _ => rfl, by rw [e1, e2]; exact h⟩
theorem cov_snoc (p : Pc) (ps : List Pc) : CovP (CovP (fun _ _ => False) ps) [p] = CovP (fun _ _ => False) (ps ++ [p]) := by
  funext q k
  unfold CovP
  refine propext ⟨?_, ?_⟩
  · rintro ((g | ⟨y, hy, g⟩) | ⟨y, hy, g⟩)
    · exact .inl g
    · exact .inr ⟨y, by simp [hy], g⟩
    · exact .inr ⟨y, by simp at hy; simp [hy], g⟩
  · rintro (g | ⟨y, hy, g⟩)
    · exact .inl (.inl g)
    · rcases List.mem_append.1 hy with hy | hy
      · exact .inl (.inr ⟨y, hy, g⟩)
      · exact .inr ⟨y, hy, g⟩
theorem has_snoc (p : Pc) (ps : List Pc) : HasP (HasP (fun _ => False) ps) [p] = HasP (fun _ => False) (ps ++ [p]) := by
  funext q
  unfold HasP
  refine propext ⟨?_, ?_⟩
  · rintro ((g | ⟨y, hy, g⟩) | ⟨y, hy, g⟩)
    · exact .inl g
    · exact .inr ⟨y, by simp [hy], g⟩
    · exact .inr ⟨y, by simp at hy; simp [hy], g⟩
  · rintro (g | ⟨y, hy, g⟩)
    · exact .inl (.inl g)
    · rcases List.mem_append.1 hy with hy | hy
      · exact .inl (.inr ⟨y, hy, g⟩)
      · exact .inr ⟨y, hy, g⟩
theorem Scr.push {Bs : Nat → List Nat} {N : Nat} {S : List S45} {ps : List Pc} {np : Nat} (h : Scr Bs N S ps np) (hN : N ≤ 60000) (hnp : np < 900) {R : ByteArray} {p : Pc} (g : GoodRec Bs N 0 R p) : Scr Bs N (S ++ [pushS R]) (ps ++ [p]) (np + 1) := by
  obtain ⟨ts, s, r1, r2, r3, r4⟩ := h
  obtain ⟨t, s1, h1, h2, h3, h4, h5⟩ := r4.one hN hnp (by omega) g
  refine ⟨ts ++ [t], s1, fun tail rest hr => ?_, by rw [List.length_append, List.length_append, r2]; rfl, fun tail rest => ?_, ?_⟩
  · rw [List.append_assoc, List.append_assoc]
    refine r1 _ _ ?_
    rw [List.singleton_append, St.run, h1]
    simp only [Option.bind_some]
    rw [hr]
    rfl
  · rw [List.append_assoc, List.append_assoc, r3, List.singleton_append, List.singleton_append, comeGo, h2, h3, h4]
    simp only [pushS, Bool.not_true, Bool.or_self, Bool.and_false, Bool.false_and, Bool.false_eq_true, if_false]
  · rw [cov_snoc, has_snoc] at h5
    rw [show 1000 * (np + 1) = 1000 * np + 1000 by omega]
    exact h5
theorem Scr.pop {Bs : Nat → List Nat} {N : Nat} {S : List S45} {ps : List Pc} {np : Nat} (h : Scr Bs N S ps np) (hN : N ≤ 60000) (hnp : np ≤ 900) : Scr Bs N (S ++ [popS]) ps np := by
  obtain ⟨ts, s, r1, r2, r3, r4⟩ := h
  obtain ⟨t, s1, h1, h6, h2, h3⟩ := r4.popOne hN hnp (by omega)
  refine ⟨ts ++ [t], s1, fun tail rest hr => ?_, by rw [List.length_append, List.length_append, r2]; rfl, fun tail rest => ?_, h2⟩
  · rw [List.append_assoc, List.append_assoc]
    refine r1 _ _ ?_
    rw [List.singleton_append, St.run, h1]
    simp only [Option.bind_some]
    rw [hr]
    rfl
  · rw [List.append_assoc, List.append_assoc, r3, List.singleton_append, List.singleton_append, comeGo]
    rcases h3 with ⟨a1, a2, a3, a4, a5, a6, a7⟩ | ⟨a1, a2, a3⟩
    · rw [a5, a6, a4]
      simp only [popS, Bool.false_and, Bool.false_eq_true, if_false, Bool.not_false, Bool.and_self, if_true]
      rw [List.range'_1_concat, List.map_append]
      simp
    · rw [a3, a2]
      simp only [popS, Bool.false_and, Bool.false_eq_true, if_false, Bool.not_false, Bool.and_false]

/-- The pops at the end. -/
theorem Scr.told {Bs : Nat → List Nat} {N : Nat} {S : List S45} {ps : List Pc} {np : Nat} (h : Scr Bs N S ps np) (hN : N ≤ 60000) (hN0 : 0 < N) (hnp : np ≤ 900) (hS : S.length < 900000) (hall : ∀ q, q < N → (∃ p ∈ ps, p.q = q) ∧ ∀ k, k < (Bs q).length → ∃ p ∈ ps, p.q = q ∧ p.o ≤ k ∧ k < p.o + p.n) :
    ∃ us : List S40, impl_Fragments.f (S ++ List.replicate N popS) = some us ∧ us.length = S.length + N ∧ comeGo (S ++ List.replicate N popS) us [] = ((List.range' 0 N).map (wholeOf Bs), true) ∧ (∀ (i : Nat) (h : i < us.length), i + 1 = us.length → us[i].f6 = 0) := by
  obtain ⟨ts, s, r1, r2, r3, r4⟩ := h
  obtain ⟨us, s', u1, u2, u3, u4, u5, u6, u7, u8⟩ := pops_run hN hnp (by omega) (fun q hq => ⟨.inr (hall q hq).1, fun k hk => .inr ((hall q hq).2 k hk)⟩) N s r4
  have hcur := r4.cur
  have hc : s'.cur = N := by omega
  have hsz : s'.sz = 0 := by
    rw [u3.sz, totN_zero _ N (fun q hq => by rw [u3.old q (by omega)]; rfl)]
    rfl
  refine ⟨ts ++ us, ?_, by rw [List.length_append, r2, u2], ?_, fun i hi hl => ?_⟩
  · unfold impl_Fragments.f
    rw [if_pos (by rw [List.length_append, List.length_replicate]; omega)]
    exact r1 _ _ u1
  · rw [r3, u5, show min N (N - s.cur) = N - s.cur by omega, ← List.map_append]
    congr 2
    have := List.range'_append_1 (s := 0) (m := s.cur) (n := N - s.cur)
    rw [Nat.zero_add, show s.cur + (N - s.cur) = N by omega] at this
    exact this
  · have hne : us ≠ [] := fun e => by rw [e] at u2; simp at u2; omega
    have hlast : us.getLast? = some (ts ++ us)[i] := by
      rw [List.getLast?_eq_getElem?]
      have hi2 : i < ts.length + us.length := by rw [← List.length_append]; exact hi
      have hul : 0 < us.length := by omega
      rw [List.length_append] at hl
      rw [List.getElem_append_right (by omega), List.getElem?_eq_getElem (by omega)]
      congr 2
      omega
    rw [u7 _ hlast, hsz]

theorem pb_l1 (l : List ByteArray) (n : Int) (j : Nat) (hj : j < l.length) (hl : l.length < 8) (hb : l[j].size < 600) (wh : List ByteArray) (x22 : List ByteArray) (x23 x24 : Int) (xs : List ByteArray) (hx : xs.length < 900000) (res : Bool) (b : ByteArray) (N1 : Nat) (M : Nat) (hM : M < 800000)
    (Q : List Pc) : ∀ (ys : List ByteArray) (rs : List Pc) (pre : List ByteArray) (S : List S45) (ps : List Pc) (np : Nat), xs = pre ++ ys → Pieces (IsPiece l[j] j) ys rs → Scr (BsOf l) l.length S ps np → np + ys.length = N1 → N1 ≤ 900 → S.length + 2 * ys.length ≤ M → Q = ps ++ rs →
    (∀ S', Scr (BsOf l) l.length S' Q N1 → S'.length ≤ M → Evt (fun k => (laws_whole.f k 11 (j : Int) b).bind fun t283 => (if wh.length < 8796093022208 then (laws_FnPopsBetween.l0 k l n S' (wh ++ [t283]) x22 x23 (wrap64 (x24 + 1))) else (none))) res) →
    Evt (fun k => laws_FnPopsBetween.l1 k l n S wh (j : Int) b x22 x23 x24 xs (xs.length : Int) (pre.length : Int)) res
  | [], rs, pre, S, ps, np, he, hp, hS, h1, h2, h3, hQ, hc => by
    cases hp
    rw [List.append_nil] at he hQ
    subst he
    simp only [List.length_nil] at h1 h3
    have h0 : np = N1 := by omega
    subst h0
    subst hQ
    exact (hc S hS (by omega)).step (fun k => by rw [laws_FnPopsBetween.l1, if_neg (by omega)])
  | y :: ys, rs, pre, S, ps, np, he, hp, hS, h1, h2, h3, hQ, hc => by
    cases hp with
    | @cons _ p _ rs g gs =>
      simp only [List.length_cons] at h1 h3
      have hlen : xs.length = pre.length + ys.length + 1 := by rw [he, List.length_append, List.length_cons]; omega
      have hi : pre.length < xs.length := by omega
      have hat : rdOf ByteArray.empty xs (pre.length : Int) = y := by
        rw [rdOf_at xs _ hi]
        subst he
        rw [List.getElem_append_right (Nat.le_refl _)]
        simp
      have hw : wrap64 ((pre.length : Int) + 1) = (((pre ++ [y]).length : Nat) : Int) := by rw [wrapi _ (by omega) (by omega), List.length_append]; simp
      have hrec := record_evt pre.length y (by omega) (piece_small g (by omega))
      rw [rec_later] at hrec
      have hg : GoodRec (BsOf l) l.length 0 (laterBa 0 pre.length y) p := pieces_good (b := l[j]) (q := j) (by omega) hj (by omega) (BsOf l) (by unfold BsOf; rw [getD_at l j hj]) 0 (by omega) g pre.length (by omega)
      by_cases h0 : pre.length > 0
      · have hS1 := (hS.pop (by omega) (by omega)).push (by omega) (by omega) hg
        have ih := pb_l1 l n j hj hl hb wh x22 x23 x24 xs hx res b N1 M hM Q ys rs (pre ++ [y]) ((S ++ [popS]) ++ [pushS (laterBa 0 pre.length y)]) (ps ++ [p]) (np + 1) (by rw [he]; simp) gs hS1 (by omega) h2 (by rw [List.length_append, List.length_append]; simp only [List.length_cons, List.length_nil]; omega) (by rw [hQ]; simp) hc
        refine Evt.step (hrec.bind (g := fun k t275 => (if (S ++ [popS]).length < 5864062014805 then (laws_FnPopsBetween.l1 k l n ((S ++ [popS]) ++ [(⟨true, t275⟩ : S45)]) wh (j : Int) b x22 x23 x24 xs (xs.length : Int) (wrap64 ((pre.length : Int) + 1))) else (none))) ?_) (fun k => ?_)
        · rw [hw]
          exact ih.congr (fun k => by rw [if_pos (by rw [List.length_append]; simp only [List.length_cons, List.length_nil]; omega)]; rfl)
        · rw [laws_FnPopsBetween.l1, if_pos (by omega), if_pos (by omega), if_pos (by omega), if_pos (by omega), if_pos (by omega), hat]
          rfl
      · have hS1 := hS.push (by omega) (by omega) hg
        have ih := pb_l1 l n j hj hl hb wh x22 x23 x24 xs hx res b N1 M hM Q ys rs (pre ++ [y]) (S ++ [pushS (laterBa 0 pre.length y)]) (ps ++ [p]) (np + 1) (by rw [he]; simp) gs hS1 (by omega) h2 (by rw [List.length_append]; simp only [List.length_cons, List.length_nil]; omega) (by rw [hQ]; simp) hc
        refine Evt.step (hrec.bind (g := fun k t279 => (if S.length < 5864062014805 then (laws_FnPopsBetween.l1 k l n (S ++ [(⟨true, t279⟩ : S45)]) wh (j : Int) b x22 x23 x24 xs (xs.length : Int) (wrap64 ((pre.length : Int) + 1))) else (none))) ?_) (fun k => ?_)
        · rw [hw]
          exact ih.congr (fun k => by rw [if_pos (by omega)]; rfl)
        · rw [laws_FnPopsBetween.l1, if_pos (by omega), if_pos (by omega), if_pos (by omega), if_neg (by omega), hat]

theorem pb_l2 (wh : List ByteArray) (N : Nat) (hN : N < 900000) (res : Bool) : ∀ (d j : Nat) (S : List S45), j + d = N → S.length + d < 900000 → Evt (fun k => laws_FnPopsBetween.l2 k (S ++ List.replicate d popS) wh (N : Int) (N : Int)) res → Evt (fun k => laws_FnPopsBetween.l2 k S wh (N : Int) (j : Int)) res
  | 0, j, S, h, hS, he => by
    have hj : j = N := by omega
    subst hj
    rw [List.replicate_zero, List.append_nil] at he
    exact he
  | d + 1, j, S, h, hS, he => by
    have hw : wrap64 ((j : Int) + 1) = ((j + 1 : Nat) : Int) := by rw [wrapi _ (by omega) (by omega)]; omega
    have e : S ++ List.replicate (d + 1) popS = (S ++ [popS]) ++ List.replicate d popS := by rw [List.replicate_succ, List.append_assoc]; rfl
    rw [e] at he
    have ih := pb_l2 wh N hN res d (j + 1) (S ++ [popS]) (by omega) (by rw [List.length_append]; simp only [List.length_cons, List.length_nil]; omega) he
    refine ih.step (fun k => ?_)
    rw [laws_FnPopsBetween.l2, if_pos (by omega), if_pos (by omega), hw]
    rfl

theorem pb_end (l : List ByteArray) (hl : l.length < 8) (hl0 : 0 < l.length) (xs : List ByteArray) (ps : List Pc) (h : Acc l l.length xs ps) (S : List S45) (hS : Scr (BsOf l) l.length S ps xs.length) (hSl : S.length ≤ 2 * xs.length) :
    Evt (fun k => laws_FnPopsBetween.l2 k S ((List.range' 0 l.length).map (wholeOf (BsOf l))) (l.length : Int) 0) true := by
  have hlen := h.len
  refine pb_l2 _ l.length (by omega) true l.length 0 S (by omega) (by omega) ?_
  obtain ⟨us, u1, u2, u3, u4⟩ := hS.told (by omega) hl0 (by omega) (by omega) h.all
  have hco : ∀ k, laws_come.f k (S ++ List.replicate l.length popS) us = some ((List.range' 0 l.length).map (wholeOf (BsOf l)), true) := fun k => by
    unfold laws_come.f
    rw [if_pos ⟨by rw [List.length_append, List.length_replicate, u2], by rw [List.length_append, List.length_replicate]; omega⟩, u3]
  have htx := texts_evt ((List.range' 0 l.length).map (wholeOf (BsOf l))) (by rw [List.length_map, List.length_range']; omega)
  have hw : wrap64 ((us.length : Int) - 1) = ((us.length - 1 : Nat) : Int) := by rw [wrapi _ (by omega) (by omega)]; omega
  refine Evt.step (f := fun k => (laws_texts.f k ((List.range' 0 l.length).map (wholeOf (BsOf l))) ((List.range' 0 l.length).map (wholeOf (BsOf l)))).bind fun t297 => (if t297 = true then (if 0 ≤ (wrap64 ((us.length : Int) - 1)) then (if (wrap64 ((us.length : Int) - 1)) < (us.length : Int) then (some (((rd_T40 us (wrap64 ((us.length : Int) - 1))).f6) == 0)) else (none)) else (none)) else (some false))) ?_ (fun k => ?_)
  · refine htx.bind (g := fun k t297 => (if t297 = true then (if 0 ≤ (wrap64 ((us.length : Int) - 1)) then (if (wrap64 ((us.length : Int) - 1)) < (us.length : Int) then (some (((rd_T40 us (wrap64 ((us.length : Int) - 1))).f6) == 0)) else (none)) else (none)) else (some false))) (Evt.of (fun k => ?_))
    rw [if_pos rfl, hw, if_pos (by omega), if_pos (by omega), rd40_at us (us.length - 1) (by omega), u4 (us.length - 1) (by omega) (by omega)]
    rfl
  · rw [laws_FnPopsBetween.l2, if_neg (by omega), u1]
    simp only [Option.bind_some]
    rw [hco k]
    simp only [Option.bind_some]
    rw [if_pos trivial]

theorem pb_l0 (l : List ByteArray) (n : Nat) (hl : l.length < 8) (hl0 : 0 < l.length) (hb : ∀ b ∈ l, b.size < 600 ∧ b.size ≤ 100 * n) (hn : 1 ≤ n) (hn' : n ≤ 1000) : ∀ (d j : Nat) (acc : List ByteArray) (ps : List Pc) (S : List S45), j + d = l.length → Acc l j acc ps → Scr (BsOf l) l.length S ps acc.length → S.length ≤ 2 * acc.length →
    Evt (fun k => laws_FnPopsBetween.l0 k l (n : Int) S ((List.range' 0 j).map (wholeOf (BsOf l))) l (l.length : Int) (j : Int)) true
  | 0, j, acc, ps, S, h, ha, hS, hSl => by
    have hj : j = l.length := by omega
    subst hj
    exact (pb_end l hl hl0 acc ps ha S hS hSl).step (fun k => by rw [laws_FnPopsBetween.l0, if_neg (by omega)])
  | d + 1, j, acc, ps, S, h, ha, hS, hSl => by
    have hj : j < l.length := by omega
    have hbj := hb l[j] (List.getElem_mem _)
    have hlen := ha.len
    obtain ⟨ys, rs, a1, a2, a3, a4, a5⟩ := cut_evt l[j] j n 100 (by omega) (by omega) (by omega) (by omega) (by omega) (by omega) (by omega)
    have hw1 : wrap64 ((j : Int) + 1) = ((j + 1 : Nat) : Int) := by rw [wrapi _ (by omega) (by omega)]; omega
    have hwl : ((List.range' 0 j).map (wholeOf (BsOf l))).length = j := by rw [List.length_map, List.length_range']
    have ha2 := ha.more hj a2 a3 a4 a5
    have h1 := pb_l1 l (n : Int) j hj hl hbj.1 ((List.range' 0 j).map (wholeOf (BsOf l))) l (l.length : Int) (j : Int) ys (by omega) true l[j] (acc ++ ys).length (S.length + 2 * ys.length) (by omega) (ps ++ rs) ys rs [] S ps acc.length rfl a2 hS (by rw [List.length_append]) (by rw [List.length_append]; omega) (Nat.le_refl _) rfl (fun S' hS' hSl' => by
      have ih := pb_l0 l n hl hl0 hb hn hn' d (j + 1) (acc ++ ys) (ps ++ rs) S' (by omega) ha2 hS' (by rw [List.length_append]; omega)
      refine (whole_at l j hj hl hbj.1).bind (g := fun k t283 => (if ((List.range' 0 j).map (wholeOf (BsOf l))).length < 8796093022208 then (laws_FnPopsBetween.l0 k l (n : Int) S' ((List.range' 0 j).map (wholeOf (BsOf l)) ++ [t283]) l (l.length : Int) (wrap64 ((j : Int) + 1))) else (none))) ?_
      rw [wholes_succ, hw1]
      exact ih.congr (fun k => by rw [if_pos (by omega)]))
    refine Evt.step (a1.bind (g := fun k t268 => laws_FnPopsBetween.l1 k l (n : Int) S ((List.range' 0 j).map (wholeOf (BsOf l))) (j : Int) l[j] l (l.length : Int) (j : Int) t268 (t268.length : Int) 0) h1) (fun k => ?_)
    rw [laws_FnPopsBetween.l0, if_pos (by omega), if_pos (by omega), if_pos (by omega), rdOf_at l j hj]

def laws_FnPopsBetween.Pure : Prop := ∀ (l0 : List ByteArray) (a1 : Int), l0.length * 16 ≤ 140737488351232 → (Lit.int .i64 a1).wf = true → ∃ k, laws_FnPopsBetween.f k l0 a1 = some true
theorem PopsBetween : laws_FnPopsBetween.Pure := by
  intro l a1 w0 w1
  have key : Evt (fun k => laws_FnPopsBetween.f k l a1) true := by
    obtain ⟨r, e, hr⟩ := fits_evt l
    refine Evt.congr (e.bind (g := fun k t265 => (if t265 = true then ((laws_light.f k l a1).bind fun t266 => (if t266 = true then (laws_FnPopsBetween.l0 k l a1 ([] : List (S45)) ([] : List ByteArray) l (l.length : Int) 0) else (some true))) else (some true))) ?_) (fun k => rfl)
    cases r
    · exact (Evt.const true).congr (fun k => by rw [if_neg (by decide)])
    · obtain ⟨f1, f2⟩ := hr rfl
      have e1 := light_evt l a1 f2 f1
      refine Evt.congr (f := fun k => (laws_light.f k l a1).bind fun t266 => (if t266 = true then (laws_FnPopsBetween.l0 k l a1 ([] : List (S45)) ([] : List ByteArray) l (l.length : Int) 0) else (some true))) (e1.bind (g := fun k t266 => (if t266 = true then (laws_FnPopsBetween.l0 k l a1 ([] : List (S45)) ([] : List ByteArray) l (l.length : Int) 0) else (some true))) ?_) (fun k => by rw [if_pos rfl])
      cases h1 : isLight l a1
      · exact (Evt.const true).congr (fun k => by rw [if_neg (by decide)])
      · obtain ⟨n, rfl, q1, q2, q3, q4, q5⟩ := isLight_all h1
        exact (pb_l0 l n q2 q1 q5 q3 q4 l.length 0 [] [] [] (by omega) (Acc.nil l) (Scr.nil _ _) (Nat.le_refl _)).congr (fun k => by rw [if_pos rfl]; rfl)
  obtain ⟨K, hK⟩ := key
  exact ⟨K, hK K (Nat.le_refl _)⟩
#print axioms PopsBetween
end Go.Proofs.YtjflijebcpcbmaaDoor.G
