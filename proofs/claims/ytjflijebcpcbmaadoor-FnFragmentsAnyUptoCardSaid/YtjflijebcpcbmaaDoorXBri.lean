/-
 What is proved: what add, the cache's store and the stores of fields make of the model in memory. Conditions: none.
-/
import Derived.Test.YtjflijebcpcbmaaDoorXMod
namespace Go.Proofs.YtjflijebcpcbmaaDoor.G
open Go.RowKit Go.Proofs.YtjflijebcpcbmaaDoorW.PrintWords Go.Proofs.YtjflijebcpcbmaaDoorW.PrintLast Go.Proofs.YtjflijebcpcbmaaDoorW.PrintMore
set_option linter.unusedVariables false
set_option linter.unusedSimpArgs false

/-! ### Ranges that have the same places -/
inductive Eqc {α β : Type} : List (Rg α) → List (Rg β) → Prop
 | nil : Eqc [] []
 | cons {v : Rg α} {r : Rg β} {vs : List (Rg α)} {rs : List (Rg β)} : v.off = r.off → v.len = r.len → Eqc vs rs → Eqc (v :: vs) (r :: rs)
theorem Likes.eqc {w : World} {B : Nat} {rv : List Rv} {rs : List (Rg (List Nat))} (h : Likes w B rv rs) : Eqc rv rs := by
 induction h with
 | nil => exact .nil
 | cons h _ ih => exact .cons h.1 h.2.1 ih
section
variable {α β : Type} {a : List (Rg α)} {b : List (Rg β)}
theorem Eqc.length (h : Eqc a b) : a.length = b.length := by
 induction h with
 | nil => rfl
 | cons _ _ _ ih => simp [ih]
theorem Eqc.drop (h : Eqc a b) (n : Nat) : Eqc (a.drop n) (b.drop n) := by
 induction h generalizing n with
 | nil => simpa using Eqc.nil
 | cons h1 h2 h3 ih =>
   cases n with
   | zero => exact .cons h1 h2 h3
   | succ n => exact ih n
theorem Eqc.take (h : Eqc a b) (n : Nat) : Eqc (a.take n) (b.take n) := by
 induction h generalizing n with
 | nil => simpa using Eqc.nil
 | cons h1 h2 h3 ih =>
   cases n with
   | zero => exact .nil
   | succ n => exact .cons h1 h2 (ih n)
theorem Eqc.append {a' : List (Rg α)} {b' : List (Rg β)} (h : Eqc a b) (h' : Eqc a' b') : Eqc (a ++ a') (b ++ b') := by
 induction h with
 | nil => exact h'
 | cons h1 h2 _ ih => exact .cons h1 h2 ih
theorem Eqc.idx (h : Eqc a b) (o : Nat) : idxOf a o = idxOf b o := by
 induction h with
 | nil => rfl
 | cons h1 h2 _ ih =>
   unfold idxOf at *
   simp only [List.takeWhile_cons, h1]
   split <;> simp [ih]
theorem Eqc.til (h : Eqc a b) (e i : Nat) : tillOf a e i = tillOf b e i := by
 unfold tillOf
 congr 1
 have h' := h.drop i
 revert h'
 generalize a.drop i = a'
 generalize b.drop i = b'
 intro h'
 induction h' with
 | nil => rfl
 | cons h1 h2 _ ih =>
   simp only [List.takeWhile_cons, h1, h2]
   split <;> simp [ih]
theorem Eqc.at (h : Eqc a b) (k : Nat) : (a[k]?).map (fun r => (r.off, r.len)) = (b[k]?).map (fun r => (r.off, r.len)) := by
 induction h generalizing k with
 | nil => rfl
 | cons h1 h2 _ ih =>
   cases k with
   | zero => simp [h1, h2]
   | succ k => simpa using ih k
theorem Eqc.cov (h : Eqc a b) (i o e : Nat) : coversAt a i o e = coversAt b i o e := by
 unfold coversAt
 congr 1
 ·cases i with
  | zero => rfl
  | succ k =>
    have := h.at k
    simp only
    cases ha : a[k]? <;> cases hb : b[k]? <;> rw [ha, hb] at this <;> simp at this ⊢
    rw [this.1, this.2]
 ·have := h.at i
  cases ha : a[i]? <;> cases hb : b[i]? <;> rw [ha, hb] at this <;> simp at this ⊢
  rw [this.1, this.2]
theorem Eqc.adv (h : Eqc a b) (c : Nat) : advance a c = advance b c := by
 induction h generalizing c with
 | nil => rfl
 | cons h1 h2 _ ih =>
   unfold advance
   rw [h1, h2]
   split
   ·exact ih _
   ·rfl
theorem Eqc.sum (h : Eqc a b) : sumL a = sumL b := by
 unfold sumL
 induction h with
 | nil => rfl
 | cons h1 h2 _ ih => simp [h2, ih]
theorem Eqc.has (h : Eqc a b) {v : Rg α} {r : Rg β} (h1 : v.off = r.off) (h2 : v.len = r.len) : hasR a v = hasR b r := by
 unfold hasR
 rw [h.idx, h.cov, h1, h2]
end

theorem idx_eq {rs : List Rv} {o i : Nat} (h : Idx rs o i) : i = idxOf rs o := by
 obtain ⟨h1, h2, h3⟩ := h
 unfold idxOf
 induction rs generalizing i with
 | nil => simp at h1; simp [h1]
 | cons r rs ih =>
   rw [List.takeWhile_cons]
   cases i with
   | zero =>
     have := h3 0 r (Nat.le_refl _) rfl
     rw [if_neg (by simp; omega)]
     rfl
   | succ i =>
     have := h2 0 r (by omega) rfl
     rw [if_pos (by simpa using this)]
     have := ih (i := i) (by simpa using h1) (fun k x hk hx => h2 (k + 1) x (by omega) (by simpa using hx)) (fun k x hk hx => h3 (k + 1) x (by omega) (by simpa using hx))
     simp [← this]
theorem till_eq {rs : List Rv} {e i j : Nat} (h : Till rs e i j) : j = tillOf rs e i := by
 obtain ⟨h1, h2, h3, h4⟩ := h
 unfold tillOf
 obtain ⟨d, rfl⟩ : ∃ d, j = i + d := ⟨j - i, by omega⟩
 congr 1
 have h2' : d ≤ (rs.drop i).length := by rw [List.length_drop]; omega
 have h3' : ∀ (k : Nat) (r : Rv), k < d → (rs.drop i)[k]? = some r → r.off + r.len ≤ e := fun k r hk hr => by
  rw [List.getElem?_drop] at hr
  exact h3 _ r (by omega) (by omega) hr
 have h4' : ∀ (r : Rv), (rs.drop i)[d]? = some r → e < r.off + r.len := fun r hr => by
  rw [List.getElem?_drop] at hr
  exact h4 r hr
 clear h1 h2 h3 h4
 revert h2' h3' h4'
 generalize rs.drop i = l
 intro h2 h3 h4
 induction l generalizing d with
 | nil => simp at h2; simp [h2]
 | cons r rs ih =>
   rw [List.takeWhile_cons]
   cases d with
   | zero =>
     have := h4 r rfl
     rw [if_neg (by simp; omega)]
     rfl
   | succ d =>
     have := h3 0 r (by omega) rfl
     rw [if_pos (by simpa using this)]
     have := ih (d := d) (by simpa using h2) (fun k x hk hx => h3 (k + 1) x (by omega) (by simpa using hx)) (fun x hx => h4 x (by simpa using hx))
     simp [← this]

theorem Likes.drop {w : World} {B : Nat} {rv : List Rv} {rs : List (Rg (List Nat))} (h : Likes w B rv rs) (n : Nat) : Likes w B (rv.drop n) (rs.drop n) := by
 induction h generalizing n with
 | nil => simpa using Likes.nil
 | cons h1 h2 ih =>
   cases n with
   | zero => exact .cons h1 h2
   | succ n => exact ih n
theorem Likes.take {w : World} {B : Nat} {rv : List Rv} {rs : List (Rg (List Nat))} (h : Likes w B rv rs) (n : Nat) : Likes w B (rv.take n) (rs.take n) := by
 induction h generalizing n with
 | nil => simpa using Likes.nil
 | cons h1 h2 ih =>
   cases n with
   | zero => exact .nil
   | succ n => exact .cons h1 (ih n)
theorem Likes.append {w : World} {B : Nat} {a a' : List Rv} {b b' : List (Rg (List Nat))} (h : Likes w B a b) (h' : Likes w B a' b') : Likes w B (a ++ a') (b ++ b') := by
 induction h with
 | nil => exact h'
 | cons h1 _ ih => exact .cons h1 ih
theorem sumLen_eq (rs : List Rv) : sumLen rs = sumL rs := rfl

/-! ### The frame: what is none of the buffer's stays -/
def Keep (w w' : World) : Prop := ∀ (k : Nat) (cs : Array Value) (T : TypeId) (fz : Nat × Nat), w.heap[k]? = some (Obj.cells cs T fz) → T ≠ 87 → T ≠ 102 → T ≠ 108 → w'.heap[k]? = w.heap[k]?
structure Fr (B : Nat) (w w' : World) : Prop where
 bel : Below B w w'
 keep : Keep w w'
theorem Fr.of_below {B : Nat} {w W : World} (hB : B ≤ w.heap.size) (h : Below w.heap.size w W) : Fr B w W := ⟨h.mono hB, fun k cs T fz hk _ _ _ => h.block k (blk_lt hk)⟩
theorem Fr.refl {B : Nat} {w : World} (hB : B ≤ w.heap.size) : Fr B w w := Fr.of_below hB (Below.refl _ _)
theorem Fr.below {B : Nat} {w W W' : World} (h : Fr B w W) (hB : B ≤ W.heap.size) (hb : Below W.heap.size W W') : Fr B w W' :=
 ⟨below_then h.bel hB hb, fun k cs T fz hk a b c => by
  have h1 := (h.keep k cs T fz hk a b c).trans hk
  exact (hb.block k (blk_lt h1)).trans (h1.trans hk.symm)⟩
theorem Fr.drew {B : Nat} {w W : World} (h : Fr B w W) : Fr B w W.drew := ⟨h.bel.drew, h.keep⟩
theorem Fr.apart {B G b : Nat} {w W w7 : World} (h : Fr B w W) (hA : Apart W w7 G b) {cs cs' : Array Value} {z z' : Nat × Nat} (kg : W.heap[G]? = some (.cells cs 102 z)) (kb : W.heap[b]? = some (.cells cs' 108 z')) (hG : B ≤ G) (hb : B ≤ b) : Fr B w w7 := by
 obtain ⟨p1, p2, p3, p4, p5⟩ := hA
 have hl := blk_lt kg
 refine ⟨⟨p1.trans h.bel.os, p2.trans h.bel.tape, p3.trans h.bel.output, Nat.le_trans h.bel.size p4, fun k hk => ?_⟩, fun k cs T fz hk a b c => ?_⟩
 ·exact (p5 k (by omega) (by omega) (by omega)).trans (h.bel.block k hk)
 ·have h1 := (h.keep k cs T fz hk a b c).trans hk
  exact (p5 k (blk_lt h1) (blk_ne' h1 kg b) (blk_ne' h1 kb c)).trans (h1.trans hk.symm)
theorem Fr.map {B R : Nat} {w W W' : World} (h : Fr B w W) (hg : W.grownBy W' (some R)) {es : Array MapEntry} {cl : Nat} (hm : W.heap[R]? = some (.map es cl)) (hR : B ≤ R) : Fr B w W' := by
 have hl := blk_lt hm
 refine ⟨⟨hg.os.trans h.bel.os, hg.tape.trans h.bel.tape, hg.output.trans h.bel.output, Nat.le_trans h.bel.size hg.size, fun k hk => ?_⟩, fun k cs T fz hk a b c => ?_⟩
 ·exact (hg.block k (by omega) (fun e => by injection e with e; omega)).trans (h.bel.block k hk)
 ·have h1 := (h.keep k cs T fz hk a b c).trans hk
  exact (hg.block k (blk_lt h1) (fun e => by injection e with e; rw [e, hm] at h1; cases h1)).trans (h1.trans hk.symm)
theorem Fr.set {B p : Nat} {w W : World} (h : Fr B w W) {cs : Array Value} {T : TypeId} {z : Nat × Nat} (hk : W.heap[p]? = some (.cells cs T z)) (hT : T = 87 ∨ T = 102 ∨ T = 108) (hp : B ≤ p) (j : Nat) (v : Value) : Fr B w (W.setCell ⟨p, j, none⟩ v) :=
 ⟨h.bel.setCell hp v, fun k cs' T' fz hk' a b c => by
  have h1 := (h.keep k cs' T' fz hk' a b c).trans hk'
  have hne : k ≠ p := blk_ne' h1 hk (fun e => by rcases hT with r | r | r <;> (rw [r] at e; first | exact a e | exact b e | exact c e))
  exact (Below.heap_setCell W ⟨p, j, none⟩ v k hne).trans (h1.trans hk'.symm)⟩
theorem Fr.sets {B p : Nat} {w W : World} (h : Fr B w W) {cs : Array Value} {T : TypeId} {z : Nat × Nat} (hk : W.heap[p]? = some (.cells cs T z)) (hT : T = 87 ∨ T = 102 ∨ T = 108) (hp : B ≤ p) (j : Nat) (vs : List Value) : Fr B w (W.setCells p j vs) :=
 ⟨below_setCells h.bel hp j vs, fun k cs' T' fz hk' a b c => by
  have h1 := (h.keep k cs' T' fz hk' a b c).trans hk'
  have hne : k ≠ p := blk_ne' h1 hk (fun e => by rcases hT with r | r | r <;> (rw [r] at e; first | exact a e | exact b e | exact c e))
  exact (setCells_other p vs j W k hne).trans (h1.trans hk'.symm)⟩

/-! ### What the steps of push make of the buffer -/
def St.set (s : St) (k : Nat) (x : Msg) : St := { s with m := fun k' => if k' = k then some x else s.m k' }
def updA (a : Nat → At) (k : Nat) (x : At) : Nat → At := fun k' => if k' = k then x else a k'

theorem MsgAt.apart {w w' : World} {B : Nat} {x : Msg} {a : At} {g b : Nat} (h : MsgAt w B x a) (hg : a.g ≠ g) (hb : a.b ≠ b) (hA : Apart w w' g b) {fz : Nat × Nat} {cs cs' : Array Value} (kg : w.heap[g]? = some (.cells cs 102 (0, 0))) (kb : w.heap[b]? = some (.cells cs' 108 (0, 0))) : MsgAt w' B x a := by
 obtain ⟨_, _, _, _, hk⟩ := hA
 have n1 : a.g ≠ b := blk_ne h.fb.h kb (by decide)
 have n2 : a.b ≠ g := blk_ne h.fb.r.h kg (by decide)
 refine ⟨⟨(hk _ (blk_lt h.fb.h) hg n1).trans h.fb.h, ⟨(hk _ (blk_lt h.fb.r.h) n2 hb).trans h.fb.r.h, h.fb.r.l⟩⟩, h.c, h.g, h.b, likes_hold h.rs fun A o bs hB => ?_⟩
 refine hB.kept ?_
 obtain ⟨arr, fz, h1, _⟩ := hB
 exact hk _ (blk_lt h1) (blk_ne' h1 kg (by decide)) (blk_ne' h1 kb (by decide))

theorem BufAt.added {w w' : World} {B g rm k : Nat} {s : St} {a : Nat → At} {x : Msg} {v : Rv} {r : Rg (List Nat)} {e : Ending} (h : BufAt w B g rm s a) (hk : s.m k = some x) (hv : Like w B v r)
 (hA : Added w (a k).g (a k).b x.cov x.t x.l x.hd x.ep x.st (a k).rv v e w') :
 e = .returned (.tuple #[.int .i64 (dCnt x.rs r), .int .i64 (dSz x.rs r), .nilIface]) ∧ Apart w w' (a k).g (a k).b ∧ ∃ y : At, y.g = (a k).g ∧ BufAt w' B g rm (s.set k (x.add r)) (updA a k y) := by
 have hm := h.msg k x hk
 have hq := hm.rs.eqc
 obtain ⟨i, hi, hA⟩ := hA
 have ei := idx_eq hi
 rw [hq.idx, hv.1] at ei
 rcases hA with ⟨h1, rfl, h2⟩ | ⟨h1, j, hj, rfl, b', c', sp', h2, h3, h4, h5⟩
 ·have hh : hasR x.rs r = true := by
   unfold hasR
   rw [← ei, ← hq.cov, ← hv.1, ← hv.2.1]
   exact h1
  refine ⟨by simp [dCnt, dSz, hh], ⟨h2.os, h2.tape, h2.output, h2.size, fun X hX _ _ => h2.block X hX⟩, a k, rfl, ?_⟩
  have hB := h.hold (Hold.below h2)
  have e1 : x.add r = x := by unfold Msg.add; rw [if_pos hh]
  have e2 : updA a k (a k) = a := by
   funext k'
   unfold updA
   split
   ·rename_i e; rw [e]
   ·rfl
  have e3 : s.set k x = s := by
   obtain ⟨cur, sz, cnt, np, m⟩ := s
   unfold St.set
   simp only
   congr 1
   funext k'
   split
   ·rename_i e; rw [e]; exact hk.symm
   ·rfl
  rw [e1, e2, e3]
  exact hB
 ·have hh : hasR x.rs r = false := by
   unfold hasR
   rw [← ei, ← hq.cov, ← hv.1, ← hv.2.1]
   exact h1
  have ej := till_eq hj
  rw [hq.til, hv.1, hv.2.1] at ej
  have eput : (x.add r) = { x with rs := putR x.rs r, cov := advance ((putR x.rs r).drop i) x.cov } := by
   unfold Msg.add
   rw [if_neg (by simp [hh]), ← ei]
  have hkb := hm.fb.r.h
  have hkg := hm.fb.h
  obtain ⟨p1, p2, p3, p4, p5⟩ := h5
  have hbytes : ∀ A o bs, Bytes w A o bs → Bytes w' A o bs := fun A o bs hB => by
   refine hB.kept ?_
   obtain ⟨arr, fz, h1, _⟩ := hB
   exact p5 _ (blk_lt h1) (blk_ne' h1 hkg (by decide)) (blk_ne' h1 hkb (by decide))
  have hlk : Likes w' B ((a k).rv.take i ++ v :: (a k).rv.drop j) (putR x.rs r) := by
   unfold putR
   rw [← ei, ← ej]
   refine likes_hold ?_ hbytes
   exact (hm.rs.take i).append (.cons hv (hm.rs.drop j))
  refine ⟨?_, ⟨p1, p2, p3, p4, p5⟩, ⟨(a k).g, b', c', (a k).rv.take i ++ v :: (a k).rv.drop j, sp'⟩, rfl, ?_⟩
  ·unfold dCnt dSz
   rw [if_neg (by simp [hh]), if_neg (by simp [hh]), ← ei, ← ej, sumLen_eq, ((hq.drop i).take (j - i)).sum, hv.2.1]
  ·have hgk : ∀ k', (updA a k ⟨(a k).g, b', c', (a k).rv.take i ++ v :: (a k).rv.drop j, sp'⟩ k').g = (a k').g := fun k' => by
    unfold updA
    split
    ·rename_i e; rw [e]
    ·rfl
   have hfun : (fun k' => ((s.set k (x.add r)).m k').map fun _ => (updA a k ⟨(a k).g, b', c', (a k).rv.take i ++ v :: (a k).rv.drop j, sp'⟩ k').g) = fun k' => (s.m k').map fun _ => (a k').g := by
    funext k'
    rw [hgk k']
    unfold St.set
    simp only
    split
    ·rename_i e; rw [e, hk]; rfl
    ·rfl
   have hb' : b' = (a k).b ∨ w.heap.size ≤ b' := h4
   refine ⟨?_, ?_, h.g, h.rm, ?_, ?_⟩
   ·exact (p5 g (blk_lt h.h) (blk_ne h.h hkg (by decide)) (blk_ne h.h hkb (by decide))).trans h.h
   ·show CM w' rm s.np _
    rw [hfun]
    obtain ⟨es, cl, hmm⟩ := h.map.obj
    exact h.map.kept (p5 rm (blk_lt hmm) (fun e => by rw [e, hkg] at hmm; cases hmm) (fun e => by rw [e, hkb] at hmm; cases hmm))
   ·intro k' x' hk'
    by_cases e : k' = k
    ·subst e
     unfold St.set at hk'
     simp only [if_pos] at hk'
     injection hk' with hk'
     rw [← hk', eput]
     unfold updA
     rw [if_pos rfl]
     refine ⟨?_, h3, hm.g, ?_, hlk⟩
     ·have hcov : advance ((putR x.rs r).drop i) x.cov = advance (((a k').rv.take i ++ v :: (a k').rv.drop j).drop i) x.cov := ((hlk.eqc.drop i).adv _).symm
      rw [hcov]
      exact h2
     ·show B ≤ b'
      have := hm.b
      have := blk_lt hkb
      have hg := hm.g
      have := blk_lt hkg
      rcases hb' with e | e
      ·rw [e]; exact hm.b
      ·exact Nat.le_trans hm.b (Nat.le_trans (Nat.le_of_lt (blk_lt hkb)) e)
    ·unfold St.set at hk'
     simp only [if_neg e] at hk'
     unfold updA
     rw [if_neg e]
     have ap := h.apart k' k x' x e hk' hk
     exact (h.msg k' x' hk').apart (fz := (0, 0)) ap.1 ap.2 ⟨p1, p2, p3, p4, p5⟩ hkg hkb
   ·intro k1 k2 x1 x2 hne h1' h2'
    have key : ∀ k' x', k' ≠ k → s.m k' = some x' → (a k').g ≠ (a k).g ∧ (a k').b ≠ b' := fun k' x' hne' hk' => by
     have ap := h.apart k' k x' x hne' hk' hk
     refine ⟨ap.1, ?_⟩
     rcases hb' with e | e
     ·rw [e]; exact ap.2
     ·have := blk_lt (h.msg k' x' hk').fb.r.h
      omega
    unfold St.set at h1' h2'
    simp only at h1' h2'
    unfold updA
    by_cases e1 : k1 = k
    ·by_cases e2 : k2 = k
     ·exact absurd (e1.trans e2.symm) hne
     ·rw [if_neg e2] at h2'
      rw [if_pos e1, if_neg e2]
      have := key k2 x2 e2 h2'
      exact ⟨fun h => this.1 h.symm, fun h => this.2 h.symm⟩
    ·rw [if_neg e1] at h1'
     by_cases e2 : k2 = k
     ·rw [if_neg e1, if_pos e2]
      exact key k1 x1 e1 h1'
     ·rw [if_neg e2] at h2'
      rw [if_neg e1, if_neg e2]
      exact h.apart k1 k2 x1 x2 hne h1' h2'

/-- A message's header is stored. -/
theorem BufAt.msgset {w w' : World} {B g rm k : Nat} {s : St} {a : Nat → At} {x y : Msg} (h : BufAt w B g rm s a) (hk : s.m k = some x)
 (hg : w'.heap[(a k).g]? = some (.cells (fcells (.slice (some ⟨(a k).b, 0, none⟩) (a k).rv.length (a k).c) y.cov y.t y.l y.hd y.ep y.st) 102 (0, 0)))
 (hy : y.rs = x.rs) (ho : ∀ X, X ≠ (a k).g → w'.heap[X]? = w.heap[X]?) : BufAt w' B g rm (s.set k y) a := by
 have hm := h.msg k x hk
 have hkb := hm.fb.r.h
 have hkg := hm.fb.h
 have hfun : (fun k' => ((s.set k y).m k').map fun _ => (a k').g) = fun k' => (s.m k').map fun _ => (a k').g := by
  funext k'
  unfold St.set
  simp only
  split
  ·rename_i e; rw [e, hk]; rfl
  ·rfl
 have hbytes : ∀ A o bs, Bytes w A o bs → Bytes w' A o bs := fun A o bs hB => by
  refine hB.kept ?_
  obtain ⟨arr, fz, h1, _⟩ := hB
  exact ho _ (blk_ne' h1 hkg (by decide))
 refine ⟨(ho g (blk_ne h.h hkg (by decide))).trans h.h, ?_, h.g, h.rm, ?_, ?_⟩
 ·show CM w' rm s.np _
  rw [hfun]
  obtain ⟨es, cl, hmm⟩ := h.map.obj
  exact h.map.kept (ho rm (fun e => by rw [e, hkg] at hmm; cases hmm))
 ·intro k' x' hk'
  by_cases e : k' = k
  ·subst e
   unfold St.set at hk'
   simp only [if_pos] at hk'
   injection hk' with hk'
   rw [← hk']
   exact ⟨⟨hg, ⟨(ho _ (blk_ne hkb hkg (by decide))).trans hkb, hm.fb.r.l⟩⟩, hm.c, hm.g, hm.b, by rw [hy]; exact likes_hold hm.rs hbytes⟩
  ·unfold St.set at hk'
   simp only [if_neg e] at hk'
   have ap := h.apart k' k x' x e hk' hk
   have h' := h.msg k' x' hk'
   exact ⟨⟨(ho _ ap.1).trans h'.fb.h, ⟨(ho _ (blk_ne h'.fb.r.h hkg (by decide))).trans h'.fb.r.h, h'.fb.r.l⟩⟩, h'.c, h'.g, h'.b, likes_hold h'.rs hbytes⟩
 ·intro k1 k2 x1 x2 hne h1' h2'
  have key : ∀ k' x', (s.set k y).m k' = some x' → ∃ x'', s.m k' = some x'' := fun k' x' hk' => by
   unfold St.set at hk'
   simp only at hk'
   split at hk'
   ·rename_i e; exact ⟨x, by rw [e]; exact hk⟩
   ·exact ⟨_, hk'⟩
  obtain ⟨y1, q1⟩ := key k1 x1 h1'
  obtain ⟨y2, q2⟩ := key k2 x2 h2'
  exact h.apart k1 k2 y1 y2 hne q1 q2

/-- The buffer's own numbers are stored. -/
theorem BufAt.bufset {w w' : World} {B g rm : Nat} {s : St} {a : Nat → At} (h : BufAt w B g rm s a) (cur : Nat) (sz cnt : Int) (np : Nat)
 (hg : w'.heap[g]? = some (.cells (bcells rm cur sz cnt) 87 (0, 0))) (hn : np = s.np) (ho : ∀ X, X ≠ g → w'.heap[X]? = w.heap[X]?) : BufAt w' B g rm ⟨cur, sz, cnt, np, s.m⟩ a := by
 have hbytes : ∀ A o bs, Bytes w A o bs → Bytes w' A o bs := fun A o bs hB => by
  refine hB.kept ?_
  obtain ⟨arr, fz, h1, _⟩ := hB
  exact ho _ (blk_ne' h1 h.h (by decide))
 refine ⟨hg, ?_, h.g, h.rm, ?_, h.apart⟩
 ·show CM w' rm np _
  rw [hn]
  obtain ⟨es, cl, hmm⟩ := h.map.obj
  exact h.map.kept (ho rm (fun e => by have := h.h; rw [← e, hmm] at this; cases this))
 ·intro k' x' hk'
  have h' := h.msg k' x' hk'
  exact ⟨⟨(ho _ (blk_ne h'.fb.h h.h (by decide))).trans h'.fb.h, ⟨(ho _ (blk_ne h'.fb.r.h h.h (by decide))).trans h'.fb.r.h, h'.fb.r.l⟩⟩, h'.c, h'.g, h'.b, likes_hold h'.rs hbytes⟩

/-- A new message is laid into the cache. -/
theorem BufAt.newmsg {w w' : World} {B g rm k : Nat} {s : St} {a : Nat → At} {x : Msg} {y : At} (h : BufAt w B g rm s a) (hk : s.m k = none) (hy : MsgAt w B x y)
 (hn : ∀ k' x', s.m k' = some x' → (a k').g ≠ y.g ∧ (a k').b ≠ y.b)
 (hc : CM w' rm (s.np + 1) (fun k' => if k' = k then some y.g else (s.m k').map fun _ => (a k').g)) (hg : w.grownBy w' (some rm)) :
 BufAt w' B g rm { s.set k x with np := s.np + 1 } (updA a k y) := by
 obtain ⟨es, cl, hmm⟩ := h.map.obj
 have hc5 : ∀ (X : Nat) (arr : Array Value) (T : TypeId) (fz : Nat × Nat), w.heap[X]? = some (Obj.cells arr T fz) → w'.heap[X]? = w.heap[X]? := fun X arr T fz hX => hg.block X (blk_lt hX) (fun e => by injection e with e; rw [e, hmm] at hX; cases hX)
 have hkeep : ∀ x' a', MsgAt w B x' a' → MsgAt w' B x' a' := fun x' a' h' => ⟨⟨(hc5 _ _ _ _ h'.fb.h).trans h'.fb.h, ⟨(hc5 _ _ _ _ h'.fb.r.h).trans h'.fb.r.h, h'.fb.r.l⟩⟩, h'.c, h'.g, h'.b, likes_hold h'.rs fun A o bs hB => by
  refine hB.kept ?_
  obtain ⟨arr, fz, h1, _⟩ := hB
  exact hc5 _ _ _ _ h1⟩
 refine ⟨(hc5 _ _ _ _ h.h).trans h.h, ?_, h.g, h.rm, ?_, ?_⟩
 ·show CM w' rm (s.np + 1) _
  have : (fun k' => ((s.set k x).m k').map fun _ => (updA a k y k').g) = fun k' => if k' = k then some y.g else (s.m k').map fun _ => (a k').g := by
   funext k'
   unfold St.set updA
   simp only
   split <;> rfl
  exact this ▸ hc
 ·intro k' x' hk'
  unfold updA
  change (if k' = k then some x else s.m k') = some x' at hk'
  split at hk'
  ·rename_i e
   rw [if_pos e]
   injection hk' with hk'
   rw [← hk']
   exact hkeep _ _ hy
  ·rename_i e
   rw [if_neg e]
   exact hkeep _ _ (h.msg k' x' hk')
 ·intro k1 k2 x1 x2 hne h1' h2'
  change (if k1 = k then some x else s.m k1) = some x1 at h1'
  change (if k2 = k then some x else s.m k2) = some x2 at h2'
  unfold updA
  by_cases e1 : k1 = k
  ·by_cases e2 : k2 = k
   ·exact absurd (e1.trans e2.symm) hne
   ·rw [if_neg e2] at h2'
    rw [if_pos e1, if_neg e2]
    have := hn k2 x2 h2'
    exact ⟨fun h => this.1 h.symm, fun h => this.2 h.symm⟩
  ·rw [if_neg e1] at h1'
   by_cases e2 : k2 = k
   ·rw [if_neg e1, if_pos e2]
    exact hn k1 x1 h1'
   ·rw [if_neg e2] at h2'
    rw [if_neg e1, if_neg e2]
    exact h.apart k1 k2 x1 x2 hne h1' h2'
end Go.Proofs.YtjflijebcpcbmaaDoor.G
