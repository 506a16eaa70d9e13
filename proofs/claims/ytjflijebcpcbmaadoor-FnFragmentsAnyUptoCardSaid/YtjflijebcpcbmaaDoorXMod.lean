/-
 What is proved: a plain model of the fragment buffer, and how it lies in memory. Conditions: none.
-/
import Derived.Test.YtjflijebcpcbmaaDoorXAddN
import Derived.Test.YtjflijebcpcbmaaDoorXBuf
import Derived.Test.YtjflijebcpcbmaaDoorXMar
namespace Go.Proofs.YtjflijebcpcbmaaDoor.G
open Go.RowKit Go.Proofs.YtjflijebcpcbmaaDoorW.PrintWords Go.Proofs.YtjflijebcpcbmaaDoorW.PrintLast Go.Proofs.YtjflijebcpcbmaaDoorW.PrintMore
set_option linter.unusedVariables false
set_option linter.unusedSimpArgs false

/-! ### The plain model -/
structure Msg where
 rs : List (Rg (List Nat))
 cov : Nat
 t : Nat
 l : Nat
 hd : Nat × Nat × Nat × Nat × Nat
 ep : Nat
 st : Bool
structure St where
 cur : Nat
 sz : Int
 cnt : Int
 np : Nat
 m : Nat → Option Msg
def St.new : St := ⟨0, 0, 0, 0, fun _ => none⟩

def idxOf {α : Type} (rs : List (Rg α)) (o : Nat) : Nat := (rs.takeWhile fun r => decide (r.off < o)).length
def tillOf {α : Type} (rs : List (Rg α)) (e i : Nat) : Nat := i + ((rs.drop i).takeWhile fun r => decide (r.off + r.len ≤ e)).length
def putR {α : Type} (rs : List (Rg α)) (r : Rg α) : List (Rg α) := rs.take (idxOf rs r.off) ++ r :: rs.drop (tillOf rs (r.off + r.len) (idxOf rs r.off))
def sumL {α : Type} (rs : List (Rg α)) : Nat := (rs.map (·.len)).sum
def hasR {α : Type} (rs : List (Rg α)) (r : Rg α) : Bool := coversAt rs (idxOf rs r.off) r.off (r.off + r.len)
def Msg.add (x : Msg) (r : Rg (List Nat)) : Msg := if hasR x.rs r then x else { x with rs := putR x.rs r, cov := advance ((putR x.rs r).drop (idxOf x.rs r.off)) x.cov }
def dCnt {α : Type} (rs : List (Rg α)) (r : Rg α) : Int := if hasR rs r then 0 else 1 - ((tillOf rs (r.off + r.len) (idxOf rs r.off) - idxOf rs r.off : Nat) : Int)
def dSz {α : Type} (rs : List (Rg α)) (r : Rg α) : Int := if hasR rs r then 0 else (r.len : Int) - (sumL ((rs.drop (idxOf rs r.off)).take (tillOf rs (r.off + r.len) (idxOf rs r.off) - idxOf rs r.off)) : Int)
def Msg.start (x : Msg) (hd : Nat × Nat × Nat × Nat × Nat) (ep : Nat) : Msg := if hd.2.2.2.1 = 0 ∧ x.st = false then { x with hd := hd, ep := ep, st := true } else x
def Msg.fresh (t l : Nat) : Msg := ⟨[], 0, t, l, (0, 0, 0, 0, 0), 0, false⟩
/-- May something be added to these ranges? -/
def okR {α : Type} (l : Nat) (rs : List (Rg α)) : Prop := rs.length ≤ 900 ∧ rs.Pairwise (fun r s => r.off < s.off ∧ r.off + r.len < s.off + s.len) ∧ (∀ r ∈ rs, r.off + r.len ≤ l) ∧ l < 16777216
instance {α : Type} (l : Nat) (rs : List (Rg α)) : Decidable (okR l rs) := by unfold okR; exact inferInstance
/-- May something be pushed into this buffer? -/
def St.ok (s : St) : Prop := 0 ≤ s.cnt ∧ s.cnt ≤ 900 ∧ -2000000 < s.sz ∧ s.sz < 2000000 ∧ s.np < 100000 ∧ s.cur < 65536
instance (s : St) : Decidable s.ok := by unfold St.ok; exact inferInstance
def hdOf (bs : List Nat) : Nat × Nat × Nat × Nat × Nat := (bs.getD 0 0, u24of (bs.drop 1), u16of (bs.drop 4), u24of (bs.drop 6), u24of (bs.drop 9))
def St.put (s : St) (k : Nat) (x : Msg) (d1 d2 : Int) (n : Nat) : St := { s with sz := s.sz + d2, cnt := s.cnt + d1, np := s.np + n, m := fun k' => if k' = k then some x else s.m k' }
/-- What a fragment makes of the buffer. -/
def St.frag (s : St) (ep : Nat) (bs : List Nat) : Option St :=
 if (hdOf bs).2.2.1 < s.cur then some s else
 if (hdOf bs).2.2.2.1 + (hdOf bs).2.2.2.2 ≤ (hdOf bs).2.1 ∧ s.ok then
  match s.m (hdOf bs).2.2.1 with
  | none => some (s.put (hdOf bs).2.2.1 (((Msg.fresh (hdOf bs).1 (hdOf bs).2.1).add ⟨(hdOf bs).2.2.2.1, (hdOf bs).2.2.2.2, (bs.drop 12).take (hdOf bs).2.2.2.2⟩).start (hdOf bs) ep) 1 (hdOf bs).2.2.2.2 1)
  | some x => if x.t = (hdOf bs).1 ∧ x.l = (hdOf bs).2.1 ∧ okR x.l x.rs then
   some (s.put (hdOf bs).2.2.1 ((x.add ⟨(hdOf bs).2.2.2.1, (hdOf bs).2.2.2.2, (bs.drop 12).take (hdOf bs).2.2.2.2⟩).start (hdOf bs) ep) (dCnt x.rs ⟨(hdOf bs).2.2.2.1, (hdOf bs).2.2.2.2, (bs.drop 12).take (hdOf bs).2.2.2.2⟩) (dSz x.rs ⟨(hdOf bs).2.2.2.1, (hdOf bs).2.2.2.2, (bs.drop 12).take (hdOf bs).2.2.2.2⟩) 0)
    else none
 else none
def againOf (s : St) (bs : List Nat) : Bool := decide ((hdOf bs).2.2.2.1 = 0) && decide ((hdOf bs).2.2.1 < s.cur)
def St.frags : Nat → St → Nat → List Nat → Bool → Option (St × Bool)
 | 0, s, _, bs, ag => if bs.length = 0 then some (s, ag) else none
 | k + 1, s, ep, bs, ag => if bs.length = 0 then some (s, ag) else
   if 12 ≤ bs.length ∧ 12 + (hdOf bs).2.2.2.2 ≤ bs.length then (s.frag ep bs).bind fun s' => St.frags k s' ep (bs.drop (12 + (hdOf bs).2.2.2.2)) (againOf s bs) else none
/-- What push tells: of handshake messages, come again. -/
def St.push (s : St) (bs : List Nat) : Option (Bool × Bool × St) :=
 if 13 ≤ bs.length ∧ bs.getD 1 0 = 254 ∧ bs.getD 2 0 = 253 ∧ bs.getD 0 0 ≠ 25 ∧ 0 ≤ s.sz ∧ s.sz + bs.length < 2000000 then
  if bs.getD 0 0 = 22 then (St.frags bs.length s (u16of (bs.drop 3)) (bs.drop 13) false).map fun r => (true, r.2, r.1)
  else some (false, false, s)
 else none
/-- The ranges' bytes, one behind the other. -/
def asm : List (Rg (List Nat)) → Nat → Option (List Nat)
 | [], _ => some []
 | r :: rs, c => if r.off ≤ c ∧ c ≤ r.off + r.len then (asm rs (r.off + r.len)).map fun b => r.p.drop (c - r.off) ++ b else none
def hdOk (hd : Nat × Nat × Nat × Nat × Nat) : Prop := hd.1 < 256 ∧ hd.2.1 < 16777216 ∧ hd.2.2.1 < 65536
instance (hd : Nat × Nat × Nat × Nat × Nat) : Decidable (hdOk hd) := by unfold hdOk; exact inferInstance
def St.pop (s : St) : Option (Option (List Nat × Nat) × St) :=
 match s.m s.cur with
 | none => some (none, s)
 | some x => if x.cov < x.l then some (none, s) else
   if okR x.l x.rs ∧ s.ok ∧ hdOk x.hd ∧ s.cur < 65535 then
    (asm x.rs 0).map fun b => (some (hdr12 x.hd.1 x.hd.2.1 x.hd.2.2.1 0 x.hd.2.1 ++ b, x.ep), { s with cur := s.cur + 1, sz := s.sz - sumL x.rs, cnt := s.cnt - x.rs.length, m := fun k => if k = s.cur then none else s.m k })
   else none

/-! ### The model in memory -/
def Dat (w : World) (B : Nat) (v : Rv) (bs : List Nat) : Prop :=
 bs.length = v.len ∧ (∀ x ∈ bs, x < 256) ∧ ((v.len = 0 ∧ v.p = (none, 0)) ∨ ∃ A o, v.p.1 = some ⟨A, o, none⟩ ∧ v.len ≤ v.p.2 ∧ B ≤ A ∧ Bytes w A o bs)
def Like (w : World) (B : Nat) (v : Rv) (r : Rg (List Nat)) : Prop := v.off = r.off ∧ v.len = r.len ∧ Dat w B v r.p
inductive Likes (w : World) (B : Nat) : List Rv → List (Rg (List Nat)) → Prop
 | nil : Likes w B [] []
 | cons {v : Rv} {r : Rg (List Nat)} {vs : List Rv} {rs : List (Rg (List Nat))} : Like w B v r → Likes w B vs rs → Likes w B (v :: vs) (r :: rs)
structure At where
 g : Nat
 b : Nat
 c : Nat
 rv : List Rv
 sp : List Value
structure MsgAt (w : World) (B : Nat) (x : Msg) (a : At) : Prop where
 fb : FB w a.g a.b a.c a.rv a.sp x.cov x.t x.l x.hd x.ep x.st
 c : a.c ≤ maxLen
 g : B ≤ a.g
 b : B ≤ a.b
 rs : Likes w B a.rv x.rs
structure BufAt (w : World) (B g rm : Nat) (s : St) (a : Nat → At) : Prop where
 h : w.heap[g]? = some (.cells (bcells rm s.cur s.sz s.cnt) 87 (0, 0))
 map : CM w rm s.np (fun k => (s.m k).map fun _ => (a k).g)
 g : B ≤ g
 rm : B ≤ rm
 msg : ∀ k x, s.m k = some x → MsgAt w B x (a k)
 apart : ∀ k k' x x', k ≠ k' → s.m k = some x → s.m k' = some x' → (a k).g ≠ (a k').g ∧ (a k).b ≠ (a k').b

/-- What the buffer's blocks are stays. -/
structure Hold (w w' : World) : Prop where
 c : ∀ (k : Nat) (arr : Array Value) (T : TypeId) (fz : Nat × Nat), w.heap[k]? = some (Obj.cells arr T fz) → (T = 87 ∨ T = 102 ∨ T = 108 ∨ T = 5 ∨ T = 92) → w'.heap[k]? = w.heap[k]?
 m : ∀ (k : Nat) es cl, w.heap[k]? = some (Obj.map es cl) → w'.heap[k]? = w.heap[k]?
theorem Hold.refl (w : World) : Hold w w := ⟨fun _ _ _ _ _ _ => rfl, fun _ _ _ _ => rfl⟩
theorem Hold.trans {w w' w'' : World} (h : Hold w w') (h' : Hold w' w'') : Hold w w'' :=
 ⟨fun k arr T fz hk hT => (h'.c k arr T fz ((h.c k arr T fz hk hT).trans hk) hT).trans (h.c k arr T fz hk hT), fun k es cl hk => (h'.m k es cl ((h.m k es cl hk).trans hk)).trans (h.m k es cl hk)⟩
theorem Hold.below {w w' : World} (h : Below w.heap.size w w') : Hold w w' :=
 ⟨fun k arr T fz hk _ => h.block k (blk_lt hk), fun k es cl hk => h.block k (blk_lt hk)⟩
theorem Hold.alloc (w : World) (o : Obj) : Hold w (w.alloc o) := Hold.below ((Below.refl _ _).alloc (Nat.le_refl _) o)
theorem Hold.grown {w w' : World} {X : Nat} {arr : Array Value} {T : TypeId} {fz : Nat × Nat} (h : w.grownBy w' (some X)) (hX : w.heap[X]? = some (.cells arr T fz)) (hT : T ≠ 87 ∧ T ≠ 102 ∧ T ≠ 108 ∧ T ≠ 5 ∧ T ≠ 92) : Hold w w' :=
 ⟨fun k arr' T' fz' hk hT' => h.block k (blk_lt hk) (fun e => by
  injection e with e
  rw [e, hX] at hk
  injection hk with hk
  injection hk with _ hk _
  obtain ⟨t1, t2, t3, t4, t5⟩ := hT
  rcases hT' with h | h | h | h | h
  ·exact t1 (hk.trans h)
  ·exact t2 (hk.trans h)
  ·exact t3 (hk.trans h)
  ·exact t4 (hk.trans h)
  ·exact t5 (hk.trans h)), fun k es cl hk => h.block k (blk_lt hk) (fun e => by
  injection e with e
  rw [e, hX] at hk
  injection hk with hk
  cases hk)⟩
theorem Hold.bytes {w w' : World} {A o : Nat} {bs : List Nat} (h : Hold w w') (hb : Bytes w A o bs) : Bytes w' A o bs := by
 obtain ⟨arr, fz, h1, h2⟩ := hb
 exact ⟨arr, fz, (h.c A arr 5 fz h1 (by simp)).trans h1, h2⟩
theorem Dat.hold {w w' : World} {B : Nat} {v : Rv} {bs : List Nat} (h : Dat w B v bs) (hh : ∀ A o bs, Bytes w A o bs → Bytes w' A o bs) : Dat w' B v bs := by
 obtain ⟨h1, h2, h3 | ⟨A, o, h3, h4, h5, h6⟩⟩ := h
 ·exact ⟨h1, h2, .inl h3⟩
 ·exact ⟨h1, h2, .inr ⟨A, o, h3, h4, h5, hh A o bs h6⟩⟩
theorem likes_hold {w w' : World} {B : Nat} {rv : List Rv} {rs : List (Rg (List Nat))} (h : Likes w B rv rs) (hh : ∀ A o bs, Bytes w A o bs → Bytes w' A o bs) : Likes w' B rv rs := by
 induction h with
 | nil => exact .nil
 | cons h _ ih => exact .cons ⟨h.1, h.2.1, h.2.2.hold hh⟩ ih
theorem MsgAt.hold {w w' : World} {B : Nat} {x : Msg} {a : At} (h : MsgAt w B x a) (hh : Hold w w') : MsgAt w' B x a :=
 ⟨⟨(hh.c _ _ _ _ h.fb.h (by simp)).trans h.fb.h, ⟨(hh.c _ _ _ _ h.fb.r.h (by simp)).trans h.fb.r.h, h.fb.r.l⟩⟩, h.c, h.g, h.b, likes_hold h.rs fun _ _ _ => hh.bytes⟩
theorem BufAt.hold {w w' : World} {B g rm : Nat} {s : St} {a : Nat → At} (h : BufAt w B g rm s a) (hh : Hold w w') : BufAt w' B g rm s a :=
 ⟨(hh.c _ _ _ _ h.h (by simp)).trans h.h, by obtain ⟨es, cl, hm⟩ := h.map.obj; exact h.map.kept (hh.m _ es cl hm), h.g, h.rm, fun k x hk => (h.msg k x hk).hold hh, h.apart⟩
end Go.Proofs.YtjflijebcpcbmaaDoor.G
