/-
 What is proved: impl.Fragments tells of a script what the plain model tells. Conditions: the model takes the script (records of the version 254 253, fewer than 2000000 bytes kept, at most 900 fragments kept).
-/
import Derived.Test.YtjflijebcpcbmaaDoorXPh
import Derived.Test.YtjflijebcpcbmaaDoorXPop
import Derived.Test.YtjflijebcpcbmaaDoorXPush
import Derived.Test.YtjflijebcpcbmaaDoorXDoors
namespace Go.Proofs.YtjflijebcpcbmaaDoor.G
open Go.RowKit Go.Proofs.YtjflijebcpcbmaaDoorW.PrintWords Go.Proofs.YtjflijebcpcbmaaDoorW.PrintLast Go.Proofs.YtjflijebcpcbmaaDoorW.PrintMore
set_option linter.unusedVariables false
set_option linter.unusedSimpArgs false

def baNat (s : ByteArray) : List Nat := s.data.toList.map UInt8.toNat
def natBa (l : List Nat) : ByteArray := ⟨(l.map UInt8.ofNat).toArray⟩
theorem baNat_lt (s : ByteArray) : ∀ x ∈ baNat s, x < 256 := fun x hx => by
 unfold baNat at hx
 obtain ⟨y, _, rfl⟩ := List.mem_map.1 hx
 exact y.toNat_lt
theorem baNat_length (s : ByteArray) : (baNat s).length = s.size := by simp [baNat]
/-- What a step of a script tells, and what it makes of the buffer. -/
def St.step (s : St) (x : S45) : Option (S40 × St) :=
 if x.f0 = true then (s.push (baNat x.f1)).map fun r => (⟨r.1, r.2.1, false, false, (⟨#[]⟩ : ByteArray), 0, r.2.2.sz⟩, r.2.2)
 else if s.cur < 65536 then s.pop.map fun r => (match r.1 with
  | none => ⟨false, false, false, false, (⟨#[]⟩ : ByteArray), 0, r.2.sz⟩
  | some (b, ep) => ⟨false, false, false, true, natBa b, (ep : Int), r.2.sz⟩, r.2) else none
def St.run : St → List S45 → Option (List S40)
 | _, [] => some []
 | s, x :: xs => (s.step x).bind fun r => (St.run r.2 xs).map fun l => r.1 :: l
def impl_Fragments.f (xs : List S45) : Option (List S40) := if xs.length < 1000000 then St.run St.new xs else none

theorem step_push (B g rm b n c : Nat) (s s' : St) (a : Nat → At) (bs : List Nat) (hs ag : Bool) (w : World) (HL : Laid w) (hB : BufAt w B g rm s a) (hBb : B ≤ b) (hBw : B ≤ w.heap.size) (h : Bytes w b 0 bs) (hl : bs.length = n) (hnc : n ≤ c) (hcm : c ≤ maxLen) (hb : ∀ x ∈ bs, x < 256)
 (hp : s.push bs = some (hs, ag, s')) :
 Calls Tryd.prog 26 #[.agg #[.pointer (some ⟨g, 0, none⟩)], .slice (some ⟨b, 0, none⟩) n c] w fun e w' => ∃ x y z, e = .returned (.tuple #[.bool x, .bool y, z]) ∧ (x = hs ∧ y = ag ∧ z = .nilIface ∧ (∃ a', BufAt w' B g rm s' a') ∧ Fr B w w') := by
 refine zzpush_calls g (some ⟨b, 0, none⟩) n c w (fun x y z w' => x = hs ∧ y = ag ∧ z = .nilIface ∧ (∃ a', BufAt w' B g rm s' a') ∧ Fr B w w') ?_
 obtain ⟨W, hW⟩ : ∃ W, W = w.alloc (.cells #[.pointer (some ⟨g, 0, none⟩)] 53) := ⟨_, rfl⟩
 have hb1 : Below w.heap.size w W := by rw [hW]; exact (Below.refl _ _).alloc (Nat.le_refl _) _
 rw [← hW]
 have hfr : Fr B w W := Fr.of_below hBw hb1
 have hBW := Nat.le_trans hBw hb1.size
 by_cases h22 : bs.getD 0 0 = 22
 ·have hhs : hs = true := by
   unfold St.push at hp
   split at hp
   case isFalse => cases hp
   cases hf : St.frags bs.length s (u16of (bs.drop 3)) (bs.drop 13) false with
   | none => rw [hf] at hp; cases hp
   | some r => rw [hf] at hp; simp at hp; exact hp.1
  subst hhs
  refine (push_hs B g rm b n c s s' a bs ag W (HL.below hb1) (hB.hold (Hold.below hb1)) hBb hBW (bytes_below h hb1) hl hnc hcm hb h22 hp).mono fun e w' hh => ?_
  obtain ⟨rfl, ha, hf⟩ := hh
  exact ⟨true, ag, .nilIface, rfl, rfl, rfl, rfl, ha, ⟨⟨hf.bel.os.trans hfr.bel.os, hf.bel.tape.trans hfr.bel.tape, hf.bel.output.trans hfr.bel.output, Nat.le_trans hfr.bel.size hf.bel.size, fun k hk => (hf.bel.block k hk).trans (hfr.bel.block k hk)⟩, fun k cs T fz hk p q r => by
   have h1 := (hfr.keep k cs T fz hk p q r).trans hk
   exact (hf.keep k cs T fz h1 p q r).trans (h1.trans hk.symm)⟩⟩
 ·unfold St.push at hp
  split at hp
  case isFalse => cases hp
  rename_i hc
  simp at hp
  obtain ⟨rfl, rfl, rfl⟩ := hp
  obtain ⟨c1, c2, c3, c4, c5, c6⟩ := hc
  refine (push_other g rm s.cur b n c s.sz s.cnt bs W (HL.below hb1) (hB.hold (Hold.below hb1)).h (bytes_below h hb1) hl (by omega) hnc hb c2 c3 c4 h22 c5 (by omega)).mono fun e w' hh => ?_
  obtain ⟨rfl, hf⟩ := hh
  exact ⟨false, false, .nilIface, rfl, rfl, rfl, rfl, ⟨a, (hB.hold (Hold.below hb1)).hold (Hold.below hf)⟩, hfr.below hBW hf⟩

theorem step_none (B g rm : Nat) (s s' : St) (a : Nat → At) (w : World) (hB : BufAt w B g rm s a) (hBw : B ≤ w.heap.size) (hc : s.cur < 65536) (hp : s.pop = some (none, s')) :
 Calls Tryd.prog 27 #[.agg #[.pointer (some ⟨g, 0, none⟩)]] w fun e w' => ∃ x y, e = .returned (.tuple #[x, y]) ∧ (x = .slice none 0 0 ∧ y = .int .u16 0 ∧ (∃ a', BufAt w' B g rm s' a') ∧ Fr B w w') := by
 refine zzpop_calls g w (fun x y w' => x = .slice none 0 0 ∧ y = .int .u16 0 ∧ (∃ a', BufAt w' B g rm s' a') ∧ Fr B w w') ?_
 obtain ⟨W, hW⟩ : ∃ W, W = w.alloc (.cells #[.pointer (some ⟨g, 0, none⟩)] 53) := ⟨_, rfl⟩
 have hb1 : Below w.heap.size w W := by rw [hW]; exact (Below.refl _ _).alloc (Nat.le_refl _) _
 rw [← hW]
 have hfr : Fr B w W := Fr.of_below hBw hb1
 refine (pop_none B g rm s s' a W (hB.hold (Hold.below hb1)) (Nat.le_trans hBw hb1.size) hc hp).mono fun e w' hh => ?_
 obtain ⟨rfl, ha, hf⟩ := hh
 exact ⟨_, _, rfl, rfl, rfl, ⟨a, ha⟩, ⟨⟨hf.bel.os.trans hfr.bel.os, hf.bel.tape.trans hfr.bel.tape, hf.bel.output.trans hfr.bel.output, Nat.le_trans hfr.bel.size hf.bel.size, fun k hk => (hf.bel.block k hk).trans (hfr.bel.block k hk)⟩, fun k cs T fz hk p q r => by
  have h1 := (hfr.keep k cs T fz hk p q r).trans hk
  exact (hf.keep k cs T fz h1 p q r).trans (h1.trans hk.symm)⟩⟩

theorem step_some (B g rm : Nat) (s s' : St) (a : Nat → At) (body : List Nat) (ep : Nat) (w : World) (hB : BufAt w B g rm s a) (hBw : B ≤ w.heap.size) (hp : s.pop = some (some (body, ep), s')) :
 Calls Tryd.prog 27 #[.agg #[.pointer (some ⟨g, 0, none⟩)]] w fun e w' => ∃ x y, e = .returned (.tuple #[x, y]) ∧ ((∃ cb cp, x = .slice (some ⟨cb, 0, none⟩) body.length cp ∧ body.length ≤ cp ∧ Bytes w' cb 0 body) ∧ y = .int .u16 (ep : Int) ∧ (∃ a', BufAt w' B g rm s' a') ∧ Fr B w w') := by
 refine zzpop_calls g w (fun x y w' => (∃ cb cp, x = .slice (some ⟨cb, 0, none⟩) body.length cp ∧ body.length ≤ cp ∧ Bytes w' cb 0 body) ∧ y = .int .u16 (ep : Int) ∧ (∃ a', BufAt w' B g rm s' a') ∧ Fr B w w') ?_
 obtain ⟨W, hW⟩ : ∃ W, W = w.alloc (.cells #[.pointer (some ⟨g, 0, none⟩)] 53) := ⟨_, rfl⟩
 have hb1 : Below w.heap.size w W := by rw [hW]; exact (Below.refl _ _).alloc (Nat.le_refl _) _
 rw [← hW]
 have hfr : Fr B w W := Fr.of_below hBw hb1
 refine (pop_some B g rm s s' a body ep W (hB.hold (Hold.below hb1)) (Nat.le_trans hBw hb1.size) hp).mono fun e w' hh => ?_
 obtain ⟨⟨cb, cp, rfl, h1, h2⟩, ha, hf⟩ := hh
 exact ⟨_, _, rfl, ⟨cb, cp, rfl, h1, h2⟩, rfl, ⟨a, ha⟩, ⟨⟨hf.bel.os.trans hfr.bel.os, hf.bel.tape.trans hfr.bel.tape, hf.bel.output.trans hfr.bel.output, Nat.le_trans hfr.bel.size hf.bel.size, fun k hk => (hf.bel.block k hk).trans (hfr.bel.block k hk)⟩, fun k cs T fz hk p q r => by
  have h1 := (hfr.keep k cs T fz hk p q r).trans hk
  exact (hf.keep k cs T fz h1 p q r).trans (h1.trans hk.symm)⟩⟩

theorem info40 : (Tryd.prog.info? 40).map (fun i => (i.zero, i.size, i.bytes)) = some (some (.agg #[.bool false, .bool false, .bool false, .bool false, .string ⟨#[]⟩, .int .u16 0, .int .i64 0]), 7, 40) := by kernel_rfl
end Go.Proofs.YtjflijebcpcbmaaDoor.G
