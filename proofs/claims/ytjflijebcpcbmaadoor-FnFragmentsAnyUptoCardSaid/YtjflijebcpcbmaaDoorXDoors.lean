/-
 What is proved: the doors Push and Pop hand on what push and pop tell. Conditions: none.
-/
import Derived.Test.YtjflijebcpcbmaaDoorXBuf
namespace Go.Proofs.YtjflijebcpcbmaaDoor.G
open Go.RowKit Go.Proofs.YtjflijebcpcbmaaDoorW.PrintWords Go.Proofs.YtjflijebcpcbmaaDoorW.PrintLast Go.Proofs.YtjflijebcpcbmaaDoorW.PrintMore
set_option linter.unusedVariables false
set_option linter.unusedSimpArgs false

set_option maxHeartbeats 4000000 in
set_option maxRecDepth 100000 in
theorem zzpush_calls (g : Nat) (A : Option Addr) (n c : Nat) (w : World) (R : Bool → Bool → Value → World → Prop)
 (h : Calls Tryd.prog 35 #[.pointer (some ⟨g, 0, none⟩), .slice A n c] (w.alloc (.cells #[.pointer (some ⟨g, 0, none⟩)] 53)) fun e w' => ∃ x y z, e = .returned (.tuple #[.bool x, .bool y, z]) ∧ R x y z w') :
 Calls Tryd.prog 26 #[.agg #[.pointer (some ⟨g, 0, none⟩)], .slice A n c] w fun e w' => ∃ x y z, e = .returned (.tuple #[.bool x, .bool y, z]) ∧ R x y z w' := by
 have HS := Aside0.mk h
 clear h
 go_enter Tryd.func26, Tryd.ntmps26
 go_wp2_with (fail)
 refine (HS.out).mono ?_
 rintro e w1 ⟨x, y, z, rfl, hr⟩
 have HR := Aside0.mk hr
 clear hr
 go_wp2
 exact bodyPost_ret (v := .tuple #[.bool x, .bool y, z]) (by simp [results, Tryd.results26, go_sem]) rfl ⟨x, y, z, rfl, HR.out⟩

set_option maxHeartbeats 4000000 in
set_option maxRecDepth 100000 in
theorem zzpop_calls (g : Nat) (w : World) (R : Value → Value → World → Prop)
 (h : Calls Tryd.prog 36 #[.pointer (some ⟨g, 0, none⟩)] (w.alloc (.cells #[.pointer (some ⟨g, 0, none⟩)] 53)) fun e w' => ∃ x y, e = .returned (.tuple #[x, y]) ∧ R x y w') :
 Calls Tryd.prog 27 #[.agg #[.pointer (some ⟨g, 0, none⟩)]] w fun e w' => ∃ x y, e = .returned (.tuple #[x, y]) ∧ R x y w' := by
 have HS := Aside0.mk h
 clear h
 go_enter Tryd.func27, Tryd.ntmps27
 go_wp2_with (fail)
 refine (HS.out).mono ?_
 rintro e w1 ⟨x, y, rfl, hr⟩
 have HR := Aside0.mk hr
 clear hr
 go_wp2
 exact bodyPost_ret (v := .tuple #[x, y]) (by simp [results, Tryd.results27, go_sem]) rfl ⟨x, y, rfl, HR.out⟩
end Go.Proofs.YtjflijebcpcbmaaDoor.G
