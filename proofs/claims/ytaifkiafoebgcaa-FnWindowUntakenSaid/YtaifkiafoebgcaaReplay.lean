/-
  What is proved: impl.Replay answers as the function impl_Replay.f on lists. Conditions: a window of 1 to 500, numbers of at most 2^48.
-/
import Derived.Test.YtaifkiafoebgcaaSlide
import Derived.Handy
namespace Go.Proofs.Ytaifkiafoebgcaa.V
open Go.RowKit Go.Proofs.YtaifkiafoebgcaaW.PrintWords Go.Proofs.YtaifkiafoebgcaaW.PrintLast Go.Proofs.YtaifkiafoebgcaaW.PrintMore
set_option linter.unusedVariables false
set_option linter.unusedSimpArgs false

/-- Is what passed at place i taken? -/
def takes (accept : List Bool) (i : Nat) : Bool := decide (accept.length ≤ i) || accept.getD i false

def replayFrom (win msb most : Nat) (accept : List Bool) : Nat → List Nat → Nat → List Nat → List Bool
  | _, [], _, _ => []
  | i, n :: rest, latest, bs =>
    if fresh win latest most bs n then
      if takes accept i then true :: replayFrom win msb most accept (i + 1) rest (max latest n) (taken win msb latest most bs n)
      else true :: replayFrom win msb most accept (i + 1) rest latest bs
    else false :: replayFrom win msb most accept (i + 1) rest latest bs

def impl_Replay.f (window most : Int) (numbers : List Int) (accept : List Bool) : Option (List Bool) :=
  if 1 ≤ window ∧ window ≤ 500 ∧ 0 < most ∧ most < 281474976710656 ∧ (∀ x ∈ numbers, 0 ≤ x ∧ x < 18446744073709551616) ∧ numbers.length ≤ 1000 then
    some (replayFrom window.toNat (msbOf window.toNat) most.toNat accept 0 (numbers.map Int.toNat) 0 (zeros window.toNat))
  else none

theorem setAt_length (bs : List Nat) (win i : Nat) : (setAt bs win i).length = bs.length := by unfold setAt; split <;> simp
theorem setAt_lt (bs : List Nat) (hb : ∀ b ∈ bs, W64 b) (win i : Nat) : ∀ b ∈ setAt bs win i, W64 b := by
  intro b hm
  unfold setAt at hm
  split at hm
  · rcases List.mem_or_eq_of_mem_set hm with h | rfl
    · exact hb b h
    · have h1 : (18446744073709551616 : Nat) = 2 ^ 64 := by decide
      have h2 := getD_lt hb (i / 64)
      unfold W64
      rw [h1] at h2 ⊢
      exact Nat.or_lt_two_pow h2 (Nat.pow_lt_pow_right (by omega) (by omega))
  · exact hb b hm
theorem taken_length (win msb latest most : Nat) (bs : List Nat) (seq : Nat) : (taken win msb latest most bs seq).length = bs.length := by
  unfold taken
  split
  · rw [setAt_length, shifted_length]
  · rw [setAt_length]
theorem taken_lt (win msb latest most : Nat) (bs : List Nat) (hb : ∀ b ∈ bs, W64 b) (seq : Nat) : ∀ b ∈ taken win msb latest most bs seq, W64 b := by
  unfold taken
  split
  · exact setAt_lt _ (shifted_lt bs hb _ msb) _ _
  · exact setAt_lt _ hb _ _
theorem Bd.next {win msb latest most : Nat} {bs : List Nat} (h : Bd win msb latest most bs) {seq : Nat} (hs : seq ≤ most) : Bd win msb (max latest seq) most (taken win msb latest most bs seq) :=
  ⟨h.w0, h.w1, by have := h.l; have := h.m; omega, h.m, h.m0, by rw [taken_length]; exact h.len, by rw [taken_length]; exact h.len2, taken_lt _ _ _ _ _ h.ws _, h.msb⟩
theorem fresh_le {win latest most : Nat} {bs : List Nat} {seq : Nat} (h : fresh win latest most bs seq = true) : seq ≤ most := by
  unfold fresh at h
  simp at h
  exact h.1

theorem wrap64_next (k : Nat) (h : k ≤ 1000) : wrap64 ((k : Int) + 1) = ((k + 1 : Nat) : Int) := by
  unfold wrap64
  omega

theorem Det.grown {w w' : World} {gd gm gb win msb latest most : Nat} {bs : List Nat} {row : Option Nat} (h : Det w gd gm gb win msb latest most bs) (hg : w.grownBy w' row) (hn : some gd ≠ row ∧ some gm ≠ row ∧ some gb ≠ row) : Det w' gd gm gb win msb latest most bs :=
  ⟨(hg.block gd (blk_lt h.d) hn.1).trans h.d, (hg.block gm (blk_lt h.k.m) hn.2.1).trans h.k.m, (hg.block gb (blk_lt h.k.b) hn.2.2).trans h.k.b⟩
theorem own_away {w : World} {base gd gm gb : Nat} {v : Value} {out : List Bool} (h : Kd.R Kd.bool 4 w base (fun q => q ≠ gd ∧ q ≠ gm ∧ q ≠ gb) v out) : some gd ≠ v.ownBlock ∧ some gm ≠ v.ownBlock ∧ some gb ≠ v.ownBlock :=
  ⟨fun e => (h.1 gd e.symm).1 rfl, fun e => (h.1 gm e.symm).2.1 rfl, fun e => (h.1 gb e.symm).2.2 rfl⟩
theorem fresh_ok {w : World} {gd gm gb win msb latest most : Nat} {bs : List Nat} (h : Det w gd gm gb win msb latest most bs) (q : Nat) (hq : w.heap.size ≤ q) : q ≠ gd ∧ q ≠ gm ∧ q ≠ gb := by
  have h1 := blk_lt h.d
  have h2 := blk_lt h.k.m
  have h3 := blk_lt h.k.b
  omega

theorem replay_step (win msb most : Nat) (accept : List Bool) (ns : List Nat) (k latest : Nat) (bs : List Nat) (hk : k < ns.length) :
    replayFrom win msb most accept k (ns.drop k) latest bs = (if fresh win latest most bs (ns.getD k 0) then
      if takes accept k then true :: replayFrom win msb most accept (k + 1) (ns.drop (k + 1)) (max latest (ns.getD k 0)) (taken win msb latest most bs (ns.getD k 0))
      else true :: replayFrom win msb most accept (k + 1) (ns.drop (k + 1)) latest bs
    else false :: replayFrom win msb most accept (k + 1) (ns.drop (k + 1)) latest bs) := by
  rw [List.drop_eq_getElem_cons hk, List.getD_eq_getElem?_getD, List.getElem?_eq_getElem hk]
  rfl

set_option maxHeartbeats 8000000 in
set_option maxRecDepth 100000 in
theorem impl_Replay.calls (a0 a1 : Int) (A2 : Option Addr) (c2 : Nat) (l2 : List Int) (A3 : Option Addr) (c3 : Nat) (l3 : List Bool) (r : List Bool) (w : World) (hr2 : Kd.C (Kd.int .u64) w A2 l2.length l2) (hc2 : l2.length ≤ c2) (hr3 : Kd.C Kd.bool w A3 l3.length l3) (hc3 : l3.length ≤ c3) (h : impl_Replay.f a0 a1 l2 l3 = some r) :
    Calls Try.prog 13 #[.int .i64 a0, .int .u64 a1, .slice A2 l2.length c2, .slice A3 l3.length c3] w fun e w' => ∃ v0_, e = .returned v0_ ∧ Kd.R Kd.bool 4 w' w.heap.size (fun _ => True) v0_ r ∧ Below w.heap.size w w' := by
  unfold impl_Replay.f at h
  split at h
  case isFalse => cases h
  rename_i hg
  obtain ⟨g1, g2, g3, g4, g5, g6⟩ := hg
  obtain ⟨n, rfl⟩ : ∃ n : Nat, a0 = (n : Int) := ⟨a0.toNat, by omega⟩
  obtain ⟨most, rfl⟩ : ∃ m : Nat, a1 = (m : Int) := ⟨a1.toNat, by omega⟩
  obtain ⟨ns, hns⟩ : ∃ ns, ns = l2.map Int.toNat := ⟨_, rfl⟩
  have hlen : l2.length = ns.length := by rw [hns, List.length_map]
  have hrd : ∀ k : Nat, k < ns.length → rd l2 (k : Int) = ((ns.getD k 0 : Nat) : Int) ∧ W64 (ns.getD k 0) := by
    intro k hk
    have hk2 : k < l2.length := by omega
    have := g5 l2[k] (List.getElem_mem hk2)
    have h1 : ns.getD k 0 = l2[k].toNat := by rw [hns, List.getD_eq_getElem?_getD]; simp [hk2]
    have h2 : rd l2 (k : Int) = l2[k] := by simp [rd, hk2]
    rw [h1, h2]
    unfold W64
    omega
  obtain rfl := Option.some.inj h
  rw [Int.toNat_natCast, Int.toNat_natCast, ← hns]
  have hw1 : IntKind.u64.wrap (n : Int) = (n : Int) := by rw [IntKind.wrap_u64]; omega
  have HNEW := Aside0.mk (new_calls n most (by omega) (by omega) w)
  have HR2 := Aside0.mk hr2
  have HR3 := Aside0.mk hr3
  have HRD := Aside0.mk hrd
  rw [hlen]
  have G : Aside0 (1 ≤ n ∧ n ≤ 500 ∧ 0 < most ∧ most < 281474976710656 ∧ ns.length ≤ 1000) := ⟨by omega⟩
  have HLEN := Aside0.mk hlen
  obtain ⟨M, hM⟩ : ∃ M, M = msbOf n := ⟨_, rfl⟩
  have hB0 : Bd n M 0 most (zeros n) := by
    have := G.out
    refine ⟨by omega, by omega, by omega, by omega, by omega, by simp [zeros]; omega, by simp [zeros]; omega, fun b hb => ?_, ?_⟩
    · rw [List.eq_of_mem_replicate hb]; unfold W64; omega
    · rw [hM]
      unfold msbOf W64
      have h1 : 2 ^ (64 - n % 64) ≤ 2 ^ 64 := Nat.pow_le_pow_right (by omega) (by omega)
      have h2 : 1 ≤ 2 ^ (64 - n % 64) := Nat.pow_pos (by omega)
      generalize 2 ^ (64 - n % 64) = x at *
      omega
  have HNEW2 := HNEW.out
  rw [← hM] at HNEW2 ⊢
  have HNEW := Aside0.mk HNEW2
  have HB0 := Aside0.mk hB0
  obtain ⟨r, hr⟩ : ∃ r, r = replayFrom n M most l3 0 ns 0 (zeros n) := ⟨_, rfl⟩
  rw [← hr]
  have HRR := Aside0.mk hr
  clear h hr2 hr3 hrd hns g5 hc2 hc3 g1 g2 g3 g4 g6 hr HNEW2 hM hB0
  go_enter Try.func13, Try.ntmps13
  go_wp2_with (go_at_call 18; go_loud ((with_reducible refine (HNEW.out).mono ?_); rintro e w1 ⟨gd, gm, gb, rfl, h1, h2, h3, h4⟩; have H1 := Aside0.mk h1; have H2 := Aside0.mk h2; have H3 := Aside0.mk h3; have H4 := Aside0.mk h4; clear h1 h2 h3 h4))
  clear hw1 HNEW
  go_loopg [10, 21] ns.length (fun kq v10 v21 wr => ∃ (k latest : Nat) (bs : List Nat) (out : List Bool), v21 = .int .i64 (k : Int) ∧ Aside0 (kq = ns.length - k ∧ k ≤ ns.length) ∧ Aside0 (Det wr gd gm gb n M latest most bs) ∧ Aside0 (Bd n M latest most bs) ∧ Aside0 (Kd.R Kd.bool 4 wr w.heap.size (fun q => q ≠ gd ∧ q ≠ gm ∧ q ≠ gb) v10 out) ∧ Aside0 (Below w.heap.size w wr) ∧ Aside0 (out ++ replayFrom n M most l3 k (ns.drop k) latest bs = r ∧ out.length = k))
  case atStart => exact ⟨0, 0, zeros n, [], rfl, ⟨by omega⟩, H1, HB0, ⟨Kd.R_nil _ _ _ _ _⟩, H4, ⟨HRR.out.symm, rfl⟩⟩
  case round =>
    clear H1 HB0 H4 HRR
    obtain ⟨k, latest, bs, out, rfl, HK, HD, HBD, HO, HB, HE⟩ := hrel
    by_cases hk : k = ns.length
    · have hk1 : ¬ ((k : Int) < (ns.length : Int)) := by omega
      go_wp2
      go_ret
      refine ⟨_, rfl, ?_, HB.out⟩
      have he := HE.out.1
      rw [hk, List.drop_length] at he
      simp only [replayFrom, List.append_nil] at he
      rw [← he]
      exact Kd.R_mono HO.out (fun _ _ => trivial)
    · have hk1 : ((k : Int) < (ns.length : Int)) := by have := HK.out; omega
      have hk2 : k < ns.length := by omega
      have hst := replay_step n M most l3 ns k latest bs hk2
      obtain ⟨seq, hsq⟩ : ∃ s, s = ns.getD k 0 := ⟨_, rfl⟩
      obtain ⟨hrd1, hrd2⟩ := HRD.out k hk2
      rw [← hsq] at hst hrd1 hrd2
      obtain ⟨ad, eA, hx⟩ := Kd.at_int (Kd.C_below HR2.out HB.out) (k : Int) (by omega) (by have := HLEN.out; omega)
      rw [hrd1, Int.toNat_natCast] at hx
      subst eA
      have HASK := Aside0.mk (ask_calls gd gm gb n M latest most bs seq wr HD.out HBD.out hrd2)
      have HST := Aside0.mk hst
      have HK2 := Aside0.mk hk2
      clear hst hsq hrd1 hrd2 hk hk2
      have HL2 : Aside0 (out.length < 1000) := ⟨by have := HE.out.2; have := HK2.out; have := G.out; omega⟩
      by_cases hfr : fresh n latest most bs seq = true
      · have hsm := Aside0.mk (fresh_le hfr)
        have HFR := Aside0.mk hfr
        clear hfr
        by_cases hk3 : k < l3.length
        · obtain ⟨ad3, e3, hx3w⟩ := Kd.at_bool HR3.out (k : Int) (by omega) (by omega)
          rw [Int.toNat_natCast] at hx3w
          subst e3
          obtain ⟨bb, hbb⟩ : ∃ b, b = rdOf false l3 (k : Int) := ⟨_, rfl⟩
          rw [← hbb] at hx3w
          have htk : takes l3 k = bb := by unfold takes; rw [decide_eq_false (by omega), Bool.false_or, hbb]; simp [rdOf]
          have HTK := Aside0.mk htk
          have HX3 := Aside0.mk hx3w
          have hk4 : ¬ (l3.length ≤ k) := by omega
          clear hx3w hbb htk
          cases bb
          · go_wp2_with (first | (go_at_call 42; go_loud ((with_reducible refine (HASK.out).mono ?_); rintro e w2 ⟨hh, h1, h2⟩; (replace hh := hh.resolve_left (fun hh => by have := HFR.out; rw [hh.1] at this; exact absurd this (by simp))); obtain ⟨hf, p, q, rfl, hp, hq⟩ := hh; have HD2 := Aside0.mk h1; have HN2 := Aside0.mk (own_away HO.out); have HF2 := Aside0.mk (fresh_ok h1); have HO2 := Aside0.mk (Kd.R_below HO.out h2); have HB2 := Aside0.mk (HB.out.trans (h2.mono HB.out.size)); have hx3 := ((HB.out.trans (h2.mono HB.out.size)).cell (World.block_lt_of_cell? w _ HX3.out)).trans HX3.out; clear h1 h2 hf hp hq)) | ((with_reducible refine gate_builtin (b := .append) (xs := #[.tmp 47, .tmp 49]) rfl ?_); at_builtin; refine Kd.R_append Kd.bool (w0 := w) w.heap.size rfl (.tmp 47) (.tmp 49) 29 4 (.bool false) 1 rfl Try.underlying29 info4 rfl (by decide) (by decide) u10 out true [.bool true] (fun q => q ≠ gd ∧ q ≠ gm ∧ q ≠ gb) (fun _ => False) rfl rfl ?aP (fun _ hk => hk.elim) ?aF ?aO ?aB ?aS ?aL ?_; (case aP => exact rfl); (case aB => exact HB2.out); (case aF => exact HF2.out); (case aO => exact HO2.out); (case aS => exact HB2.out.size); (case aL => have := HL2.out; omega); intro v103 w7 ho hb hg hat; have HO7 := Aside0.mk ho; have HB7 := Aside0.mk hb; have HD7 := Aside0.mk (HD2.out.grown hg HN2.out); clear ho hb hg hat HASK))
            go_roundg (ns.length - (k + 1))
            case measure => have := HK2.out; have := HK.out; omega
            case rel =>
              refine ⟨k + 1, latest, bs, out ++ [true], by rw [wrap64_next k (by have := HK2.out; have := G.out; omega)], ⟨by have := HK2.out; omega⟩, HD7, HBD, HO7, HB7, ⟨?_, ?_⟩⟩
              · have he := HE.out.1
                rw [HST.out, if_pos HFR.out, HTK.out, if_neg (by simp)] at he
                rw [List.append_assoc]
                exact he
              · rw [List.length_append, HE.out.2]; rfl

          · go_wp2_with (first | (go_at_call 42; go_loud ((with_reducible refine (HASK.out).mono ?_); rintro e w2 ⟨hh, h1, h2⟩; (replace hh := hh.resolve_left (fun hh => by have := HFR.out; rw [hh.1] at this; exact absurd this (by simp))); obtain ⟨hf, p, q, rfl, hp, hq⟩ := hh; have HT1 := Aside0.mk (take_calls p q gd gm gb n M latest most bs seq w2 hp hq h1 HBD.out hsm.out); have HO1 := Aside0.mk (Kd.R_below HO.out h2); have HB1 := Aside0.mk (HB.out.trans (h2.mono HB.out.size)); have hx3 := ((HB.out.trans (h2.mono HB.out.size)).cell (World.block_lt_of_cell? w _ HX3.out)).trans HX3.out; clear h1 h2 hf hp hq)) | (go_at_call 46; go_loud ((with_reducible refine (HT1.out).mono ?_); rintro e w3 ⟨⟨b, rfl⟩, h1, h2⟩; have HD2 := Aside0.mk h1; have HN2 := Aside0.mk (own_away HO.out); have HF2 := Aside0.mk (fresh_ok h1); have HO2 := Aside0.mk (Kd.R_step HO1.out (fun k hk1 hk => h2.2.2.2.2 k hk hk1.1 hk1.2.2)); have HB2 := Aside0.mk (HB1.out.trans (h2.below H2.out H3.out HB1.out.size)); clear h1 h2 HT1)) | ((with_reducible refine gate_builtin (b := .append) (xs := #[.tmp 47, .tmp 49]) rfl ?_); at_builtin; refine Kd.R_append Kd.bool (w0 := w) w.heap.size rfl (.tmp 47) (.tmp 49) 29 4 (.bool false) 1 rfl Try.underlying29 info4 rfl (by decide) (by decide) u10 out true [.bool true] (fun q => q ≠ gd ∧ q ≠ gm ∧ q ≠ gb) (fun _ => False) rfl rfl ?aP (fun _ hk => hk.elim) ?aF ?aO ?aB ?aS ?aL ?_; (case aP => exact rfl); (case aB => exact HB2.out); (case aF => exact HF2.out); (case aO => exact HO2.out); (case aS => exact HB2.out.size); (case aL => have := HL2.out; omega); intro v103 w7 ho hb hg hat; have HO7 := Aside0.mk ho; have HB7 := Aside0.mk hb; have HD7 := Aside0.mk (HD2.out.grown hg HN2.out); clear ho hb hg hat HASK))
            go_roundg (ns.length - (k + 1))
            case measure => have := HK2.out; have := HK.out; omega
            case rel =>
              refine ⟨k + 1, max latest seq, taken n M latest most bs seq, out ++ [true], by rw [wrap64_next k (by have := HK2.out; have := G.out; omega)], ⟨by have := HK2.out; omega⟩, HD7, ⟨HBD.out.next hsm.out⟩, HO7, HB7, ⟨?_, ?_⟩⟩
              · have he := HE.out.1
                rw [HST.out, if_pos HFR.out, HTK.out, if_pos rfl] at he
                rw [List.append_assoc]
                exact he
              · rw [List.length_append, HE.out.2]; rfl

        · have HTK : Aside0 (takes l3 k = true) := ⟨by unfold takes; rw [decide_eq_true (by omega)]; rfl⟩
          have hk4 : l3.length ≤ k := by omega
          go_wp2_with (first | (go_at_call 42; go_loud ((with_reducible refine (HASK.out).mono ?_); rintro e w2 ⟨hh, h1, h2⟩; (replace hh := hh.resolve_left (fun hh => by have := HFR.out; rw [hh.1] at this; exact absurd this (by simp))); obtain ⟨hf, p, q, rfl, hp, hq⟩ := hh; have HT1 := Aside0.mk (take_calls p q gd gm gb n M latest most bs seq w2 hp hq h1 HBD.out hsm.out); have HO1 := Aside0.mk (Kd.R_below HO.out h2); have HB1 := Aside0.mk (HB.out.trans (h2.mono HB.out.size)); clear h1 h2 hf hp hq)) | (go_at_call 46; go_loud ((with_reducible refine (HT1.out).mono ?_); rintro e w3 ⟨⟨b, rfl⟩, h1, h2⟩; have HD2 := Aside0.mk h1; have HN2 := Aside0.mk (own_away HO.out); have HF2 := Aside0.mk (fresh_ok h1); have HO2 := Aside0.mk (Kd.R_step HO1.out (fun k hk1 hk => h2.2.2.2.2 k hk hk1.1 hk1.2.2)); have HB2 := Aside0.mk (HB1.out.trans (h2.below H2.out H3.out HB1.out.size)); clear h1 h2 HT1)) | ((with_reducible refine gate_builtin (b := .append) (xs := #[.tmp 47, .tmp 49]) rfl ?_); at_builtin; refine Kd.R_append Kd.bool (w0 := w) w.heap.size rfl (.tmp 47) (.tmp 49) 29 4 (.bool false) 1 rfl Try.underlying29 info4 rfl (by decide) (by decide) u10 out true [.bool true] (fun q => q ≠ gd ∧ q ≠ gm ∧ q ≠ gb) (fun _ => False) rfl rfl ?aP (fun _ hk => hk.elim) ?aF ?aO ?aB ?aS ?aL ?_; (case aP => exact rfl); (case aB => exact HB2.out); (case aF => exact HF2.out); (case aO => exact HO2.out); (case aS => exact HB2.out.size); (case aL => have := HL2.out; omega); intro v103 w7 ho hb hg hat; have HO7 := Aside0.mk ho; have HB7 := Aside0.mk hb; have HD7 := Aside0.mk (HD2.out.grown hg HN2.out); clear ho hb hg hat HASK))
          go_roundg (ns.length - (k + 1))
          case measure => have := HK2.out; have := HK.out; omega
          case rel =>
            refine ⟨k + 1, max latest seq, taken n M latest most bs seq, out ++ [true], by rw [wrap64_next k (by have := HK2.out; have := G.out; omega)], ⟨by have := HK2.out; omega⟩, HD7, ⟨HBD.out.next hsm.out⟩, HO7, HB7, ⟨?_, ?_⟩⟩
            · have he := HE.out.1
              rw [HST.out, if_pos HFR.out, HTK.out, if_pos rfl] at he
              rw [List.append_assoc]
              exact he
            · rw [List.length_append, HE.out.2]; rfl

      · have HFR := Aside0.mk (Bool.eq_false_iff.2 hfr)
        clear hfr
        go_wp2_with (first | (go_at_call 42; go_loud ((with_reducible refine (HASK.out).mono ?_); rintro e w2 ⟨hh, h1, h2⟩; (replace hh := hh.resolve_right (fun hh => by have := HFR.out; rw [hh.1] at this; exact absurd this (by simp))); obtain ⟨hf, v, rfl⟩ := hh; have HD2 := Aside0.mk h1; have HN2 := Aside0.mk (own_away HO.out); have HF2 := Aside0.mk (fresh_ok h1); have HO2 := Aside0.mk (Kd.R_below HO.out h2); have HB2 := Aside0.mk (HB.out.trans (h2.mono HB.out.size)); clear h1 h2 hf)) | ((with_reducible refine gate_builtin (b := .append) (xs := #[.tmp 47, .tmp 49]) rfl ?_); at_builtin; refine Kd.R_append Kd.bool (w0 := w) w.heap.size rfl (.tmp 47) (.tmp 49) 29 4 (.bool false) 1 rfl Try.underlying29 info4 rfl (by decide) (by decide) u10 out false [.bool false] (fun q => q ≠ gd ∧ q ≠ gm ∧ q ≠ gb) (fun _ => False) rfl rfl ?aP (fun _ hk => hk.elim) ?aF ?aO ?aB ?aS ?aL ?_; (case aP => exact rfl); (case aB => exact HB2.out); (case aF => exact HF2.out); (case aO => exact HO2.out); (case aS => exact HB2.out.size); (case aL => have := HL2.out; omega); intro v103 w7 ho hb hg hat; have HO7 := Aside0.mk ho; have HB7 := Aside0.mk hb; have HD7 := Aside0.mk (HD2.out.grown hg HN2.out); clear ho hb hg hat HASK))
        go_roundg (ns.length - (k + 1))
        case measure => have := HK2.out; have := HK.out; omega
        case rel =>
          refine ⟨k + 1, latest, bs, out ++ [false], by rw [wrap64_next k (by have := HK2.out; have := G.out; omega)], ⟨by have := HK2.out; omega⟩, HD7, HBD, HO7, HB7, ⟨?_, ?_⟩⟩
          · have he := HE.out.1
            rw [HST.out, if_neg (by rw [HFR.out]; simp)] at he
            rw [List.append_assoc]
            exact he
          · rw [List.length_append, HE.out.2]; rfl

end Go.Proofs.Ytaifkiafoebgcaa.V
