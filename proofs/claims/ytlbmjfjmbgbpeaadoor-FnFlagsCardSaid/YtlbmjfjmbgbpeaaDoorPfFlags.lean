/- FnFlags proved: for every two answers and every number the law returns true, and they read behind the call as before; and the tied card. -/
import Derived.Test.YtlbmjfjmbgbpeaaDoorLawFlags
import Derived.Test.YtlbmjfjmbgbpeaaDoorLaid
import Derived.Test.YtlbmjfjmbgbpeaaDoorTie
import Derived.Test.YtlbmjfjmbgbpeaaDoorCards
import Derived.ProofKit
import Derived.OpenShut
import Derived.LaidMore
import Derived.Lay
import Derived.SevenTiedAt
import Derived.Stop.Joined
namespace Go.Proofs.YtlbmjfjmbgbpeaaDoor.fnFlags
open Go.ChangeShapes Go.WideShapes Go.ChangeAt Go.RowKit

theorem own : ownKnob Tryd.prog.godebug = none := by kernel_rfl
theorem laidOut : laidOutB Tryd.prog = true := by kernel_rfl

set_option maxRecDepth 100000 in
theorem lifted (os : Os) (started : os.Started) (H : Type) (enc : TypeId × Value → H) :
    ReturnsInHanded {} Tryd.checked os 4 .any (fun w args => (Rows.fnFlagsSpec.pre enc Tryd.prog Tryd.f4 Rows.fnFlagsRow.domain false w args ∧ laidMetH Tryd.prog Rows.fnFlagsRow.laid w) ∧ sizedMet enc Tryd.prog Tryd.f4 (OpenSpec.ofChange Rows.fnFlagsSpec) false w args)
      (Rows.fnFlagsSpec.post enc Tryd.prog Tryd.f4 false true false false) := by
  refine returnsInHanded_of_change_and (C := Tryd.checked) (X := fun w _ => laidMetH Tryd.prog Rows.fnFlagsRow.laid w) (fun _ _ _ hh h => h.of_heap hh) own started (by kernel_rfl) Tryd.func4
    (ChangeSpec.witness_shaped (enc := enc) (C := Tryd.checked) (os := os) (X := fun w _ => laidMetH Tryd.prog Rows.fnFlagsRow.laid w) false (World.laidAll Tryd.prog os Rows.fnFlagsRow.laid) #[.bool false, .bool false, .int .u32 0] 8 (World.laidAll_os _ _ _)
      (World.shaped_of_ZipB (by kernel_rfl) (by kernel_rfl)) (by kernel_rfl) (by kernel_rfl) (by kernel_rfl)
      (by rw [MakeChecks.laidMetH_plain _ _ _ (by kernel_rfl)]; exact laidMet_laidAll _ (by kernel_rfl) (by kernel_rfl))) ?_
  intro W base args ds gs before hval0 hW _ _ hL _
  have hval : ∀ (j : Nat) t v, Tryd.f4.params[j]? = some t → args[j]? = some v → Value.okWide Tryd.prog W .any base t v := hval0
  have hW' := hW
  obtain ⟨p, q, hA0, hV, rfl, hfz, hnd⟩ := hW
  have hA : DataW.TrodAll enc Tryd.prog W 0 (fun _ => true) true Tryd.f4.params.toList args.toList ds p := hA0
  rw [Tryd.params4] at hA hval
  obtain ⟨v0, vs0, d0, ds0, p0, q0, hargs0, rfl, rfl, h0, r0⟩ := trodAll_cons hA
  obtain ⟨v1, vs1, d1, ds1, p1, q1, hargs1, rfl, rfl, h1, r1⟩ := trodAll_cons r0
  obtain ⟨v2, vs2, d2, ds2, p2, q2, hargs2, rfl, rfl, h2, r2⟩ := trodAll_cons r1
  obtain ⟨rfl, rfl, rfl⟩ := trodAll_nil r2
  obtain rfl : args = #[v0, v1, v2] := by cases args; simp_all
  obtain ⟨rfl, rfl⟩ := trodVars_none hV
  obtain ⟨lite, rfl, rfl, rfl⟩ := open_bool Tryd.underlying4 (hval 0 4 v0 rfl rfl) h0
  obtain ⟨mixed, rfl, rfl, rfl⟩ := open_bool Tryd.underlying4 (hval 1 4 v1 rfl rfl) h1
  obtain ⟨n2, rfl, rfl, rfl, w2⟩ := open_int Tryd.underlying26 (hval 2 26 v2 rfl rfl) h2
  have hwf : 0 ≤ n2 ∧ n2 ≤ 4294967295 := by
    have e : (Lit.int .u32 n2).wf = (decide ((0 : Int) ≤ n2) && decide (n2 ≤ 4294967295)) := by kernel_rfl
    rw [e] at w2
    simpa using w2
  obtain ⟨n, rfl⟩ : ∃ n : Nat, n2 = (n : Int) := ⟨n2.toNat, by omega⟩
  have hL' : laidMetH Tryd.prog Rows.fnFlagsRow.laid W := hL
  rw [MakeChecks.laidMetH_plain _ _ _ (by kernel_rfl)] at hL'
  have hsp : Spaces W := spaces_of_laid (List.mem_of_getElem? (i := 7) (by rfl)) hL'
  clear hA0 hval0 hL hL'
  have walk : Calls Tryd.prog 4 #[.bool lite, .bool mixed, .int .u32 n] W fun e w' => e = .returned (.bool true) ∧ Below W.heap.size W w' := by
    cases lite <;> cases mixed
    · exact fl00_walk n W (by omega) hsp
    · exact fl01_walk n W (by omega) hsp
    · exact fl10_walk n W (by omega) hsp
    · exact fl11_walk n W (by omega) hsp
  refine walk.mono fun e W' ⟨he, bel⟩ => ?_
  subst he
  exact ⟨_, rfl, _, _, _, [], _, [], hW', trodAll_mk1 (shut_bool Tryd.underlying4 _), trodAll_cons_mk (shut_bool Tryd.underlying4 _) (trodAll_cons_mk (shut_bool Tryd.underlying4 _) (trodAll_cons_mk (shut_int Tryd.underlying26 w2) trodAll_mk0)), rfl, bel.frame _, fun h => by cases h⟩

theorem over : Rows.fnFlagsRow.holds Tryd.pinned (OpenSpec.ofChange Rows.fnFlagsSpec) :=
  OpenClaim.holds_of_wide 4 Tryd.f4 rfl rfl rfl rfl rfl rfl rfl ⟨rfl, rfl, rfl, rfl, rfl⟩ rfl rfl rfl rfl rfl (by kernel_rfl) Tryd.func4 (by kernel_rfl)
    (of_decide_eq_true (by kernel_rfl)) (by unfold Func.isWrapper; first | (rw [if_pos (by decide +kernel)]; kernel_rfl) | (rw [if_neg (by decide +kernel)]; exact ⟨rfl, rfl⟩))
    (fun os started H enc _ => lifted os started H enc)

theorem proved : Rows.FnFlagsCardSaid :=
  Claim7.holds_tied_plain_at .later [] [.data, .data, .data, .data, .sentinel, .sentinel, .listed, .data, .pinned] true (true, "9cb5a9683bec0e3ab261691f87b664c28daf9f7c0f097fcf1b7144ead324c88f") true
    over (fun _ h => by cases h) (by kernel_rfl) (fun _ h => by cases h) fnFlags_row_tie rfl ⟨rfl, rfl⟩ (by kernel_rfl) rfl
    (fun f fn hf hfn => by
      obtain rfl : f = 4 := Option.some.inj ((show Tryd.prog.funcNamed "webrtctexts/laws.FnFlags" = some 4 by kernel_rfl).symm.trans hf) |>.symm
      obtain rfl : fn = Tryd.f4 := (Option.some.inj (Tryd.func4.symm.trans hfn)).symm
      exact ⟨by kernel_rfl, fun j t ht => by
        rw [Tryd.params4] at ht
        have hm : t ∈ [4, 4, 26] := by simpa using Array.mem_of_getElem? ht
        have hall : ([4, 4, 26].all fun u => !Tryd.prog.wantsStandIn u) = true := by kernel_rfl
        exact (show Tryd.prog.wantsStandIn t = false by simpa using List.all_eq_true.1 hall t hm)⟩)
    (by kernel_rfl)
#print axioms proved
end Go.Proofs.YtlbmjfjmbgbpeaaDoor.fnFlags
