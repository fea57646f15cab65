/- FnCodecs proved: for every list of codecs the law returns true, and the list reads behind the call as before; and the tied card. -/
import Derived.Test.YtkaelnfhohggeaaDoorLawCodecs
import Derived.Test.YtkaelnfhohggeaaDoorOpenCod
import Derived.Test.YtkaelnfhohggeaaDoorLaidErr
import Derived.Test.YtkaelnfhohggeaaDoorTie
import Derived.Test.YtkaelnfhohggeaaDoorCards
import Derived.ProofKit
import Derived.OpenShut
import Derived.LaidMore
import Derived.Lay
import Derived.MakeChecks
import Derived.SevenTiedAt
import Derived.Stop.Joined
namespace Go.Proofs.YtkaelnfhohggeaaDoor.fnCodecs
open Go.ChangeShapes Go.WideShapes Go.ChangeAt Go.ChangeMaps Go.RowKit

theorem own : ownKnob Tryd.prog.godebug = none := by kernel_rfl
theorem laidOut : laidOutB Tryd.prog = true := by kernel_rfl

set_option maxRecDepth 100000 in
theorem lifted (os : Os) (started : os.Started) (H : Type) (enc : TypeId × Value → H) :
    ReturnsInHanded {} Tryd.checked os 3 .any (fun w args => (Rows.fnCodecsSpec.pre enc Tryd.prog Tryd.f3 Rows.fnCodecsRow.domain false w args ∧ laidMetH Tryd.prog Rows.fnCodecsRow.laid w) ∧ sizedMet enc Tryd.prog Tryd.f3 (OpenSpec.ofChange Rows.fnCodecsSpec) false w args)
      (Rows.fnCodecsSpec.post enc Tryd.prog Tryd.f3 false true false false) := by
  refine returnsInHanded_of_change_and (C := Tryd.checked) (X := fun w _ => laidMetH Tryd.prog Rows.fnCodecsRow.laid w) (fun _ _ _ hh h => h.of_heap hh) own started (by kernel_rfl) Tryd.func3
    (ChangeSpec.witness_shaped (enc := enc) (C := Tryd.checked) (os := os) (X := fun w _ => laidMetH Tryd.prog Rows.fnCodecsRow.laid w) false (World.laidAll Tryd.prog os Rows.fnCodecsRow.laid) #[.slice none 0 0] 8 (World.laidAll_os _ _ _)
      (World.shaped_of_ZipB (by kernel_rfl) (by kernel_rfl)) (by kernel_rfl) (by kernel_rfl) (by kernel_rfl)
      (by rw [MakeChecks.laidMetH_plain _ _ _ (by kernel_rfl)]; exact laidMet_laidAll _ (by kernel_rfl) (by kernel_rfl))) ?_
  intro W base args ds gs before hval0 hW _ hsz0 hL _
  have hval : ∀ (j : Nat) t v, Tryd.f3.params[j]? = some t → args[j]? = some v → Value.okWide Tryd.prog W .any base t v := hval0
  have hsz : (DataW.weightsEach Tryd.prog (Tryd.f3.params.toList ++ Rows.fnCodecsSpec.plain.varTypes Tryd.prog) (ds ++ gs)).all (· ≤ reachBytes) = true := hsz0
  have hW' := hW
  obtain ⟨p, q, hA0, hV, rfl, hfz, hnd⟩ := hW
  have hA : DataW.TrodAll enc Tryd.prog W 0 (fun _ => true) true Tryd.f3.params.toList args.toList ds p := hA0
  rw [Tryd.params3] at hA hval hsz
  obtain ⟨v0, vs0, d0, ds0, p0, q0, hargs0, rfl, rfl, h0, r0⟩ := trodAll_cons hA
  obtain ⟨rfl, rfl, rfl⟩ := trodAll_nil r0
  obtain rfl : args = #[v0] := by cases args; simp_all
  obtain ⟨rfl, rfl⟩ := trodVars_none hV
  obtain ⟨a0, len0, cap0, rfl⟩ := okWide_slice Tryd.underlying22 (hval 0 22 v0 rfl rfl)
  have k0 := h0
  have lt0 : ∀ x ∈ p0, x.block < W.heap.size := by obtain ⟨m, hm⟩ := k0; exact DataW.trod_lt m _ _ _ hm
  obtain ⟨l0, rfl, hcap0, hreach0, hS0, hs0⟩ := open_rcods h0 (fun n hn => by have := List.all_eq_true.1 hsz n (DataW.weights_mem_each (j := 0) rfl rfl n hn); simpa using this)
  have hL' : laidMetH Tryd.prog Rows.fnCodecsRow.laid W := hL
  rw [MakeChecks.laidMetH_plain _ _ _ (by kernel_rfl)] at hL'
  obtain ⟨ev0, hg0, _⟩ := err_of_laid (name := "webrtctexts/pub/sdp.errExtractCodecRtpmap") (d := Rows.laid_webrtctexts_pub_sdp_errExtractCodecRtpmap) (g := 0) (t := 50) (by kernel_rfl) (by kernel_rfl) Tryd.underlying50 (List.mem_of_getElem? (i := 5) (by rfl)) hL'
  obtain ⟨ev1, hg1, _⟩ := err_of_laid (name := "webrtctexts/pub/sdp.errExtractCodecFmtp") (d := Rows.laid_webrtctexts_pub_sdp_errExtractCodecFmtp) (g := 1) (t := 50) (by kernel_rfl) (by kernel_rfl) Tryd.underlying50 (List.mem_of_getElem? (i := 6) (by rfl)) hL'
  obtain ⟨ev2, hg2, _⟩ := err_of_laid (name := "webrtctexts/pub/sdp.errExtractCodecRtcpFb") (d := Rows.laid_webrtctexts_pub_sdp_errExtractCodecRtcpFb) (g := 2) (t := 50) (by kernel_rfl) (by kernel_rfl) Tryd.underlying50 (List.mem_of_getElem? (i := 7) (by rfl)) hL'
  obtain ⟨evs, hgs, hevs⟩ := err_of_laid (name := "strconv.ErrSyntax") (d := Rows.laid_strconv_ErrSyntax) (g := 3) (t := 50) (by kernel_rfl) (by kernel_rfl) Tryd.underlying50 (List.mem_of_getElem? (i := 4) (by rfl)) hL'
  clear hA0 hval0 hL hL'
  refine (fnCodecs_walk a0 cap0 l0 W ev0 ev1 ev2 evs hreach0 hcap0 hS0 hs0 hg0 hg1 hg2 hgs hevs).mono fun e W' ⟨he, bel⟩ => ?_
  subst he
  exact ⟨_, rfl, _, _, _, [], _, [], hW', trodAll_mk1 (shut_bool Tryd.underlying4 _), trodAll_cons_mk (Below.trod laidOut (by kernel_rfl) (of_decide_eq_true (by kernel_rfl)) k0 bel lt0) trodAll_mk0, rfl, bel.frame _, fun h => by cases h⟩

theorem over : Rows.fnCodecsRow.holds Tryd.pinned (OpenSpec.ofChange Rows.fnCodecsSpec) :=
  OpenClaim.holds_of_wide 3 Tryd.f3 rfl rfl rfl rfl rfl rfl rfl ⟨rfl, rfl, rfl, rfl, rfl⟩ rfl rfl rfl rfl rfl (by kernel_rfl) Tryd.func3 (by kernel_rfl)
    (of_decide_eq_true (by kernel_rfl)) (by unfold Func.isWrapper; first | (rw [if_pos (by decide +kernel)]; kernel_rfl) | (rw [if_neg (by decide +kernel)]; exact ⟨rfl, rfl⟩))
    (fun os started H enc _ => lifted os started H enc)

theorem proved : Rows.FnCodecsCardSaid :=
  Claim7.holds_tied_plain_at .later [] [.data, .data, .data, .sentinel, .sentinel, .sentinel, .sentinel, .sentinel] true (true, "ce209458de713dc7c1495d0ddda9f0543de596914d0f3d7be4e96bada46f4947") true
    over (fun _ h => by cases h) (by kernel_rfl) (fun _ h => by cases h) fnCodecs_row_tie rfl ⟨rfl, rfl⟩ (by kernel_rfl) rfl
    (fun f fn hf hfn => by
      obtain rfl : f = 3 := Option.some.inj ((show Tryd.prog.funcNamed "webrtctexts/laws.FnCodecs" = some 3 by kernel_rfl).symm.trans hf) |>.symm
      obtain rfl : fn = Tryd.f3 := (Option.some.inj (Tryd.func3.symm.trans hfn)).symm
      exact ⟨by kernel_rfl, fun j t ht => by
        rw [Tryd.params3] at ht
        have hm : t ∈ [22] := by simpa using Array.mem_of_getElem? ht
        have hall : ([22].all fun u => !Tryd.prog.wantsStandIn u) = true := by kernel_rfl
        exact (show Tryd.prog.wantsStandIn t = false by simpa using List.all_eq_true.1 hall t hm)⟩)
    (by kernel_rfl)
#print axioms proved
end Go.Proofs.YtkaelnfhohggeaaDoor.fnCodecs
