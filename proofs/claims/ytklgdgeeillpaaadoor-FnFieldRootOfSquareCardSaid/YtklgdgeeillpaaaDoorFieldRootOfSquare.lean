/- The law FnFieldRootOfSquare, with what its package variables hold tied to the program's text. No condition. -/
import Derived.Test.YtklgdgeeillpaaaDoorLift2
import Derived.Test.YtklgdgeeillpaaaDoorJoind
import Derived.Test.YtklgdgeeillpaaaDoorLaw3
import Derived.Test.YtklgdgeeillpaaaDoorTbd
import Derived.Test.YtklgdgeeillpaaaDoorVz
import Derived.Test.YtklgdgeeillpaaaDoorCards
import Derived.Test.YtklgdgeeillpaaaDoorTie
import Derived.OpenVars
import Derived.Stop.Joined
import Derived.Test.YtklgdgeeillpaaaDoorRsq1
import Derived.Test.YtklgdgeeillpaaaDoorRsq2
namespace Go.Proofs.YtklgdgeeillpaaaDoor
open Go Go.ChangeShapes Go.WideShapes Go.ChangeAt Go.RowKit
set_option linter.unusedVariables false
set_option linter.unusedSimpArgs false
set_option maxRecDepth 100000


theorem roS_c (N0 N1 : Nat) (W : World) (hL : laidMet Tryd.prog laidMZ W) : Invokes Tryd.prog 7 #[bytesV N0, bytesV N1] W fun r w' => r = .bool true ∧ Fr (fun _ _ => False) W w' := by
  have hf : NFits [.byt, .byt] [N0, N1] [] [bytesV N0, bytesV N1] := by simp [NFits]
  by_cases hv : inF N1 = 0
  · have hu : inF N0 * inF N0 * inF N1 = 0 := by rw [hv]; exact F_mul_zero _
    exact runMZ tabD_ok rs0_run hf (fun ρ ha hd => rs0_math ρ (by rw [show ρ.e 0 = esMZ.getD 0 zeroE from (ha.e 0 (by decide))]; decide +kernel) (by rw [show ρ.e 1 = esMZ.getD 1 zeroE from (ha.e 1 (by decide))]; decide +kernel) (by rw [show ρ.n 1 = N1 from (ha.n 1 (by decide))]; exact hv) (by rw [show ρ.n 0 = N0 from (ha.n 0 (by decide)), show ρ.n 1 = N1 from (ha.n 1 (by decide))]; exact hu) (by rw [show ρ.n 0 = N0 from (ha.n 0 (by decide)), show ρ.n 1 = N1 from (ha.n 1 (by decide))]; exact check_zero (.inr hv)) hd) W hL
  · by_cases ha0 : inF N0 = 0
    · have hu : inF N0 * inF N0 * inF N1 = 0 := by rw [ha0, F_zero_mul]; exact F_zero_mul _
      exact runMZ tabD_ok rs1_run hf (fun ρ ha hd => rs1_math ρ (by rw [show ρ.e 0 = esMZ.getD 0 zeroE from (ha.e 0 (by decide))]; decide +kernel) (by rw [show ρ.e 1 = esMZ.getD 1 zeroE from (ha.e 1 (by decide))]; decide +kernel) (by rw [show ρ.n 1 = N1 from (ha.n 1 (by decide))]; exact hv) (by rw [show ρ.n 0 = N0 from (ha.n 0 (by decide))]; exact ha0) (by rw [show ρ.n 0 = N0 from (ha.n 0 (by decide)), show ρ.n 1 = N1 from (ha.n 1 (by decide))]; exact hu) (by rw [show ρ.n 0 = N0 from (ha.n 0 (by decide)), show ρ.n 1 = N1 from (ha.n 1 (by decide))]; exact check_zero (.inl hu)) hd) W hL
    · have hu := aav_ne ha0 hv
      rcases ratio_ways hu hv with ⟨hW, hc, hr⟩ | ⟨hW, hc, hr⟩ | ⟨hW, hc, hr⟩ | ⟨hW, hc, hr⟩
      · exact runMZ tabD_ok rs2_run hf (fun ρ ha hd => rs2_math ρ (by rw [show ρ.e 0 = esMZ.getD 0 zeroE from (ha.e 0 (by decide))]; decide +kernel) (by rw [show ρ.e 1 = esMZ.getD 1 zeroE from (ha.e 1 (by decide))]; decide +kernel) (by rw [show ρ.n 1 = N1 from (ha.n 1 (by decide))]; exact hv) (by rw [show ρ.n 0 = N0 from (ha.n 0 (by decide)), show ρ.n 1 = N1 from (ha.n 1 (by decide))]; exact hu) (by rw [show ρ.n 0 = N0 from (ha.n 0 (by decide)), show ρ.n 1 = N1 from (ha.n 1 (by decide))]; exact hc) (by rw [show ρ.n 0 = N0 from (ha.n 0 (by decide)), show ρ.n 1 = N1 from (ha.n 1 (by decide))]; exact hr) hd) W hL
      · exact runMZ tabD_ok rs3_run hf (fun ρ ha hd => rs3_math ρ (by rw [show ρ.e 0 = esMZ.getD 0 zeroE from (ha.e 0 (by decide))]; decide +kernel) (by rw [show ρ.e 1 = esMZ.getD 1 zeroE from (ha.e 1 (by decide))]; decide +kernel) (by rw [show ρ.n 1 = N1 from (ha.n 1 (by decide))]; exact hv) (by rw [show ρ.n 0 = N0 from (ha.n 0 (by decide)), show ρ.n 1 = N1 from (ha.n 1 (by decide))]; exact hu) (by rw [show ρ.n 0 = N0 from (ha.n 0 (by decide)), show ρ.n 1 = N1 from (ha.n 1 (by decide))]; exact hc) (by rw [show ρ.n 0 = N0 from (ha.n 0 (by decide)), show ρ.n 1 = N1 from (ha.n 1 (by decide))]; exact ((ri_sq _ _).trans hr)) hd) W hL
      · exact (w_ne_i ha0 hv hW).elim
      · exact (w_ne_ni ha0 hv hW).elim

theorem roS_met (os : Os) (args : Array Value) : laidMetH Tryd.prog Rows.fnFieldRootOfSquareRow.laid ((World.doorLaid Tryd.prog 400 os).forCall (fun _ _ => 0) ⟨#[], args, []⟩).memory :=
  laidMetH_of_parts3 (fuel := 8) (laidMet_of_run' 8 (by kernel_rfl) (by kernel_rfl)) (by kernel_rfl) (by kernel_rfl)
theorem roS_lifted (os : Os) (started : os.Started) (H : Type) (enc : TypeId × Value → H) :
    ReturnsInHanded {} Tryd.checked os 7 .any (fun w args => (Rows.fnFieldRootOfSquareSpec.pre enc Tryd.prog Tryd.f7 [] false w args ∧ laidMetH Tryd.prog Rows.fnFieldRootOfSquareRow.laid w) ∧ sizedMet enc Tryd.prog Tryd.f7 (OpenSpec.ofChange Rows.fnFieldRootOfSquareSpec) false w args)
      (Rows.fnFieldRootOfSquareSpec.post enc Tryd.prog Tryd.f7 false true false false) := by
  refine returnsInHanded_of_change_and (C := Tryd.checked) (X := fun w _ => laidMetH Tryd.prog Rows.fnFieldRootOfSquareRow.laid w) (fun _ _ _ hh h => h.of_heap hh) own_ok started (by kernel_rfl) Tryd.func7
    (ChangeSpec.witness_shaped (enc := enc) (C := Tryd.checked) (os := os) (X := fun w _ => laidMetH Tryd.prog Rows.fnFieldRootOfSquareRow.laid w) false (World.doorLaid Tryd.prog 400 os) #[bytesV 0, bytesV 0] 8 rfl (World.shaped_of_RefB (by kernel_rfl) (by kernel_rfl)) (by kernel_rfl) (by kernel_rfl) (by kernel_rfl) (roS_met os _)) ?_
  intro W base args ds gs before hval0 hW _ _ hL _
  have hval : ∀ (j : Nat) t v, Tryd.f7.params[j]? = some t → args[j]? = some v → Value.okWide Tryd.prog W .any base t v := hval0
  have hW' := hW
  obtain ⟨p, q, hA0, hV0, rfl, hfz, hnd⟩ := hW
  have hA : DataW.TrodAll enc Tryd.prog W 0 (fun _ => true) true Tryd.f7.params.toList args.toList ds p := hA0
  have hV : DataW.TrodVars enc Tryd.prog W (fun _ => true) Rows.fnFieldRootOfSquareSpec.vars gs q := hV0
  rw [Tryd.params7] at hA hval
  obtain ⟨v0, vs0, d0, ds0, p0, q0, hargs, rfl, rfl, h0, r0⟩ := trodAll_cons hA
  obtain ⟨v1, vs1, d1, ds1, p1, q1, rfl, rfl, rfl, h1, r1⟩ := trodAll_cons r0
  obtain ⟨rfl, rfl, rfl⟩ := trodAll_nil r1
  obtain rfl : args = #[v0, v1] := by cases args; simp_all
  obtain ⟨g0, g1, rfl⟩ : ∃ g0 g1, gs = [g0, g1] := by
    obtain ⟨_, _, _, _, d, _, _, _, _, _, d', _, e, _⟩ := trodVars_two hV
    exact ⟨d, d', e⟩
  obtain ⟨N0, _, rfl⟩ := open_bytes (hval 0 22 v0 rfl rfl) h0
  have lt0 : ∀ x ∈ p0, x.block < W.heap.size := by obtain ⟨m, hm⟩ := h0; exact DataW.trod_lt m _ _ _ hm
  obtain ⟨N1, _, rfl⟩ := open_bytes (hval 1 22 v1 rfl rfl) h1
  have lt1 : ∀ x ∈ p1, x.block < W.heap.size := by obtain ⟨m, hm⟩ := h1; exact DataW.trod_lt m _ _ _ hm
  clear hA0 hval0
  rw [MakeChecks.laidMetH_plain _ _ _ (by kernel_rfl)] at hL
  have hL' : laidMet Tryd.prog laidMZ W := hL
  refine (calls_of (by kernel_rfl) (roS_c N0 N1 W hL')).mono fun e W' ⟨v, he, hb, hf⟩ => ?_
  subst he
  subst hb
  have bel := hf.below
  exact ⟨_, rfl, _, _, _, [], _, _, hW', trodAll_mk1 (shut_bool under4 _), (trodAll_cons_mk (Below.trod laid_ok (by kernel_rfl) (of_decide_eq_true (by kernel_rfl)) h0 bel lt0) (trodAll_cons_mk (Below.trod laid_ok (by kernel_rfl) (of_decide_eq_true (by kernel_rfl)) h1 bel lt1) trodAll_mk0)), Below.trodVars laid_ok bel (by kernel_rfl) hV, bel.frame _, fun h => by cases h⟩

theorem roS_named : Tryd.pinned.checked.prog.funcNamed Rows.fnFieldRootOfSquareRow.func = some 7 := by kernel_rfl
theorem roS_k1 : (Rows.fnFieldRootOfSquareRow.wf (OpenSpec.ofChange Rows.fnFieldRootOfSquareSpec) && laidOutB Tryd.prog && mapsRowed Tryd.prog && Tryd.f7.params.all (Tryd.prog.readableRec ·) && namedTie Tryd.prog Rows.fnFieldRootOfSquareRow.named Rows.fnFieldRootOfSquareSpec.vars) = true := by kernel_rfl
theorem roS_k2 : ((Rows.fnFieldRootOfSquareRow.stops == []) && (Tryd.prog.stops == []) && (Rows.fnFieldRootOfSquareRow.knobs == []) && (Tryd.prog.stopKnobs == [])) = true := by kernel_rfl
theorem roS_k3 : (Rows.fnFieldRootOfSquareRow.inPlace == Tryd.prog.inPlace 7) = true := by kernel_rfl
theorem roS_k4 : (Rows.fnFieldRootOfSquareRow.unfollowed == Tryd.prog.unfollowed 7) = true := by kernel_rfl
theorem roS_k5 : (Rows.fnFieldRootOfSquareRow.recurses == Tryd.prog.recurses 7) = true := by kernel_rfl
theorem roS_k6 : (Rows.fnFieldRootOfSquareRow.named == Tryd.prog.varsNamed 7) = true := by kernel_rfl
theorem roS_k7 : ((Rows.fnFieldRootOfSquareRow.maps == (Tryd.f7.params.toList ++ Rows.fnFieldRootOfSquareSpec.plain.varTypes Tryd.prog).any (Tryd.prog.mapsRec ·)) && (Rows.fnFieldRootOfSquareRow.ifaces == (Tryd.f7.params.toList ++ Rows.fnFieldRootOfSquareSpec.plain.varTypes Tryd.prog).any (Tryd.prog.ifacesRec ·)) && (Rows.fnFieldRootOfSquareRow.mapsOut == Tryd.prog.mapsAmong Tryd.f7.resultTypes.toList) && (Rows.fnFieldRootOfSquareRow.loops == (Tryd.f7.params.toList ++ Rows.fnFieldRootOfSquareSpec.plain.varTypes Tryd.prog).any (Tryd.prog.loopsFrom ·)) && (Rows.fnFieldRootOfSquareRow.wideKeys == (Tryd.f7.params.toList ++ Rows.fnFieldRootOfSquareSpec.plain.varTypes Tryd.prog ++ Tryd.f7.resultTypes.toList).any (Tryd.prog.wideKeysFrom ·))) = true := by kernel_rfl
theorem roS_k8 : (Rows.fnFieldRootOfSquareSpec.vars.all (Tryd.prog.varReadable ·) && Tryd.f7.resultTypes.all (fun t => Tryd.prog.readableRec t && decide (t < Tryd.prog.types.size)) && (Rows.fnFieldRootOfSquareRow.ifacesOut == Tryd.f7.resultTypes.toList.any (Tryd.prog.ifacesRec ·)) && (Rows.fnFieldRootOfSquareRow.loopsOut == Tryd.f7.resultTypes.toList.any (Tryd.prog.loopsFrom ·)) && (Rows.fnFieldRootOfSquareRow.plainKeys == Tryd.prog.plainKeys) && Rows.fnFieldRootOfSquareRow.shortTexts.isNone && Tryd.prog.stopsHeard) = true := by kernel_rfl
theorem roS_k9 : ((Rows.fnFieldRootOfSquareRow.kinds == (if Rows.fnFieldRootOfSquareRow.domain.isEmpty then [] else Tryd.f7.params.toList.map fun t => match Tryd.prog.underlying t with | some (.int k) => some k | _ => none)) && (Rows.fnFieldRootOfSquareRow.pinned == Rows.fnFieldRootOfSquareRow.pinnedBy)) = true := by kernel_rfl
theorem roS_k10 : ((Rows.fnFieldRootOfSquareRow.veiled == (Tryd.f7.params.toList ++ Rows.fnFieldRootOfSquareSpec.plain.varTypes Tryd.prog ++ Tryd.f7.resultTypes.toList).any (Tryd.prog.veiledRec ·)) && Rows.fnFieldRootOfSquareRow.veiledFits Tryd.prog Tryd.f7.params.toList (Tryd.f7.params.toList ++ Rows.fnFieldRootOfSquareSpec.plain.varTypes Tryd.prog ++ Tryd.f7.resultTypes.toList)) = true := by kernel_rfl
theorem roS_holds : Rows.FnFieldRootOfSquareSaid :=
  OpenClaim.holds_of_wide 7 Tryd.f7 rfl rfl rfl rfl rfl rfl rfl ⟨rfl, rfl, rfl, rfl, rfl⟩ rfl rfl rfl rfl rfl roS_named Tryd.func7
    (joined_of mayEnter_ok lifts_ok make_ok rfl rfl roS_k1 roS_k2 roS_k3 roS_k4 roS_k5 roS_k6 roS_k7 roS_k8 roS_k9 roS_k10)
    (of_decide_eq_true (by kernel_rfl)) (by unfold Func.isWrapper; first | (rw [if_pos (by decide +kernel)]; kernel_rfl) | (rw [if_neg (by decide +kernel)]; exact ⟨rfl, rfl⟩))
    (fun os started H enc _ => roS_lifted os started H enc)
theorem roS_stand (j : Nat) (t : TypeId) (ht : Tryd.f7.params[j]? = some t) : Tryd.prog.wantsStandIn t = false := by
  rw [Tryd.params7] at ht
  match j, ht with
  | 0, ht => obtain rfl : 22 = t := Option.some.inj ht; exact (show Tryd.prog.wantsStandIn 22 = false by kernel_rfl)
  | 1, ht => obtain rfl : 22 = t := Option.some.inj ht; exact (show Tryd.prog.wantsStandIn 22 = false by kernel_rfl)
  | j + 2, ht => simp at ht
/-- The tied card. -/
theorem roS_card : Rows.FnFieldRootOfSquareCardSaid :=
  Claim7.holds_tied_plain_at .later [] [.widerDeep, .widerDeep] true (true, "2697709f985b6997102be5fefd1224980323fe23cfb60b03c3149b6ef3bedf6a") false
    roS_holds (fun _ h => by cases h) (by kernel_rfl) (fun _ h => by cases h) fnFieldRootOfSquare_row_tie rfl ⟨rfl, rfl⟩ (by kernel_rfl) rfl
    (fun f fn hf hfn => by
      obtain rfl : f = 7 := Option.some.inj ((show Tryd.prog.funcNamed Rows.fnFieldRootOfSquareRow.func = some 7 by kernel_rfl).symm.trans hf) |>.symm
      obtain rfl : fn = Tryd.f7 := (Option.some.inj (Tryd.func7.symm.trans hfn)).symm
      exact ⟨by kernel_rfl, roS_stand⟩)
    (by kernel_rfl)
end Go.Proofs.YtklgdgeeillpaaaDoor
