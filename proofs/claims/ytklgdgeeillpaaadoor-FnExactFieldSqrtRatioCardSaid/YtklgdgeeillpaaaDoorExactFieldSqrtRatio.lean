/- The law FnExactFieldSqrtRatio, with what its package variables hold tied to the program's text. No condition. -/
import Derived.Test.YtklgdgeeillpaaaDoorLift2
import Derived.Test.YtklgdgeeillpaaaDoorJoind
import Derived.Test.YtklgdgeeillpaaaDoorLaw3
import Derived.Test.YtklgdgeeillpaaaDoorTbd
import Derived.Test.YtklgdgeeillpaaaDoorVz
import Derived.Test.YtklgdgeeillpaaaDoorCards
import Derived.Test.YtklgdgeeillpaaaDoorTie
import Derived.OpenVars
import Derived.Stop.Joined
import Derived.Test.YtklgdgeeillpaaaDoorSqr1
import Derived.Test.YtklgdgeeillpaaaDoorSqr2
import Derived.Test.YtklgdgeeillpaaaDoorSqr3
namespace Go.Proofs.YtklgdgeeillpaaaDoor
open Go Go.ChangeShapes Go.WideShapes Go.ChangeAt Go.RowKit
set_option linter.unusedVariables false
set_option linter.unusedSimpArgs false
set_option maxRecDepth 100000


theorem sqR_c (N0 N1 : Nat) (W : World) (hL : laidMet Tryd.prog laidMZ W) : Invokes Tryd.prog 6 #[bytesV N0, bytesV N1] W fun r w' => r = .bool true ∧ Fr (fun _ _ => False) W w' := by
  have hf : NFits [.byt, .byt] [N0, N1] [] [bytesV N0, bytesV N1] := by simp [NFits]
  by_cases hu : inF N0 = 0
  · exact runMZ tabD_ok sqA_run hf (fun ρ ha hd => sqA_math ρ (by rw [show ρ.e 0 = esMZ.getD 0 zeroE from (ha.e 0 (by decide))]; decide +kernel) (by rw [show ρ.e 1 = esMZ.getD 1 zeroE from (ha.e 1 (by decide))]; decide +kernel) (by rw [show ρ.n 0 = N0 from (ha.n 0 (by decide))]; exact hu) (by rw [show ρ.n 0 = N0 from (ha.n 0 (by decide)), show ρ.n 1 = N1 from (ha.n 1 (by decide))]; exact check_zero (.inl hu)) hd) W hL
  · by_cases hv : inF N1 = 0
    · exact runMZ tabD_ok sqB_run hf (fun ρ ha hd => sqB_math ρ (by rw [show ρ.e 0 = esMZ.getD 0 zeroE from (ha.e 0 (by decide))]; decide +kernel) (by rw [show ρ.e 1 = esMZ.getD 1 zeroE from (ha.e 1 (by decide))]; decide +kernel) (by rw [show ρ.n 0 = N0 from (ha.n 0 (by decide))]; exact hu) (by rw [show ρ.n 1 = N1 from (ha.n 1 (by decide))]; exact hv) (by rw [show ρ.n 0 = N0 from (ha.n 0 (by decide)), show ρ.n 1 = N1 from (ha.n 1 (by decide))]; exact check_zero (.inr hv)) hd) W hL
    · rcases ratio_ways hu hv with ⟨hW, hc, hr⟩ | ⟨hW, hc, hr⟩ | ⟨hW, hc, hr⟩ | ⟨hW, hc, hr⟩
      · by_cases hn : (fpow (inF (N0) * finv (inF (N1))) E1).val % 2 = 1
        · exact runMZ tabD_ok sq1T_run hf (fun ρ ha hd => sq1T_math ρ (by rw [show ρ.e 0 = esMZ.getD 0 zeroE from (ha.e 0 (by decide))]; decide +kernel) (by rw [show ρ.e 1 = esMZ.getD 1 zeroE from (ha.e 1 (by decide))]; decide +kernel) (by rw [show ρ.n 0 = N0 from (ha.n 0 (by decide))]; exact hu) (by rw [show ρ.n 1 = N1 from (ha.n 1 (by decide))]; exact hv) (by rw [show ρ.n 0 = N0 from (ha.n 0 (by decide)), show ρ.n 1 = N1 from (ha.n 1 (by decide))]; exact hW) (by rw [show ρ.n 0 = N0 from (ha.n 0 (by decide)), show ρ.n 1 = N1 from (ha.n 1 (by decide))]; exact hc) (by rw [show ρ.n 0 = N0 from (ha.n 0 (by decide)), show ρ.n 1 = N1 from (ha.n 1 (by decide))]; exact hr) (by rw [show ρ.n 0 = N0 from (ha.n 0 (by decide)), show ρ.n 1 = N1 from (ha.n 1 (by decide))]; exact hn) hd) W hL
        · exact runMZ tabD_ok sq1F_run hf (fun ρ ha hd => sq1F_math ρ (by rw [show ρ.e 0 = esMZ.getD 0 zeroE from (ha.e 0 (by decide))]; decide +kernel) (by rw [show ρ.e 1 = esMZ.getD 1 zeroE from (ha.e 1 (by decide))]; decide +kernel) (by rw [show ρ.n 0 = N0 from (ha.n 0 (by decide))]; exact hu) (by rw [show ρ.n 1 = N1 from (ha.n 1 (by decide))]; exact hv) (by rw [show ρ.n 0 = N0 from (ha.n 0 (by decide)), show ρ.n 1 = N1 from (ha.n 1 (by decide))]; exact hW) (by rw [show ρ.n 0 = N0 from (ha.n 0 (by decide)), show ρ.n 1 = N1 from (ha.n 1 (by decide))]; exact hc) (by rw [show ρ.n 0 = N0 from (ha.n 0 (by decide)), show ρ.n 1 = N1 from (ha.n 1 (by decide))]; exact hr) (by rw [show ρ.n 0 = N0 from (ha.n 0 (by decide)), show ρ.n 1 = N1 from (ha.n 1 (by decide))]; exact hn) hd) W hL
      · by_cases hn : (fpow (inF (N0) * finv (inF (N1))) E1 * fpow 2 E2).val % 2 = 1
        · exact runMZ tabD_ok sq2T_run hf (fun ρ ha hd => sq2T_math ρ (by rw [show ρ.e 0 = esMZ.getD 0 zeroE from (ha.e 0 (by decide))]; decide +kernel) (by rw [show ρ.e 1 = esMZ.getD 1 zeroE from (ha.e 1 (by decide))]; decide +kernel) (by rw [show ρ.n 0 = N0 from (ha.n 0 (by decide))]; exact hu) (by rw [show ρ.n 1 = N1 from (ha.n 1 (by decide))]; exact hv) (by rw [show ρ.n 0 = N0 from (ha.n 0 (by decide)), show ρ.n 1 = N1 from (ha.n 1 (by decide))]; exact hW) (by rw [show ρ.n 0 = N0 from (ha.n 0 (by decide)), show ρ.n 1 = N1 from (ha.n 1 (by decide))]; exact hc) (by rw [show ρ.n 0 = N0 from (ha.n 0 (by decide)), show ρ.n 1 = N1 from (ha.n 1 (by decide))]; exact ((ri_sq _ _).trans hr)) (by rw [show ρ.n 0 = N0 from (ha.n 0 (by decide)), show ρ.n 1 = N1 from (ha.n 1 (by decide))]; exact hn) hd) W hL
        · exact runMZ tabD_ok sq2F_run hf (fun ρ ha hd => sq2F_math ρ (by rw [show ρ.e 0 = esMZ.getD 0 zeroE from (ha.e 0 (by decide))]; decide +kernel) (by rw [show ρ.e 1 = esMZ.getD 1 zeroE from (ha.e 1 (by decide))]; decide +kernel) (by rw [show ρ.n 0 = N0 from (ha.n 0 (by decide))]; exact hu) (by rw [show ρ.n 1 = N1 from (ha.n 1 (by decide))]; exact hv) (by rw [show ρ.n 0 = N0 from (ha.n 0 (by decide)), show ρ.n 1 = N1 from (ha.n 1 (by decide))]; exact hW) (by rw [show ρ.n 0 = N0 from (ha.n 0 (by decide)), show ρ.n 1 = N1 from (ha.n 1 (by decide))]; exact hc) (by rw [show ρ.n 0 = N0 from (ha.n 0 (by decide)), show ρ.n 1 = N1 from (ha.n 1 (by decide))]; exact ((ri_sq _ _).trans hr)) (by rw [show ρ.n 0 = N0 from (ha.n 0 (by decide)), show ρ.n 1 = N1 from (ha.n 1 (by decide))]; exact hn) hd) W hL
      · by_cases hn : (fpow (iC * (inF (N0) * finv (inF (N1)))) E1).val % 2 = 1
        · exact runMZ tabD_ok sq3T_run hf (fun ρ ha hd => sq3T_math ρ (by rw [show ρ.e 0 = esMZ.getD 0 zeroE from (ha.e 0 (by decide))]; decide +kernel) (by rw [show ρ.e 1 = esMZ.getD 1 zeroE from (ha.e 1 (by decide))]; decide +kernel) (by rw [show ρ.n 0 = N0 from (ha.n 0 (by decide))]; exact hu) (by rw [show ρ.n 1 = N1 from (ha.n 1 (by decide))]; exact hv) (by rw [show ρ.n 0 = N0 from (ha.n 0 (by decide)), show ρ.n 1 = N1 from (ha.n 1 (by decide))]; exact hW) (by rw [show ρ.n 0 = N0 from (ha.n 0 (by decide)), show ρ.n 1 = N1 from (ha.n 1 (by decide))]; exact hc) (by rw [show ρ.n 0 = N0 from (ha.n 0 (by decide)), show ρ.n 1 = N1 from (ha.n 1 (by decide))]; exact hr) (by rw [show ρ.n 0 = N0 from (ha.n 0 (by decide)), show ρ.n 1 = N1 from (ha.n 1 (by decide))]; exact hn) hd) W hL
        · exact runMZ tabD_ok sq3F_run hf (fun ρ ha hd => sq3F_math ρ (by rw [show ρ.e 0 = esMZ.getD 0 zeroE from (ha.e 0 (by decide))]; decide +kernel) (by rw [show ρ.e 1 = esMZ.getD 1 zeroE from (ha.e 1 (by decide))]; decide +kernel) (by rw [show ρ.n 0 = N0 from (ha.n 0 (by decide))]; exact hu) (by rw [show ρ.n 1 = N1 from (ha.n 1 (by decide))]; exact hv) (by rw [show ρ.n 0 = N0 from (ha.n 0 (by decide)), show ρ.n 1 = N1 from (ha.n 1 (by decide))]; exact hW) (by rw [show ρ.n 0 = N0 from (ha.n 0 (by decide)), show ρ.n 1 = N1 from (ha.n 1 (by decide))]; exact hc) (by rw [show ρ.n 0 = N0 from (ha.n 0 (by decide)), show ρ.n 1 = N1 from (ha.n 1 (by decide))]; exact hr) (by rw [show ρ.n 0 = N0 from (ha.n 0 (by decide)), show ρ.n 1 = N1 from (ha.n 1 (by decide))]; exact hn) hd) W hL
      · by_cases hn : (fpow (iC * (inF (N0) * finv (inF (N1)))) E1 * fpow 2 E2).val % 2 = 1
        · exact runMZ tabD_ok sq4T_run hf (fun ρ ha hd => sq4T_math ρ (by rw [show ρ.e 0 = esMZ.getD 0 zeroE from (ha.e 0 (by decide))]; decide +kernel) (by rw [show ρ.e 1 = esMZ.getD 1 zeroE from (ha.e 1 (by decide))]; decide +kernel) (by rw [show ρ.n 0 = N0 from (ha.n 0 (by decide))]; exact hu) (by rw [show ρ.n 1 = N1 from (ha.n 1 (by decide))]; exact hv) (by rw [show ρ.n 0 = N0 from (ha.n 0 (by decide)), show ρ.n 1 = N1 from (ha.n 1 (by decide))]; exact hW) (by rw [show ρ.n 0 = N0 from (ha.n 0 (by decide)), show ρ.n 1 = N1 from (ha.n 1 (by decide))]; exact hc) (by rw [show ρ.n 0 = N0 from (ha.n 0 (by decide)), show ρ.n 1 = N1 from (ha.n 1 (by decide))]; exact ((ri_sq _ _).trans hr)) (by rw [show ρ.n 0 = N0 from (ha.n 0 (by decide)), show ρ.n 1 = N1 from (ha.n 1 (by decide))]; exact hn) hd) W hL
        · exact runMZ tabD_ok sq4F_run hf (fun ρ ha hd => sq4F_math ρ (by rw [show ρ.e 0 = esMZ.getD 0 zeroE from (ha.e 0 (by decide))]; decide +kernel) (by rw [show ρ.e 1 = esMZ.getD 1 zeroE from (ha.e 1 (by decide))]; decide +kernel) (by rw [show ρ.n 0 = N0 from (ha.n 0 (by decide))]; exact hu) (by rw [show ρ.n 1 = N1 from (ha.n 1 (by decide))]; exact hv) (by rw [show ρ.n 0 = N0 from (ha.n 0 (by decide)), show ρ.n 1 = N1 from (ha.n 1 (by decide))]; exact hW) (by rw [show ρ.n 0 = N0 from (ha.n 0 (by decide)), show ρ.n 1 = N1 from (ha.n 1 (by decide))]; exact hc) (by rw [show ρ.n 0 = N0 from (ha.n 0 (by decide)), show ρ.n 1 = N1 from (ha.n 1 (by decide))]; exact ((ri_sq _ _).trans hr)) (by rw [show ρ.n 0 = N0 from (ha.n 0 (by decide)), show ρ.n 1 = N1 from (ha.n 1 (by decide))]; exact hn) hd) W hL

theorem sqR_met (os : Os) (args : Array Value) : laidMetH Tryd.prog Rows.fnExactFieldSqrtRatioRow.laid ((World.doorLaid Tryd.prog 400 os).forCall (fun _ _ => 0) ⟨#[], args, []⟩).memory :=
  laidMetH_of_parts3 (fuel := 8) (laidMet_of_run' 8 (by kernel_rfl) (by kernel_rfl)) (by kernel_rfl) (by kernel_rfl)
theorem sqR_lifted (os : Os) (started : os.Started) (H : Type) (enc : TypeId × Value → H) :
    ReturnsInHanded {} Tryd.checked os 6 .any (fun w args => (Rows.fnExactFieldSqrtRatioSpec.pre enc Tryd.prog Tryd.f6 [] false w args ∧ laidMetH Tryd.prog Rows.fnExactFieldSqrtRatioRow.laid w) ∧ sizedMet enc Tryd.prog Tryd.f6 (OpenSpec.ofChange Rows.fnExactFieldSqrtRatioSpec) false w args)
      (Rows.fnExactFieldSqrtRatioSpec.post enc Tryd.prog Tryd.f6 false true false false) := by
  refine returnsInHanded_of_change_and (C := Tryd.checked) (X := fun w _ => laidMetH Tryd.prog Rows.fnExactFieldSqrtRatioRow.laid w) (fun _ _ _ hh h => h.of_heap hh) own_ok started (by kernel_rfl) Tryd.func6
    (ChangeSpec.witness_shaped (enc := enc) (C := Tryd.checked) (os := os) (X := fun w _ => laidMetH Tryd.prog Rows.fnExactFieldSqrtRatioRow.laid w) false (World.doorLaid Tryd.prog 400 os) #[bytesV 0, bytesV 0] 8 rfl (World.shaped_of_RefB (by kernel_rfl) (by kernel_rfl)) (by kernel_rfl) (by kernel_rfl) (by kernel_rfl) (sqR_met os _)) ?_
  intro W base args ds gs before hval0 hW _ _ hL _
  have hval : ∀ (j : Nat) t v, Tryd.f6.params[j]? = some t → args[j]? = some v → Value.okWide Tryd.prog W .any base t v := hval0
  have hW' := hW
  obtain ⟨p, q, hA0, hV0, rfl, hfz, hnd⟩ := hW
  have hA : DataW.TrodAll enc Tryd.prog W 0 (fun _ => true) true Tryd.f6.params.toList args.toList ds p := hA0
  have hV : DataW.TrodVars enc Tryd.prog W (fun _ => true) Rows.fnExactFieldSqrtRatioSpec.vars gs q := hV0
  rw [Tryd.params6] at hA hval
  obtain ⟨v0, vs0, d0, ds0, p0, q0, hargs, rfl, rfl, h0, r0⟩ := trodAll_cons hA
  obtain ⟨v1, vs1, d1, ds1, p1, q1, rfl, rfl, rfl, h1, r1⟩ := trodAll_cons r0
  obtain ⟨rfl, rfl, rfl⟩ := trodAll_nil r1
  obtain rfl : args = #[v0, v1] := by cases args; simp_all
  obtain ⟨g0, g1, rfl⟩ : ∃ g0 g1, gs = [g0, g1] := by
    obtain ⟨_, _, _, _, d, _, _, _, _, _, d', _, e, _⟩ := trodVars_two hV
    exact ⟨d, d', e⟩
  obtain ⟨N0, _, rfl⟩ := open_bytes (hval 0 22 v0 rfl rfl) h0
  have lt0 : ∀ x ∈ p0, x.block < W.heap.size := by obtain ⟨m, hm⟩ := h0; exact DataW.trod_lt m _ _ _ hm
  obtain ⟨N1, _, rfl⟩ := open_bytes (hval 1 22 v1 rfl rfl) h1
  have lt1 : ∀ x ∈ p1, x.block < W.heap.size := by obtain ⟨m, hm⟩ := h1; exact DataW.trod_lt m _ _ _ hm
  clear hA0 hval0
  rw [MakeChecks.laidMetH_plain _ _ _ (by kernel_rfl)] at hL
  have hL' : laidMet Tryd.prog laidMZ W := hL
  refine (calls_of (by kernel_rfl) (sqR_c N0 N1 W hL')).mono fun e W' ⟨v, he, hb, hf⟩ => ?_
  subst he
  subst hb
  have bel := hf.below
  exact ⟨_, rfl, _, _, _, [], _, _, hW', trodAll_mk1 (shut_bool under4 _), (trodAll_cons_mk (Below.trod laid_ok (by kernel_rfl) (of_decide_eq_true (by kernel_rfl)) h0 bel lt0) (trodAll_cons_mk (Below.trod laid_ok (by kernel_rfl) (of_decide_eq_true (by kernel_rfl)) h1 bel lt1) trodAll_mk0)), Below.trodVars laid_ok bel (by kernel_rfl) hV, bel.frame _, fun h => by cases h⟩

theorem sqR_named : Tryd.pinned.checked.prog.funcNamed Rows.fnExactFieldSqrtRatioRow.func = some 6 := by kernel_rfl
theorem sqR_k1 : (Rows.fnExactFieldSqrtRatioRow.wf (OpenSpec.ofChange Rows.fnExactFieldSqrtRatioSpec) && laidOutB Tryd.prog && mapsRowed Tryd.prog && Tryd.f6.params.all (Tryd.prog.readableRec ·) && namedTie Tryd.prog Rows.fnExactFieldSqrtRatioRow.named Rows.fnExactFieldSqrtRatioSpec.vars) = true := by kernel_rfl
theorem sqR_k2 : ((Rows.fnExactFieldSqrtRatioRow.stops == []) && (Tryd.prog.stops == []) && (Rows.fnExactFieldSqrtRatioRow.knobs == []) && (Tryd.prog.stopKnobs == [])) = true := by kernel_rfl
theorem sqR_k3 : (Rows.fnExactFieldSqrtRatioRow.inPlace == Tryd.prog.inPlace 6) = true := by kernel_rfl
theorem sqR_k4 : (Rows.fnExactFieldSqrtRatioRow.unfollowed == Tryd.prog.unfollowed 6) = true := by kernel_rfl
theorem sqR_k5 : (Rows.fnExactFieldSqrtRatioRow.recurses == Tryd.prog.recurses 6) = true := by kernel_rfl
theorem sqR_k6 : (Rows.fnExactFieldSqrtRatioRow.named == Tryd.prog.varsNamed 6) = true := by kernel_rfl
theorem sqR_k7 : ((Rows.fnExactFieldSqrtRatioRow.maps == (Tryd.f6.params.toList ++ Rows.fnExactFieldSqrtRatioSpec.plain.varTypes Tryd.prog).any (Tryd.prog.mapsRec ·)) && (Rows.fnExactFieldSqrtRatioRow.ifaces == (Tryd.f6.params.toList ++ Rows.fnExactFieldSqrtRatioSpec.plain.varTypes Tryd.prog).any (Tryd.prog.ifacesRec ·)) && (Rows.fnExactFieldSqrtRatioRow.mapsOut == Tryd.prog.mapsAmong Tryd.f6.resultTypes.toList) && (Rows.fnExactFieldSqrtRatioRow.loops == (Tryd.f6.params.toList ++ Rows.fnExactFieldSqrtRatioSpec.plain.varTypes Tryd.prog).any (Tryd.prog.loopsFrom ·)) && (Rows.fnExactFieldSqrtRatioRow.wideKeys == (Tryd.f6.params.toList ++ Rows.fnExactFieldSqrtRatioSpec.plain.varTypes Tryd.prog ++ Tryd.f6.resultTypes.toList).any (Tryd.prog.wideKeysFrom ·))) = true := by kernel_rfl
theorem sqR_k8 : (Rows.fnExactFieldSqrtRatioSpec.vars.all (Tryd.prog.varReadable ·) && Tryd.f6.resultTypes.all (fun t => Tryd.prog.readableRec t && decide (t < Tryd.prog.types.size)) && (Rows.fnExactFieldSqrtRatioRow.ifacesOut == Tryd.f6.resultTypes.toList.any (Tryd.prog.ifacesRec ·)) && (Rows.fnExactFieldSqrtRatioRow.loopsOut == Tryd.f6.resultTypes.toList.any (Tryd.prog.loopsFrom ·)) && (Rows.fnExactFieldSqrtRatioRow.plainKeys == Tryd.prog.plainKeys) && Rows.fnExactFieldSqrtRatioRow.shortTexts.isNone && Tryd.prog.stopsHeard) = true := by kernel_rfl
theorem sqR_k9 : ((Rows.fnExactFieldSqrtRatioRow.kinds == (if Rows.fnExactFieldSqrtRatioRow.domain.isEmpty then [] else Tryd.f6.params.toList.map fun t => match Tryd.prog.underlying t with | some (.int k) => some k | _ => none)) && (Rows.fnExactFieldSqrtRatioRow.pinned == Rows.fnExactFieldSqrtRatioRow.pinnedBy)) = true := by kernel_rfl
theorem sqR_k10 : ((Rows.fnExactFieldSqrtRatioRow.veiled == (Tryd.f6.params.toList ++ Rows.fnExactFieldSqrtRatioSpec.plain.varTypes Tryd.prog ++ Tryd.f6.resultTypes.toList).any (Tryd.prog.veiledRec ·)) && Rows.fnExactFieldSqrtRatioRow.veiledFits Tryd.prog Tryd.f6.params.toList (Tryd.f6.params.toList ++ Rows.fnExactFieldSqrtRatioSpec.plain.varTypes Tryd.prog ++ Tryd.f6.resultTypes.toList)) = true := by kernel_rfl
theorem sqR_holds : Rows.FnExactFieldSqrtRatioSaid :=
  OpenClaim.holds_of_wide 6 Tryd.f6 rfl rfl rfl rfl rfl rfl rfl ⟨rfl, rfl, rfl, rfl, rfl⟩ rfl rfl rfl rfl rfl sqR_named Tryd.func6
    (joined_of mayEnter_ok lifts_ok make_ok rfl rfl sqR_k1 sqR_k2 sqR_k3 sqR_k4 sqR_k5 sqR_k6 sqR_k7 sqR_k8 sqR_k9 sqR_k10)
    (of_decide_eq_true (by kernel_rfl)) (by unfold Func.isWrapper; first | (rw [if_pos (by decide +kernel)]; kernel_rfl) | (rw [if_neg (by decide +kernel)]; exact ⟨rfl, rfl⟩))
    (fun os started H enc _ => sqR_lifted os started H enc)
theorem sqR_stand (j : Nat) (t : TypeId) (ht : Tryd.f6.params[j]? = some t) : Tryd.prog.wantsStandIn t = false := by
  rw [Tryd.params6] at ht
  match j, ht with
  | 0, ht => obtain rfl : 22 = t := Option.some.inj ht; exact (show Tryd.prog.wantsStandIn 22 = false by kernel_rfl)
  | 1, ht => obtain rfl : 22 = t := Option.some.inj ht; exact (show Tryd.prog.wantsStandIn 22 = false by kernel_rfl)
  | j + 2, ht => simp at ht
/-- The tied card. -/
theorem sqR_card : Rows.FnExactFieldSqrtRatioCardSaid :=
  Claim7.holds_tied_plain_at .later [] [.widerDeep, .widerDeep] true (true, "2697709f985b6997102be5fefd1224980323fe23cfb60b03c3149b6ef3bedf6a") false
    sqR_holds (fun _ h => by cases h) (by kernel_rfl) (fun _ h => by cases h) fnExactFieldSqrtRatio_row_tie rfl ⟨rfl, rfl⟩ (by kernel_rfl) rfl
    (fun f fn hf hfn => by
      obtain rfl : f = 6 := Option.some.inj ((show Tryd.prog.funcNamed Rows.fnExactFieldSqrtRatioRow.func = some 6 by kernel_rfl).symm.trans hf) |>.symm
      obtain rfl : fn = Tryd.f6 := (Option.some.inj (Tryd.func6.symm.trans hfn)).symm
      exact ⟨by kernel_rfl, sqR_stand⟩)
    (by kernel_rfl)
end Go.Proofs.YtklgdgeeillpaaaDoor
