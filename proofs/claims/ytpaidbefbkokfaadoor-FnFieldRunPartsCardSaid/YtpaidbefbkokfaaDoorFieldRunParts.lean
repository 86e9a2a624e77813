/- The law FnFieldRunParts, with what its package variables hold tied to the program's text. No condition. -/
import Derived.Test.YtpaidbefbkokfaaDoorPar
import Derived.Test.YtpaidbefbkokfaaDoorJoinr
import Derived.Test.YtpaidbefbkokfaaDoorCards
import Derived.Test.YtpaidbefbkokfaaDoorTie
import Derived.OpenVars
import Derived.Stop.Joined
namespace Go.Proofs.YtpaidbefbkokfaaDoor
open Go Go.ChangeShapes Go.WideShapes Go.ChangeAt Go.RowKit
set_option linter.unusedVariables false
set_option linter.unusedSimpArgs false
set_option maxRecDepth 100000

section
variable {H : Type} {enc : TypeId × Value → H} {Q : Program} {w : World} {spare : Nat → Bool}
/-- Three named variables, opened. -/
theorem vars_three {n0 n1 n2 : String} {gs : List (DataW H)} {ps : List MemPlace} (h : DataW.TrodVars enc Q w spare [n0, n1, n2] gs ps) : ∃ g0 g1 g2, gs = [g0, g1, g2] := by
  cases gs with
  | nil => simp [DataW.TrodVars] at h
  | cons d ds =>
    obtain ⟨g0, t0, cs0, f0, p0, q0, h1, h2, h3, h4, hs, e⟩ := h
    obtain ⟨_, _, _, _, d1, _, _, _, _, _, d2, _, e2, _⟩ := trodVars_two hs
    exact ⟨d, d1, d2, by rw [e2]⟩
end
/-- The law's call, whatever came in. -/
theorem rpX_c {W : World} {a0 : Option Addr} {n c0 : Nat} {N : Nat → Nat} {ops : Nat → Opr} {v1 : Value} {k : Int} (hL : laidMet Tryd.prog laidV W) (hn32 : n * 32 ≤ 140737488355328) (hB : ByS W (.slice a0 n c0) n N)
    (hn0 : (n : Int) ≤ 9223372036854775807) (hO : v1 = .slice none 0 0 ∨ ∃ b s L c, v1 = .slice (some ⟨b, s, none⟩) L c ∧ OpS W v1 L ops ∧ L ≤ c ∧ (c : Int) ≤ 9223372036854775807) :
    Calls Tryd.prog 3 #[.slice a0 n c0, v1, .int .i64 k] W (Fin W) := by
  obtain ⟨q0, q1, q2, hV⟩ := VarsAt.of hL
  have i64N : ∀ {m : Nat}, (m : Int) ≤ 9223372036854775807 → inR .i64 ((m : Nat) : Int) := fun h => ⟨by show (-9223372036854775808 : Int) ≤ _; omega, by show _ < (9223372036854775808 : Int); omega⟩
  have hex : ∃ ad L c, v1 = .slice ad L c ∧ OpS W v1 L ops ∧ L ≤ c ∧ (c : Int) ≤ 9223372036854775807 ∧ (L < c → ∃ b s, ad = some ⟨b, s, none⟩) := by
    rcases hO with rfl | ⟨b, s, L, c, rfl, h1, h2, h3⟩
    · exact ⟨_, 0, 0, rfl, OpS.none, Nat.le_refl _, by decide, fun h => by omega⟩
    · exact ⟨_, L, c, rfl, h1, h2, h3, fun _ => ⟨b, s, rfl⟩⟩
  obtain ⟨ad, L, c, rfl, hOps, hLc, hc, had⟩ := hex
  rcases (show k < 0 ∨ 0 ≤ k by omega) with hk | hk
  · exact cutNeg hk
  rcases (show (L : Int) < k ∨ k ≤ (L : Int) by omega) with hk' | hk'
  · exact cutGt hk'
  obtain ⟨m, rfl⟩ := Int.eq_ofNat_of_zero_le hk
  have hmL : m ≤ L := by omega
  rcases Nat.lt_or_ge m c with h | h
  · rcases Nat.lt_or_ge L c with hlt | hge
    · obtain ⟨b, s, rfl⟩ := had hlt
      exact cutMid hn32 (i64N (by omega)) hB hOps hV hmL hLc h hc hn0
    · obtain ⟨ad', cap', e, h2⟩ := id hOps
      obtain ⟨rfl, -, -⟩ := Value.slice.inj e
      obtain ⟨_, b, s, rfl, _⟩ := h2 0 (by omega)
      exact cutMid hn32 (i64N (by omega)) hB hOps hV hmL hLc h hc hn0
  · obtain rfl : m = L := by omega
    obtain rfl : m = c := by omega
    exact cutEnd hn32 (i64N hc) hB hOps hV hc hn0

theorem rpX_met (os : Os) (args : Array Value) : laidMetH Tryd.prog Rows.fnFieldRunPartsRow.laid ((World.doorLaid Tryd.prog 400 os).forCall (fun _ _ => 0) ⟨#[], args, []⟩).memory :=
  laidMetH_of_parts3 (fuel := 8) (laidMet_of_run' 8 (by kernel_rfl) (by kernel_rfl)) (by kernel_rfl) (by kernel_rfl)
theorem rpX_lifted (os : Os) (started : os.Started) (H : Type) (enc : TypeId × Value → H) :
    ReturnsInHanded {} Tryd.checked os 3 .any (fun w args => (Rows.fnFieldRunPartsSpec.pre enc Tryd.prog Tryd.f3 [] false w args ∧ laidMetH Tryd.prog Rows.fnFieldRunPartsRow.laid w) ∧ sizedMet enc Tryd.prog Tryd.f3 (OpenSpec.ofChange Rows.fnFieldRunPartsSpec) false w args)
      (Rows.fnFieldRunPartsSpec.post enc Tryd.prog Tryd.f3 false true false false) := by
  refine returnsInHanded_of_change_and (C := Tryd.checked) (X := fun w _ => laidMetH Tryd.prog Rows.fnFieldRunPartsRow.laid w) (fun _ _ _ hh h => h.of_heap hh) own_ok started (by kernel_rfl) Tryd.func3
    (ChangeSpec.witness_shaped (enc := enc) (C := Tryd.checked) (os := os) (X := fun w _ => laidMetH Tryd.prog Rows.fnFieldRunPartsRow.laid w) false (World.doorLaid Tryd.prog 400 os) #[.slice none 0 0, .slice none 0 0, .int .i64 0] 8 rfl (World.shaped_of_RefB (by kernel_rfl) (by kernel_rfl)) (by kernel_rfl) (by kernel_rfl) (by kernel_rfl) (rpX_met os _)) ?_
  intro W base args ds gs before hval0 hW _ hwt hL _
  have hval : ∀ (j : Nat) t v, Tryd.f3.params[j]? = some t → args[j]? = some v → Value.okWide Tryd.prog W .any base t v := hval0
  have hW' := hW
  obtain ⟨p, q, hA0, hV0, rfl, hfz, hnd⟩ := hW
  have hA : DataW.TrodAll enc Tryd.prog W 0 (fun _ => true) true Tryd.f3.params.toList args.toList ds p := hA0
  have hV : DataW.TrodVars enc Tryd.prog W (fun _ => true) Rows.fnFieldRunPartsSpec.vars gs q := hV0
  have hwt' : (DataW.weightsEach Tryd.prog (Tryd.f3.params.toList ++ Rows.fnFieldRunPartsSpec.plain.varTypes Tryd.prog) (ds ++ gs)).all (· ≤ reachBytes) = true := hwt
  rw [Tryd.params3] at hA hval hwt'
  obtain ⟨v0, vs0, d0, ds0, p0, q0, hargs, rfl, rfl, h0, r0⟩ := trodAll_cons hA
  obtain ⟨v1, vs1, d1, ds1, p1, q1, rfl, rfl, rfl, h1, r1⟩ := trodAll_cons r0
  obtain ⟨v2, vs2, d2, ds2, p2, q2, rfl, rfl, rfl, h2, r2⟩ := trodAll_cons r1
  obtain ⟨rfl, rfl, rfl⟩ := trodAll_nil r2
  obtain rfl : args = #[v0, v1, v2] := by cases args; simp_all
  obtain ⟨g0, g1, g2, rfl⟩ : ∃ g0 g1 g2, gs = [g0, g1, g2] := by
    exact vars_three hV
  have lt0 : ∀ x ∈ p0, x.block < W.heap.size := by obtain ⟨m, hm⟩ := h0; exact DataW.trod_lt m _ _ _ hm
  have lt1 : ∀ x ∈ p1, x.block < W.heap.size := by obtain ⟨m, hm⟩ := h1; exact DataW.trod_lt m _ _ _ hm
  have lt2 : ∀ x ∈ p2, x.block < W.heap.size := by obtain ⟨m, hm⟩ := h2; exact DataW.trod_lt m _ _ _ hm
  obtain ⟨a0, n, c0, N, rfl, hB, hn0, hsz⟩ := open_byS (hval 0 22 v0 rfl rfl) h0
  obtain ⟨ops, hO⟩ := open_opS (hval 1 23 v1 rfl rfl) h1
  obtain ⟨k, rfl, _, _, _⟩ := open_int underI (hval 2 3 v2 rfl rfl) h2
  have hn32 : n * 32 ≤ 140737488355328 := by
    rcases hsz with rfl | ⟨el, sl, rfl, rfl⟩
    · decide
    · have h := sized_slice hwt' (j := 0) (t := 22) (e := 28) rfl rfl underSA
      rw [bytesA] at h
      have h2 : reachBytes < 140737488355328 := reachBytes_lt
      have h3 := Nat.mul_le_mul_right 32 (Nat.le_add_right el.length sl.length)
      omega
  clear hA0 hval0
  rw [MakeChecks.laidMetH_plain _ _ _ (by kernel_rfl)] at hL
  have hL' : laidMet Tryd.prog laidV W := hL
  refine (rpX_c hL' hn32 hB hn0 hO).mono fun e W' ⟨he, bel⟩ => ?_
  subst he
  exact ⟨_, rfl, _, _, _, [], _, _, hW', trodAll_mk1 (shut_bool underB _), (trodAll_cons_mk (Below.trod laid_ok (by kernel_rfl) (of_decide_eq_true (by kernel_rfl)) h0 bel lt0) (trodAll_cons_mk (Below.trod laid_ok (by kernel_rfl) (of_decide_eq_true (by kernel_rfl)) h1 bel lt1) (trodAll_cons_mk (Below.trod laid_ok (by kernel_rfl) (of_decide_eq_true (by kernel_rfl)) h2 bel lt2) trodAll_mk0))), Below.trodVars laid_ok bel (by kernel_rfl) hV, bel.frame _, fun h => by cases h⟩

theorem rpX_named : Tryd.pinned.checked.prog.funcNamed Rows.fnFieldRunPartsRow.func = some 3 := by kernel_rfl
theorem rpX_k1 : (Rows.fnFieldRunPartsRow.wf (OpenSpec.ofChange Rows.fnFieldRunPartsSpec) && laidOutB Tryd.prog && mapsRowed Tryd.prog && Tryd.f3.params.all (Tryd.prog.readableRec ·) && namedTie Tryd.prog Rows.fnFieldRunPartsRow.named Rows.fnFieldRunPartsSpec.vars) = true := by kernel_rfl
theorem rpX_k2 : ((Rows.fnFieldRunPartsRow.stops == []) && (Tryd.prog.stops == []) && (Rows.fnFieldRunPartsRow.knobs == []) && (Tryd.prog.stopKnobs == [])) = true := by kernel_rfl
theorem rpX_k3 : (Rows.fnFieldRunPartsRow.inPlace == Tryd.prog.inPlace 3) = true := by kernel_rfl
theorem rpX_k4 : (Rows.fnFieldRunPartsRow.unfollowed == Tryd.prog.unfollowed 3) = true := by kernel_rfl
theorem rpX_k5 : (Rows.fnFieldRunPartsRow.recurses == Tryd.prog.recurses 3) = true := by kernel_rfl
theorem rpX_k6 : (Rows.fnFieldRunPartsRow.named == Tryd.prog.varsNamed 3) = true := by kernel_rfl
theorem rpX_k7 : ((Rows.fnFieldRunPartsRow.maps == (Tryd.f3.params.toList ++ Rows.fnFieldRunPartsSpec.plain.varTypes Tryd.prog).any (Tryd.prog.mapsRec ·)) && (Rows.fnFieldRunPartsRow.ifaces == (Tryd.f3.params.toList ++ Rows.fnFieldRunPartsSpec.plain.varTypes Tryd.prog).any (Tryd.prog.ifacesRec ·)) && (Rows.fnFieldRunPartsRow.mapsOut == Tryd.prog.mapsAmong Tryd.f3.resultTypes.toList) && (Rows.fnFieldRunPartsRow.loops == (Tryd.f3.params.toList ++ Rows.fnFieldRunPartsSpec.plain.varTypes Tryd.prog).any (Tryd.prog.loopsFrom ·)) && (Rows.fnFieldRunPartsRow.wideKeys == (Tryd.f3.params.toList ++ Rows.fnFieldRunPartsSpec.plain.varTypes Tryd.prog ++ Tryd.f3.resultTypes.toList).any (Tryd.prog.wideKeysFrom ·))) = true := by kernel_rfl
theorem rpX_k8 : (Rows.fnFieldRunPartsSpec.vars.all (Tryd.prog.varReadable ·) && Tryd.f3.resultTypes.all (fun t => Tryd.prog.readableRec t && decide (t < Tryd.prog.types.size)) && (Rows.fnFieldRunPartsRow.ifacesOut == Tryd.f3.resultTypes.toList.any (Tryd.prog.ifacesRec ·)) && (Rows.fnFieldRunPartsRow.loopsOut == Tryd.f3.resultTypes.toList.any (Tryd.prog.loopsFrom ·)) && (Rows.fnFieldRunPartsRow.plainKeys == Tryd.prog.plainKeys) && Rows.fnFieldRunPartsRow.shortTexts.isNone && Tryd.prog.stopsHeard) = true := by kernel_rfl
theorem rpX_k9 : ((Rows.fnFieldRunPartsRow.kinds == (if Rows.fnFieldRunPartsRow.domain.isEmpty then [] else Tryd.f3.params.toList.map fun t => match Tryd.prog.underlying t with | some (.int k) => some k | _ => none)) && (Rows.fnFieldRunPartsRow.pinned == Rows.fnFieldRunPartsRow.pinnedBy)) = true := by kernel_rfl
theorem rpX_k10 : ((Rows.fnFieldRunPartsRow.veiled == (Tryd.f3.params.toList ++ Rows.fnFieldRunPartsSpec.plain.varTypes Tryd.prog ++ Tryd.f3.resultTypes.toList).any (Tryd.prog.veiledRec ·)) && Rows.fnFieldRunPartsRow.veiledFits Tryd.prog Tryd.f3.params.toList (Tryd.f3.params.toList ++ Rows.fnFieldRunPartsSpec.plain.varTypes Tryd.prog ++ Tryd.f3.resultTypes.toList)) = true := by kernel_rfl
theorem rpX_holds : Rows.FnFieldRunPartsSaid :=
  OpenClaim.holds_of_wide 3 Tryd.f3 rfl rfl rfl rfl rfl rfl rfl ⟨rfl, rfl, rfl, rfl, rfl⟩ rfl rfl rfl rfl rfl rpX_named Tryd.func3
    (joined_of mayEnter_ok lifts_ok make_ok rfl rfl rpX_k1 rpX_k2 rpX_k3 rpX_k4 rpX_k5 rpX_k6 rpX_k7 rpX_k8 rpX_k9 rpX_k10)
    (of_decide_eq_true (by kernel_rfl)) (by unfold Func.isWrapper; first | (rw [if_pos (by decide +kernel)]; kernel_rfl) | (rw [if_neg (by decide +kernel)]; exact ⟨rfl, rfl⟩))
    (fun os started H enc _ => rpX_lifted os started H enc)
theorem rpX_stand (j : Nat) (t : TypeId) (ht : Tryd.f3.params[j]? = some t) : Tryd.prog.wantsStandIn t = false := by
  rw [Tryd.params3] at ht
  match j, ht with
  | 0, ht => obtain rfl : 22 = t := Option.some.inj ht; exact (show Tryd.prog.wantsStandIn 22 = false by kernel_rfl)
  | 1, ht => obtain rfl : 23 = t := Option.some.inj ht; exact (show Tryd.prog.wantsStandIn 23 = false by kernel_rfl)
  | 2, ht => obtain rfl : 3 = t := Option.some.inj ht; exact (show Tryd.prog.wantsStandIn 3 = false by kernel_rfl)
  | j + 3, ht => simp at ht
/-- The tied card. -/
theorem rpX_card : Rows.FnFieldRunPartsCardSaid :=
  Claim7.holds_tied_plain_at .later [] [.widerDeep, .widerDeep, .widerDeep] true (true, "f2ccc4737aaf3310b971cd2622a84974bebd13196781b735b9e9e398323ab56f") false
    rpX_holds (fun _ h => by cases h) (by kernel_rfl) (fun _ h => by cases h) fnFieldRunParts_row_tie rfl ⟨rfl, rfl⟩ (by kernel_rfl) rfl
    (fun f fn hf hfn => by
      obtain rfl : f = 3 := Option.some.inj ((show Tryd.prog.funcNamed Rows.fnFieldRunPartsRow.func = some 3 by kernel_rfl).symm.trans hf) |>.symm
      obtain rfl : fn = Tryd.f3 := (Option.some.inj (Tryd.func3.symm.trans hfn)).symm
      exact ⟨by kernel_rfl, rpX_stand⟩)
    (by kernel_rfl)
end Go.Proofs.YtpaidbefbkokfaaDoor
