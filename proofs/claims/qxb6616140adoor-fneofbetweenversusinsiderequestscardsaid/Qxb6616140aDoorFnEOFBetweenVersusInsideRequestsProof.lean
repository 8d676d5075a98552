/- FnEOFBetweenVersusInsideRequests: the row and its tied card. -/
import Derived.Test.Qxb6616140aDoorSent
import Derived.Test.Qxb6616140aDoorLaw10
import Derived.Test.Qxb6616140aDoorFacts
import Derived.Test.Qxb6616140aDoorFacts2
import Derived.Test.Qxb6616140aDoorCards
import Derived.Test.Qxb6616140aDoorTie
import Derived.SevenTiedAt
namespace Go.Proofs.Qxb6616140aDoor.fnEOFBetweenVersusInsideRequests
open Go.ChangeShapes Go.WideShapes Go.ChangeAt Go.RowKit Go.Deep
open Go.Proofs.Qxb6616140aDoor

/-- The door's own heap meets the condition. -/
theorem door_met (os : Os) (args : Array Value) : laidMetH Tryd.prog Rows.fnEOFBetweenVersusInsideRequestsRow.laid ((World.doorLaid Tryd.prog 214 os).forCall (fun _ _ => 0) ⟨#[], args, []⟩).memory :=
  laidMetH_of_parts3 (fuel := 8) (laidMet_of_run' 8 (by kernel_rfl) (by kernel_rfl)) (by kernel_rfl) (by kernel_rfl)

theorem env {W : World} (h : laidMetH Tryd.prog Rows.fnEOFBetweenVersusInsideRequestsRow.laid W) : ∃ e0 e1 e3, Env W.heap.size e0 e1 e3 W := by
  rw [MakeChecks.laidMetH_plain _ _ _ (by kernel_rfl)] at h
  exact env_of (laidMet.tail (laidMet.tail (laidMet.tail (laidMet.tail (laidMet.tail (laidMet.tail h))))))

set_option maxRecDepth 100000 in
theorem lifted (os : Os) (started : os.Started) (H : Type) (enc : TypeId × Value → H) :
    ReturnsInHanded {} Tryd.checked os 10 .any (fun w args => (Rows.fnEOFBetweenVersusInsideRequestsSpec.pre enc Tryd.prog Tryd.f10 [] false w args ∧ laidMetH Tryd.prog Rows.fnEOFBetweenVersusInsideRequestsRow.laid w) ∧ sizedMet enc Tryd.prog Tryd.f10 (OpenSpec.ofChange Rows.fnEOFBetweenVersusInsideRequestsSpec) false w args)
      (Rows.fnEOFBetweenVersusInsideRequestsSpec.post enc Tryd.prog Tryd.f10 false true false false) := by
  refine returnsInHanded_of_change_and (C := Tryd.checked) (X := fun w _ => laidMetH Tryd.prog Rows.fnEOFBetweenVersusInsideRequestsRow.laid w) (fun _ _ _ hh h => h.of_heap hh) own started (by kernel_rfl) Tryd.func10
    (ChangeSpec.witness_shaped (enc := enc) (C := Tryd.checked) (os := os) (X := fun w _ => laidMetH Tryd.prog Rows.fnEOFBetweenVersusInsideRequestsRow.laid w) false (World.doorLaid Tryd.prog 214 os) #[.slice none 0 0, .slice none 0 0, .int .i64 0] 8 rfl (World.shaped_of_RefB (by kernel_rfl) (by kernel_rfl)) (by kernel_rfl) (by kernel_rfl) (by kernel_rfl) (door_met os _)) ?_
  intro W base args ds gs before hval0 hW _ _ hL _
  have hval : ∀ (j : Nat) t v, Tryd.f10.params[j]? = some t → args[j]? = some v → Value.okWide Tryd.prog W .any base t v := hval0
  have hW' := hW
  obtain ⟨p, q, hA0, hV, rfl, hfz, hnd⟩ := hW
  have hA : DataW.TrodAll enc Tryd.prog W 0 (fun _ => true) true Tryd.f10.params.toList args.toList ds p := hA0
  rw [Tryd.params10] at hA hval
  obtain ⟨v0, vs0, d0, ds0, p0, q0, hargs, rfl, rfl, h0, r0⟩ := trodAll_cons hA
  obtain ⟨v1, vs1, d1, ds1, p1, q1, rfl, rfl, rfl, h1, r1⟩ := trodAll_cons r0
  obtain ⟨v2, vs2, d2, ds2, p2, q2, rfl, rfl, rfl, h2, r2⟩ := trodAll_cons r1
  obtain ⟨rfl, rfl, rfl⟩ := trodAll_nil r2
  obtain rfl : args = #[v0, v1, v2] := by cases args; simp_all
  obtain ⟨rfl, rfl⟩ := trodVars_none hV
  obtain ⟨a0, len0, cap0, rfl⟩ := okWide_slice Tryd.underlying35 (hval 0 35 v0 rfl rfl)
  obtain ⟨a1, len1, cap1, rfl⟩ := okWide_slice Tryd.underlying35 (hval 1 35 v1 rfl rfl)
  obtain ⟨cut, rfl, rfl, rfl, wc⟩ := open_int Tryd.underlying3 (hval 2 3 v2 rfl rfl) h2
  have lt0 : ∀ x ∈ p0, x.block < W.heap.size := by obtain ⟨m, hm⟩ := h0; exact DataW.trod_lt m _ _ _ hm
  have lt1 : ∀ x ∈ p1, x.block < W.heap.size := by obtain ⟨m, hm⟩ := h1; exact DataW.trod_lt m _ _ _ hm
  obtain ⟨xs, hx1, hx2, hx3, hx4, hx5⟩ := mat_of h0
  obtain ⟨ys, hy1, hy2, hy3, hy4, hy5⟩ := mat_of h1
  obtain ⟨e0, e1, e3, hE⟩ := env hL
  clear hA0 hval0
  refine (law10 a0 a1 cap0 cap1 len0 len1 cut xs ys W e0 e1 e3 hE hx1 hy1 hx2 hy2 hx3 hy3 hx4 hy4 hx5 hy5).mono fun e W' ⟨he, bel⟩ => ?_
  subst he
  exact ⟨_, rfl, _, _, _, [], _, [], hW', trodAll_mk1 (shut_bool Tryd.underlying4 _), (trodAll_cons_mk (Below.trod laidOut (by kernel_rfl) (of_decide_eq_true (by kernel_rfl)) h0 bel lt0) (trodAll_cons_mk (Below.trod laidOut (by kernel_rfl) (of_decide_eq_true (by kernel_rfl)) h1 bel lt1) (trodAll_cons_mk (shut_int Tryd.underlying3 wc) trodAll_mk0))), rfl, bel.frame _, fun h => by cases h⟩

theorem j1 : (Rows.fnEOFBetweenVersusInsideRequestsRow.inPlace == Tryd.prog.inPlace 10) = true := by kernel_rfl
theorem j2 : (Rows.fnEOFBetweenVersusInsideRequestsRow.unfollowed == Tryd.prog.unfollowed 10) = true := by kernel_rfl
theorem j3 : (Rows.fnEOFBetweenVersusInsideRequestsRow.recurses == Tryd.prog.recurses 10) = true := by kernel_rfl
theorem j4 : (Rows.fnEOFBetweenVersusInsideRequestsRow.named == Tryd.prog.varsNamed 10) = true := by kernel_rfl
theorem c_closed : joinedFacts Tryd.prog 10 Tryd.f10 Rows.fnEOFBetweenVersusInsideRequestsSpec Rows.fnEOFBetweenVersusInsideRequestsRow = true := by
  unfold joinedFacts
  rw [j1, j2, j3, j4, kMay, show Tryd.prog.liftsFinal = Rows.fnEOFBetweenVersusInsideRequestsRow.lifted from kLift, show Tryd.prog.make = some Rows.fnEOFBetweenVersusInsideRequestsRow.make from kMake, laidOut]
  kernel_rfl
theorem c_name : Tryd.pinned.checked.prog.funcNamed Rows.fnEOFBetweenVersusInsideRequestsRow.func = some 10 := by kernel_rfl
theorem c_inst : Tryd.f10.isInstance Tryd.pinned.checked.prog Rows.fnEOFBetweenVersusInsideRequestsRow.origin Rows.fnEOFBetweenVersusInsideRequestsRow.targs := of_decide_eq_true (by kernel_rfl)
theorem c_wrap : Tryd.f10.isWrapper Tryd.pinned.checked.prog Rows.fnEOFBetweenVersusInsideRequestsRow.wrapper Rows.fnEOFBetweenVersusInsideRequestsRow.mainSum := by unfold Func.isWrapper; first | (rw [if_pos (by decide +kernel)]; kernel_rfl) | (rw [if_neg (by decide +kernel)]; exact ⟨rfl, rfl⟩)
theorem c_text : Rows.fnEOFBetweenVersusInsideRequestsRow.wfByText (OpenSpec.ofChange Rows.fnEOFBetweenVersusInsideRequestsSpec) = true := by kernel_rfl
theorem c_goes : false = Rows.fnEOFBetweenVersusInsideRequestsRow.goesBy Tryd.pinned.checked.prog := by kernel_rfl

theorem row_holds : Rows.FnEOFBetweenVersusInsideRequestsSaid :=
  OpenClaim.holds_of_wide 10 Tryd.f10 rfl rfl rfl rfl rfl rfl rfl ⟨rfl, rfl, rfl, rfl, rfl⟩ rfl rfl rfl rfl rfl c_name Tryd.func10 c_closed c_inst c_wrap
    (fun os started H enc _ => lifted os started H enc)

theorem proved : Rows.FnEOFBetweenVersusInsideRequestsCardSaid :=
  Claim7.holds_tied_plain_at .later [] [.data, .data, .data, .sentinel, .sentinel, .sentinel, .sentinel, .sentinel, .sentinel, .sentinel, .sentinel, .sentinel, .sentinel] true (true, "d0ef90dc1d3d7785b820637c6fcdc2144910aa4fbaba3b1bb45cab5739514cc5") true
    row_holds (fun _ h => by cases h) c_text (fun _ h => by cases h) fnEOFBetweenVersusInsideRequests_row_tie rfl ⟨rfl, rfl⟩ kMain rfl
    (fun f fn hf hfn => by
      obtain rfl : f = 10 := Option.some.inj (c_name.symm.trans hf) |>.symm
      obtain rfl : fn = Tryd.f10 := (Option.some.inj (Tryd.func10.symm.trans hfn)).symm
      exact ⟨kLooks, fun j t ht => by
        rw [Tryd.params10] at ht
        have hm : t ∈ [35, 3] := by
          have := Array.mem_of_getElem? ht
          simp at this
          rcases this with rfl | rfl <;> simp
        exact (show Tryd.prog.wantsStandIn t = false by simpa using List.all_eq_true.1 kStand t hm)⟩)
    c_goes
#print axioms proved
end Go.Proofs.Qxb6616140aDoor.fnEOFBetweenVersusInsideRequests
