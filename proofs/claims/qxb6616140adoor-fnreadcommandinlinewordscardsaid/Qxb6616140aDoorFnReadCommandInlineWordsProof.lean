/- FnReadCommandInlineWords: the row and its tied card. -/
import Derived.Test.Qxb6616140aDoorSent
import Derived.Test.Qxb6616140aDoorLaw6
import Derived.Test.Qxb6616140aDoorFacts
import Derived.Test.Qxb6616140aDoorFacts2
import Derived.Test.Qxb6616140aDoorCards
import Derived.Test.Qxb6616140aDoorTie
import Derived.SevenTiedAt
namespace Go.Proofs.Qxb6616140aDoor.fnReadCommandInlineWords
open Go.ChangeShapes Go.WideShapes Go.ChangeAt Go.RowKit Go.Deep
open Go.Proofs.Qxb6616140aDoor

/-- The door's own heap meets the condition. -/
theorem door_met (os : Os) (args : Array Value) : laidMetH Tryd.prog Rows.fnReadCommandInlineWordsRow.laid ((World.doorLaid Tryd.prog 214 os).forCall (fun _ _ => 0) ⟨#[], args, []⟩).memory :=
  laidMetH_of_parts3 (fuel := 8) (laidMet_of_run' 8 (by kernel_rfl) (by kernel_rfl)) (by kernel_rfl) (by kernel_rfl)

theorem env {W : World} (h : laidMetH Tryd.prog Rows.fnReadCommandInlineWordsRow.laid W) : ∃ e0 e1 e3, Env W.heap.size e0 e1 e3 W := by
  rw [MakeChecks.laidMetH_plain _ _ _ (by kernel_rfl)] at h
  exact env_of (laidMet.tail (laidMet.tail (laidMet.tail (laidMet.tail (laidMet.tail (laidMet.tail h))))))

set_option maxRecDepth 100000 in
theorem lifted (os : Os) (started : os.Started) (H : Type) (enc : TypeId × Value → H) :
    ReturnsInHanded {} Tryd.checked os 6 .any (fun w args => (Rows.fnReadCommandInlineWordsSpec.pre enc Tryd.prog Tryd.f6 [] false w args ∧ laidMetH Tryd.prog Rows.fnReadCommandInlineWordsRow.laid w) ∧ sizedMet enc Tryd.prog Tryd.f6 (OpenSpec.ofChange Rows.fnReadCommandInlineWordsSpec) false w args)
      (Rows.fnReadCommandInlineWordsSpec.post enc Tryd.prog Tryd.f6 false true false false) := by
  refine returnsInHanded_of_change_and (C := Tryd.checked) (X := fun w _ => laidMetH Tryd.prog Rows.fnReadCommandInlineWordsRow.laid w) (fun _ _ _ hh h => h.of_heap hh) own started (by kernel_rfl) Tryd.func6
    (ChangeSpec.witness_shaped (enc := enc) (C := Tryd.checked) (os := os) (X := fun w _ => laidMetH Tryd.prog Rows.fnReadCommandInlineWordsRow.laid w) false (World.doorLaid Tryd.prog 214 os) #[.slice none 0 0] 8 rfl (World.shaped_of_RefB (by kernel_rfl) (by kernel_rfl)) (by kernel_rfl) (by kernel_rfl) (by kernel_rfl) (door_met os _)) ?_
  intro W base args ds gs before hval0 hW _ _ hL _
  have hval : ∀ (j : Nat) t v, Tryd.f6.params[j]? = some t → args[j]? = some v → Value.okWide Tryd.prog W .any base t v := hval0
  have hW' := hW
  obtain ⟨p, q, hA0, hV, rfl, hfz, hnd⟩ := hW
  have hA : DataW.TrodAll enc Tryd.prog W 0 (fun _ => true) true Tryd.f6.params.toList args.toList ds p := hA0
  rw [Tryd.params6] at hA hval
  obtain ⟨v0, vs0, d0, ds0, p0, q0, hargs, rfl, rfl, h0, r0⟩ := trodAll_cons hA
  obtain ⟨rfl, rfl, rfl⟩ := trodAll_nil r0
  obtain rfl : args = #[v0] := by cases args; simp_all
  obtain ⟨rfl, rfl⟩ := trodVars_none hV
  obtain ⟨a0, len0, cap0, rfl⟩ := okWide_slice Tryd.underlying35 (hval 0 35 v0 rfl rfl)
  have lt0 : ∀ x ∈ p0, x.block < W.heap.size := by obtain ⟨m, hm⟩ := h0; exact DataW.trod_lt m _ _ _ hm
  obtain ⟨xs, hx1, hx2, hx3, hx4, hx5⟩ := mat_of h0
  obtain ⟨e0, e1, e3, hE⟩ := env hL
  clear hA0 hval0
  refine (law6 a0 cap0 len0 xs W e0 e1 e3 hE hx1 hx2 hx3 hx4 hx5).mono fun e W' ⟨he, bel⟩ => ?_
  subst he
  exact ⟨_, rfl, _, _, _, [], _, [], hW', trodAll_mk1 (shut_bool Tryd.underlying4 _), (trodAll_cons_mk (Below.trod laidOut (by kernel_rfl) (of_decide_eq_true (by kernel_rfl)) h0 bel lt0) trodAll_mk0), rfl, bel.frame _, fun h => by cases h⟩

theorem j1 : (Rows.fnReadCommandInlineWordsRow.inPlace == Tryd.prog.inPlace 6) = true := by kernel_rfl
theorem j2 : (Rows.fnReadCommandInlineWordsRow.unfollowed == Tryd.prog.unfollowed 6) = true := by kernel_rfl
theorem j3 : (Rows.fnReadCommandInlineWordsRow.recurses == Tryd.prog.recurses 6) = true := by kernel_rfl
theorem j4 : (Rows.fnReadCommandInlineWordsRow.named == Tryd.prog.varsNamed 6) = true := by kernel_rfl
theorem c_closed : joinedFacts Tryd.prog 6 Tryd.f6 Rows.fnReadCommandInlineWordsSpec Rows.fnReadCommandInlineWordsRow = true := by
  unfold joinedFacts
  rw [j1, j2, j3, j4, kMay, show Tryd.prog.liftsFinal = Rows.fnReadCommandInlineWordsRow.lifted from kLift, show Tryd.prog.make = some Rows.fnReadCommandInlineWordsRow.make from kMake, laidOut]
  kernel_rfl
theorem c_name : Tryd.pinned.checked.prog.funcNamed Rows.fnReadCommandInlineWordsRow.func = some 6 := by kernel_rfl
theorem c_inst : Tryd.f6.isInstance Tryd.pinned.checked.prog Rows.fnReadCommandInlineWordsRow.origin Rows.fnReadCommandInlineWordsRow.targs := of_decide_eq_true (by kernel_rfl)
theorem c_wrap : Tryd.f6.isWrapper Tryd.pinned.checked.prog Rows.fnReadCommandInlineWordsRow.wrapper Rows.fnReadCommandInlineWordsRow.mainSum := by unfold Func.isWrapper; first | (rw [if_pos (by decide +kernel)]; kernel_rfl) | (rw [if_neg (by decide +kernel)]; exact ⟨rfl, rfl⟩)
theorem c_text : Rows.fnReadCommandInlineWordsRow.wfByText (OpenSpec.ofChange Rows.fnReadCommandInlineWordsSpec) = true := by kernel_rfl
theorem c_goes : false = Rows.fnReadCommandInlineWordsRow.goesBy Tryd.pinned.checked.prog := by kernel_rfl

theorem row_holds : Rows.FnReadCommandInlineWordsSaid :=
  OpenClaim.holds_of_wide 6 Tryd.f6 rfl rfl rfl rfl rfl rfl rfl ⟨rfl, rfl, rfl, rfl, rfl⟩ rfl rfl rfl rfl rfl c_name Tryd.func6 c_closed c_inst c_wrap
    (fun os started H enc _ => lifted os started H enc)

theorem proved : Rows.FnReadCommandInlineWordsCardSaid :=
  Claim7.holds_tied_plain_at .later [] [.data, .data, .data, .sentinel, .sentinel, .sentinel, .sentinel, .sentinel, .sentinel, .sentinel, .sentinel, .sentinel, .sentinel] true (true, "d0ef90dc1d3d7785b820637c6fcdc2144910aa4fbaba3b1bb45cab5739514cc5") true
    row_holds (fun _ h => by cases h) c_text (fun _ h => by cases h) fnReadCommandInlineWords_row_tie rfl ⟨rfl, rfl⟩ kMain rfl
    (fun f fn hf hfn => by
      obtain rfl : f = 6 := Option.some.inj (c_name.symm.trans hf) |>.symm
      obtain rfl : fn = Tryd.f6 := (Option.some.inj (Tryd.func6.symm.trans hfn)).symm
      exact ⟨kLooks, fun j t ht => by
        rw [Tryd.params6] at ht
        have hm : t ∈ [35, 3] := by
          have := Array.mem_of_getElem? ht
          simp at this
          simp [this]
        exact (show Tryd.prog.wantsStandIn t = false by simpa using List.all_eq_true.1 kStand t hm)⟩)
    c_goes
#print axioms proved
end Go.Proofs.Qxb6616140aDoor.fnReadCommandInlineWords
