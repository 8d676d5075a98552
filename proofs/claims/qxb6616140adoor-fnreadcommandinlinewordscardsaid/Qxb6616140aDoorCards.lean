/-
  DERIVED. GIVEN WITH THE SEED: THE CARDS: each row of Qxb6616140aDoorRows.lean that lists a variable, with what it lists TIED to the program's text (the seventh form; the later family's looks); each row that meets fmt, with fmt's text TOLD by the authors' own Lean function (tested against real Go, not proved from fmt's source: count such statements apart). THE CARD IS WHAT COUNTS. Prove the row's statement (the work); the ties are given (Qxb6616140aDoorTie.lean); close each card by the builder's one call (the guide's Derived/Test/ToyasCard.lean, 'card_holds'). Laid BY PROGRAM, IN A SANDBOX (cutbox-door.mjs). By AI agents, Wed Nov 11 2026. No macro, syntax, notation, axiom, sorry.
-/
import Derived.Test.Qxb6616140aDoorRows
import GoSem.ClaimSeven
namespace Go.Proofs.Qxb6616140aDoor
namespace Rows

/-- THE TIED CARD OF 'zzlaws_internal_resp_b1.FnIntegerRepliesParseBackInOrder'. -/
def fnIntegerRepliesParseBackInOrderCard : Claim7 := { stood := { row := fnIntegerRepliesParseBackInOrderRow, standIns := [], harness := (true, "d0ef90dc1d3d7785b820637c6fcdc2144910aa4fbaba3b1bb45cab5739514cc5"), looks := true }, kinds := [], alts := [], laidByText := true, laidKinds := [.data, .data, .data, .sentinel, .sentinel], laidTests := true, laidLooks := .later }
def FnIntegerRepliesParseBackInOrderCardSaid : Prop := Claim7.holds Tryd.pinned (.plain (OpenSpec.ofChange fnIntegerRepliesParseBackInOrderSpec)) fnIntegerRepliesParseBackInOrderCard

/-- THE TIED CARD OF 'zzlaws_internal_resp_b1.FnIntegerReplyDistinctAndSized'. -/
def fnIntegerReplyDistinctAndSizedCard : Claim7 := { stood := { row := fnIntegerReplyDistinctAndSizedRow, standIns := [], harness := (true, "d0ef90dc1d3d7785b820637c6fcdc2144910aa4fbaba3b1bb45cab5739514cc5"), looks := true }, kinds := [], alts := [], laidByText := true, laidKinds := [.data, .data, .data], laidTests := true, laidLooks := .later }
def FnIntegerReplyDistinctAndSizedCardSaid : Prop := Claim7.holds Tryd.pinned (.plain (OpenSpec.ofChange fnIntegerReplyDistinctAndSizedSpec)) fnIntegerReplyDistinctAndSizedCard

/-- THE TIED CARD OF 'zzlaws_internal_resp_b1.FnReadCommandArrayExact'. -/
def fnReadCommandArrayExactCard : Claim7 := { stood := { row := fnReadCommandArrayExactRow, standIns := [], harness := (true, "d0ef90dc1d3d7785b820637c6fcdc2144910aa4fbaba3b1bb45cab5739514cc5"), looks := true }, kinds := [], alts := [], laidByText := true, laidKinds := [.data, .data, .data, .sentinel, .sentinel, .sentinel, .sentinel, .sentinel, .sentinel, .sentinel, .sentinel, .sentinel, .sentinel], laidTests := true, laidLooks := .later }
def FnReadCommandArrayExactCardSaid : Prop := Claim7.holds Tryd.pinned (.plain (OpenSpec.ofChange fnReadCommandArrayExactSpec)) fnReadCommandArrayExactCard

/-- THE TIED CARD OF 'zzlaws_internal_resp_b1.FnReadCommandInlineWords'. -/
def fnReadCommandInlineWordsCard : Claim7 := { stood := { row := fnReadCommandInlineWordsRow, standIns := [], harness := (true, "d0ef90dc1d3d7785b820637c6fcdc2144910aa4fbaba3b1bb45cab5739514cc5"), looks := true }, kinds := [], alts := [], laidByText := true, laidKinds := [.data, .data, .data, .sentinel, .sentinel, .sentinel, .sentinel, .sentinel, .sentinel, .sentinel, .sentinel, .sentinel, .sentinel], laidTests := true, laidLooks := .later }
def FnReadCommandInlineWordsCardSaid : Prop := Claim7.holds Tryd.pinned (.plain (OpenSpec.ofChange fnReadCommandInlineWordsSpec)) fnReadCommandInlineWordsCard

/-- THE TIED CARD OF 'zzlaws_internal_resp_b1.FnReadArrayTwoInARow'. -/
def fnReadArrayTwoInARowCard : Claim7 := { stood := { row := fnReadArrayTwoInARowRow, standIns := [], harness := (true, "d0ef90dc1d3d7785b820637c6fcdc2144910aa4fbaba3b1bb45cab5739514cc5"), looks := true }, kinds := [], alts := [], laidByText := true, laidKinds := [.data, .data, .data, .sentinel, .sentinel, .sentinel, .sentinel, .sentinel, .sentinel, .sentinel, .sentinel], laidTests := true, laidLooks := .later }
def FnReadArrayTwoInARowCardSaid : Prop := Claim7.holds Tryd.pinned (.plain (OpenSpec.ofChange fnReadArrayTwoInARowSpec)) fnReadArrayTwoInARowCard

/-- THE TIED CARD OF 'zzlaws_internal_resp_b1.FnReadArrayRefusesNonBulkElement'. -/
def fnReadArrayRefusesNonBulkElementCard : Claim7 := { stood := { row := fnReadArrayRefusesNonBulkElementRow, standIns := [], harness := (true, "d0ef90dc1d3d7785b820637c6fcdc2144910aa4fbaba3b1bb45cab5739514cc5"), looks := true }, kinds := [], alts := [], laidByText := true, laidKinds := [.data, .data, .data, .sentinel, .sentinel, .sentinel, .sentinel, .sentinel, .sentinel, .sentinel, .sentinel], laidTests := true, laidLooks := .later }
def FnReadArrayRefusesNonBulkElementCardSaid : Prop := Claim7.holds Tryd.pinned (.plain (OpenSpec.ofChange fnReadArrayRefusesNonBulkElementSpec)) fnReadArrayRefusesNonBulkElementCard

/-- THE TIED CARD OF 'zzlaws_internal_resp_b1.FnTruncatedArrayIsUnexpectedEOF'. -/
def fnTruncatedArrayIsUnexpectedEOFCard : Claim7 := { stood := { row := fnTruncatedArrayIsUnexpectedEOFRow, standIns := [], harness := (true, "d0ef90dc1d3d7785b820637c6fcdc2144910aa4fbaba3b1bb45cab5739514cc5"), looks := true }, kinds := [], alts := [], laidByText := true, laidKinds := [.data, .data, .data, .sentinel, .sentinel, .sentinel, .sentinel, .sentinel, .sentinel, .sentinel, .sentinel], laidTests := true, laidLooks := .later }
def FnTruncatedArrayIsUnexpectedEOFCardSaid : Prop := Claim7.holds Tryd.pinned (.plain (OpenSpec.ofChange fnTruncatedArrayIsUnexpectedEOFSpec)) fnTruncatedArrayIsUnexpectedEOFCard

/-- THE TIED CARD OF 'zzlaws_internal_resp_b1.FnEOFBetweenVersusInsideRequests'. -/
def fnEOFBetweenVersusInsideRequestsCard : Claim7 := { stood := { row := fnEOFBetweenVersusInsideRequestsRow, standIns := [], harness := (true, "d0ef90dc1d3d7785b820637c6fcdc2144910aa4fbaba3b1bb45cab5739514cc5"), looks := true }, kinds := [], alts := [], laidByText := true, laidKinds := [.data, .data, .data, .sentinel, .sentinel, .sentinel, .sentinel, .sentinel, .sentinel, .sentinel, .sentinel, .sentinel, .sentinel], laidTests := true, laidLooks := .later }
def FnEOFBetweenVersusInsideRequestsCardSaid : Prop := Claim7.holds Tryd.pinned (.plain (OpenSpec.ofChange fnEOFBetweenVersusInsideRequestsSpec)) fnEOFBetweenVersusInsideRequestsCard
end Rows
end Go.Proofs.Qxb6616140aDoor
