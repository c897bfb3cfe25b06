/-
  The row's closed facts, one by one (asked in one breath they outgrow the memory).
-/
import Derived.Test.Qxb6615079aOpen
import Derived.JoinedOf
namespace Go.Proofs.Qxb6615079a.reading
open Go.ChangeShapes Go.WideShapes Go.ChangeAt Go.RowKit

theorem both {a b : Bool} (h : a = true) (k : b = true) : (a && b) = true := by rw [h, k]; rfl

/-- the translation's head, sign by sign -/
def signs : List Char := ['h', 'a', 'r', 'n', 'e', 's', 's', ' ', '3', '6', '6', 'c', '9', 'e', '0', 'b', 'a', '0', 'f', '7', '5', 'b', '2', 'e', '1', 'b', '8', 'c', '8', '5', 'd', 'c', 'a', 'b', '5', '6', '1', '3', '1', '3', 'f', '8', 'b', 'e', '4', '9', '3', 'd', '7', '9', '2', '5', '7', '8', 'a', 'a', '4', 'c', 'a', 'c', '2', '8', 'f', 'd', '1', 'b', '7', 'e', '7', '1', 'f', 'c', ' ', 'c', 'u', 't', ' ', 'a', 't', ' ', 'e', 'x', 'a', 'm', 'p', 'l', 'e', '.', 'c', 'o', 'm', '/', 'a', 'n', 't', 'e', 'c', 'e', 'd', 'e', 'n', 't', '/', 'a', 'n', 't', 'e', 'c', 'e', 'd', 'e', 'n', 't', '/', 'z', 'z', 'l', 'a', 'w', 's', '_', 'm', 'e', 'm', 'm', 'o', 'd', 'e', 'l', '_', 'b', '1', '.', 'F', 'n', 'C', 'l', 'o', 's', 'e', 'T', 'h', 'e', 'n', 'D', 'o', 'n', 'e', 'B', 'y', 'S', 'a', 'm', 'e', 'G', 'o', 'r', 'o', 'u', 't', 'i', 'n', 'e', ' ', 'e', 'x', 'a', 'm', 'p', 'l', 'e', '.', 'c', 'o', 'm', '/', 'a', 'n', 't', 'e', 'c', 'e', 'd', 'e', 'n', 't', '/', 'a', 'n', 't', 'e', 'c', 'e', 'd', 'e', 'n', 't', '/', 'z', 'z', 'l', 'a', 'w', 's', '_', 'm', 'e', 'm', 'm', 'o', 'd', 'e', 'l', '_', 'b', '1', '.', 'F', 'n', 'C', 'l', 'o', 's', 'e', 'B', 'y', 'T', 'w', 'o', 'G', 'o', 'r', 'o', 'u', 't', 'i', 'n', 'e', 's', ' ', 'e', 'x', 'a', 'm', 'p', 'l', 'e', '.', 'c', 'o', 'm', '/', 'a', 'n', 't', 'e', 'c', 'e', 'd', 'e', 'n', 't', '/', 'a', 'n', 't', 'e', 'c', 'e', 'd', 'e', 'n', 't', '/', 'z', 'z', 'l', 'a', 'w', 's', '_', 'm', 'e', 'm', 'm', 'o', 'd', 'e', 'l', '_', 'b', '1', '.', 'F', 'n', 'D', 'e', 't', 'a', 'c', 'h', 'e', 'd', 'T', 'h', 'e', 'n', 'D', 'o', 'n', 'e', 'P', 'a', 's', 's', 'e', 's', 'N', 'o', 't', 'h', 'i', 'n', 'g', ' ', 'e', 'x', 'a', 'm', 'p', 'l', 'e', '.', 'c', 'o', 'm', '/', 'a', 'n', 't', 'e', 'c', 'e', 'd', 'e', 'n', 't', '/', 'a', 'n', 't', 'e', 'c', 'e', 'd', 'e', 'n', 't', '/', 'z', 'z', 'l', 'a', 'w', 's', '_', 'm', 'e', 'm', 'm', 'o', 'd', 'e', 'l', '_', 'b', '1', '.', 'F', 'n', 'G', 'o', 'T', 'h', 'e', 'n', 'D', 'e', 't', 'a', 'c', 'h', 'e', 'd', 'I', 's', 'D', 'e', 't', 'a', 'c', 'h', 'e', 'd', 'T', 'h', 'e', 'n', 'T', 'i', 'c', 'k', ' ', 'e', 'x', 'a', 'm', 'p', 'l', 'e', '.', 'c', 'o', 'm', '/', 'a', 'n', 't', 'e', 'c', 'e', 'd', 'e', 'n', 't', '/', 'a', 'n', 't', 'e', 'c', 'e', 'd', 'e', 'n', 't', '/', 'z', 'z', 'l', 'a', 'w', 's', '_', 'm', 'e', 'm', 'm', 'o', 'd', 'e', 'l', '_', 'b', '1', '.', 'F', 'n', 'D', 'o', 'n', 'e', 'T', 'w', 'i', 'c', 'e', 'B', 'y', 'S', 'a', 'm', 'e', 'G', 'o', 'r', 'o', 'u', 't', 'i', 'n', 'e', ' ', 'e', 'x', 'a', 'm', 'p', 'l', 'e', '.', 'c', 'o', 'm', '/', 'a', 'n', 't', 'e', 'c', 'e', 'd', 'e', 'n', 't', '/', 'a', 'n', 't', 'e', 'c', 'e', 'd', 'e', 'n', 't', '/', 'z', 'z', 'l', 'a', 'w', 's', '_', 'm', 'e', 'm', 'm', 'o', 'd', 'e', 'l', '_', 'b', '1', '.', 'F', 'n', 'A', 'd', 'd', 's', 'O', 'f', 'T', 'w', 'o', 'G', 'o', 'r', 'o', 'u', 't', 'i', 'n', 'e', 's', 'C', 'o', 'm', 'm', 'u', 't', 'e', ' ', 'e', 'x', 'a', 'm', 'p', 'l', 'e', '.', 'c', 'o', 'm', '/', 'a', 'n', 't', 'e', 'c', 'e', 'd', 'e', 'n', 't', '/', 'a', 'n', 't', 'e', 'c', 'e', 'd', 'e', 'n', 't', '/', 'z', 'z', 'l', 'a', 'w', 's', '_', 'm', 'e', 'm', 'm', 'o', 'd', 'e', 'l', '_', 'b', '1', '.', 'F', 'n', 'T', 'w', 'o', 'R', 'e', 'a', 'd', 's', 'R', 'e', 't', 'u', 'r', 'n', 'T', 'h', 'e', 'i', 'r', 'W', 'r', 'i', 't', 'e', 's', ' ', 'e', 'x', 'a', 'm', 'p', 'l', 'e', '.', 'c', 'o', 'm', '/', 'a', 'n', 't', 'e', 'c', 'e', 'd', 'e', 'n', 't', '/', 'a', 'n', 't', 'e', 'c', 'e', 'd', 'e', 'n', 't', '/', 'z', 'z', 'l', 'a', 'w', 's', '_', 'm', 'e', 'm', 'm', 'o', 'd', 'e', 'l', '_', 'b', '1', '.', 'F', 'n', 'R', 'e', 'a', 'd', 'A', 'g', 'r', 'e', 'e', 's', 'W', 'i', 't', 'h', 'W', 'r', 'i', 't', 't', 'e', 'n', 'A', 'n', 'd', 'K', 'e', 'e', 'p', 's', 'S', 't', 'o', 'r', 'e']
set_option maxRecDepth 100000 in
theorem order_signs : Try.prog.initOrder = String.ofList signs := by kernel_rfl
theorem order_list : Try.prog.initOrder.toList = signs := by
  rw [order_signs]
  exact String.toList_ofList
theorem words_cut : behindMainWord (wordsSigns signs) = ['c', 'u', 't'] :: (behindMainWord (wordsSigns signs)).tail := by kernel_rfl

theorem make_of {P : Program} {l : List Char} {rest : List (List Char)} (h : P.initOrder.toList = l) (hb : behindMainWord (wordsSigns l) = ['c', 'u', 't'] :: rest) : P.make = some .cut := by
  unfold Program.make
  rw [h, hb]
  rfl

theorem f_makeF : (Try.prog.make == some Rows.fnReadAgreesWithWrittenAndKeepsStoreRow.make) = true := by
  rw [make_of order_list words_cut]
  rfl

theorem enter_of {P : Program} {l : List Char} {rest : List (List Char)} (h : P.initOrder.toList = l) (hb : behindMainWord (wordsSigns l) = ['c', 'u', 't'] :: rest) (hs : stripLifts liftWords (['c', 'u', 't'] :: rest) = ([], ['c', 'u', 't'] :: rest))
    (h1 : P.laysLater = false) (h2 : P.bearsReflect = false) (h3 : P.doorFits [] = true) : P.mayEnter = true := by
  unfold Program.mayEnter
  rw [h, hb]
  simp only [hs, h1, h2, h3]
  rfl

theorem strip_cut : stripLifts liftWords (['c', 'u', 't'] :: (behindMainWord (wordsSigns signs)).tail) = ([], ['c', 'u', 't'] :: (behindMainWord (wordsSigns signs)).tail) := by kernel_rfl
theorem later0 : Try.prog.laysLater = false := by kernel_rfl
theorem refl0 : Try.prog.bearsReflect = false := by kernel_rfl
theorem door0 : Try.prog.doorFits [] = true := by kernel_rfl
theorem f_enter : Try.prog.mayEnter = true := enter_of order_list words_cut strip_cut later0 refl0 door0
theorem f_liftedF : (Rows.fnReadAgreesWithWrittenAndKeepsStoreRow.lifted == Try.prog.liftsFinal) = true := by
  unfold Program.liftsFinal Program.headLifts
  rw [order_list]
  kernel_rfl
theorem f_wf : Rows.fnReadAgreesWithWrittenAndKeepsStoreRow.wf (OpenSpec.ofChange Rows.fnReadAgreesWithWrittenAndKeepsStoreSpec) = true := by kernel_rfl
theorem f_laidOutF : laidOutB Try.prog = true := laidOut
theorem f_mapsRowedF : mapsRowed Try.prog = true := by kernel_rfl
theorem f_readable : Try.f10.params.all (Try.prog.readableRec ·) = true := by kernel_rfl
theorem f_namedTieF : namedTie Try.prog Rows.fnReadAgreesWithWrittenAndKeepsStoreRow.named Rows.fnReadAgreesWithWrittenAndKeepsStoreSpec.vars = true := by kernel_rfl
theorem f_stops0 : (Rows.fnReadAgreesWithWrittenAndKeepsStoreRow.stops == []) = true := by kernel_rfl
theorem f_stops1 : (Try.prog.stops == []) = true := by kernel_rfl
theorem f_knobs0 : (Rows.fnReadAgreesWithWrittenAndKeepsStoreRow.knobs == []) = true := by kernel_rfl
theorem f_knobs1 : (Try.prog.stopKnobs == []) = true := by kernel_rfl
theorem f_inPlace : (Rows.fnReadAgreesWithWrittenAndKeepsStoreRow.inPlace == Try.prog.inPlace 10) = true := by kernel_rfl
theorem f_unf : (Rows.fnReadAgreesWithWrittenAndKeepsStoreRow.unfollowed == Try.prog.unfollowed 10) = true := by kernel_rfl
theorem f_recs : (Rows.fnReadAgreesWithWrittenAndKeepsStoreRow.recurses == Try.prog.recurses 10) = true := by kernel_rfl
theorem f_named : (Rows.fnReadAgreesWithWrittenAndKeepsStoreRow.named == Try.prog.varsNamed 10) = true := by kernel_rfl
theorem f_maps : (Rows.fnReadAgreesWithWrittenAndKeepsStoreRow.maps == (Try.f10.params.toList ++ Rows.fnReadAgreesWithWrittenAndKeepsStoreSpec.plain.varTypes Try.prog).any (Try.prog.mapsRec ·)) = true := by kernel_rfl
theorem f_ifaces : (Rows.fnReadAgreesWithWrittenAndKeepsStoreRow.ifaces == (Try.f10.params.toList ++ Rows.fnReadAgreesWithWrittenAndKeepsStoreSpec.plain.varTypes Try.prog).any (Try.prog.ifacesRec ·)) = true := by kernel_rfl
theorem f_mapsOut : (Rows.fnReadAgreesWithWrittenAndKeepsStoreRow.mapsOut == Try.prog.mapsAmong Try.f10.resultTypes.toList) = true := by kernel_rfl
theorem f_loops : (Rows.fnReadAgreesWithWrittenAndKeepsStoreRow.loops == (Try.f10.params.toList ++ Rows.fnReadAgreesWithWrittenAndKeepsStoreSpec.plain.varTypes Try.prog).any (Try.prog.loopsFrom ·)) = true := by kernel_rfl
theorem f_wideKeys : (Rows.fnReadAgreesWithWrittenAndKeepsStoreRow.wideKeys == (Try.f10.params.toList ++ Rows.fnReadAgreesWithWrittenAndKeepsStoreSpec.plain.varTypes Try.prog ++ Try.f10.resultTypes.toList).any (Try.prog.wideKeysFrom ·)) = true := by kernel_rfl
theorem f_vars : Rows.fnReadAgreesWithWrittenAndKeepsStoreSpec.vars.all (Try.prog.varReadable ·) = true := by kernel_rfl
theorem f_res : Try.f10.resultTypes.all (fun t => Try.prog.readableRec t && decide (t < Try.prog.types.size)) = true := by kernel_rfl
theorem f_ifacesOut : (Rows.fnReadAgreesWithWrittenAndKeepsStoreRow.ifacesOut == Try.f10.resultTypes.toList.any (Try.prog.ifacesRec ·)) = true := by kernel_rfl
theorem f_loopsOut : (Rows.fnReadAgreesWithWrittenAndKeepsStoreRow.loopsOut == Try.f10.resultTypes.toList.any (Try.prog.loopsFrom ·)) = true := by kernel_rfl
theorem f_plain : (Rows.fnReadAgreesWithWrittenAndKeepsStoreRow.plainKeys == Try.prog.plainKeys) = true := by kernel_rfl
theorem f_short : Rows.fnReadAgreesWithWrittenAndKeepsStoreRow.shortTexts.isNone = true := by kernel_rfl
theorem f_heard : Try.prog.stopsHeard = true := by kernel_rfl
set_option maxRecDepth 100000 in
theorem f_kinds : (Rows.fnReadAgreesWithWrittenAndKeepsStoreRow.kinds == (if Rows.fnReadAgreesWithWrittenAndKeepsStoreRow.domain.isEmpty then [] else Try.f10.params.toList.map fun t => match Try.prog.underlying t with | some (.int k) => some k | _ => none)) = true := by kernel_rfl
theorem f_pinnedF : (Rows.fnReadAgreesWithWrittenAndKeepsStoreRow.pinned == Rows.fnReadAgreesWithWrittenAndKeepsStoreRow.pinnedBy) = true := by kernel_rfl
theorem f_veiled : (Rows.fnReadAgreesWithWrittenAndKeepsStoreRow.veiled == (Try.f10.params.toList ++ Rows.fnReadAgreesWithWrittenAndKeepsStoreSpec.plain.varTypes Try.prog ++ Try.f10.resultTypes.toList).any (Try.prog.veiledRec ·)) = true := by kernel_rfl
theorem f_veiledFits : Rows.fnReadAgreesWithWrittenAndKeepsStoreRow.veiledFits Try.prog Try.f10.params.toList (Try.f10.params.toList ++ Rows.fnReadAgreesWithWrittenAndKeepsStoreSpec.plain.varTypes Try.prog ++ Try.f10.resultTypes.toList) = true := by kernel_rfl

set_option maxRecDepth 100000 in
theorem closed : joinedFacts Try.prog 10 Try.f10 Rows.fnReadAgreesWithWrittenAndKeepsStoreSpec Rows.fnReadAgreesWithWrittenAndKeepsStoreRow = true := by
  unfold joinedFacts
  exact (both (both (both (both (both (both (both (both (both (both (both (both (both (both (both (both (both (both (both (both (both (both (both (both (both (both (both (both (both (both (both f_wf f_laidOutF) f_mapsRowedF) f_readable) f_namedTieF) f_stops0) f_stops1) f_knobs0) f_knobs1) f_inPlace) f_unf) f_recs) f_named) f_maps) f_ifaces) f_mapsOut) f_loops) f_wideKeys) f_vars) f_res) f_ifacesOut) f_loopsOut) f_plain) f_short) f_heard) f_enter) f_liftedF) f_makeF) f_kinds) f_pinnedF) f_veiled) f_veiledFits)
end Go.Proofs.Qxb6615079a.reading
