import Derived.Test.Qxb6603181aRows
import Derived.ProofKit
namespace Go.Proofs.Qxb6603181a.fnSplitVotes
def headChars : List Char := ([104, 97, 114, 110, 101, 115, 115, 32, 55, 50, 50, 56, 101, 49, 50, 102, 48, 52, 53, 48, 50, 53, 53, 102, 102, 55, 100, 100, 50, 48, 50, 48, 51, 99, 55, 51, 55, 101, 56, 101, 99, 97, 49, 57, 102, 100, 53, 49, 57, 97, 100, 57, 56, 52, 102, 52, 101, 50, 49, 97, 49, 97, 50, 49, 57, 49, 101, 48, 50, 101, 100, 51, 32, 99, 117, 116, 32, 97, 116, 32, 101, 120, 97, 109, 112, 108, 101, 46, 99, 111, 109, 47, 97, 115, 115, 101, 110, 116, 47, 97, 115, 115, 101, 110, 116, 47, 122, 122, 108, 97, 119, 115, 95, 105, 110, 116, 101, 114, 110, 97, 108, 95, 114, 97, 102, 116, 95, 98, 49, 46, 70, 110, 83, 112, 108, 105, 116, 86, 111, 116, 101, 115, 83, 116, 97, 98, 108, 101, 80, 97, 114, 116, 105, 116, 105, 111, 110, 66, 121, 70, 108, 97, 103, 32, 101, 120, 97, 109, 112, 108, 101, 46, 99, 111, 109, 47, 97, 115, 115, 101, 110, 116, 47, 97, 115, 115, 101, 110, 116, 47, 122, 122, 108, 97, 119, 115, 95, 105, 110, 116, 101, 114, 110, 97, 108, 95, 114, 97, 102, 116, 95, 98, 49, 46, 70, 110, 83, 112, 108, 105, 116, 86, 111, 116, 101, 115, 70, 105, 120, 101, 100, 79, 110, 73, 116, 115, 80, 97, 114, 116, 115, 32, 101, 120, 97, 109, 112, 108, 101, 46, 99, 111, 109, 47, 97, 115, 115, 101, 110, 116, 47, 97, 115, 115, 101, 110, 116, 47, 122, 122, 108, 97, 119, 115, 95, 105, 110, 116, 101, 114, 110, 97, 108, 95, 114, 97, 102, 116, 95, 98, 49, 46, 70, 110, 83, 112, 108, 105, 116, 86, 111, 116, 101, 115, 68, 105, 115, 116, 114, 105, 98, 117, 116, 101, 115, 79, 118, 101, 114, 67, 111, 110, 99, 97, 116, 101, 110, 97, 116, 105, 111, 110] : List Nat).map Char.ofNat
def headWords : List (List Char) := ([[99, 117, 116], [97, 116], [101, 120, 97, 109, 112, 108, 101, 46, 99, 111, 109, 47, 97, 115, 115, 101, 110, 116, 47, 97, 115, 115, 101, 110, 116, 47, 122, 122, 108, 97, 119, 115, 95, 105, 110, 116, 101, 114, 110, 97, 108, 95, 114, 97, 102, 116, 95, 98, 49, 46, 70, 110, 83, 112, 108, 105, 116, 86, 111, 116, 101, 115, 83, 116, 97, 98, 108, 101, 80, 97, 114, 116, 105, 116, 105, 111, 110, 66, 121, 70, 108, 97, 103], [101, 120, 97, 109, 112, 108, 101, 46, 99, 111, 109, 47, 97, 115, 115, 101, 110, 116, 47, 97, 115, 115, 101, 110, 116, 47, 122, 122, 108, 97, 119, 115, 95, 105, 110, 116, 101, 114, 110, 97, 108, 95, 114, 97, 102, 116, 95, 98, 49, 46, 70, 110, 83, 112, 108, 105, 116, 86, 111, 116, 101, 115, 70, 105, 120, 101, 100, 79, 110, 73, 116, 115, 80, 97, 114, 116, 115], [101, 120, 97, 109, 112, 108, 101, 46, 99, 111, 109, 47, 97, 115, 115, 101, 110, 116, 47, 97, 115, 115, 101, 110, 116, 47, 122, 122, 108, 97, 119, 115, 95, 105, 110, 116, 101, 114, 110, 97, 108, 95, 114, 97, 102, 116, 95, 98, 49, 46, 70, 110, 83, 112, 108, 105, 116, 86, 111, 116, 101, 115, 68, 105, 115, 116, 114, 105, 98, 117, 116, 101, 115, 79, 118, 101, 114, 67, 111, 110, 99, 97, 116, 101, 110, 97, 116, 105, 111, 110]] : List (List Nat)).map fun w => w.map Char.ofNat
theorem head_is : Try.pinned.checked.prog.initOrder = String.ofList headChars := by kernel_rfl
theorem head_words : behindMainWord (wordsSigns Try.pinned.checked.prog.initOrder.toList) = headWords := by
  rw [head_is, String.toList_ofList]
  kernel_rfl
theorem head_words' : behindMainWord (wordsSigns Try.pinned.checked.prog.initOrder.toList) = headWords.head?.getD [] :: headWords.tail := head_words.trans (by kernel_rfl)
theorem make_of (Q : Program) (c : List Char) (rest : List (List Char)) (h : behindMainWord (wordsSigns Q.initOrder.toList) = c :: rest) (hc : (c == "cut".toList) = true) (h1 : (c == "gc".toList || c == "spec".toList) = false) : Q.make = some .cut := by
  unfold Program.make
  rw [h]
  show (if (c == "gc".toList || c == "spec".toList) = true then _ else if (c == "cut".toList || _) = true then _ else _) = _
  rw [if_neg (by rw [h1]; exact Bool.false_ne_true), if_pos (by rw [hc]; rfl)]
theorem enter_of (Q : Program) (c : List Char) (rest : List (List Char)) (h : behindMainWord (wordsSigns Q.initOrder.toList) = c :: rest) (hs : stripLifts liftWords (c :: rest) = ([], c :: rest)) (hc : (c == "cut".toList) = true)
    (hl : Q.laysLater = false) (hr : Q.bearsReflect = false) (hd : Q.doorRows = []) : Q.mayEnter = true := by
  have hf : Q.doorFits [] = true := by unfold Program.doorFits; rw [hd]; rfl
  have hh : ((c :: rest).head? == some "cut".toList) = true := by
    show (some c == some "cut".toList) = true
    rw [eq_of_beq hc]
    exact beq_self_eq_true _
  unfold Program.mayEnter
  rw [h]
  show (_ || _ || ((stripLifts liftWords (c :: rest)).2.head? == some "cut".toList && _ && _ && _ && _)) = true
  rw [hs, hl, hr, hf, hh]
  simp
theorem k0 : (Rows.fnSplitVotesStablePartitionByFlagRow.wf (OpenSpec.ofChange Rows.fnSplitVotesStablePartitionByFlagSpec)) = true := by kernel_rfl
theorem k1 : (laidOutB Try.pinned.checked.prog) = true := by kernel_rfl
theorem k2 : (mapsRowed Try.pinned.checked.prog) = true := by kernel_rfl
theorem k3 : (Try.f3.params.all (Try.pinned.checked.prog.readableRec ·)) = true := by kernel_rfl
theorem k4 : (namedTie Try.pinned.checked.prog Rows.fnSplitVotesStablePartitionByFlagRow.named Rows.fnSplitVotesStablePartitionByFlagSpec.vars) = true := by kernel_rfl
theorem k5 : ((Rows.fnSplitVotesStablePartitionByFlagRow.stops == [])) = true := by kernel_rfl
theorem k6 : ((Try.pinned.checked.prog.stops == [])) = true := by kernel_rfl
theorem k7 : ((Rows.fnSplitVotesStablePartitionByFlagRow.knobs == [])) = true := by kernel_rfl
theorem k8 : ((Try.pinned.checked.prog.stopKnobs == [])) = true := by kernel_rfl
theorem k9 : ((Rows.fnSplitVotesStablePartitionByFlagRow.inPlace == Try.pinned.checked.prog.inPlace 3)) = true := by kernel_rfl
theorem k10 : ((Rows.fnSplitVotesStablePartitionByFlagRow.unfollowed == Try.pinned.checked.prog.unfollowed 3)) = true := by kernel_rfl
theorem k11 : ((Rows.fnSplitVotesStablePartitionByFlagRow.recurses == Try.pinned.checked.prog.recurses 3)) = true := by kernel_rfl
theorem k12 : ((Rows.fnSplitVotesStablePartitionByFlagRow.named == Try.pinned.checked.prog.varsNamed 3)) = true := by kernel_rfl
theorem k13 : ((Rows.fnSplitVotesStablePartitionByFlagRow.maps == (Try.f3.params.toList ++ Rows.fnSplitVotesStablePartitionByFlagSpec.plain.varTypes Try.pinned.checked.prog).any (Try.pinned.checked.prog.mapsRec ·))) = true := by kernel_rfl
theorem k14 : ((Rows.fnSplitVotesStablePartitionByFlagRow.ifaces == (Try.f3.params.toList ++ Rows.fnSplitVotesStablePartitionByFlagSpec.plain.varTypes Try.pinned.checked.prog).any (Try.pinned.checked.prog.ifacesRec ·))) = true := by kernel_rfl
theorem k15 : ((Rows.fnSplitVotesStablePartitionByFlagRow.mapsOut == Try.pinned.checked.prog.mapsAmong Try.f3.resultTypes.toList)) = true := by kernel_rfl
theorem k16 : ((Rows.fnSplitVotesStablePartitionByFlagRow.loops == (Try.f3.params.toList ++ Rows.fnSplitVotesStablePartitionByFlagSpec.plain.varTypes Try.pinned.checked.prog).any (Try.pinned.checked.prog.loopsFrom ·))) = true := by kernel_rfl
theorem k17 : ((Rows.fnSplitVotesStablePartitionByFlagRow.wideKeys == (Try.f3.params.toList ++ Rows.fnSplitVotesStablePartitionByFlagSpec.plain.varTypes Try.pinned.checked.prog ++ Try.f3.resultTypes.toList).any (Try.pinned.checked.prog.wideKeysFrom ·))) = true := by kernel_rfl
theorem k18 : (Rows.fnSplitVotesStablePartitionByFlagSpec.vars.all (Try.pinned.checked.prog.varReadable ·)) = true := by kernel_rfl
theorem k19 : (Try.f3.resultTypes.all (fun t => Try.pinned.checked.prog.readableRec t && decide (t < Try.pinned.checked.prog.types.size))) = true := by kernel_rfl
theorem k20 : ((Rows.fnSplitVotesStablePartitionByFlagRow.ifacesOut == Try.f3.resultTypes.toList.any (Try.pinned.checked.prog.ifacesRec ·))) = true := by kernel_rfl
theorem k21 : ((Rows.fnSplitVotesStablePartitionByFlagRow.loopsOut == Try.f3.resultTypes.toList.any (Try.pinned.checked.prog.loopsFrom ·))) = true := by kernel_rfl
theorem k22 : ((Rows.fnSplitVotesStablePartitionByFlagRow.plainKeys == Try.pinned.checked.prog.plainKeys)) = true := by kernel_rfl
theorem k23 : (Rows.fnSplitVotesStablePartitionByFlagRow.shortTexts.isNone) = true := by kernel_rfl
theorem k24 : (Try.pinned.checked.prog.stopsHeard) = true := by kernel_rfl
theorem k25 : (Try.pinned.checked.prog.mayEnter) = true := enter_of _ _ _ head_words' (by kernel_rfl) (by kernel_rfl) (by kernel_rfl) (by kernel_rfl) (by kernel_rfl)
theorem k26 : ((Rows.fnSplitVotesStablePartitionByFlagRow.lifted == Try.pinned.checked.prog.liftsFinal)) = true := by unfold Program.liftsFinal Program.headLifts; rw [head_words]; kernel_rfl
theorem k27 : ((Try.pinned.checked.prog.make == some Rows.fnSplitVotesStablePartitionByFlagRow.make)) = true := by rw [make_of _ _ _ head_words' (by kernel_rfl) (by kernel_rfl)]; kernel_rfl
theorem k28 : ((Rows.fnSplitVotesStablePartitionByFlagRow.kinds == (if Rows.fnSplitVotesStablePartitionByFlagRow.domain.isEmpty then [] else Try.f3.params.toList.map fun t => match Try.pinned.checked.prog.underlying t with | some (.int k) => some k | _ => none))) = true := by kernel_rfl
theorem k29 : ((Rows.fnSplitVotesStablePartitionByFlagRow.pinned == Rows.fnSplitVotesStablePartitionByFlagRow.pinnedBy)) = true := by kernel_rfl
theorem k30 : ((Rows.fnSplitVotesStablePartitionByFlagRow.veiled == (Try.f3.params.toList ++ Rows.fnSplitVotesStablePartitionByFlagSpec.plain.varTypes Try.pinned.checked.prog ++ Try.f3.resultTypes.toList).any (Try.pinned.checked.prog.veiledRec ·))) = true := by kernel_rfl
theorem k31 : (Rows.fnSplitVotesStablePartitionByFlagRow.veiledFits Try.pinned.checked.prog Try.f3.params.toList (Try.f3.params.toList ++ Rows.fnSplitVotesStablePartitionByFlagSpec.plain.varTypes Try.pinned.checked.prog ++ Try.f3.resultTypes.toList)) = true := by kernel_rfl
theorem c_closed : joinedFacts Try.pinned.checked.prog 3 Try.f3 Rows.fnSplitVotesStablePartitionByFlagSpec Rows.fnSplitVotesStablePartitionByFlagRow = true := by
  unfold joinedFacts
  simp only [Bool.and_eq_true]
  exact ⟨⟨⟨⟨⟨⟨⟨⟨⟨⟨⟨⟨⟨⟨⟨⟨⟨⟨⟨⟨⟨⟨⟨⟨⟨⟨⟨⟨⟨⟨⟨k0, k1⟩, k2⟩, k3⟩, k4⟩, k5⟩, k6⟩, k7⟩, k8⟩, k9⟩, k10⟩, k11⟩, k12⟩, k13⟩, k14⟩, k15⟩, k16⟩, k17⟩, k18⟩, k19⟩, k20⟩, k21⟩, k22⟩, k23⟩, k24⟩, k25⟩, k26⟩, k27⟩, k28⟩, k29⟩, k30⟩, k31⟩
theorem c_named : Try.pinned.checked.prog.funcNamed Rows.fnSplitVotesStablePartitionByFlagRow.func = some 3 := by kernel_rfl
theorem c_inst : Try.f3.isInstance Try.pinned.checked.prog Rows.fnSplitVotesStablePartitionByFlagRow.origin Rows.fnSplitVotesStablePartitionByFlagRow.targs := of_decide_eq_true (by kernel_rfl)
theorem c_wrap : Try.f3.isWrapper Try.pinned.checked.prog Rows.fnSplitVotesStablePartitionByFlagRow.wrapper Rows.fnSplitVotesStablePartitionByFlagRow.mainSum := by
  unfold Func.isWrapper; first | (rw [if_pos (by decide +kernel)]; kernel_rfl) | (rw [if_neg (by decide +kernel)]; exact ⟨rfl, rfl⟩)
end Go.Proofs.Qxb6603181a.fnSplitVotes
