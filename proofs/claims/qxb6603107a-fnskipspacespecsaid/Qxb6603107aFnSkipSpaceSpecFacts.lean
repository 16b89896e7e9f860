import Derived.Test.Qxb6603107aRows
import Derived.ProofKit
namespace Go.Proofs.Qxb6603107a.fnSkipSpaceSpec
def headChars : List Char := ([104, 97, 114, 110, 101, 115, 115, 32, 52, 99, 101, 102, 98, 57, 48, 102, 49, 54, 56, 55, 51, 56, 101, 49, 99, 99, 56, 101, 57, 100, 98, 99, 55, 56, 99, 54, 99, 97, 97, 55, 48, 54, 99, 97, 49, 49, 52, 101, 48, 50, 56, 50, 52, 100, 51, 57, 99, 49, 53, 56, 49, 50, 57, 53, 57, 56, 102, 102, 50, 51, 55, 57, 32, 99, 117, 116, 32, 97, 116, 32, 101, 120, 97, 109, 112, 108, 101, 46, 99, 111, 109, 47, 102, 111, 114, 101, 114, 117, 110, 47, 102, 111, 114, 101, 114, 117, 110, 47, 122, 122, 108, 97, 119, 115, 95, 106, 115, 111, 110, 99, 111, 100, 101, 99, 95, 98, 49, 46, 70, 110, 72, 101, 120, 52, 82, 111, 117, 110, 100, 84, 114, 105, 112, 32, 101, 120, 97, 109, 112, 108, 101, 46, 99, 111, 109, 47, 102, 111, 114, 101, 114, 117, 110, 47, 102, 111, 114, 101, 114, 117, 110, 47, 122, 122, 108, 97, 119, 115, 95, 106, 115, 111, 110, 99, 111, 100, 101, 99, 95, 98, 49, 46, 70, 110, 75, 105, 110, 100, 78, 101, 118, 101, 114, 79, 110, 83, 112, 97, 99, 101, 32, 101, 120, 97, 109, 112, 108, 101, 46, 99, 111, 109, 47, 102, 111, 114, 101, 114, 117, 110, 47, 102, 111, 114, 101, 114, 117, 110, 47, 122, 122, 108, 97, 119, 115, 95, 106, 115, 111, 110, 99, 111, 100, 101, 99, 95, 98, 49, 46, 70, 110, 83, 107, 105, 112, 83, 112, 97, 99, 101, 83, 112, 101, 99, 32, 101, 120, 97, 109, 112, 108, 101, 46, 99, 111, 109, 47, 102, 111, 114, 101, 114, 117, 110, 47, 102, 111, 114, 101, 114, 117, 110, 47, 122, 122, 108, 97, 119, 115, 95, 106, 115, 111, 110, 99, 111, 100, 101, 99, 95, 98, 49, 46, 70, 110, 83, 107, 105, 112, 83, 112, 97, 99, 101, 83, 97, 109, 101, 76, 97, 110, 100, 105, 110, 103] : List Nat).map Char.ofNat
def headWords : List (List Char) := ([[99, 117, 116], [97, 116], [101, 120, 97, 109, 112, 108, 101, 46, 99, 111, 109, 47, 102, 111, 114, 101, 114, 117, 110, 47, 102, 111, 114, 101, 114, 117, 110, 47, 122, 122, 108, 97, 119, 115, 95, 106, 115, 111, 110, 99, 111, 100, 101, 99, 95, 98, 49, 46, 70, 110, 72, 101, 120, 52, 82, 111, 117, 110, 100, 84, 114, 105, 112], [101, 120, 97, 109, 112, 108, 101, 46, 99, 111, 109, 47, 102, 111, 114, 101, 114, 117, 110, 47, 102, 111, 114, 101, 114, 117, 110, 47, 122, 122, 108, 97, 119, 115, 95, 106, 115, 111, 110, 99, 111, 100, 101, 99, 95, 98, 49, 46, 70, 110, 75, 105, 110, 100, 78, 101, 118, 101, 114, 79, 110, 83, 112, 97, 99, 101], [101, 120, 97, 109, 112, 108, 101, 46, 99, 111, 109, 47, 102, 111, 114, 101, 114, 117, 110, 47, 102, 111, 114, 101, 114, 117, 110, 47, 122, 122, 108, 97, 119, 115, 95, 106, 115, 111, 110, 99, 111, 100, 101, 99, 95, 98, 49, 46, 70, 110, 83, 107, 105, 112, 83, 112, 97, 99, 101, 83, 112, 101, 99], [101, 120, 97, 109, 112, 108, 101, 46, 99, 111, 109, 47, 102, 111, 114, 101, 114, 117, 110, 47, 102, 111, 114, 101, 114, 117, 110, 47, 122, 122, 108, 97, 119, 115, 95, 106, 115, 111, 110, 99, 111, 100, 101, 99, 95, 98, 49, 46, 70, 110, 83, 107, 105, 112, 83, 112, 97, 99, 101, 83, 97, 109, 101, 76, 97, 110, 100, 105, 110, 103]] : List (List Nat)).map fun w => w.map Char.ofNat
theorem head_is : Try.pinned.checked.prog.initOrder = String.ofList headChars := by kernel_rfl
theorem head_words : behindMainWord (wordsSigns Try.pinned.checked.prog.initOrder.toList) = headWords := by
  rw [head_is, String.toList_ofList]
  kernel_rfl
theorem head_words' : behindMainWord (wordsSigns Try.pinned.checked.prog.initOrder.toList) = headWords.head?.getD [] :: headWords.tail := head_words.trans (by kernel_rfl)
theorem make_of (Q : Program) (c : List Char) (rest : List (List Char)) (h : behindMainWord (wordsSigns Q.initOrder.toList) = c :: rest) (hc : (c == "cut".toList) = true) (h1 : (c == "gc".toList || c == "spec".toList) = false) : Q.make = some .cut := by
  unfold Program.make
  rw [h]
  show (if (c == "gc".toList || c == "spec".toList) = true then _ else if (c == "cut".toList || _) = true then _ else _) = _
  rw [if_neg (by rw [h1]; exact Bool.false_ne_true), if_pos (by rw [hc]; rfl)]
theorem enter_of (Q : Program) (c : List Char) (rest : List (List Char)) (h : behindMainWord (wordsSigns Q.initOrder.toList) = c :: rest) (hs : stripLifts liftWords (c :: rest) = ([], c :: rest)) (hc : (c == "cut".toList) = true)
    (hl : Q.laysLater = false) (hr : Q.bearsReflect = false) (hd : Q.doorRows = []) : Q.mayEnter = true := by
  have hf : Q.doorFits [] = true := by unfold Program.doorFits; rw [hd]; rfl
  have hh : ((c :: rest).head? == some "cut".toList) = true := by
    show (some c == some "cut".toList) = true
    rw [eq_of_beq hc]
    exact beq_self_eq_true _
  unfold Program.mayEnter
  rw [h]
  show (_ || _ || ((stripLifts liftWords (c :: rest)).2.head? == some "cut".toList && _ && _ && _ && _)) = true
  rw [hs, hl, hr, hf, hh]
  simp
theorem k0 : (Rows.fnSkipSpaceSpecRow.wf (OpenSpec.ofChange Rows.fnSkipSpaceSpecSpec)) = true := by kernel_rfl
theorem k1 : (laidOutB Try.pinned.checked.prog) = true := by kernel_rfl
theorem k2 : (mapsRowed Try.pinned.checked.prog) = true := by kernel_rfl
theorem k3 : (Try.f5.params.all (Try.pinned.checked.prog.readableRec ·)) = true := by kernel_rfl
theorem k4 : (namedTie Try.pinned.checked.prog Rows.fnSkipSpaceSpecRow.named Rows.fnSkipSpaceSpecSpec.vars) = true := by kernel_rfl
theorem k5 : ((Rows.fnSkipSpaceSpecRow.stops == [])) = true := by kernel_rfl
theorem k6 : ((Try.pinned.checked.prog.stops == [])) = true := by kernel_rfl
theorem k7 : ((Rows.fnSkipSpaceSpecRow.knobs == [])) = true := by kernel_rfl
theorem k8 : ((Try.pinned.checked.prog.stopKnobs == [])) = true := by kernel_rfl
theorem k9 : ((Rows.fnSkipSpaceSpecRow.inPlace == Try.pinned.checked.prog.inPlace 5)) = true := by kernel_rfl
theorem k10 : ((Rows.fnSkipSpaceSpecRow.unfollowed == Try.pinned.checked.prog.unfollowed 5)) = true := by kernel_rfl
theorem k11 : ((Rows.fnSkipSpaceSpecRow.recurses == Try.pinned.checked.prog.recurses 5)) = true := by kernel_rfl
theorem k12 : ((Rows.fnSkipSpaceSpecRow.named == Try.pinned.checked.prog.varsNamed 5)) = true := by kernel_rfl
theorem k13 : ((Rows.fnSkipSpaceSpecRow.maps == (Try.f5.params.toList ++ Rows.fnSkipSpaceSpecSpec.plain.varTypes Try.pinned.checked.prog).any (Try.pinned.checked.prog.mapsRec ·))) = true := by kernel_rfl
theorem k14 : ((Rows.fnSkipSpaceSpecRow.ifaces == (Try.f5.params.toList ++ Rows.fnSkipSpaceSpecSpec.plain.varTypes Try.pinned.checked.prog).any (Try.pinned.checked.prog.ifacesRec ·))) = true := by kernel_rfl
theorem k15 : ((Rows.fnSkipSpaceSpecRow.mapsOut == Try.pinned.checked.prog.mapsAmong Try.f5.resultTypes.toList)) = true := by kernel_rfl
theorem k16 : ((Rows.fnSkipSpaceSpecRow.loops == (Try.f5.params.toList ++ Rows.fnSkipSpaceSpecSpec.plain.varTypes Try.pinned.checked.prog).any (Try.pinned.checked.prog.loopsFrom ·))) = true := by kernel_rfl
theorem k17 : ((Rows.fnSkipSpaceSpecRow.wideKeys == (Try.f5.params.toList ++ Rows.fnSkipSpaceSpecSpec.plain.varTypes Try.pinned.checked.prog ++ Try.f5.resultTypes.toList).any (Try.pinned.checked.prog.wideKeysFrom ·))) = true := by kernel_rfl
theorem k18 : (Rows.fnSkipSpaceSpecSpec.vars.all (Try.pinned.checked.prog.varReadable ·)) = true := by kernel_rfl
theorem k19 : (Try.f5.resultTypes.all (fun t => Try.pinned.checked.prog.readableRec t && decide (t < Try.pinned.checked.prog.types.size))) = true := by kernel_rfl
theorem k20 : ((Rows.fnSkipSpaceSpecRow.ifacesOut == Try.f5.resultTypes.toList.any (Try.pinned.checked.prog.ifacesRec ·))) = true := by kernel_rfl
theorem k21 : ((Rows.fnSkipSpaceSpecRow.loopsOut == Try.f5.resultTypes.toList.any (Try.pinned.checked.prog.loopsFrom ·))) = true := by kernel_rfl
theorem k22 : ((Rows.fnSkipSpaceSpecRow.plainKeys == Try.pinned.checked.prog.plainKeys)) = true := by kernel_rfl
theorem k23 : (Rows.fnSkipSpaceSpecRow.shortTexts.isNone) = true := by kernel_rfl
theorem k24 : (Try.pinned.checked.prog.stopsHeard) = true := by kernel_rfl
theorem k25 : (Try.pinned.checked.prog.mayEnter) = true := enter_of _ _ _ head_words' (by kernel_rfl) (by kernel_rfl) (by kernel_rfl) (by kernel_rfl) (by kernel_rfl)
theorem k26 : ((Rows.fnSkipSpaceSpecRow.lifted == Try.pinned.checked.prog.liftsFinal)) = true := by unfold Program.liftsFinal Program.headLifts; rw [head_words]; kernel_rfl
theorem k27 : ((Try.pinned.checked.prog.make == some Rows.fnSkipSpaceSpecRow.make)) = true := by rw [make_of _ _ _ head_words' (by kernel_rfl) (by kernel_rfl)]; kernel_rfl
theorem k28 : ((Rows.fnSkipSpaceSpecRow.kinds == (if Rows.fnSkipSpaceSpecRow.domain.isEmpty then [] else Try.f5.params.toList.map fun t => match Try.pinned.checked.prog.underlying t with | some (.int k) => some k | _ => none))) = true := by kernel_rfl
theorem k29 : ((Rows.fnSkipSpaceSpecRow.pinned == Rows.fnSkipSpaceSpecRow.pinnedBy)) = true := by kernel_rfl
theorem k30 : ((Rows.fnSkipSpaceSpecRow.veiled == (Try.f5.params.toList ++ Rows.fnSkipSpaceSpecSpec.plain.varTypes Try.pinned.checked.prog ++ Try.f5.resultTypes.toList).any (Try.pinned.checked.prog.veiledRec ·))) = true := by kernel_rfl
theorem k31 : (Rows.fnSkipSpaceSpecRow.veiledFits Try.pinned.checked.prog Try.f5.params.toList (Try.f5.params.toList ++ Rows.fnSkipSpaceSpecSpec.plain.varTypes Try.pinned.checked.prog ++ Try.f5.resultTypes.toList)) = true := by kernel_rfl
theorem c_closed : joinedFacts Try.pinned.checked.prog 5 Try.f5 Rows.fnSkipSpaceSpecSpec Rows.fnSkipSpaceSpecRow = true := by
  unfold joinedFacts
  simp only [Bool.and_eq_true]
  exact ⟨⟨⟨⟨⟨⟨⟨⟨⟨⟨⟨⟨⟨⟨⟨⟨⟨⟨⟨⟨⟨⟨⟨⟨⟨⟨⟨⟨⟨⟨⟨k0, k1⟩, k2⟩, k3⟩, k4⟩, k5⟩, k6⟩, k7⟩, k8⟩, k9⟩, k10⟩, k11⟩, k12⟩, k13⟩, k14⟩, k15⟩, k16⟩, k17⟩, k18⟩, k19⟩, k20⟩, k21⟩, k22⟩, k23⟩, k24⟩, k25⟩, k26⟩, k27⟩, k28⟩, k29⟩, k30⟩, k31⟩
theorem c_named : Try.pinned.checked.prog.funcNamed Rows.fnSkipSpaceSpecRow.func = some 5 := by kernel_rfl
theorem c_inst : Try.f5.isInstance Try.pinned.checked.prog Rows.fnSkipSpaceSpecRow.origin Rows.fnSkipSpaceSpecRow.targs := of_decide_eq_true (by kernel_rfl)
theorem c_wrap : Try.f5.isWrapper Try.pinned.checked.prog Rows.fnSkipSpaceSpecRow.wrapper Rows.fnSkipSpaceSpecRow.mainSum := by
  unfold Func.isWrapper; first | (rw [if_pos (by decide +kernel)]; kernel_rfl) | (rw [if_neg (by decide +kernel)]; exact ⟨rfl, rfl⟩)
end Go.Proofs.Qxb6603107a.fnSkipSpaceSpec
