import Derived.Test.Qxb6603181aRows
import Derived.ProofKit
namespace Go.Proofs.Qxb6603181a.fnSplitVotes
-- the head's words, as lists of signs: no text of the head is taken apart by the kernel
def headChars : List Char := ([104, 97, 114, 110, 101, 115, 115, 32, 55, 50, 50, 56, 101, 49, 50, 102, 48, 52, 53, 48, 50, 53, 53, 102, 102, 55, 100, 100, 50, 48, 50, 48, 51, 99, 55, 51, 55, 101, 56, 101, 99, 97, 49, 57, 102, 100, 53, 49, 57, 97, 100, 57, 56, 52, 102, 52, 101, 50, 49, 97, 49, 97, 50, 49, 57, 49, 101, 48, 50, 101, 100, 51, 32, 99, 117, 116, 32, 97, 116, 32, 101, 120, 97, 109, 112, 108, 101, 46, 99, 111, 109, 47, 97, 115, 115, 101, 110, 116, 47, 97, 115, 115, 101, 110, 116, 47, 122, 122, 108, 97, 119, 115, 95, 105, 110, 116, 101, 114, 110, 97, 108, 95, 114, 97, 102, 116, 95, 98, 49, 46, 70, 110, 83, 112, 108, 105, 116, 86, 111, 116, 101, 115, 83, 116, 97, 98, 108, 101, 80, 97, 114, 116, 105, 116, 105, 111, 110, 66, 121, 70, 108, 97, 103, 32, 101, 120, 97, 109, 112, 108, 101, 46, 99, 111, 109, 47, 97, 115, 115, 101, 110, 116, 47, 97, 115, 115, 101, 110, 116, 47, 122, 122, 108, 97, 119, 115, 95, 105, 110, 116, 101, 114, 110, 97, 108, 95, 114, 97, 102, 116, 95, 98, 49, 46, 70, 110, 83, 112, 108, 105, 116, 86, 111, 116, 101, 115, 70, 105, 120, 101, 100, 79, 110, 73, 116, 115, 80, 97, 114, 116, 115, 32, 101, 120, 97, 109, 112, 108, 101, 46, 99, 111, 109, 47, 97, 115, 115, 101, 110, 116, 47, 97, 115, 115, 101, 110, 116, 47, 122, 122, 108, 97, 119, 115, 95, 105, 110, 116, 101, 114, 110, 97, 108, 95, 114, 97, 102, 116, 95, 98, 49, 46, 70, 110, 83, 112, 108, 105, 116, 86, 111, 116, 101, 115, 68, 105, 115, 116, 114, 105, 98, 117, 116, 101, 115, 79, 118, 101, 114, 67, 111, 110, 99, 97, 116, 101, 110, 97, 116, 105, 111, 110] : List Nat).map Char.ofNat
def headWords : List (List Char) := ([[99, 117, 116], [97, 116], [101, 120, 97, 109, 112, 108, 101, 46, 99, 111, 109, 47, 97, 115, 115, 101, 110, 116, 47, 97, 115, 115, 101, 110, 116, 47, 122, 122, 108, 97, 119, 115, 95, 105, 110, 116, 101, 114, 110, 97, 108, 95, 114, 97, 102, 116, 95, 98, 49, 46, 70, 110, 83, 112, 108, 105, 116, 86, 111, 116, 101, 115, 83, 116, 97, 98, 108, 101, 80, 97, 114, 116, 105, 116, 105, 111, 110, 66, 121, 70, 108, 97, 103], [101, 120, 97, 109, 112, 108, 101, 46, 99, 111, 109, 47, 97, 115, 115, 101, 110, 116, 47, 97, 115, 115, 101, 110, 116, 47, 122, 122, 108, 97, 119, 115, 95, 105, 110, 116, 101, 114, 110, 97, 108, 95, 114, 97, 102, 116, 95, 98, 49, 46, 70, 110, 83, 112, 108, 105, 116, 86, 111, 116, 101, 115, 70, 105, 120, 101, 100, 79, 110, 73, 116, 115, 80, 97, 114, 116, 115], [101, 120, 97, 109, 112, 108, 101, 46, 99, 111, 109, 47, 97, 115, 115, 101, 110, 116, 47, 97, 115, 115, 101, 110, 116, 47, 122, 122, 108, 97, 119, 115, 95, 105, 110, 116, 101, 114, 110, 97, 108, 95, 114, 97, 102, 116, 95, 98, 49, 46, 70, 110, 83, 112, 108, 105, 116, 86, 111, 116, 101, 115, 68, 105, 115, 116, 114, 105, 98, 117, 116, 101, 115, 79, 118, 101, 114, 67, 111, 110, 99, 97, 116, 101, 110, 97, 116, 105, 111, 110]] : List (List Nat)).map fun w => w.map Char.ofNat
theorem head_is : Try.pinned.checked.prog.initOrder = String.ofList headChars := by kernel_rfl
theorem head_words : behindMainWord (wordsSigns Try.pinned.checked.prog.initOrder.toList) = headWords := by
  rw [head_is, String.toList_ofList]
  kernel_rfl
theorem head_words' : behindMainWord (wordsSigns Try.pinned.checked.prog.initOrder.toList) = headWords.head?.getD [] :: headWords.tail := head_words.trans (by kernel_rfl)
theorem make_of (Q : Program) (c : List Char) (rest : List (List Char)) (h : behindMainWord (wordsSigns Q.initOrder.toList) = c :: rest) (hc : (c == "cut".toList) = true) (h1 : (c == "gc".toList || c == "spec".toList) = false) : Q.make = some .cut := by
  unfold Program.make
  rw [h]
  show (if (c == "gc".toList || c == "spec".toList) = true then _ else if (c == "cut".toList || _) = true then _ else _) = _
  rw [if_neg (by rw [h1]; exact Bool.false_ne_true), if_pos (by rw [hc]; rfl)]
theorem enter_of (Q : Program) (c : List Char) (rest : List (List Char)) (h : behindMainWord (wordsSigns Q.initOrder.toList) = c :: rest) (hs : stripLifts liftWords (c :: rest) = ([], c :: rest)) (hc : (c == "cut".toList) = true)
    (hl : Q.laysLater = false) (hr : Q.bearsReflect = false) (hd : Q.doorRows = []) : Q.mayEnter = true := by
  have hf : Q.doorFits [] = true := by unfold Program.doorFits; rw [hd]; rfl
  have hh : ((c :: rest).head? == some "cut".toList) = true := by
    show (some c == some "cut".toList) = true
    rw [eq_of_beq hc]
    exact beq_self_eq_true _
  unfold Program.mayEnter
  rw [h]
  show (_ || _ || ((stripLifts liftWords (c :: rest)).2.head? == some "cut".toList && _ && _ && _ && _)) = true
  rw [hs, hl, hr, hf, hh]
  simp
theorem head_enters : Try.pinned.checked.prog.mayEnter = true := enter_of _ _ _ head_words' (by kernel_rfl) (by kernel_rfl) (by kernel_rfl) (by kernel_rfl) (by kernel_rfl)
theorem c_closed : joinedFacts Try.pinned.checked.prog 3 Try.f3 Rows.fnSplitVotesStablePartitionByFlagSpec Rows.fnSplitVotesStablePartitionByFlagRow = true := by
  unfold joinedFacts
  simp only [Bool.and_eq_true]
  exact ⟨⟨⟨⟨⟨⟨⟨⟨⟨⟨⟨⟨⟨⟨⟨⟨⟨⟨⟨⟨⟨⟨⟨⟨⟨⟨⟨⟨⟨⟨⟨(by as_aux_lemma => kernel_rfl), (by as_aux_lemma => kernel_rfl)⟩, (by as_aux_lemma => kernel_rfl)⟩, (by as_aux_lemma => kernel_rfl)⟩, (by as_aux_lemma => kernel_rfl)⟩, (by as_aux_lemma => kernel_rfl)⟩, (by as_aux_lemma => kernel_rfl)⟩, (by as_aux_lemma => kernel_rfl)⟩, (by as_aux_lemma => kernel_rfl)⟩, (by as_aux_lemma => kernel_rfl)⟩, (by as_aux_lemma => kernel_rfl)⟩, (by as_aux_lemma => kernel_rfl)⟩, (by as_aux_lemma => kernel_rfl)⟩, (by as_aux_lemma => kernel_rfl)⟩, (by as_aux_lemma => kernel_rfl)⟩, (by as_aux_lemma => kernel_rfl)⟩, (by as_aux_lemma => kernel_rfl)⟩, (by as_aux_lemma => kernel_rfl)⟩, (by as_aux_lemma => kernel_rfl)⟩, (by as_aux_lemma => kernel_rfl)⟩, (by as_aux_lemma => kernel_rfl)⟩, (by as_aux_lemma => kernel_rfl)⟩, (by as_aux_lemma => kernel_rfl)⟩, (by as_aux_lemma => kernel_rfl)⟩, (by as_aux_lemma => kernel_rfl)⟩, head_enters⟩, (by as_aux_lemma => unfold Program.liftsFinal Program.headLifts; rw [head_words]; kernel_rfl)⟩, (by as_aux_lemma => rw [make_of _ _ _ head_words' (by kernel_rfl) (by kernel_rfl)]; kernel_rfl)⟩, (by as_aux_lemma => kernel_rfl)⟩, (by as_aux_lemma => kernel_rfl)⟩, (by as_aux_lemma => kernel_rfl)⟩, (by as_aux_lemma => kernel_rfl)⟩
theorem c_named : Try.pinned.checked.prog.funcNamed Rows.fnSplitVotesStablePartitionByFlagRow.func = some 3 := by kernel_rfl
theorem c_inst : Try.f3.isInstance Try.pinned.checked.prog Rows.fnSplitVotesStablePartitionByFlagRow.origin Rows.fnSplitVotesStablePartitionByFlagRow.targs := of_decide_eq_true (by kernel_rfl)
theorem c_wrap : Try.f3.isWrapper Try.pinned.checked.prog Rows.fnSplitVotesStablePartitionByFlagRow.wrapper Rows.fnSplitVotesStablePartitionByFlagRow.mainSum := by
  unfold Func.isWrapper; first | (rw [if_pos (by decide +kernel)]; kernel_rfl) | (rw [if_neg (by decide +kernel)]; exact ⟨rfl, rfl⟩)
end Go.Proofs.Qxb6603181a.fnSplitVotes
