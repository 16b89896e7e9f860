import Derived.Test.Qxb6603107aRows
import Derived.ProofKit
namespace Go.Proofs.Qxb6603107a.fnHex4RoundTrip
-- the head's words, as lists of signs: no text of the head is taken apart by the kernel
def headChars : List Char := ([104, 97, 114, 110, 101, 115, 115, 32, 52, 99, 101, 102, 98, 57, 48, 102, 49, 54, 56, 55, 51, 56, 101, 49, 99, 99, 56, 101, 57, 100, 98, 99, 55, 56, 99, 54, 99, 97, 97, 55, 48, 54, 99, 97, 49, 49, 52, 101, 48, 50, 56, 50, 52, 100, 51, 57, 99, 49, 53, 56, 49, 50, 57, 53, 57, 56, 102, 102, 50, 51, 55, 57, 32, 99, 117, 116, 32, 97, 116, 32, 101, 120, 97, 109, 112, 108, 101, 46, 99, 111, 109, 47, 102, 111, 114, 101, 114, 117, 110, 47, 102, 111, 114, 101, 114, 117, 110, 47, 122, 122, 108, 97, 119, 115, 95, 106, 115, 111, 110, 99, 111, 100, 101, 99, 95, 98, 49, 46, 70, 110, 72, 101, 120, 52, 82, 111, 117, 110, 100, 84, 114, 105, 112, 32, 101, 120, 97, 109, 112, 108, 101, 46, 99, 111, 109, 47, 102, 111, 114, 101, 114, 117, 110, 47, 102, 111, 114, 101, 114, 117, 110, 47, 122, 122, 108, 97, 119, 115, 95, 106, 115, 111, 110, 99, 111, 100, 101, 99, 95, 98, 49, 46, 70, 110, 75, 105, 110, 100, 78, 101, 118, 101, 114, 79, 110, 83, 112, 97, 99, 101, 32, 101, 120, 97, 109, 112, 108, 101, 46, 99, 111, 109, 47, 102, 111, 114, 101, 114, 117, 110, 47, 102, 111, 114, 101, 114, 117, 110, 47, 122, 122, 108, 97, 119, 115, 95, 106, 115, 111, 110, 99, 111, 100, 101, 99, 95, 98, 49, 46, 70, 110, 83, 107, 105, 112, 83, 112, 97, 99, 101, 83, 112, 101, 99, 32, 101, 120, 97, 109, 112, 108, 101, 46, 99, 111, 109, 47, 102, 111, 114, 101, 114, 117, 110, 47, 102, 111, 114, 101, 114, 117, 110, 47, 122, 122, 108, 97, 119, 115, 95, 106, 115, 111, 110, 99, 111, 100, 101, 99, 95, 98, 49, 46, 70, 110, 83, 107, 105, 112, 83, 112, 97, 99, 101, 83, 97, 109, 101, 76, 97, 110, 100, 105, 110, 103] : List Nat).map Char.ofNat
def headWords : List (List Char) := ([[99, 117, 116], [97, 116], [101, 120, 97, 109, 112, 108, 101, 46, 99, 111, 109, 47, 102, 111, 114, 101, 114, 117, 110, 47, 102, 111, 114, 101, 114, 117, 110, 47, 122, 122, 108, 97, 119, 115, 95, 106, 115, 111, 110, 99, 111, 100, 101, 99, 95, 98, 49, 46, 70, 110, 72, 101, 120, 52, 82, 111, 117, 110, 100, 84, 114, 105, 112], [101, 120, 97, 109, 112, 108, 101, 46, 99, 111, 109, 47, 102, 111, 114, 101, 114, 117, 110, 47, 102, 111, 114, 101, 114, 117, 110, 47, 122, 122, 108, 97, 119, 115, 95, 106, 115, 111, 110, 99, 111, 100, 101, 99, 95, 98, 49, 46, 70, 110, 75, 105, 110, 100, 78, 101, 118, 101, 114, 79, 110, 83, 112, 97, 99, 101], [101, 120, 97, 109, 112, 108, 101, 46, 99, 111, 109, 47, 102, 111, 114, 101, 114, 117, 110, 47, 102, 111, 114, 101, 114, 117, 110, 47, 122, 122, 108, 97, 119, 115, 95, 106, 115, 111, 110, 99, 111, 100, 101, 99, 95, 98, 49, 46, 70, 110, 83, 107, 105, 112, 83, 112, 97, 99, 101, 83, 112, 101, 99], [101, 120, 97, 109, 112, 108, 101, 46, 99, 111, 109, 47, 102, 111, 114, 101, 114, 117, 110, 47, 102, 111, 114, 101, 114, 117, 110, 47, 122, 122, 108, 97, 119, 115, 95, 106, 115, 111, 110, 99, 111, 100, 101, 99, 95, 98, 49, 46, 70, 110, 83, 107, 105, 112, 83, 112, 97, 99, 101, 83, 97, 109, 101, 76, 97, 110, 100, 105, 110, 103]] : List (List Nat)).map fun w => w.map Char.ofNat
theorem head_is : Try.pinned.checked.prog.initOrder = String.ofList headChars := by kernel_rfl
theorem head_words : behindMainWord (wordsSigns Try.pinned.checked.prog.initOrder.toList) = headWords := by
  rw [head_is, String.toList_ofList]
  kernel_rfl
theorem head_words' : behindMainWord (wordsSigns Try.pinned.checked.prog.initOrder.toList) = headWords.head?.getD [] :: headWords.tail := head_words.trans (by kernel_rfl)
theorem make_of (Q : Program) (c : List Char) (rest : List (List Char)) (h : behindMainWord (wordsSigns Q.initOrder.toList) = c :: rest) (hc : (c == "cut".toList) = true) (h1 : (c == "gc".toList || c == "spec".toList) = false) : Q.make = some .cut := by
  unfold Program.make
  rw [h]
  show (if (c == "gc".toList || c == "spec".toList) = true then _ else if (c == "cut".toList || _) = true then _ else _) = _
  rw [if_neg (by rw [h1]; exact Bool.false_ne_true), if_pos (by rw [hc]; rfl)]
theorem enter_of (Q : Program) (c : List Char) (rest : List (List Char)) (h : behindMainWord (wordsSigns Q.initOrder.toList) = c :: rest) (hs : stripLifts liftWords (c :: rest) = ([], c :: rest)) (hc : (c == "cut".toList) = true)
    (hl : Q.laysLater = false) (hr : Q.bearsReflect = false) (hd : Q.doorRows = []) : Q.mayEnter = true := by
  have hf : Q.doorFits [] = true := by unfold Program.doorFits; rw [hd]; rfl
  have hh : ((c :: rest).head? == some "cut".toList) = true := by
    show (some c == some "cut".toList) = true
    rw [eq_of_beq hc]
    exact beq_self_eq_true _
  unfold Program.mayEnter
  rw [h]
  show (_ || _ || ((stripLifts liftWords (c :: rest)).2.head? == some "cut".toList && _ && _ && _ && _)) = true
  rw [hs, hl, hr, hf, hh]
  simp
theorem head_enters : Try.pinned.checked.prog.mayEnter = true := enter_of _ _ _ head_words' (by kernel_rfl) (by kernel_rfl) (by kernel_rfl) (by kernel_rfl) (by kernel_rfl)
theorem c_closed : joinedFacts Try.pinned.checked.prog 3 Try.f3 Rows.fnHex4RoundTripSpec Rows.fnHex4RoundTripRow = true := by
  unfold joinedFacts
  simp only [Bool.and_eq_true]
  exact ⟨⟨⟨⟨⟨⟨⟨⟨⟨⟨⟨⟨⟨⟨⟨⟨⟨⟨⟨⟨⟨⟨⟨⟨⟨⟨⟨⟨⟨⟨⟨(by as_aux_lemma => kernel_rfl), (by as_aux_lemma => kernel_rfl)⟩, (by as_aux_lemma => kernel_rfl)⟩, (by as_aux_lemma => kernel_rfl)⟩, (by as_aux_lemma => kernel_rfl)⟩, (by as_aux_lemma => kernel_rfl)⟩, (by as_aux_lemma => kernel_rfl)⟩, (by as_aux_lemma => kernel_rfl)⟩, (by as_aux_lemma => kernel_rfl)⟩, (by as_aux_lemma => kernel_rfl)⟩, (by as_aux_lemma => kernel_rfl)⟩, (by as_aux_lemma => kernel_rfl)⟩, (by as_aux_lemma => kernel_rfl)⟩, (by as_aux_lemma => kernel_rfl)⟩, (by as_aux_lemma => kernel_rfl)⟩, (by as_aux_lemma => kernel_rfl)⟩, (by as_aux_lemma => kernel_rfl)⟩, (by as_aux_lemma => kernel_rfl)⟩, (by as_aux_lemma => kernel_rfl)⟩, (by as_aux_lemma => kernel_rfl)⟩, (by as_aux_lemma => kernel_rfl)⟩, (by as_aux_lemma => kernel_rfl)⟩, (by as_aux_lemma => kernel_rfl)⟩, (by as_aux_lemma => kernel_rfl)⟩, (by as_aux_lemma => kernel_rfl)⟩, head_enters⟩, (by as_aux_lemma => unfold Program.liftsFinal Program.headLifts; rw [head_words]; kernel_rfl)⟩, (by as_aux_lemma => rw [make_of _ _ _ head_words' (by kernel_rfl) (by kernel_rfl)]; kernel_rfl)⟩, (by as_aux_lemma => kernel_rfl)⟩, (by as_aux_lemma => kernel_rfl)⟩, (by as_aux_lemma => kernel_rfl)⟩, (by as_aux_lemma => kernel_rfl)⟩
theorem c_named : Try.pinned.checked.prog.funcNamed Rows.fnHex4RoundTripRow.func = some 3 := by kernel_rfl
theorem c_inst : Try.f3.isInstance Try.pinned.checked.prog Rows.fnHex4RoundTripRow.origin Rows.fnHex4RoundTripRow.targs := of_decide_eq_true (by kernel_rfl)
theorem c_wrap : Try.f3.isWrapper Try.pinned.checked.prog Rows.fnHex4RoundTripRow.wrapper Rows.fnHex4RoundTripRow.mainSum := by
  unfold Func.isWrapper; first | (rw [if_pos (by decide +kernel)]; kernel_rfl) | (rw [if_neg (by decide +kernel)]; exact ⟨rfl, rfl⟩)
end Go.Proofs.Qxb6603107a.fnHex4RoundTrip
