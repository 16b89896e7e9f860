import Derived.Test.Qxb6603181aOpen
import Derived.Test.Qxb6603181aFacts
namespace Go.Proofs.Qxb6603181a.fnSplitVotes
open Go.ChangeShapes Go.WideShapes Go.ChangeAt Go.RowKit

theorem own : ownKnob Try.prog.godebug = none := by kernel_rfl
theorem laidOut : laidOutB Try.prog = true := by kernel_rfl

theorem walk (a : Option Addr) (ms : List Mem) (cap : Nat) (w : World) (hl : ms.length ≤ 9223372036854775807) (hr : MRd w a ms) (hn : a = none → ms = []) (hz : ∀ m ∈ ms, m.small) :
    Calls Try.prog 3 #[.slice a ms.length cap] w fun e w' => e = .returned (.bool true) ∧ Below w.heap.size w w' := by
  by_cases h : 65536 < ms.length
  · exact law_long a ms cap w hr hz hl h
  · exact law_walk a ms cap w hr hn hz (by omega)

set_option maxRecDepth 100000 in
theorem lifted (os : Os) (started : os.Started) (H : Type) (enc : TypeId × Value → H) :
    ReturnsInHanded {} Try.checked os 3 .any (Rows.fnSplitVotesStablePartitionByFlagSpec.pre6 enc Try.prog Try.f3 Rows.fnSplitVotesStablePartitionByFlagRow.domain false) (Rows.fnSplitVotesStablePartitionByFlagSpec.post enc Try.prog Try.f3 false true false false) := by
  refine returnsInHanded_of_change (C := Try.checked) own started (by kernel_rfl) Try.func3
    (ChangeSpec.witness6 (enc := enc) (C := Try.checked) false ⟨#[], #[.slice none 0 0], []⟩ 8 (by kernel_rfl) (by kernel_rfl) (by kernel_rfl) (by kernel_rfl)) ?_
  intro W base args ds gs before hval0 hW hcnd _
  have hval : ∀ (j : Nat) t v, Try.f3.params[j]? = some t → args[j]? = some v → Value.okWide Try.prog W .any base t v := hval0
  have hW' := hW
  obtain ⟨p, q, hA0, hV, rfl, hfz, hnd⟩ := hW
  have hA : DataW.TrodAll enc Try.prog W 0 (fun _ => true) true Try.f3.params.toList args.toList ds p := hA0
  rw [Try.params3] at hA hval
  obtain ⟨v0, vs0, d0, ds0, p0, q0, hargs, rfl, rfl, h0, r0⟩ := trodAll_cons hA
  obtain ⟨rfl, rfl, rfl⟩ := trodAll_nil r0
  obtain rfl : args = #[v0] := by cases args; simp_all
  obtain ⟨rfl, rfl⟩ := trodVars_none hV
  obtain ⟨a0, len0, cap0, rfl⟩ := okWide_slice Try.underlying22 (hval 0 22 v0 rfl rfl)
  have k0 := h0
  have lt0 : ∀ x ∈ p0, x.block < W.heap.size := by obtain ⟨m, hm⟩ := k0; exact DataW.trod_lt m _ _ _ hm
  obtain ⟨ms, rfl, l0, r0', n0, z0⟩ := open_mems h0
  clear hA0 hval0
  refine (walk a0 ms cap0 W l0 r0' n0 z0).mono fun e W' ⟨he, bel⟩ => ?_
  subst he
  exact ⟨_, rfl, _, _, _, [], _, [], hW', trodAll_mk1 (shut_bool Try.underlying4 _), (trodAll_cons_mk (Below.trod laidOut (by kernel_rfl) (of_decide_eq_true (by kernel_rfl)) k0 bel lt0) trodAll_mk0), rfl, bel.frame _, fun h => by cases h⟩

theorem over : Rows.fnSplitVotesStablePartitionByFlagRow.holds Try.pinned (OpenSpec.ofChange Rows.fnSplitVotesStablePartitionByFlagSpec) :=
  OpenClaim.holds_of_wide 3 Try.f3 rfl rfl rfl rfl rfl rfl rfl ⟨rfl, rfl, rfl, rfl, rfl⟩ rfl rfl rfl rfl rfl c_named Try.func3 c_closed c_inst c_wrap
    (fun os started H enc _ => lifted os started H enc)

theorem proved : Rows.FnSplitVotesStablePartitionByFlagSaid := over
#print axioms proved
end Go.Proofs.Qxb6603181a.fnSplitVotes
