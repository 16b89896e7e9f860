import Derived.Test.Qxb6602990aLaw
import Derived.Test.Qxb6602990aFacts
import Derived.ProofKit
import Derived.OpenShut
import Derived.ShutString
import Derived.ChangeOld
import Derived.Below
import Derived.SliceStrings
namespace Go.Proofs.Qxb6602990a.fnJsConsume
open Go.ChangeShapes Go.WideShapes Go.ChangeAt Go.RowKit
open Go.ChangeMaps (open_string shut_string)

theorem own : ownKnob Try.prog.godebug = none := by kernel_rfl
theorem laidOut : laidOutB Try.prog = true := by kernel_rfl

/-- A slice of strings that came in. -/
theorem open_strs {H : Type} {enc : TypeId × Value → H} {W : World} {a : Option Addr} {len cap : Nat} {d : DataW H} {ps : List MemPlace}
    (h : DataW.Trod enc Try.prog W 0 (fun _ => true) true 22 (.slice a len cap) d ps) :
    ∃ ss : List ByteArray, ss.length = len ∧ len ≤ 9223372036854775807 ∧ SRd W a ss ∧ (a = none → ss = []) ∧ ∀ s ∈ ss, s.size ≤ 9223372036854775807 := by
  obtain ⟨fuel, hf⟩ := h
  rcases open_strings Try.underlying22 Try.underlying9 (by kernel_rfl) hf with ⟨hcs, _⟩ | ⟨x, l, c, zs, hcs, _, hl, hm, hz, _, hcell, hwz⟩
  · simp [Value.cells] at hcs
    obtain ⟨rfl, rfl, rfl⟩ := hcs
    exact ⟨[], rfl, by omega, .inl rfl, fun _ => rfl, fun s hs => by simp at hs⟩
  · simp [Value.cells] at hcs
    obtain ⟨rfl, rfl, rfl⟩ := hcs
    simp at hz
    unfold maxLen at hm
    have hlen : (zs.take len).length = len := by rw [List.length_take]; omega
    refine ⟨zs.take len, hlen, by omega, ?_, (fun h => by cases h), fun s hs => ?_⟩
    · by_cases h0 : len = 0
      · left; subst h0; simp
      · right
        obtain ⟨b, off, spot⟩ := x
        have hspot : spot = none := by simpa [Addr.add] using World.cell?_spot (hcell 0 (by omega))
        subst hspot
        refine ⟨b, off, rfl, fun j hj => ?_⟩
        have hj' : j < len := by omega
        have := hcell j (by omega)
        rw [Go.WideShapes.add_plain] at this
        rw [this]
        simp [List.getD, hj']
    · have := hwz s (List.mem_of_mem_take hs)
      unfold maxLen at this
      exact this

theorem walk (a0 a1 : Int) (a2 a3 : ByteArray) (a4 : Option Addr) (ss : List ByteArray) (c4 : Nat) (a5 : Option Addr) (tt : List ByteArray) (c5 : Nat) (a6 : Bool) (w : World)
    (w2 : a2.size ≤ maxLen) (w3 : a3.size ≤ maxLen) (l4 : ss.length ≤ 9223372036854775807) (r4 : SRd w a4 ss) (n4 : a4 = none → ss = []) (z4 : ∀ s ∈ ss, s.size ≤ 9223372036854775807)
    (l5 : tt.length ≤ 9223372036854775807) (r5 : SRd w a5 tt) (n5 : a5 = none → tt = []) (z5 : ∀ s ∈ tt, s.size ≤ 9223372036854775807) :
    Calls Try.prog 10 #[.int .i64 a0, .int .i64 a1, .string a2, .string a3, .slice a4 ss.length c4, .slice a5 tt.length c5, .bool a6] w fun e w' => e = .returned (.bool true) ∧ Below w.heap.size w w' := by
  unfold maxLen at w2 w3
  by_cases hq : a2.size ≤ 65536 ∧ a3.size ≤ 65536 ∧ ss.length ≤ 65536 ∧ tt.length ≤ 65536
  · exact walk_small a0 a1 a2 a3 a6 a4 ss c4 a5 tt c5 w r4 r5 n4 n5 z4 z5 hq.1 hq.2.1 hq.2.2.1 hq.2.2.2
  · exact walk_big a0 a1 a2 a3 a6 a4 ss c4 a5 tt c5 w r4 r5 w2 w3 l4 l5 z4 z5 hq

set_option maxRecDepth 100000 in
theorem lifted (os : Os) (started : os.Started) (H : Type) (enc : TypeId × Value → H) :
    ReturnsInHanded {} Try.checked os 10 .any (Rows.fnJsConsumeAppendsWellFormedGrantsSpec.pre6 enc Try.prog Try.f10 Rows.fnJsConsumeAppendsWellFormedGrantsRow.domain false) (Rows.fnJsConsumeAppendsWellFormedGrantsSpec.post enc Try.prog Try.f10 false true false false) := by
  refine returnsInHanded_of_change (C := Try.checked) own started (by kernel_rfl) Try.func10
    (ChangeSpec.witness6 (enc := enc) (C := Try.checked) false ⟨#[], #[.int .i64 0, .int .i64 0, .string ByteArray.empty, .string ByteArray.empty, .slice none 0 0, .slice none 0 0, .bool false], []⟩ 8 (by kernel_rfl) (by kernel_rfl) (by kernel_rfl) (by kernel_rfl)) ?_
  intro W base args ds gs before hval0 hW hcnd _
  have hval : ∀ (j : Nat) t v, Try.f10.params[j]? = some t → args[j]? = some v → Value.okWide Try.prog W .any base t v := hval0
  have hW' := hW
  obtain ⟨p, q, hA0, hV, rfl, hfz, hnd⟩ := hW
  have hA : DataW.TrodAll enc Try.prog W 0 (fun _ => true) true Try.f10.params.toList args.toList ds p := hA0
  rw [Try.params10] at hA hval
  obtain ⟨v0, vs0, d0, ds0, p0, q0, hargs, rfl, rfl, h0, r0⟩ := trodAll_cons hA
  obtain ⟨v1, vs1, d1, ds1, p1, q1, rfl, rfl, rfl, h1, r1⟩ := trodAll_cons r0
  obtain ⟨v2, vs2, d2, ds2, p2, q2, rfl, rfl, rfl, h2, r2⟩ := trodAll_cons r1
  obtain ⟨v3, vs3, d3, ds3, p3, q3, rfl, rfl, rfl, h3, r3⟩ := trodAll_cons r2
  obtain ⟨v4, vs4, d4, ds4, p4, q4, rfl, rfl, rfl, h4, r4⟩ := trodAll_cons r3
  obtain ⟨v5, vs5, d5, ds5, p5, q5, rfl, rfl, rfl, h5, r5⟩ := trodAll_cons r4
  obtain ⟨v6, vs6, d6, ds6, p6, q6, rfl, rfl, rfl, h6, r6⟩ := trodAll_cons r5
  obtain ⟨rfl, rfl, rfl⟩ := trodAll_nil r6
  obtain rfl : args = #[v0, v1, v2, v3, v4, v5, v6] := by cases args; simp_all
  obtain ⟨rfl, rfl⟩ := trodVars_none hV
  obtain ⟨a0, rfl, rfl, rfl, w0⟩ := open_int Try.underlying3 (hval 0 3 v0 rfl rfl) h0
  obtain ⟨a1, rfl, rfl, rfl, w1⟩ := open_int Try.underlying3 (hval 1 3 v1 rfl rfl) h1
  obtain ⟨a2, rfl, rfl, rfl, w2⟩ := open_string Try.underlying9 (hval 2 9 v2 rfl rfl) h2
  obtain ⟨a3, rfl, rfl, rfl, w3⟩ := open_string Try.underlying9 (hval 3 9 v3 rfl rfl) h3
  obtain ⟨a4, len4, cap4, rfl⟩ := okWide_slice Try.underlying22 (hval 4 22 v4 rfl rfl)
  have k4 := h4
  have lt4 : ∀ x ∈ p4, x.block < W.heap.size := by obtain ⟨m, hm⟩ := k4; exact DataW.trod_lt m _ _ _ hm
  obtain ⟨ss, rfl, l4, r4', n4, z4⟩ := open_strs h4
  obtain ⟨a5, len5, cap5, rfl⟩ := okWide_slice Try.underlying22 (hval 5 22 v5 rfl rfl)
  have k5 := h5
  have lt5 : ∀ x ∈ p5, x.block < W.heap.size := by obtain ⟨m, hm⟩ := k5; exact DataW.trod_lt m _ _ _ hm
  obtain ⟨tt, rfl, l5, r5', n5, z5⟩ := open_strs h5
  obtain ⟨a6, rfl, rfl, rfl⟩ := open_bool Try.underlying4 (hval 6 4 v6 rfl rfl) h6
  clear hA0 hval0
  refine (walk a0 a1 a2 a3 a4 ss cap4 a5 tt cap5 a6 W w2 w3 l4 r4' n4 z4 l5 r5' n5 z5).mono fun e W' ⟨he, bel⟩ => ?_
  subst he
  exact ⟨_, rfl, _, _, _, [], _, [], hW', trodAll_mk1 (shut_bool Try.underlying4 _), (trodAll_cons_mk (shut_int Try.underlying3 w0) (trodAll_cons_mk (shut_int Try.underlying3 w1) (trodAll_cons_mk (shut_string Try.underlying9 w2) (trodAll_cons_mk (shut_string Try.underlying9 w3) (trodAll_cons_mk (Below.trod laidOut (by kernel_rfl) (of_decide_eq_true (by kernel_rfl)) k4 bel lt4) (trodAll_cons_mk (Below.trod laidOut (by kernel_rfl) (of_decide_eq_true (by kernel_rfl)) k5 bel lt5) (trodAll_cons_mk (shut_bool Try.underlying4 a6) trodAll_mk0))))))), rfl, bel.frame _, fun h => by cases h⟩

theorem over : Rows.fnJsConsumeAppendsWellFormedGrantsRow.holds Try.pinned (OpenSpec.ofChange Rows.fnJsConsumeAppendsWellFormedGrantsSpec) :=
  OpenClaim.holds_of_wide 10 Try.f10 rfl rfl rfl rfl rfl rfl rfl ⟨rfl, rfl, rfl, rfl, rfl⟩ rfl rfl rfl rfl rfl c_named Try.func10 c_closed c_inst c_wrap
    (fun os started H enc _ => lifted os started H enc)

theorem proved : Rows.FnJsConsumeAppendsWellFormedGrantsSaid := over
#print axioms proved
end Go.Proofs.Qxb6602990a.fnJsConsume
