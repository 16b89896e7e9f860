import Derived.Test.Qxb6603181aLaw
import Derived.ProofKit
import Derived.OpenShut
import Derived.ShutString
import Derived.ChangeOld
import Derived.Below
import Derived.Deep.Slices
namespace Go.Proofs.Qxb6603181a
open Go.ChangeShapes Go.WideShapes Go.ChangeAt Go.RowKit

theorem cells34 : Try.prog.cellsOf 34 = 4 := by kernel_rfl
theorem cells9 : Try.prog.cellsOf 9 = 1 := by kernel_rfl
theorem cells4 : Try.prog.cellsOf 4 = 1 := by kernel_rfl
theorem list4 {α : Type} : ∀ (l : List α), l.length = 4 → ∃ a b c d, l = [a, b, c, d]
  | [a, b, c, d], _ => ⟨a, b, c, d, rfl⟩

theorem open_mem {H : Type} {enc : TypeId × Value → H} {w : World} {base : Nat} {spare : Nat → Bool} {held : Bool} {n : Nat} {cs : List Value} {x : DataW H × List MemPlace}
    (h : DataW.trod enc Try.prog w base spare held n 34 cs = some x) : ∃ m : Mem, cs = m.cells ∧ m.small := by
  obtain ⟨xs, k, _, _, hl, hlen, hf⟩ := DataW.trod_struct Try.underlying34 h
  rw [cells34] at hl
  obtain ⟨c0, c1, c2, c3, rfl⟩ := list4 cs hl
  obtain ⟨y0, y1, y2, y3, rfl⟩ := list4 xs hlen
  have h0 := hf 0 _ rfl
  have h1 := hf 1 _ rfl
  have h2 := hf 2 _ rfl
  have h3 := hf 3 _ rfl
  simp [cells9, cells4] at h0 h1 h2 h3
  obtain ⟨s0, e0, _, z0⟩ := DataW.trod_string Try.underlying9 h0
  obtain ⟨s1, e1, _, z1⟩ := DataW.trod_string Try.underlying9 h1
  obtain ⟨s2, e2, _, z2⟩ := DataW.trod_string Try.underlying9 h2
  obtain ⟨b3, e3, _⟩ := DataW.trod_bool Try.underlying4 h3
  simp at e0 e1 e2 e3
  subst e0 e1 e2 e3
  exact ⟨⟨s0, s1, s2, b3⟩, rfl, z0, z1, z2⟩

/-- A slice of members that came in. -/
theorem open_mems {H : Type} {enc : TypeId × Value → H} {W : World} {a : Option Addr} {len cap : Nat} {d : DataW H} {ps : List MemPlace}
    (h : DataW.Trod enc Try.prog W 0 (fun _ => true) true 22 (.slice a len cap) d ps) :
    ∃ ms : List Mem, ms.length = len ∧ len ≤ 9223372036854775807 ∧ MRd W a ms ∧ (a = none → ms = []) ∧ ∀ m ∈ ms, m.small := by
  obtain ⟨fuel, hf⟩ := h
  rcases Go.Deep.open_slice Try.underlying22 hf with ⟨hcs, _⟩ | ⟨x, l, c, m, n, D, Pl, hcs, _, hl, hm, hmm, _, hx⟩
  · simp [Value.cells] at hcs
    obtain ⟨rfl, rfl, rfl⟩ := hcs
    exact ⟨[], rfl, by omega, .inl rfl, fun _ => rfl, fun s hs => by simp at hs⟩
  · simp [Value.cells] at hcs
    obtain ⟨rfl, rfl, rfl⟩ := hcs
    unfold maxLen at hm
    simp at hmm
    subst hmm
    have hall : ∀ i, i < len → ∃ q : Mem, q.small ∧ ∀ j, j < 4 → W.cell? ((x.add (i * 4)).add j) = q.cells[j]? := fun i hi => by
      obtain ⟨cs', h1, h2⟩ := hx i (by omega)
      obtain ⟨q, rfl, hq⟩ := open_mem h2
      rw [cells34] at h1
      exact ⟨q, hq, (World.cells?_some h1).2.2⟩
    obtain ⟨f, hf⟩ := @Go.Deep.choose_lt Mem ⟨mem0⟩ len (fun i q => q.small ∧ ∀ j, j < 4 → W.cell? ((x.add (i * 4)).add j) = q.cells[j]?) hall
    have hlen : ((List.range len).map f).length = len := by simp
    refine ⟨(List.range len).map f, hlen, by omega, ?_, (fun h => by cases h), fun q hq => ?_⟩
    · by_cases h0 : len = 0
      · left; subst h0; rfl
      · right
        obtain ⟨b, off, spot⟩ := x
        have hspot : spot = none := by
          have := (hf 0 (by omega)).2 0 (by omega)
          simpa [Addr.add] using World.cell?_spot this
        subst hspot
        refine ⟨b, off, rfl, fun j hj => ?_⟩
        have hj' : j < len := by omega
        have e : ((List.range len).map f).getD j mem0 = f j := by simp [List.getD, hj']
        rw [e]
        have c := (hf j hj').2
        have e4 : ∀ i, ((⟨b, off, none⟩ : Addr).add (j * 4)).add i = ⟨b, off + j * 4 + i, none⟩ := fun i => by rw [add_lit, add_lit]
        have c0 := c 0 (by omega)
        have c1 := c 1 (by omega)
        have c2 := c 2 (by omega)
        have c3 := c 3 (by omega)
        rw [e4] at c0 c1 c2 c3
        exact ⟨c0, c1, c2, c3⟩
    · simp at hq
      obtain ⟨i, hi, rfl⟩ := hq
      exact (hf i hi).1
end Go.Proofs.Qxb6603181a
