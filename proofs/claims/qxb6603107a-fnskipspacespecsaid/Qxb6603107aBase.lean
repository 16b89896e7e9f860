import Derived.Test.Qxb6603107aRows
import Derived.WalkKit
import Derived.WalkSpells
import Derived.WalkLawsBesides
import Derived.Deep.QuietTactic
import Derived.BigQuiet
namespace Go.Proofs.Qxb6603107a
open Go.RowKit

theorem eq_t {a b : Int} (h : a = b) : (a == b) = true := by simp [h]
theorem eq_f {a b : Int} (h : a ≠ b) : (a == b) = false := by simp [h]
theorem tr {W a b : World} (h1 : Below W.heap.size W a) (h2 : Below a.heap.size a b) : Below W.heap.size W b := h1.trans (h2.mono h1.size)
theorem lt_of_cell {w : World} {a : Addr} {v : Value} (h : w.cell? a = some v) : a.block < w.heap.size := by
  rcases Nat.lt_or_ge a.block w.heap.size with h' | h'
  · exact h'
  · simp [World.cell?, Array.getElem?_eq_none h'] at h

/-- A slice of bytes that can be read. -/
def BRd (w : World) (a : Option Addr) (bs : List Nat) : Prop :=
  bs = [] ∨ ∃ b off, a = some ⟨b, off, none⟩ ∧ ∀ j, j < bs.length → w.cell? ⟨b, off + j, none⟩ = some (.int .u8 ((bs.getD j 0 : Nat) : Int))
theorem BRd.at_ {w : World} {a : Option Addr} {bs : List Nat} (h : BRd w a bs) {k : Nat} (hk : k < bs.length) : ∃ b off, a = some ⟨b, off, none⟩ ∧ ∀ j, j < bs.length → w.cell? ⟨b, off + j, none⟩ = some (.int .u8 ((bs.getD j 0 : Nat) : Int)) := by
  rcases h with rfl | h
  · simp at hk
  · exact h
theorem BRd.below {w w' : World} {a : Option Addr} {bs : List Nat} (h : BRd w a bs) (hb : Below w.heap.size w w') : BRd w' a bs := by
  rcases h with h | ⟨g, off, h1, h2⟩
  · exact .inl h
  · exact .inr ⟨g, off, h1, fun j hj => (hb.cell (lt_of_cell (h2 j hj))).trans (h2 j hj)⟩

theorem Try.info5 : (Try.prog.info? 5).map (fun i => (i.zero, i.size, i.bytes)) = some (some (.int .u8 0), 1, 1) := by kernel_rfl

theorem clone_rel {bs : List Nat} {k : Nat} {C : Array Value} {w wr : World} {s : Nat} (hlt : k < bs.length) (hs : s = bs.getD k 0) (hb : wr.heap[w.heap.size]? = some (.cells C 5 (0, 0)))
    (hC : ∀ j, j < k → C[j]? = some (.int .u8 ((bs.getD j 0 : Nat) : Int))) (hCs : C.size = bs.length) (hB : Below w.heap.size w wr) :
    ∃ k' : Nat, ∃ C : Array Value, k' ≤ bs.length ∧ Value.int .i64 ((k : Int) + 1) = .int .i64 k' ∧ C.size = bs.length ∧ (wr.setCell ⟨w.heap.size, k, none⟩ (.int .u8 (s : Int))).heap[w.heap.size]? = some (.cells C 5 (0, 0)) ∧
      (∀ j, j < k' → C[j]? = some (.int .u8 ((bs.getD j 0 : Nat) : Int))) ∧ Below w.heap.size w (wr.setCell ⟨w.heap.size, k, none⟩ (.int .u8 (s : Int))) := by
  refine ⟨k + 1, _, hlt, rfl, ?_, heap_setCell_same _ _ _ _ _ _ hb, fun j hj => ?_, hB.setCell (Nat.le_refl _) _⟩
  · simpa using hCs
  · by_cases e : k = j
    · subst e
      rw [Array.getElem?_setIfInBounds_self_of_lt (by omega), hs]
    · rw [Array.getElem?_setIfInBounds_ne e]
      exact hC j (by omega)

set_option maxHeartbeats 400000 in
theorem clone_nil (w : World) (cap : Nat) : Calls Try.prog 8 #[.slice none 0 cap] w fun e w' => e = .returned (.slice none 0 0) ∧ w' = w := by
  have hq := fun w => Lib.run_eql_slice_nil (P := Try.prog) w 23 5 none 0 cap 0 0 Try.underlying23
  go_enter Try.func8, Try.ntmps8
  go_wp2
  go_ret
  exact ⟨rfl, rfl⟩

set_option maxHeartbeats 400000 in
theorem clone_some (x : Addr) (bs : List Nat) (cap : Nat) (w : World) (hr : BRd w (some x) bs) (hl : bs.length ≤ 1048576) :
    Calls Try.prog 8 #[.slice (some x) bs.length cap] w fun e w' => e = .returned (.slice (some ⟨w.heap.size, 0, none⟩) bs.length bs.length) ∧ BRd w' (some ⟨w.heap.size, 0, none⟩) bs ∧ Below w.heap.size w w' := by
  have hq := fun w => Lib.run_eql_slice_nil (P := Try.prog) w 23 5 (some x) bs.length cap 0 0 Try.underlying23
  obtain ⟨i0, hi, hz0, hz1, hz2⟩ := info_parts Try.info5
  have hmk := run_make (P := Try.prog) w 23 5 i0 (.int .u8 0) Try.underlying23 hi hz0 .i64 .i64 bs.length bs.length (by omega) (by omega) (by rw [hz2]; omega) (by omega)
  rw [hz1] at hmk
  simp only [Int.toNat_natCast, Nat.mul_one] at hmk
  have HR : Hid (BRd w (some x) bs) := hr
  clear hr
  go_enter Try.func8, Try.ntmps8
  go_wp2
  clear hmk hq
  go_loopw [4] (fun v wr => ∃ k : Nat, ∃ C : Array Value, k ≤ bs.length ∧ v = .int .i64 k ∧ C.size = bs.length ∧ wr.heap[w.heap.size]? = some (.cells C 5 (0, 0)) ∧ (∀ j, j < k → C[j]? = some (.int .u8 ((bs.getD j 0 : Nat) : Int))) ∧ Below w.heap.size w wr) (fun v _ => bs.length - (intOf v).toNat)
  case atStart => exact ⟨0, _, Nat.zero_le _, rfl, size_madeCells _ _, heap_alloc_new _ _, fun j hj => by omega, (Below.refl _ _).alloc (Nat.le_refl _) _⟩
  case round =>
    obtain ⟨k, C, hk, rfl, hCs, hblk, hC, hB⟩ := hrel
    by_cases hlt : k < bs.length
    · obtain ⟨b, off, ha, hc⟩ := HR.out.at_ hlt
      have ha' : x = ⟨b, off, none⟩ := by simpa using ha
      have hck := hc k hlt
      obtain ⟨s, hs⟩ : ∃ s, s = bs.getD k 0 := ⟨_, rfl⟩
      rw [← hs] at hck
      have hck2 : wr.cell? ⟨b, off + k, none⟩ = some (.int .u8 (s : Int)) := (hB.cell (lt_of_cell hck)).trans hck
      have hold : wr.cell? ⟨w.heap.size, k, none⟩ = C[k]? := by simp [World.cell?, hblk]
      obtain ⟨o, ho⟩ : ∃ o, C[k]? = some o := ⟨_, Array.getElem?_eq_getElem (by omega)⟩
      rw [ho] at hold
      have hfz : wr.frozen? ⟨w.heap.size, k, none⟩ = false := by simp [World.frozen?, hblk]
      have HS : Hid (s = bs.getD k 0) := hs
      have HBL : Hid (wr.heap[w.heap.size]? = some (.cells C 5 (0, 0))) := hblk
      have HCJ : Hid (∀ j, j < k → C[j]? = some (.int .u8 ((bs.getD j 0 : Nat) : Int))) := hC
      have HCS : Hid (C.size = bs.length) := hCs
      clear hc ha hck hs hblk hC ho hCs
      go_wp2
      go_roundw
      case rel => exact clone_rel hlt HS.out HBL.out HCJ.out HCS.out hB
      case measure => simp [intOf]; omega
    · obtain rfl : k = bs.length := by omega
      go_wp2
      go_ret
      exact ⟨rfl, .inr ⟨_, 0, rfl, fun j hj => by rw [Nat.zero_add]; simp [World.cell?, hblk, hC j hj]⟩, hB⟩

/-- 'cloneBytes', whatever the slice: behind it the capacity is the length. -/
theorem clone_any (a : Option Addr) (bs : List Nat) (cap : Nat) (w : World) (hr : BRd w a bs) (hn : a = none → bs = []) (hl : bs.length ≤ 1048576) :
    Calls Try.prog 8 #[.slice a bs.length cap] w fun e w' => ∃ a', e = .returned (.slice a' bs.length bs.length) ∧ BRd w' a' bs ∧ ((a' = none ∧ bs = []) ∨ a' = some ⟨w.heap.size, 0, none⟩) ∧ Below w.heap.size w w' := by
  cases a with
  | none =>
    obtain rfl := hn rfl
    refine (clone_nil w cap).mono ?_
    rintro e w' ⟨rfl, rfl⟩
    exact ⟨none, rfl, .inl rfl, .inl ⟨rfl, rfl⟩, Below.refl _ _⟩
  | some x =>
    refine (clone_some x bs cap w hr hl).mono ?_
    rintro e w' ⟨rfl, h1, h2⟩
    exact ⟨_, rfl, h1, .inr rfl, h2⟩
end Go.Proofs.Qxb6603107a
