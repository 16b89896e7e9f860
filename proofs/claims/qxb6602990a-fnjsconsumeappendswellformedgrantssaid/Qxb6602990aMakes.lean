import Derived.Test.Qxb6602990aLists
import Derived.ArgAppend
namespace Go.Proofs.Qxb6602990a
open Go.RowKit Go.Proofs.Qxb6602990a.Plain

theorem Try.info9 : (Try.prog.info? 9).map (fun i => (i.zero, i.size, i.bytes)) = some (some (.string ByteArray.empty), 1, 16) := by kernel_rfl

/-- A row of the call's own that holds the strings ss (or ss is empty). -/
def SB (w : World) (a : Option Addr) (ss : List ByteArray) : Prop :=
  ss = [] ∨ ∃ g C fr, a = some ⟨g, 0, none⟩ ∧ w.heap[g]? = some (.cells C 9 fr) ∧ ∀ j, j < ss.length → C[j]? = some (.string (ss.getD j ByteArray.empty))

theorem SB.rd {w : World} {a : Option Addr} {ss : List ByteArray} (h : SB w a ss) : SRd w a ss := by
  rcases h with h | ⟨g, C, fr, ha, hg, hc⟩
  · exact .inl h
  · refine .inr ⟨g, 0, ha, fun j hj => ?_⟩
    rw [Nat.zero_add]
    simp [World.cell?, hg, hc j hj]

theorem lt_of_cell {w : World} {a : Addr} {v : Value} (h : w.cell? a = some v) : a.block < w.heap.size := by
  rcases Nat.lt_or_ge a.block w.heap.size with h' | h'
  · exact h'
  · simp [World.cell?, Array.getElem?_eq_none h'] at h

set_option maxHeartbeats 400000 in
theorem copy_nil (w : World) (cap : Nat) : Calls Try.prog 14 #[.slice none 0 cap] w fun e w' => e = .returned (.slice none 0 0) ∧ w' = w := by
  have hq := fun w => Lib.run_eql_slice_nil (P := Try.prog) w 22 9 none 0 cap 0 0 Try.underlying22
  go_enter Try.func14, Try.ntmps14
  go_wp2
  go_ret
  exact ⟨rfl, rfl⟩

theorem copy_rel {ss : List ByteArray} {k : Nat} {C : Array Value} {w wr : World} {s : ByteArray} (hlt : k < ss.length) (hs : s = ss.getD k ByteArray.empty) (hb : wr.heap[w.heap.size]? = some (.cells C 9 (0, 0)))
    (hC : ∀ j, j < k → C[j]? = some (.string (ss.getD j ByteArray.empty))) (hCs : C.size = ss.length) (hB : Below w.heap.size w wr) :
    ∃ k' : Nat, ∃ C : Array Value, k' ≤ ss.length ∧ Value.int .i64 ((k : Int) + 1) = .int .i64 k' ∧ C.size = ss.length ∧ (wr.setCell ⟨w.heap.size, k, none⟩ (.string s)).heap[w.heap.size]? = some (.cells C 9 (0, 0)) ∧
      (∀ j, j < k' → C[j]? = some (.string (ss.getD j ByteArray.empty))) ∧ Below w.heap.size w (wr.setCell ⟨w.heap.size, k, none⟩ (.string s)) := by
  refine ⟨k + 1, _, hlt, rfl, ?_, heap_setCell_same _ _ _ _ _ _ hb, fun j hj => ?_, hB.setCell (Nat.le_refl _) _⟩
  · simpa using hCs
  · by_cases e : k = j
    · subst e
      rw [Array.getElem?_setIfInBounds_self_of_lt (by omega), hs]
    · rw [Array.getElem?_setIfInBounds_ne e]
      exact hC j (by omega)

set_option maxHeartbeats 400000 in
theorem copy_some (x : Addr) (ss : List ByteArray) (cap : Nat) (w : World) (hr : SRd w (some x) ss) (hl : ss.length ≤ 65536) :
    Calls Try.prog 14 #[.slice (some x) ss.length cap] w fun e w' => e = .returned (.slice (some ⟨w.heap.size, 0, none⟩) ss.length ss.length) ∧ SB w' (some ⟨w.heap.size, 0, none⟩) ss ∧ Below w.heap.size w w' := by
  have hq := fun w => Lib.run_eql_slice_nil (P := Try.prog) w 22 9 (some x) ss.length cap 0 0 Try.underlying22
  obtain ⟨i0, hi, hz0, hz1, hz2⟩ := info_parts Try.info9
  have hmk := run_make (P := Try.prog) w 22 9 i0 (.string ByteArray.empty) Try.underlying22 hi hz0 .i64 .i64 ss.length ss.length (by omega) (by omega) (by rw [hz2]; omega) (by omega)
  rw [hz1] at hmk
  simp only [Int.toNat_natCast, Nat.mul_one] at hmk
  have HR : Hid (SRd w (some x) ss) := hr
  clear hr
  go_enter Try.func14, Try.ntmps14
  go_wp2
  clear hmk hq
  go_loopw [4] (fun v wr => ∃ k : Nat, ∃ C : Array Value, k ≤ ss.length ∧ v = .int .i64 k ∧ C.size = ss.length ∧ wr.heap[w.heap.size]? = some (.cells C 9 (0, 0)) ∧ (∀ j, j < k → C[j]? = some (.string (ss.getD j ByteArray.empty))) ∧ Below w.heap.size w wr) (fun v _ => ss.length - (intOf v).toNat)
  case atStart => exact ⟨0, _, Nat.zero_le _, rfl, size_madeCells _ _, heap_alloc_new _ _, fun j hj => by omega, (Below.refl _ _).alloc (Nat.le_refl _) _⟩
  case round =>
    obtain ⟨k, C, hk, rfl, hCs, hblk, hC, hB⟩ := hrel
    by_cases hlt : k < ss.length
    · obtain ⟨b, off, ha, hc⟩ := HR.out.at_ hlt
      have ha' : x = ⟨b, off, none⟩ := by simpa using ha
      have hck := hc k hlt
      obtain ⟨s, hs⟩ : ∃ s, s = ss.getD k ByteArray.empty := ⟨_, rfl⟩
      rw [← hs] at hck
      have hck2 : wr.cell? ⟨b, off + k, none⟩ = some (.string s) := (hB.cell (lt_of_cell hck)).trans hck
      have hold : wr.cell? ⟨w.heap.size, k, none⟩ = C[k]? := by simp [World.cell?, hblk]
      obtain ⟨o, ho⟩ : ∃ o, C[k]? = some o := ⟨_, Array.getElem?_eq_getElem (by omega)⟩
      rw [ho] at hold
      have hfz : wr.frozen? ⟨w.heap.size, k, none⟩ = false := by simp [World.frozen?, hblk]
      have HS : Hid (s = ss.getD k ByteArray.empty) := hs
      have HBL : Hid (wr.heap[w.heap.size]? = some (.cells C 9 (0, 0))) := hblk
      have HCJ : Hid (∀ j, j < k → C[j]? = some (.string (ss.getD j ByteArray.empty))) := hC
      have HCS : Hid (C.size = ss.length) := hCs
      clear hc ha hck hs hblk hC ho hCs
      go_wp2
      go_roundw
      case rel => exact copy_rel hlt HS.out HBL.out HCJ.out HCS.out hB
      case measure => simp [intOf]; omega
    · obtain rfl : k = ss.length := by omega
      go_wp2
      go_ret
      exact ⟨rfl, .inr ⟨_, C, _, rfl, hblk, hC⟩, hB⟩

/-- 'zzCopy', whatever the slice. -/
theorem copy_any (a : Option Addr) (ss : List ByteArray) (cap : Nat) (w : World) (hr : SRd w a ss) (hn : a = none → ss = []) (hl : ss.length ≤ 65536) :
    Calls Try.prog 14 #[.slice a ss.length cap] w fun e w' => ∃ a' c', e = .returned (.slice a' ss.length c') ∧ a'.isNone = a.isNone ∧ (a' = none → ss.length = 0 ∧ c' = 0) ∧ c' ≤ ss.length ∧ SB w' a' ss ∧ Below w.heap.size w w' := by
  cases a with
  | none =>
    obtain rfl := hn rfl
    refine (copy_nil w cap).mono ?_
    rintro e w' ⟨rfl, rfl⟩
    exact ⟨none, 0, rfl, rfl, fun _ => ⟨rfl, rfl⟩, Nat.le_refl _, .inl rfl, Below.refl _ _⟩
  | some x =>
    refine (copy_some x ss cap w hr hl).mono ?_
    rintro e w' ⟨rfl, h1, h2⟩
    exact ⟨_, _, rfl, rfl, fun h => (by cases h), Nat.le_refl _, h1, h2⟩
end Go.Proofs.Qxb6602990a
