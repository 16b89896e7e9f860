import Derived.Test.Qxb6603181aBase
import Derived.RegionTactic
import Derived.ChangeAlike
import Derived.BigRegion
namespace Go.Proofs.Qxb6603181a
open Go.RowKit

theorem Try.info30 : (Try.prog.info? 30).map (fun i => (i.zero, i.size, i.bytes)) = some (some (.agg #[.string ByteArray.empty, .string ByteArray.empty, .string ByteArray.empty, .bool false]), 4, 56) := by kernel_rfl

theorem MRd.at_ {w : World} {a : Option Addr} {ms : List Mem} (h : MRd w a ms) {k : Nat} (hk : k < ms.length) : ∃ b off, a = some ⟨b, off, none⟩ ∧ ∀ j, j < ms.length → w.cell? ⟨b, off + j * 4, none⟩ = some (.string (ms.getD j mem0).id) ∧ w.cell? ⟨b, off + j * 4 + 1, none⟩ = some (.string (ms.getD j mem0).addr) ∧
    w.cell? ⟨b, off + j * 4 + 2, none⟩ = some (.string (ms.getD j mem0).api) ∧ w.cell? ⟨b, off + j * 4 + 3, none⟩ = some (.bool (ms.getD j mem0).nv) := by
  rcases h with rfl | h
  · simp at hk
  · exact h

set_option maxHeartbeats 400000 in
theorem serv_nil (w : World) (cap : Nat) : Calls Try.prog 8 #[.slice none 0 cap] w fun e w' => e = .returned (.slice none 0 0) ∧ w' = w := by
  have hq := fun w => Lib.run_eql_slice_nil (P := Try.prog) w 22 34 none 0 cap 0 0 Try.underlying22
  go_enter Try.func8, Try.ntmps8
  go_wp2
  go_ret
  exact ⟨rfl, rfl⟩

def RowC (C : Array Value) (ms : List Mem) (k : Nat) : Prop := ∀ j, j < k → C[j * 4]? = some (.string (ms.getD j mem0).id) ∧ C[j * 4 + 1]? = some (.string (ms.getD j mem0).addr) ∧ C[j * 4 + 2]? = some (.string (ms.getD j mem0).api) ∧ C[j * 4 + 3]? = some (.bool (ms.getD j mem0).nv)

theorem RowC.rd {w : World} {g : Nat} {C : Array Value} {fr : Nat × Nat} {t : TypeId} {ms : List Mem} (h : RowC C ms ms.length) (hg : w.heap[g]? = some (.cells C t fr)) : MRd w (some ⟨g, 0, none⟩) ms := by
  refine .inr ⟨g, 0, rfl, fun j hj => ?_⟩
  obtain ⟨h0, h1, h2, h3⟩ := h j hj
  simp only [Nat.zero_add, World.cell?, hg]
  simp [h0, h1, h2, h3]

theorem serv_rel {ms : List Mem} {k : Nat} {C : Array Value} {w wr : World} {m : Mem} (hlt : k < ms.length) (hm : m = ms.getD k mem0) (hb : wr.heap[w.heap.size]? = some (.cells C 30 (0, 0)))
    (hC : RowC C ms k) (hCs : C.size = ms.length * 4) (hB : Below w.heap.size w wr) :
    ∃ k' : Nat, ∃ C : Array Value, k' ≤ ms.length ∧ Value.int .i64 ((k : Int) + 1) = .int .i64 k' ∧ C.size = ms.length * 4 ∧
      ((((wr.setCell ⟨w.heap.size, k * 4, none⟩ (.string m.id)).setCell ⟨w.heap.size, k * 4 + 1, none⟩ (.string m.addr)).setCell ⟨w.heap.size, k * 4 + 2, none⟩ (.string m.api)).setCell ⟨w.heap.size, k * 4 + 3, none⟩ (.bool m.nv)).drew.heap[w.heap.size]? = some (.cells C 30 (0, 0)) ∧
      RowC C ms k' ∧ Below w.heap.size w ((((wr.setCell ⟨w.heap.size, k * 4, none⟩ (.string m.id)).setCell ⟨w.heap.size, k * 4 + 1, none⟩ (.string m.addr)).setCell ⟨w.heap.size, k * 4 + 2, none⟩ (.string m.api)).setCell ⟨w.heap.size, k * 4 + 3, none⟩ (.bool m.nv)).drew := by
  have b1 := heap_setCell_same wr w.heap.size (k * 4) _ _ (.string m.id) hb
  have b2 := heap_setCell_same _ w.heap.size (k * 4 + 1) _ _ (.string m.addr) b1
  have b3 := heap_setCell_same _ w.heap.size (k * 4 + 2) _ _ (.string m.api) b2
  have b4 := heap_setCell_same _ w.heap.size (k * 4 + 3) _ _ (.bool m.nv) b3
  refine ⟨k + 1, _, hlt, rfl, ?_, b4, fun j hj => ?_, ((((hB.setCell (Nat.le_refl _) _).setCell (Nat.le_refl _) _).setCell (Nat.le_refl _) _).setCell (Nat.le_refl _) _).drew⟩
  · simp [hCs]
  · by_cases e : j = k
    · subst e
      rw [← hm]
      simp only [Array.getElem?_setIfInBounds, Array.size_setIfInBounds]
      refine ⟨?_, ?_, ?_, ?_⟩
      · rw [if_neg (by omega), if_neg (by omega), if_neg (by omega), if_pos trivial, if_pos (by omega)]
      · rw [if_neg (by omega), if_neg (by omega), if_pos trivial, if_pos (by omega)]
      · rw [if_neg (by omega), if_pos trivial, if_pos (by omega)]
      · rw [if_pos trivial, if_pos (by omega)]
    · have h := hC j (by omega)
      simp only [Array.getElem?_setIfInBounds, Array.size_setIfInBounds]
      refine ⟨?_, ?_, ?_, ?_⟩
      · rw [if_neg (by omega), if_neg (by omega), if_neg (by omega), if_neg (by omega)]; exact h.1
      · rw [if_neg (by omega), if_neg (by omega), if_neg (by omega), if_neg (by omega)]; exact h.2.1
      · rw [if_neg (by omega), if_neg (by omega), if_neg (by omega), if_neg (by omega)]; exact h.2.2.1
      · rw [if_neg (by omega), if_neg (by omega), if_neg (by omega), if_neg (by omega)]; exact h.2.2.2

set_option maxHeartbeats 1000000 in
theorem serv_some (x : Addr) (ms : List Mem) (cap : Nat) (w : World) (hr : MRd w (some x) ms) (hl : ms.length ≤ 65536) :
    Calls Try.prog 8 #[.slice (some x) ms.length cap] w fun e w' => e = .returned (.slice (some ⟨w.heap.size, 0, none⟩) ms.length ms.length) ∧ MRd w' (some ⟨w.heap.size, 0, none⟩) ms ∧ Below w.heap.size w w' := by
  have hq := fun w => Lib.run_eql_slice_nil (P := Try.prog) w 22 34 (some x) ms.length cap 0 0 Try.underlying22
  obtain ⟨i0, hi, hz0, hz1, hz2⟩ := info_parts Try.info30
  have hmk := run_make (P := Try.prog) w 25 30 i0 _ Try.underlying25 hi hz0 .i64 .i64 ms.length ms.length (by omega) (by omega) (by rw [hz2]; omega) (by omega)
  rw [hz1] at hmk
  simp only [Int.toNat_natCast] at hmk
  have HR : Hid (MRd w (some x) ms) := hr
  clear hr
  go_enter Try.func8, Try.ntmps8
  go_wp2
  clear hmk hq
  go_loopw [4] (fun v wr => ∃ k : Nat, ∃ C : Array Value, k ≤ ms.length ∧ v = .int .i64 k ∧ C.size = ms.length * 4 ∧ wr.heap[w.heap.size]? = some (.cells C 30 (0, 0)) ∧ RowC C ms k ∧ Below w.heap.size w wr) (fun v _ => ms.length - (intOf v).toNat)
  case atStart => exact ⟨0, _, Nat.zero_le _, rfl, size_madeCells _ _, heap_alloc_new _ _, (fun j hj => by omega), (Below.refl _ _).alloc (Nat.le_refl _) _⟩
  case round =>
    obtain ⟨k, C, hk, rfl, hCs, hblk, hC, hB⟩ := hrel
    by_cases hlt : k < ms.length
    · obtain ⟨b, off, ha, hc⟩ := HR.out.at_ hlt
      have ha' : x = ⟨b, off, none⟩ := by simpa using ha
      obtain ⟨c0, c1, c2, c3⟩ := hc k hlt
      obtain ⟨m, hm⟩ : ∃ m, m = ms.getD k mem0 := ⟨_, rfl⟩
      rw [← hm] at c0 c1 c2 c3
      have d0 : wr.cell? ⟨b, off + k * 4, none⟩ = some (.string m.id) := (hB.cell (lt_of_cell c0)).trans c0
      have d1 : wr.cell? ⟨b, off + k * 4 + 1, none⟩ = some (.string m.addr) := (hB.cell (lt_of_cell c1)).trans c1
      have d2 : wr.cell? ⟨b, off + k * 4 + 2, none⟩ = some (.string m.api) := (hB.cell (lt_of_cell c2)).trans c2
      have d3 : wr.cell? ⟨b, off + k * 4 + 3, none⟩ = some (.bool m.nv) := (hB.cell (lt_of_cell c3)).trans c3
      have hbne : b < w.heap.size := lt_of_cell c0
      have hold : ∀ j, j < 4 → ∃ o, wr.cell? ⟨w.heap.size, k * 4 + j, none⟩ = some o := fun j hj => by
        have : wr.cell? ⟨w.heap.size, k * 4 + j, none⟩ = C[k * 4 + j]? := by simp [World.cell?, hblk]
        rw [this]
        exact ⟨_, Array.getElem?_eq_getElem (by omega)⟩
      obtain ⟨o0, p0⟩ := hold 0 (by omega)
      obtain ⟨o1, p1⟩ := hold 1 (by omega)
      obtain ⟨o2, p2⟩ := hold 2 (by omega)
      obtain ⟨o3, p3⟩ := hold 3 (by omega)
      rw [Nat.add_zero] at p0
      have hfz : ∀ j, wr.frozen? ⟨w.heap.size, j, none⟩ = false := fun j => by simp [World.frozen?, hblk]
      have f0 := hfz (k * 4)
      have f1 := hfz (k * 4 + 1)
      have f2 := hfz (k * 4 + 2)
      have f3 := hfz (k * 4 + 3)
      have HBL : Hid (wr.heap[w.heap.size]? = some (.cells C 30 (0, 0))) := hblk
      have HCS : Hid (C.size = ms.length * 4) := hCs
      have HRC : Hid (RowC C ms k) := hC
      have HBB : Hid (Below w.heap.size w wr) := hB
      have HM : Hid (m = ms.getD k mem0) := hm
      clear hc ha c0 c1 c2 c3 hm hblk hCs hold hfz hB hC
      go_wp2
      go_region
      go_wp2
      go_roundw
      case rel => exact serv_rel hlt HM.out HBL.out HRC.out HCS.out HBB.out
      case measure => simp [intOf]; omega
    · obtain rfl : k = ms.length := by omega
      go_wp2
      go_ret
      exact ⟨rfl, hC.rd hblk, hB⟩

/-- 'toServers', whatever the slice. -/
theorem serv_any (a : Option Addr) (ms : List Mem) (cap : Nat) (w : World) (hr : MRd w a ms) (hn : a = none → ms = []) (hl : ms.length ≤ 65536) :
    Calls Try.prog 8 #[.slice a ms.length cap] w fun e w' => ∃ a', e = .returned (.slice a' ms.length ms.length) ∧ MRd w' a' ms ∧ ((a' = none ∧ ms = []) ∨ a' = some ⟨w.heap.size, 0, none⟩) ∧ Below w.heap.size w w' := by
  cases a with
  | none =>
    obtain rfl := hn rfl
    refine (serv_nil w cap).mono ?_
    rintro e w' ⟨rfl, rfl⟩
    exact ⟨none, rfl, .inl rfl, .inl ⟨rfl, rfl⟩, Below.refl _ _⟩
  | some x =>
    refine (serv_some x ms cap w hr hl).mono ?_
    rintro e w' ⟨rfl, h1, h2⟩
    exact ⟨_, rfl, h1, .inr rfl, h2⟩
end Go.Proofs.Qxb6603181a
