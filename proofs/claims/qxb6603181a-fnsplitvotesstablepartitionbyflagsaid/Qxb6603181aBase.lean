import Derived.Test.Qxb6603181aRows
import Derived.WalkKit
import Derived.WalkSpells
import Derived.WalkLawsBesides
import Derived.Deep.QuietTactic
import Derived.BigQuiet
namespace Go.Proofs.Qxb6603181a
open Go.RowKit

theorem eq_t {a b : Int} (h : a = b) : (a == b) = true := by simp [h]
theorem eq_f {a b : Int} (h : a ≠ b) : (a == b) = false := by simp [h]
theorem ne_t {a b : Int} (h : a ≠ b) : (a != b) = true := by simp [h]
theorem ne_f {a b : Int} (h : a = b) : (a != b) = false := by simp [h]
theorem tr {W a b : World} (h1 : Below W.heap.size W a) (h2 : Below a.heap.size a b) : Below W.heap.size W b := h1.trans (h2.mono h1.size)
theorem lt_of_cell {w : World} {a : Addr} {v : Value} (h : w.cell? a = some v) : a.block < w.heap.size := by
  rcases Nat.lt_or_ge a.block w.heap.size with h' | h'
  · exact h'
  · simp [World.cell?, Array.getElem?_eq_none h'] at h

/-- A server: three strings and a flag. -/
structure Mem where
  id : ByteArray
  addr : ByteArray
  api : ByteArray
  nv : Bool
def mem0 : Mem := ⟨ByteArray.empty, ByteArray.empty, ByteArray.empty, false⟩
def Mem.small (m : Mem) : Prop := m.id.size ≤ 9223372036854775807 ∧ m.addr.size ≤ 9223372036854775807 ∧ m.api.size ≤ 9223372036854775807

/-- A slice of servers that can be read. -/
def MRd (w : World) (a : Option Addr) (ms : List Mem) : Prop :=
  ms = [] ∨ ∃ b off, a = some ⟨b, off, none⟩ ∧ ∀ j, j < ms.length → w.cell? ⟨b, off + j * 4, none⟩ = some (.string (ms.getD j mem0).id) ∧ w.cell? ⟨b, off + j * 4 + 1, none⟩ = some (.string (ms.getD j mem0).addr) ∧
    w.cell? ⟨b, off + j * 4 + 2, none⟩ = some (.string (ms.getD j mem0).api) ∧ w.cell? ⟨b, off + j * 4 + 3, none⟩ = some (.bool (ms.getD j mem0).nv)

def SomeBool (e : Ending) : Prop := ∃ b : Bool, e = .returned (.bool b)

set_option maxHeartbeats 400000 in
theorem add_any (t l : Int) (w : World) (ht : 0 ≤ t) (ht2 : t ≤ 1048577) (hl : 0 ≤ l) :
    Calls Try.prog 14 #[.int .i64 t, .int .i64 l] w fun e w' => ∃ n : Int, e = .returned (.int .i64 n) ∧ 0 ≤ n ∧ n ≤ 1048577 ∧ w' = w := by
  by_cases h1 : 1048576 < l
  · have e1 : decide ((1048576 : Int) < l) = true := decide_eq_true h1
    go_enter Try.func14, Try.ntmps14
    go_wp2
    go_ret
    exact ⟨1048577, rfl, by omega, by omega, rfl⟩
  · have e1 : decide ((1048576 : Int) < l) = false := decide_eq_false h1
    by_cases h2 : 1048576 < t
    · have e2 : decide ((1048576 : Int) < t) = true := decide_eq_true h2
      go_enter Try.func14, Try.ntmps14
      go_wp2
      go_ret
      exact ⟨1048577, rfl, by omega, by omega, rfl⟩
    · have e2 : decide ((1048576 : Int) < t) = false := decide_eq_false h2
      by_cases h3 : 1048576 < t + l
      · go_enter Try.func14, Try.ntmps14
        go_wp2
        go_ret
        exact ⟨1048577, rfl, by omega, by omega, rfl⟩
      · go_enter Try.func14, Try.ntmps14
        go_wp2
        go_ret
        exact ⟨t + l, rfl, by omega, by omega, rfl⟩

set_option maxHeartbeats 400000 in
theorem bytes_any (a : Option Addr) (ms : List Mem) (cap : Nat) (w : World) (hr : MRd w a ms) (hz : ∀ m ∈ ms, m.small) (hl : ms.length ≤ 65536) :
    Calls Try.prog 7 #[.slice a ms.length cap] w fun e w' => ∃ n : Int, e = .returned (.int .i64 n) ∧ 0 ≤ n ∧ n ≤ 4000000 ∧ w' = w := by
  by_cases hbig : 1048576 < (ms.length : Int) * 56
  · clear hr hz
    go_enter Try.func7, Try.ntmps7
    go_wp2
    go_ret
    exact ⟨1048577, rfl, by omega, by omega, rfl⟩
  · rcases hr with rfl | ⟨b, off, rfl, hc⟩
    · simp only [List.length_nil]
      clear hz hl hbig
      go_enter Try.func7, Try.ntmps7
      go_wp2
      refine wp_loop_rounds 1 ?_
      rw [rounds_succ]
      go_wp2
      go_ret
      exact ⟨0, rfl, by omega, by omega, rfl⟩
    · go_enter Try.func7, Try.ntmps7
      go_wp2
      go_loop [3, 4] (fun u v => ∃ k : Nat, ∃ n : Int, k ≤ ms.length ∧ u = .int .i64 n ∧ v = .int .i64 k ∧ 0 ≤ n ∧ n ≤ 1048576) (fun _ v => ms.length - (intOf v).toNat)
      case atStart => exact ⟨0, _, Nat.zero_le _, rfl, rfl, by omega, by omega⟩
      case round =>
        obtain ⟨k, n, hk, rfl, rfl, hn1, hn2⟩ := hrel
        by_cases hlt : k < ms.length
        · obtain ⟨c0, c1, c2, c3⟩ := hc k hlt
          have hsm : (ms.getD k mem0).small := by
            have e : ms.getD k mem0 = ms[k] := by rw [List.getD, List.getElem?_eq_getElem hlt]; rfl
            rw [e]; exact hz _ (List.getElem_mem hlt)
          obtain ⟨m, hm⟩ : ∃ m, m = ms.getD k mem0 := ⟨_, rfl⟩
          rw [← hm] at c0 c1 c2 c3 hsm
          obtain ⟨z0, z1, z2⟩ := hsm
          clear hm hc hz
          go_wp2_with fail
          refine (add_any _ _ _ (by omega) (by omega) (by omega)).mono ?_
          rintro e w' ⟨n1, rfl, h1, h1', hw⟩
          subst hw
          go_wp2_with fail
          refine (add_any _ _ _ h1 h1' (by omega)).mono ?_
          rintro e w' ⟨n2, rfl, h2, h2', hw⟩
          subst hw
          go_wp2_with fail
          refine (add_any _ _ _ h2 h2' (by omega)).mono ?_
          rintro e w' ⟨n3, rfl, h3, h3', hw⟩
          subst hw
          by_cases h4 : 1048576 < n3
          · go_wp2
            go_ret
            exact ⟨1048577, rfl, by omega, by omega, rfl⟩
          · go_wp2
            go_round
            case rel => exact ⟨k + 1, n3, by omega, rfl, by go_num, by omega, by omega⟩
            case measure => simp [intOf]; omega
        · clear hc hz
          go_wp2
          go_ret
          exact ⟨n, rfl, hn1, by omega, rfl⟩

set_option maxHeartbeats 1000000 in
theorem sums_any (a : Option Addr) (ms : List Mem) (cap : Nat) (w : World) (hr : MRd w a ms) (hz : ∀ m ∈ ms, m.small) (hl : ms.length ≤ 9223372036854775807) :
    Calls Try.prog 6 #[.slice a ms.length cap] w fun e w' => SomeBool e ∧ w' = w := by
  by_cases hbig : 1048576 < ms.length
  · clear hr hz
    go_enter Try.func6, Try.ntmps6
    go_wp2
    go_ret
    exact ⟨⟨false, rfl⟩, rfl⟩
  · rcases hr with rfl | ⟨b, off, rfl, hc⟩
    · simp only [List.length_nil]
      clear hz hl hbig
      go_enter Try.func6, Try.ntmps6
      go_wp2
      refine wp_loop_rounds 1 ?_
      rw [rounds_succ]
      go_wp2
      go_ret
      exact ⟨⟨true, rfl⟩, rfl⟩
    · go_enter Try.func6, Try.ntmps6
      go_wp2
      go_loop [3, 4] (fun u v => ∃ k : Nat, ∃ n : Int, k ≤ ms.length ∧ u = .int .i64 n ∧ v = .int .i64 k ∧ 0 ≤ n ∧ n ≤ 1048576) (fun _ v => ms.length - (intOf v).toNat)
      case atStart => exact ⟨0, _, Nat.zero_le _, rfl, rfl, by omega, by omega⟩
      case round =>
        obtain ⟨k, n, hk, rfl, rfl, hn1, hn2⟩ := hrel
        by_cases hlt : k < ms.length
        · obtain ⟨c0, c1, c2, c3⟩ := hc k hlt
          have hsm : (ms.getD k mem0).small := by
            have e : ms.getD k mem0 = ms[k] := by rw [List.getD, List.getElem?_eq_getElem hlt]; rfl
            rw [e]; exact hz _ (List.getElem_mem hlt)
          obtain ⟨m, hm⟩ : ∃ m, m = ms.getD k mem0 := ⟨_, rfl⟩
          rw [← hm] at c0 c1 c2 c3 hsm
          obtain ⟨z0, z1, z2⟩ := hsm
          clear hm hc hz c3
          go_wp2
          all_goals first
            | (go_ret; exact ⟨⟨false, rfl⟩, rfl⟩)
            | (go_round
               case rel => exact ⟨k + 1, _, by omega, rfl, by go_num, by omega, by omega⟩
               case measure => simp [intOf]; omega)
        · clear hc hz
          go_wp2
          go_ret
          exact ⟨⟨true, rfl⟩, rfl⟩
end Go.Proofs.Qxb6603181a
