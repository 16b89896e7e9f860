import Derived.Test.Qxb6602919aRows
import Derived.WalkKit
import Derived.WalkSpells
import Derived.WalkLawsBesides
import Derived.Laws.IdiomStrings
namespace Go.Proofs.Qxb6602919a
open Go.RowKit

def okAt (i : Nat) (c : Nat) : Bool :=
  if i = 8 ∨ i = 13 ∨ i = 18 ∨ i = 23 then c == 45 else decide (48 ≤ c ∧ c ≤ 57) || decide (97 ≤ c ∧ c ≤ 102)

def bootB (l : List UInt8) : Bool := l.length == 36 && (List.range 36).all fun i => okAt i (l.getD i 0).toNat

theorem okAt_hy (i c : Nat) (h : i = 8 ∨ i = 13 ∨ i = 18 ∨ i = 23) : okAt i c = true ↔ c = 45 := by
  unfold okAt; rw [if_pos h]; simp
theorem okAt_hex (i c : Nat) (h : ¬ (i = 8 ∨ i = 13 ∨ i = 18 ∨ i = 23)) : okAt i c = true ↔ ((48 ≤ c ∧ c ≤ 57) ∨ (97 ≤ c ∧ c ≤ 102)) := by
  unfold okAt; rw [if_neg h]; simp

theorem bootB_len {l : List UInt8} (h : l.length ≠ 36) : bootB l = false := by unfold bootB; simp [h]
theorem bootB_all {l : List UInt8} (h : l.length = 36) (ha : ∀ i, i < 36 → okAt i (l.getD i 0).toNat = true) : bootB l = true := by
  unfold bootB; simp only [h, beq_self_eq_true, Bool.true_and, List.all_eq_true, List.mem_range]; exact ha
theorem bootB_no {l : List UInt8} (i : Nat) (hi : i < 36) (ha : okAt i (l.getD i 0).toNat = false) : bootB l = false := by
  unfold bootB
  rw [Bool.and_eq_false_iff]
  right
  rw [List.all_eq_false]
  exact ⟨i, by simpa using hi, by rw [ha]; simp⟩

theorem hy_yes (k c : Nat) (h : k = 8 ∨ k = 13 ∨ k = 18 ∨ k = 23) (hc : ((c : Int) != 45) = false) : okAt k c = true := by
  rw [okAt_hy k c h]; simp at hc; omega
theorem hy_no (k c : Nat) (h : k = 8 ∨ k = 13 ∨ k = 18 ∨ k = 23) (hc : ((c : Int) != 45) = true) : okAt k c = false := by
  rw [← Bool.not_eq_true, okAt_hy k c h]; simp at hc; omega

theorem step {p : Nat → Prop} {k : Nat} (h : ∀ j, j < k → p j) (hk : p k) : ∀ j, j < k + 1 → p j := fun j hj => by
  rcases Nat.lt_or_ge j k with h' | h'
  · exact h j h'
  · obtain rfl : j = k := by omega
    exact hk

theorem ret_bool {a b : Bool} (h : a = b) : Ending.returned (.bool a) = .returned (.bool b) := by rw [h]

set_option maxHeartbeats 400000 in
theorem boot_short (s : ByteArray) (w : World) (_hs : s.size ≤ 9223372036854775807) (hn : s.size ≠ 36) :
    Calls Try.prog 26 #[.string s] w fun e w' => e = .returned (.bool (bootB s.data.toList)) ∧ Below w.heap.size w w' := by
  have hb : bootB s.data.toList = false := bootB_len (by simpa using hn)
  go_enter Try.func26, Try.ntmps26
  go_wp2
  go_ret
  exact ⟨ret_bool hb.symm, Below.refl _ _⟩

set_option maxHeartbeats 400000 in
theorem boot_full (s : ByteArray) (w : World) (cap : Nat) (C : Array Value) (hn : s.size = 36)
    (hC : ∀ j, j < 36 → C[j]? = some (.int .u8 ((s.data.toList.getD j 0).toNat : Int)))
    (hconv : (convert 9 26 (.string s)).run Try.prog w = .ok (.slice (some ⟨w.heap.size, 0, none⟩) s.size cap) (w.drew.alloc (.cells C 5 (C.size, C.size + 1)))) :
    Calls Try.prog 26 #[.string s] w fun e w' => e = .returned (.bool (bootB s.data.toList)) ∧ Below w.heap.size w w' := by
  have hcell : ∀ j, j < 36 → (w.alloc (.cells C 5 (C.size, C.size + 1))).cell? ⟨w.heap.size, j, none⟩ = some (.int .u8 ((s.data.toList.getD j 0).toNat : Int)) := fun j hj => by
    rw [World.cell?_alloc_mark]; exact hC j hj
  have hB : Below w.heap.size w (w.alloc (.cells C 5 (C.size, C.size + 1))).drew := ((Below.refl _ _).alloc (Nat.le_refl _) _).drew
  clear hC
  go_enter Try.func26, Try.ntmps26
  go_wp2
  clear hconv
  go_loop [11] (fun i => ∃ k : Nat, k ≤ 36 ∧ i = .int .i64 k ∧ ∀ j, j < k → okAt j (s.data.toList.getD j 0).toNat = true) (fun i => 36 - (intOf i).toNat)
  case atStart => exact ⟨0, Nat.zero_le _, rfl, fun j hj => by omega⟩
  case round =>
    obtain ⟨k, hk, rfl, hall⟩ := hrel
    by_cases hlt : k < 36
    · obtain ⟨c, hc⟩ : ∃ c : Nat, c = (s.data.toList.getD k 0).toNat := ⟨_, rfl⟩
      have hck := hcell k hlt
      rw [← hc] at hck
      have HC : Hid (c = (s.data.toList.getD k 0).toNat) := hc
      have HA : Hid (∀ j, j < k → okAt j (s.data.toList.getD j 0).toNat = true) := hall
      clear hcell hc hall
      by_cases hy : k = 8 ∨ k = 13 ∨ k = 18 ∨ k = 23
      · go_wp2
        all_goals first
          | (go_ret; exact ⟨ret_bool (bootB_no k hlt (by rw [← HC.out]; exact hy_no k c hy ‹_›)).symm, hB⟩)
          | (go_round
             case rel => exact ⟨k + 1, by omega, by go_num, step HA.out (by rw [← HC.out]; exact hy_yes k c hy ‹_›)⟩
             case measure => simp [intOf]; omega)
      · by_cases hgood : (48 ≤ c ∧ c ≤ 57) ∨ (97 ≤ c ∧ c ≤ 102)
        · have hok : okAt k (s.data.toList.getD k 0).toNat = true := by rw [← HC.out, okAt_hex k c hy]; exact hgood
          have HO : Hid (okAt k (s.data.toList.getD k 0).toNat = true) := hok
          clear hok
          rcases hgood with ⟨h1, h2⟩ | ⟨h1, h2⟩
          · go_wp2
            go_round
            case rel => exact ⟨k + 1, by omega, by go_num, step HA.out HO.out⟩
            case measure => simp [intOf]; omega
          · have e1 : decide ((c : Int) ≤ 57) = false := decide_eq_false (by omega)
            have e2 : decide ((c : Int) ≤ 102) = true := decide_eq_true (by omega)
            go_wp2
            go_round
            case rel => exact ⟨k + 1, by omega, by go_num, step HA.out HO.out⟩
            case measure => simp [intOf]; omega
        · have hok : okAt k (s.data.toList.getD k 0).toNat = false := by rw [← HC.out, ← Bool.not_eq_true, okAt_hex k c hy]; exact hgood
          have HO : Hid (okAt k (s.data.toList.getD k 0).toNat = false) := hok
          clear hok
          rcases (show c < 48 ∨ (57 < c ∧ c < 97) ∨ 102 < c by omega) with h1 | ⟨h1, h2⟩ | h1
          all_goals clear hgood
          · go_wp2
            go_ret
            exact ⟨ret_bool (bootB_no k hlt HO.out).symm, hB⟩
          · have e1 : decide ((c : Int) ≤ 57) = false := decide_eq_false (by omega)
            go_wp2
            go_ret
            exact ⟨ret_bool (bootB_no k hlt HO.out).symm, hB⟩
          · have e1 : decide ((c : Int) ≤ 57) = false := decide_eq_false (by omega)
            have e2 : decide ((c : Int) ≤ 102) = false := decide_eq_false (by omega)
            go_wp2
            go_ret
            exact ⟨ret_bool (bootB_no k hlt HO.out).symm, hB⟩
    · go_wp2
      obtain rfl : k = 36 := by omega
      go_ret
      exact ⟨ret_bool (bootB_all (by simpa using hn) hall).symm, hB⟩

theorem boot_any (s : ByteArray) (w : World) (hs : s.size ≤ 9223372036854775807) :
    Calls Try.prog 26 #[.string s] w fun e w' => e = .returned (.bool (bootB s.data.toList)) ∧ Below w.heap.size w w' := by
  by_cases hn : s.size = 36
  · refine boot_full s w _ _ hn (fun j hj => ?_) (run_bytes_of_string w 9 26 5 s Try.underlying9 Try.underlying26 Try.underlying5)
    have hj' : j < s.data.size := by have : s.data.size = s.size := rfl; omega
    rw [bytesRow_at s _ j hj']
    simp [List.getD, Array.getElem?_eq_getElem hj']
  · exact boot_short s w hs hn

set_option maxHeartbeats 400000 in
theorem zzboot_any (s : ByteArray) (w : World) (hs : s.size ≤ 9223372036854775807) :
    Calls Try.prog 10 #[.string s] w fun e w' => e = .returned (.bool (bootB s.data.toList)) ∧ Below w.heap.size w w' := by
  go_enter Try.func10, Try.ntmps10
  go_wp2_with (go_at_call 26; refine (boot_any _ _ hs).mono ?_; rintro e w' ⟨rfl, hb⟩)
  go_ret
  exact ⟨rfl, ‹_›⟩

theorem zzboot_is (s : ByteArray) (w : World) (b : Bool) (hs : s.size ≤ 9223372036854775807) (hb : bootB s.data.toList = b) :
    Calls Try.prog 10 #[.string s] w fun e w' => e = .returned (.bool b) ∧ Below w.heap.size w w' := hb ▸ zzboot_any s w hs
end Go.Proofs.Qxb6602919a
