import Derived.Test.Qxb6602919aRows
import Derived.WalkKit
import Derived.WalkSpells
import Derived.WalkLawsBesides
import Derived.Laws.IdiomStrings
namespace Go.Proofs.Qxb6602919a.Ident
open Go.RowKit

def okC (c : Nat) : Bool := decide (48 ≤ c ∧ c ≤ 57) || decide (97 ≤ c ∧ c ≤ 122) || decide (65 ≤ c ∧ c ≤ 90) || c == 45
def allC (l : List UInt8) : Bool := l.all fun c => okC c.toNat
def identB (l : List UInt8) : Bool := !l.isEmpty && allC l

theorem okC_iff (c : Nat) : okC c = true ↔ ((48 ≤ c ∧ c ≤ 57) ∨ (97 ≤ c ∧ c ≤ 122) ∨ (65 ≤ c ∧ c ≤ 90) ∨ c = 45) := by
  unfold okC; simp [or_assoc]
theorem allC_iff (l : List UInt8) : allC l = true ↔ ∀ j, j < l.length → okC (l.getD j 0).toNat = true := by
  unfold allC
  rw [List.all_eq_true]
  constructor
  · intro h j hj
    have e : l.getD j 0 = l[j] := by simp [List.getD, hj]
    rw [e]; exact h _ (List.getElem_mem hj)
  · intro h x hx
    obtain ⟨j, hj, rfl⟩ := List.getElem_of_mem hx
    have e : l.getD j 0 = l[j] := by simp [List.getD, hj]
    rw [← e]; exact h j hj
theorem identB_no {l : List UInt8} (j : Nat) (hj : j < l.length) (h : okC (l.getD j 0).toNat = false) : identB l = false := by
  have : ¬ allC l = true := fun ha => by rw [allC_iff] at ha; have := ha j hj; rw [h] at this; cases this
  unfold identB; simp [Bool.not_eq_true] at this; simp [this]
theorem identB_yes {l : List UInt8} (hl : 0 < l.length) (h : ∀ j, j < l.length → okC (l.getD j 0).toNat = true) : identB l = true := by
  unfold identB; rw [(allC_iff l).2 h]; cases l <;> simp_all

theorem step {p : Nat → Prop} {k : Nat} (h : ∀ j, j < k → p j) (hk : p k) : ∀ j, j < k + 1 → p j := fun j hj => by
  rcases Nat.lt_or_ge j k with h' | h'
  · exact h j h'
  · obtain rfl : j = k := by omega
    exact hk
theorem ret_bool {a b : Bool} (h : a = b) : Ending.returned (.bool a) = .returned (.bool b) := by rw [h]

theorem emp_true (s : ByteArray) (h : s.size = 0) : s.toList.isEmpty = true := by
  rw [ByteArray.toList_eq]
  exact List.isEmpty_iff_length_eq_zero.2 h
theorem emp_false (s : ByteArray) (h : 0 < s.size) : s.toList.isEmpty = false := by
  rw [ByteArray.toList_eq]
  have : 0 < s.data.toList.length := h
  cases e : s.data.toList
  · rw [e] at this; simp at this
  · rfl

set_option maxHeartbeats 400000 in
theorem ident_empty (s : ByteArray) (w : World) (hn : s.size = 0) :
    Calls Try.prog 29 #[.string s] w fun e w' => e = .returned (.bool (identB s.data.toList)) ∧ Below w.heap.size w w' := by
  have he := emp_true s hn
  have hi : identB s.data.toList = false := by unfold identB; rw [← ByteArray.toList_eq, he]; rfl
  go_enter Try.func29, Try.ntmps29
  go_wp2
  go_ret
  exact ⟨ret_bool hi.symm, Below.refl _ _⟩

set_option maxHeartbeats 2000000 in
theorem ident_full (s : ByteArray) (w : World) (cap : Nat) (C : Array Value) (hn : 0 < s.size) (hs : s.size ≤ 9000000000000000000)
    (hC : ∀ j, j < s.size → C[j]? = some (.int .u8 ((s.data.toList.getD j 0).toNat : Int)))
    (hconv : (convert 9 26 (.string s)).run Try.prog w = .ok (.slice (some ⟨w.heap.size, 0, none⟩) s.size cap) (w.drew.alloc (.cells C 5 (C.size, C.size + 1)))) :
    Calls Try.prog 29 #[.string s] w fun e w' => e = .returned (.bool (identB s.data.toList)) ∧ Below w.heap.size w w' := by
  have hcell : ∀ j, j < s.size → (w.alloc (.cells C 5 (C.size, C.size + 1))).cell? ⟨w.heap.size, j, none⟩ = some (.int .u8 ((s.data.toList.getD j 0).toNat : Int)) := fun j hj => by
    rw [World.cell?_alloc_mark]; exact hC j hj
  have hB : Below w.heap.size w (w.alloc (.cells C 5 (C.size, C.size + 1))).drew := ((Below.refl _ _).alloc (Nat.le_refl _) _).drew
  clear hC
  have he := emp_false s hn
  go_enter Try.func29, Try.ntmps29
  go_wp2
  clear hconv he
  go_loop [10] (fun i => ∃ k : Nat, k ≤ s.size ∧ i = .int .i64 k ∧ ∀ j, j < k → okC (s.data.toList.getD j 0).toNat = true) (fun i => s.size - (intOf i).toNat)
  case atStart => exact ⟨0, Nat.zero_le _, rfl, fun j hj => by omega⟩
  case round =>
    obtain ⟨k, hk, rfl, hall⟩ := hrel
    by_cases hlt : k < s.size
    · obtain ⟨c, hc⟩ : ∃ c : Nat, c = (s.data.toList.getD k 0).toNat := ⟨_, rfl⟩
      have hck := hcell k hlt
      rw [← hc] at hck
      have hcl : c ≤ 255 := by rw [hc]; have := UInt8.toNat_lt (s.data.toList.getD k 0); omega
      have HC : Hid (c = (s.data.toList.getD k 0).toNat) := hc
      have HA : Hid (∀ j, j < k → okC (s.data.toList.getD j 0).toNat = true) := hall
      clear hcell hc hall
      by_cases hg : okC c = true
      · have HO : Hid (okC (s.data.toList.getD k 0).toNat = true) := by rw [← HC.out]; exact hg
        rw [okC_iff] at hg
        rcases (show (48 ≤ c ∧ c ≤ 57) ∨ (97 ≤ c ∧ c ≤ 122) ∨ (65 ≤ c ∧ c ≤ 90) ∨ (45 ≤ c ∧ c ≤ 45) by omega) with hgood | hgood | hgood | hgood <;> clear hg
        · obtain ⟨h1, h2⟩ := hgood
          have e0 : decide ((48 : Int) ≤ (c : Int)) = true := decide_eq_true (by omega)
          have e1 : decide ((c : Int) ≤ 57) = true := decide_eq_true (by omega)
          have e2 : decide ((97 : Int) ≤ (c : Int)) = false := decide_eq_false (by omega)
          have e3 : decide ((c : Int) ≤ 122) = true := decide_eq_true (by omega)
          have e4 : decide ((65 : Int) ≤ (c : Int)) = false := decide_eq_false (by omega)
          have e5 : decide ((c : Int) ≤ 90) = true := decide_eq_true (by omega)
          have e6 : ((c : Int) == 45) = false := by simp; omega
          go_wp2
          go_round
          case rel => exact ⟨k + 1, by omega, by go_num, step HA.out HO.out⟩
          case measure => simp [intOf]; omega
        · obtain ⟨h1, h2⟩ := hgood
          have e0 : decide ((48 : Int) ≤ (c : Int)) = true := decide_eq_true (by omega)
          have e1 : decide ((c : Int) ≤ 57) = false := decide_eq_false (by omega)
          have e2 : decide ((97 : Int) ≤ (c : Int)) = true := decide_eq_true (by omega)
          have e3 : decide ((c : Int) ≤ 122) = true := decide_eq_true (by omega)
          have e4 : decide ((65 : Int) ≤ (c : Int)) = true := decide_eq_true (by omega)
          have e5 : decide ((c : Int) ≤ 90) = false := decide_eq_false (by omega)
          have e6 : ((c : Int) == 45) = false := by simp; omega
          go_wp2
          go_round
          case rel => exact ⟨k + 1, by omega, by go_num, step HA.out HO.out⟩
          case measure => simp [intOf]; omega
        · obtain ⟨h1, h2⟩ := hgood
          have e0 : decide ((48 : Int) ≤ (c : Int)) = true := decide_eq_true (by omega)
          have e1 : decide ((c : Int) ≤ 57) = false := decide_eq_false (by omega)
          have e2 : decide ((97 : Int) ≤ (c : Int)) = false := decide_eq_false (by omega)
          have e3 : decide ((c : Int) ≤ 122) = true := decide_eq_true (by omega)
          have e4 : decide ((65 : Int) ≤ (c : Int)) = true := decide_eq_true (by omega)
          have e5 : decide ((c : Int) ≤ 90) = true := decide_eq_true (by omega)
          have e6 : ((c : Int) == 45) = false := by simp; omega
          go_wp2
          go_round
          case rel => exact ⟨k + 1, by omega, by go_num, step HA.out HO.out⟩
          case measure => simp [intOf]; omega
        · obtain ⟨h1, h2⟩ := hgood
          have e0 : decide ((48 : Int) ≤ (c : Int)) = false := decide_eq_false (by omega)
          have e1 : decide ((c : Int) ≤ 57) = true := decide_eq_true (by omega)
          have e2 : decide ((97 : Int) ≤ (c : Int)) = false := decide_eq_false (by omega)
          have e3 : decide ((c : Int) ≤ 122) = true := decide_eq_true (by omega)
          have e4 : decide ((65 : Int) ≤ (c : Int)) = false := decide_eq_false (by omega)
          have e5 : decide ((c : Int) ≤ 90) = true := decide_eq_true (by omega)
          have e6 : ((c : Int) == 45) = true := by simp; omega
          go_wp2
          go_round
          case rel => exact ⟨k + 1, by omega, by go_num, step HA.out HO.out⟩
          case measure => simp [intOf]; omega
      · have HO : Hid (okC (s.data.toList.getD k 0).toNat = false) := by rw [← HC.out]; exact Bool.not_eq_true _ ▸ hg
        rw [okC_iff] at hg
        rcases (show (0 ≤ c ∧ c ≤ 44) ∨ (46 ≤ c ∧ c ≤ 47) ∨ (58 ≤ c ∧ c ≤ 64) ∨ (91 ≤ c ∧ c ≤ 96) ∨ (123 ≤ c ∧ c ≤ 255) by omega) with hbad | hbad | hbad | hbad | hbad <;> clear hg
        · obtain ⟨h1, h2⟩ := hbad
          have e0 : decide ((48 : Int) ≤ (c : Int)) = false := decide_eq_false (by omega)
          have e1 : decide ((c : Int) ≤ 57) = true := decide_eq_true (by omega)
          have e2 : decide ((97 : Int) ≤ (c : Int)) = false := decide_eq_false (by omega)
          have e3 : decide ((c : Int) ≤ 122) = true := decide_eq_true (by omega)
          have e4 : decide ((65 : Int) ≤ (c : Int)) = false := decide_eq_false (by omega)
          have e5 : decide ((c : Int) ≤ 90) = true := decide_eq_true (by omega)
          have e6 : ((c : Int) == 45) = false := by simp; omega
          go_wp2
          go_ret
          exact ⟨ret_bool (identB_no k (by simpa using hlt) HO.out).symm, hB⟩
        · obtain ⟨h1, h2⟩ := hbad
          have e0 : decide ((48 : Int) ≤ (c : Int)) = false := decide_eq_false (by omega)
          have e1 : decide ((c : Int) ≤ 57) = true := decide_eq_true (by omega)
          have e2 : decide ((97 : Int) ≤ (c : Int)) = false := decide_eq_false (by omega)
          have e3 : decide ((c : Int) ≤ 122) = true := decide_eq_true (by omega)
          have e4 : decide ((65 : Int) ≤ (c : Int)) = false := decide_eq_false (by omega)
          have e5 : decide ((c : Int) ≤ 90) = true := decide_eq_true (by omega)
          have e6 : ((c : Int) == 45) = false := by simp; omega
          go_wp2
          go_ret
          exact ⟨ret_bool (identB_no k (by simpa using hlt) HO.out).symm, hB⟩
        · obtain ⟨h1, h2⟩ := hbad
          have e0 : decide ((48 : Int) ≤ (c : Int)) = true := decide_eq_true (by omega)
          have e1 : decide ((c : Int) ≤ 57) = false := decide_eq_false (by omega)
          have e2 : decide ((97 : Int) ≤ (c : Int)) = false := decide_eq_false (by omega)
          have e3 : decide ((c : Int) ≤ 122) = true := decide_eq_true (by omega)
          have e4 : decide ((65 : Int) ≤ (c : Int)) = false := decide_eq_false (by omega)
          have e5 : decide ((c : Int) ≤ 90) = true := decide_eq_true (by omega)
          have e6 : ((c : Int) == 45) = false := by simp; omega
          go_wp2
          go_ret
          exact ⟨ret_bool (identB_no k (by simpa using hlt) HO.out).symm, hB⟩
        · obtain ⟨h1, h2⟩ := hbad
          have e0 : decide ((48 : Int) ≤ (c : Int)) = true := decide_eq_true (by omega)
          have e1 : decide ((c : Int) ≤ 57) = false := decide_eq_false (by omega)
          have e2 : decide ((97 : Int) ≤ (c : Int)) = false := decide_eq_false (by omega)
          have e3 : decide ((c : Int) ≤ 122) = true := decide_eq_true (by omega)
          have e4 : decide ((65 : Int) ≤ (c : Int)) = true := decide_eq_true (by omega)
          have e5 : decide ((c : Int) ≤ 90) = false := decide_eq_false (by omega)
          have e6 : ((c : Int) == 45) = false := by simp; omega
          go_wp2
          go_ret
          exact ⟨ret_bool (identB_no k (by simpa using hlt) HO.out).symm, hB⟩
        · obtain ⟨h1, h2⟩ := hbad
          have e0 : decide ((48 : Int) ≤ (c : Int)) = true := decide_eq_true (by omega)
          have e1 : decide ((c : Int) ≤ 57) = false := decide_eq_false (by omega)
          have e2 : decide ((97 : Int) ≤ (c : Int)) = true := decide_eq_true (by omega)
          have e3 : decide ((c : Int) ≤ 122) = false := decide_eq_false (by omega)
          have e4 : decide ((65 : Int) ≤ (c : Int)) = true := decide_eq_true (by omega)
          have e5 : decide ((c : Int) ≤ 90) = false := decide_eq_false (by omega)
          have e6 : ((c : Int) == 45) = false := by simp; omega
          go_wp2
          go_ret
          exact ⟨ret_bool (identB_no k (by simpa using hlt) HO.out).symm, hB⟩
    · go_wp2
      obtain rfl : k = s.size := by omega
      go_ret
      exact ⟨ret_bool (identB_yes (by simpa using hn) (by simpa using hall)).symm, hB⟩

theorem ident_any (s : ByteArray) (w : World) (hs : s.size ≤ 9000000000000000000) :
    Calls Try.prog 29 #[.string s] w fun e w' => e = .returned (.bool (identB s.data.toList)) ∧ Below w.heap.size w w' := by
  by_cases hn : s.size = 0
  · exact ident_empty s w hn
  · refine ident_full s w _ _ (by omega) hs (fun j hj => ?_) (run_bytes_of_string w 9 26 5 s Try.underlying9 Try.underlying26 Try.underlying5)
    have hj' : j < s.data.size := hj
    rw [bytesRow_at s _ j hj']
    simp [List.getD, Array.getElem?_eq_getElem hj']

set_option maxHeartbeats 400000 in
theorem zzident_any (s : ByteArray) (w : World) (hs : s.size ≤ 9000000000000000000) :
    Calls Try.prog 14 #[.string s] w fun e w' => e = .returned (.bool (identB s.data.toList)) ∧ Below w.heap.size w w' := by
  go_enter Try.func14, Try.ntmps14
  go_wp2_with (go_at_call 29; refine (ident_any _ _ hs).mono ?_; rintro e w' ⟨rfl, hb⟩)
  go_ret
  exact ⟨rfl, ‹_›⟩

theorem zzident_is (s : ByteArray) (w : World) (b : Bool) (hs : s.size ≤ 9000000000000000000) (hb : identB s.data.toList = b) :
    Calls Try.prog 14 #[.string s] w fun e w' => e = .returned (.bool b) ∧ Below w.heap.size w w' := hb ▸ zzident_any s w hs

def alphaL : List Nat := [65, 66, 67, 68, 69, 70, 71, 72, 73, 74, 75, 76, 77, 78, 79, 80, 81, 82, 83, 84, 85, 86, 87, 88, 89, 90, 97, 98, 99, 100, 101, 102, 103, 104, 105, 106, 107, 108, 109, 110, 111, 112, 113, 114, 115, 116, 117, 118, 119, 120, 121, 122, 48, 49, 50, 51, 52, 53, 54, 55, 56, 57, 45]
def alphaB : ByteArray := ⟨#[65, 66, 67, 68, 69, 70, 71, 72, 73, 74, 75, 76, 77, 78, 79, 80, 81, 82, 83, 84, 85, 86, 87, 88, 89, 90, 97, 98, 99, 100, 101, 102, 103, 104, 105, 106, 107, 108, 109, 110, 111, 112, 113, 114, 115, 116, 117, 118, 119, 120, 121, 122, 48, 49, 50, 51, 52, 53, 54, 55, 56, 57, 45]⟩

theorem alpha_all : ∀ k : Fin 63, (alphaB.data[k.val]'k.isLt).toNat = alphaL.getD k.val 0 ∧ okC (alphaL.getD k.val 0) = true := by decide +kernel
theorem alpha_back : ∀ c : Fin 256, okC c.val = true → alphaL.contains c.val = true := by decide +kernel
theorem alpha_at (k : Nat) (h : k < alphaB.size) : (alphaB[k]'h).toNat = alphaL.getD k 0 := (alpha_all ⟨k, h⟩).1
theorem hit (k c : Nat) (h : k < alphaB.size) (e : (((alphaB[k]'h).toNat : Int) == (c : Int)) = true) : okC c = true := by
  have h1 := (alpha_all ⟨k, h⟩).2
  rw [alpha_at] at e
  simp only [beq_iff_eq] at e
  have e2 : alphaL.getD k 0 = c := by omega
  rw [← e2]; exact h1
theorem miss (k c : Nat) (h : k < alphaB.size) (e : (((alphaB[k]'h).toNat : Int) == (c : Int)) = false) : alphaL.getD k 0 ≠ c := by
  rw [alpha_at] at e
  intro e2
  rw [e2] at e
  simp at e
theorem none_of (c : Nat) (hc : c ≤ 255) (h : ∀ j, j < 63 → alphaL.getD j 0 ≠ c) : okC c = false := by
  rw [← Bool.not_eq_true]
  intro ho
  have h1 := alpha_back ⟨c, by omega⟩ ho
  rw [List.contains_iff_mem] at h1
  obtain ⟨j, hj, e⟩ := List.getElem_of_mem h1
  refine h j hj ?_
  have e2 : alphaL.getD j 0 = alphaL[j] := by simp [List.getD, hj]
  rw [e2]; exact e

set_option maxHeartbeats 400000 in
theorem alpha_any (c : Nat) (w : World) (hc : c ≤ 255) :
    Calls Try.prog 16 #[.int .u8 c] w fun e w' => e = .returned (.bool (okC c)) ∧ w' = w := by
  go_enter Try.func16, Try.ntmps16
  go_wp2
  go_loop [3] (fun i => ∃ k : Nat, k ≤ 63 ∧ i = .int .i64 k ∧ ∀ j, j < k → alphaL.getD j 0 ≠ c) (fun i => 63 - (intOf i).toNat)
  case atStart => exact ⟨0, Nat.zero_le _, rfl, fun j hj => by omega⟩
  case round =>
    obtain ⟨k, hk, rfl, hall⟩ := hrel
    have HA : Hid (∀ j, j < k → alphaL.getD j 0 ≠ c) := hall
    clear hall
    by_cases hlt : k < 63
    · go_wp2
      · go_ret
        exact ⟨ret_bool (hit k c _ ‹_›).symm, rfl⟩
      · go_round
        case rel => exact ⟨k + 1, by omega, by go_num, step HA.out (miss k c _ ‹_›)⟩
        case measure => simp [intOf]; omega
    · go_wp2
      obtain rfl : k = 63 := by omega
      go_ret
      exact ⟨ret_bool (none_of c hc HA.out).symm, rfl⟩

set_option maxHeartbeats 400000 in
theorem bytes_yes (a b : ByteArray) (c : Int) (w : World) (h : a.size + b.size ≤ 1048576) :
    Calls Try.prog 15 #[.string a, .string b, .int .u8 c] w fun e w' => e = .returned (.bool true) ∧ w' = w := by
  go_enter Try.func15, Try.ntmps15
  go_wp2
  go_ret
  exact ⟨rfl, rfl⟩

set_option maxHeartbeats 400000 in
theorem bytes_no (a b : ByteArray) (c : Int) (w : World) (_ha : a.size ≤ maxLen) (_hb : b.size ≤ maxLen) (h : 1048576 < a.size + b.size) :
    Calls Try.prog 15 #[.string a, .string b, .int .u8 c] w fun e w' => e = .returned (.bool false) ∧ w' = w := by
  by_cases h1 : 1048576 < a.size
  · go_enter Try.func15, Try.ntmps15
    go_wp2
    go_ret
    exact ⟨rfl, rfl⟩
  · by_cases h2 : 1048576 < b.size
    · go_enter Try.func15, Try.ntmps15
      go_wp2
      go_ret
      exact ⟨rfl, rfl⟩
    · go_enter Try.func15, Try.ntmps15
      go_wp2
      go_ret
      exact ⟨rfl, rfl⟩
end Go.Proofs.Qxb6602919a.Ident
