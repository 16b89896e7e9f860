import Derived.Test.Qxb6602919aRows
import Derived.WalkKit
import Derived.WalkSpells
import Derived.WalkLawsBesides
import Derived.Laws.IdiomStrings
namespace Go.Proofs.Qxb6602919a
open Go.RowKit

theorem Try.info5 : (Try.prog.info? 5).map (fun i => (i.zero, i.size, i.bytes)) = some (some (.int .u8 0), 1, 1) := by kernel_rfl

def hexN (d : Nat) : Nat := if d < 10 then 48 + d else 87 + d

theorem hexN_lt (d : Nat) (hd : d < 16) : hexN d < 256 := by unfold hexN; split <;> omega

def hexL (x n : Nat) : List UInt8 := (List.range n).map fun j => UInt8.ofNat (hexN (x / 16 ^ (n - 1 - j) % 16))
theorem hexL_length (x n : Nat) : (hexL x n).length = n := by simp [hexL]
theorem hexL_at (x n j : Nat) (h : j < (hexL x n).length) : (hexL x n)[j].toNat = hexN (x / 16 ^ (n - 1 - j) % 16) := by
  simp only [hexL, List.getElem_map, List.getElem_range]
  rw [UInt8.toNat_ofNat']
  exact Nat.mod_eq_of_lt (hexN_lt _ (by omega))

theorem hex_dig (d : Nat) (h : d < (⟨#[48, 49, 50, 51, 52, 53, 54, 55, 56, 57, 97, 98, 99, 100, 101, 102]⟩ : ByteArray).size) :
    ((⟨#[48, 49, 50, 51, 52, 53, 54, 55, 56, 57, 97, 98, 99, 100, 101, 102]⟩ : ByteArray)[d]'h).toNat = hexN d := by
  have h' : d < 16 := h
  rcases (show d = 0 ∨ d = 1 ∨ d = 2 ∨ d = 3 ∨ d = 4 ∨ d = 5 ∨ d = 6 ∨ d = 7 ∨ d = 8 ∨ d = 9 ∨ d = 10 ∨ d = 11 ∨ d = 12 ∨ d = 13 ∨ d = 14 ∨ d = 15 by omega) with rfl | rfl | rfl | rfl | rfl | rfl | rfl | rfl | rfl | rfl | rfl | rfl | rfl | rfl | rfl | rfl <;> rfl

theorem hex_rel {x n i y B : Nat} {w wr : World} {f : Nat → Nat} (hb : w.heap.size = B) (hk : i + 1 ≤ n) (hy : y = x / 16 ^ (n - (i + 1)))
    (hf : ∀ j, i + 1 ≤ j → j < n → f j = hexN (x / 16 ^ (n - 1 - j) % 16)) (hc : ∀ j, j < n → wr.cell? ⟨B, j, none⟩ = some (.int .u8 (f j : Int)))
    (hz : ∀ j, wr.frozen? ⟨B, j, none⟩ = false) (hB : Below B w wr) :
    ∃ m : Nat, ∃ f : Nat → Nat, m ≤ n ∧ Value.int .i64 ((i : Int) - 1) = .int .i64 ((m : Int) - 1) ∧ Value.int .u64 ((y : Int) / 16) = .int .u64 ((x / 16 ^ (n - m) : Nat) : Int) ∧ (∀ j, m ≤ j → j < n → f j = hexN (x / 16 ^ (n - 1 - j) % 16)) ∧
      (∀ j, j < n → (wr.setCell ⟨B, i, none⟩ (.int .u8 (hexN (y % 16) : Int))).cell? ⟨B, j, none⟩ = some (.int .u8 (f j : Int))) ∧
      (∀ j, (wr.setCell ⟨B, i, none⟩ (.int .u8 (hexN (y % 16) : Int))).frozen? ⟨B, j, none⟩ = false) ∧ Below B w (wr.setCell ⟨B, i, none⟩ (.int .u8 (hexN (y % 16) : Int))) := by
  subst hb
  refine ⟨i, fun j => if j = i then hexN (y % 16) else f j, by omega, rfl, ?_, fun j h1 h2 => ?_, fun j hj => ?_, fun j => ?_, hB.setCell (Nat.le_refl _) _⟩
  · have e : n - i = (n - (i + 1)) + 1 := by omega
    rw [e, Nat.pow_succ, ← Nat.div_div_eq_div_mul, ← hy]
    simp
  · by_cases e : j = i
    · subst e
      simp only [if_true]
      rw [hy]
      have e : n - (j + 1) = n - 1 - j := by omega
      rw [e]
    · simp only [if_neg e]
      exact hf j (by omega) h2
  · by_cases e : j = i
    · subst e
      simp only [if_true]
      exact World.cell?_setCell_same _ _ _ (hc j hj)
    · simp only [if_neg e]
      rw [World.cell?_setCell_other _ _ _ _ (by intro h; injection h with _ h2; exact e h2.symm)]
      exact hc j hj
  · rw [World.frozen?_setCell]
    exact hz j

set_option maxHeartbeats 400000 in
theorem hex_any (x n : Nat) (w : World) (hx : x < 18446744073709551616) (hn0 : 1 ≤ n) (hn : n ≤ 16) :
    Calls Try.prog 12 #[.int .u64 x, .int .i64 n] w fun e w' => e = .returned (.string ⟨(hexL x n).toArray⟩) ∧ Below w.heap.size w w' := by
  obtain ⟨i0, hi, hz0, hz1, hz2⟩ := info_parts Try.info5
  have hmk := run_make (P := Try.prog) w 26 5 i0 (.int .u8 0) Try.underlying26 hi hz0 .i64 .i64 n n (by omega) (by omega) (by rw [hz2]; omega) (by omega)
  rw [hz1] at hmk
  simp only [Int.toNat_natCast, Nat.mul_one] at hmk
  go_enter Try.func12, Try.ntmps12
  go_wp2
  clear hmk
  have hcell0 : ∀ j, j < n → (w.alloc (.cells (madeCells #[.int .u8 0] n) 5)).cell? ⟨w.heap.size, j, none⟩ = some (.int .u8 ((0 : Nat) : Int)) := fun j hj => by
    rw [World.cell?_alloc_mark]
    have e := toList_madeCells_one (.int .u8 0) n
    rw [← Array.getElem?_toList, e]
    simp [hj]
  have hfr0 : ∀ j, (w.alloc (.cells (madeCells #[.int .u8 0] n) 5)).frozen? ⟨w.heap.size, j, none⟩ = false := fun j => by
    rw [World.frozen?_alloc_mark]
    simp
  have hB0 : Below w.heap.size w (w.alloc (.cells (madeCells #[.int .u8 0] n) 5)) := (Below.refl _ _).alloc (Nat.le_refl _) _
  go_loopw [0, 6] (fun xv iv wr => ∃ m : Nat, ∃ f : Nat → Nat, m ≤ n ∧ iv = .int .i64 ((m : Int) - 1) ∧ xv = .int .u64 ((x / 16 ^ (n - m) : Nat) : Int) ∧ (∀ j, m ≤ j → j < n → f j = hexN (x / 16 ^ (n - 1 - j) % 16)) ∧
      (∀ j, j < n → wr.cell? ⟨w.heap.size, j, none⟩ = some (.int .u8 (f j : Int))) ∧ (∀ j, wr.frozen? ⟨w.heap.size, j, none⟩ = false) ∧ Below w.heap.size w wr) (fun _ iv _ => (intOf iv + 1).toNat)
  case atStart => exact ⟨n, fun _ => 0, Nat.le_refl _, by simp, by simp, fun j h1 h2 => by omega, hcell0, hfr0, hB0⟩
  case round =>
    obtain ⟨m, f, hk, rfl, rfl, hf, hcell, hfr, hB⟩ := hrel
    clear hcell0 hfr0 hB0
    rcases m with _ | i
    · have hcv := run_convert_bytes_back (P := Try.prog) wr 26 9 5 ⟨w.heap.size, 0, none⟩ n (hexL x n) Try.underlying26 Try.underlying5 Try.underlying9 (fun j hj => by
        have hj' : j < n := by simpa [hexL_length] using hj
        have e0 : (⟨w.heap.size, 0, none⟩ : Addr).add j = ⟨w.heap.size, j, none⟩ := by unfold Addr.add; split <;> simp_all
        rw [e0, hcell j hj', hf j (Nat.zero_le _) hj', hexL_at x n j hj])
      rw [hexL_length] at hcv
      clear hf hcell hfr
      go_wp2
      go_ret
      exact ⟨rfl, hB⟩
    · have hc1 := hcell i (by omega)
      have hz1 := hfr i
      obtain ⟨y, hy⟩ : ∃ y, y = x / 16 ^ (n - (i + 1)) := ⟨_, rfl⟩
      have hyl : y < 18446744073709551616 := by
        rw [hy]; exact Nat.lt_of_le_of_lt (Nat.div_le_self _ _) hx
      rw [← hy]
      have HY : Hid (y = x / 16 ^ (n - (i + 1))) := hy
      have HF : Hid (∀ j, i + 1 ≤ j → j < n → f j = hexN (x / 16 ^ (n - 1 - j) % 16)) := hf
      have HC : Hid (∀ j, j < n → wr.cell? ⟨w.heap.size, j, none⟩ = some (.int .u8 (f j : Int))) := hcell
      have HZ : Hid (∀ j, wr.frozen? ⟨w.heap.size, j, none⟩ = false) := hfr
      clear hy hf hcell hfr
      have ei : ((i + 1 : Nat) : Int) - 1 = (i : Int) := by omega
      rw [ei]
      clear ei
      have hand : bits BinOp.and IntKind.u64 (y : Int) 15 = ((y % 16 : Nat) : Int) := by
        have h := bits_and_u64_nat y 15 (by omega) (by omega)
        rw [show (15 : Nat) = 2 ^ 4 - 1 from rfl, Nat.and_two_pow_sub_one_eq_mod] at h
        exact h
      go_wp2
      go_roundw
      case rel =>
        simp only [hex_dig]
        exact hex_rel rfl hk HY.out HF.out HC.out HZ.out hB
      case measure => simp [intOf]
end Go.Proofs.Qxb6602919a
