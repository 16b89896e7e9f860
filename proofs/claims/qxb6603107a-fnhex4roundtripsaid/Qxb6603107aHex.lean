import Derived.Test.Qxb6603107aBase
namespace Go.Proofs.Qxb6603107a
open Go.RowKit

/-- The digit that a byte stands for. -/
def hexV (c : Nat) : Nat := if c ≤ 57 then c - 48 else if c ≤ 70 then c - 55 else c - 87
def hexOk (c : Nat) : Prop := (48 ≤ c ∧ c ≤ 57) ∨ (65 ≤ c ∧ c ≤ 70) ∨ (97 ≤ c ∧ c ≤ 102)

/-- What has been read behind k digits. -/
def rv (v k : Nat) : Nat := v / 16 ^ (4 - k)
theorem rv_zero (v : Nat) (h : v < 65536) : rv v 0 = 0 := by unfold rv; exact Nat.div_eq_of_lt h
theorem rv_four (v : Nat) : rv v 4 = v := by unfold rv; simp
theorem rv_succ (v k : Nat) (h : k < 4) : rv v (k + 1) = rv v k * 16 + v / 16 ^ (3 - k) % 16 := by
  unfold rv
  have e : 4 - k = (3 - k) + 1 := by omega
  have e2 : 4 - (k + 1) = 3 - k := by omega
  rw [e, e2, Nat.pow_succ, ← Nat.div_div_eq_div_mul]
  omega
theorem rv_lt (v k : Nat) (hv : v < 65536) (h : k < 4) : rv v k < 4096 := by
  have h1 := rv_succ v k h
  have h2 : rv v (k + 1) ≤ v := Nat.div_le_self _ _
  omega

theorem or_i32 (R d : Nat) (x : Int) (hx : x = (d : Int)) (hR : R < 4096) (hd : d < 16) : bits BinOp.or IntKind.i32 ((R : Int) * 16) x = ((R * 16 + d : Nat) : Int) := by
  subst hx
  have h1 : (BitVec.ofInt 32 ((R : Int) * 16)).toNat = R * 16 := by
    rw [BitVec.toNat_ofInt]; omega
  have h2 : (BitVec.ofInt 32 (d : Int)).toNat = d := by
    rw [BitVec.toNat_ofInt]; omega
  show IntKind.i32.wrap ((BitVec.ofInt 32 ((R : Int) * 16) ||| BitVec.ofInt 32 (d : Int)).toNat : Int) = _
  rw [BitVec.toNat_or, h1, h2]
  have e : R * 16 ||| d = R * 16 + d := by
    have := Nat.shiftLeft_add_eq_or_of_lt (i := 4) (b := d) (by omega) R
    rw [Nat.shiftLeft_eq] at this
    exact this.symm
  rw [e, IntKind.wrap_i32]
  omega

theorem ret2 {a b : Int} (h : a = b) : Ending.returned (.tuple #[.int .i32 a, .bool true]) = .returned (.tuple #[.int .i32 b, .bool true]) := by rw [h]

set_option maxHeartbeats 400000 in
theorem hex4_any (P : Nat) (a : Option Addr) (bs : List Nat) (cap pos v : Nat) (dv pv : Value) (w : World) (hP : w.heap[P]? = some (.cells #[.slice a bs.length cap, .int .i64 pos, dv, pv] 38 (0, 0))) (hr : BRd w a bs)
    (hl : bs.length ≤ 1048580) (hcap : bs.length ≤ cap) (hpos : pos + 4 ≤ bs.length) (hv : v < 65536) (hok : ∀ j, j < 4 → hexOk (bs.getD (pos + j) 0)) (hd : ∀ j, j < 4 → hexV (bs.getD (pos + j) 0) = v / 16 ^ (3 - j) % 16) :
    Calls Try.prog 16 #[.pointer (some ⟨P, 0, none⟩)] w fun e w' => e = .returned (.tuple #[.int .i32 v, .bool true]) ∧ ∃ n, w' = (w.drewN n).setCell ⟨P, 1, none⟩ (.int .i64 ((pos : Int) + 4)) := by
  have p0 : w.cell? ⟨P, 0, none⟩ = some (.slice a bs.length cap) := by simp [World.cell?, hP]
  have p1 : w.cell? ⟨P, 1, none⟩ = some (.int .i64 pos) := by simp [World.cell?, hP]
  have f1 : w.frozen? ⟨P, 1, none⟩ = false := by simp [World.frozen?, hP]
  obtain ⟨b, off, rfl, hc⟩ := hr.at_ (k := 0) (by omega)
  have HC : Hid (∀ j, j < bs.length → w.cell? ⟨b, off + j, none⟩ = some (.int .u8 ((bs.getD j 0 : Nat) : Int))) := hc
  have HOK : Hid (∀ j, j < 4 → hexOk (bs.getD (pos + j) 0)) := hok
  have HD : Hid (∀ j, j < 4 → hexV (bs.getD (pos + j) 0) = v / 16 ^ (3 - j) % 16) := hd
  clear hP hr hc hok hd
  go_enter Try.func16, Try.ntmps16
  go_wp2
  go_quiet (fail)
  go_wp2
  go_quiet (fail)
  go_wp2
  go_loop [4, 33] (fun r i => ∃ k : Nat, k ≤ 4 ∧ i = .int .i64 k ∧ r = .int .i32 (rv v k : Int)) (fun _ i => 4 - (intOf i).toNat)
  case atStart => exact ⟨0, Nat.zero_le _, rfl, by rw [rv_zero v hv]; rfl⟩
  case round =>
    obtain ⟨k, hk, rfl, rfl⟩ := hrel
    by_cases hlt : k < 4
    · have hRl := rv_lt v k hv hlt
      have hck := HC.out (pos + k) (by omega)
      have e0 : off + (pos + k) = off + pos + k := by omega
      rw [e0] at hck
      have hok := HOK.out k hlt
      have hdk := HD.out k hlt
      have hsk := rv_succ v k hlt
      obtain ⟨c, hc⟩ : ∃ c, c = bs.getD (pos + k) 0 := ⟨_, rfl⟩
      rw [← hc] at hck hok hdk
      rw [← hdk] at hsk
      have HSK : Hid (rv v (k + 1) = rv v k * 16 + hexV c) := hsk
      clear hc hdk hsk e0
      rcases hok with ⟨h1, h2⟩ | ⟨h1, h2⟩ | ⟨h1, h2⟩
      · have hb := or_i32 (rv v k) (hexV c) ((c : Int) - 48) (by unfold hexV; rw [if_pos h2]; omega) hRl (by unfold hexV; rw [if_pos h2]; omega)
        have e1 : decide ((c : Int) ≤ 57) = true := decide_eq_true (by omega)
        go_wp2
        go_round
        case rel => exact ⟨_, _, _, _, _, ⟨k + 1, by omega, by go_num, by rw [HSK.out]; go_num⟩, rfl, rfl, rfl, rfl, rfl⟩
        case measure => simp [intOf]; omega
      · have hb := or_i32 (rv v k) (hexV c) ((c : Int) - 55) (by unfold hexV; rw [if_neg (by omega), if_pos h2]; omega) hRl (by unfold hexV; rw [if_neg (by omega), if_pos h2]; omega)
        have e1 : decide ((c : Int) ≤ 57) = false := decide_eq_false (by omega)
        have e2 : decide ((c : Int) ≤ 102) = true := decide_eq_true (by omega)
        have e3 : decide ((97 : Int) ≤ (c : Int)) = false := decide_eq_false (by omega)
        have e4 : decide ((c : Int) ≤ 70) = true := decide_eq_true (by omega)
        go_wp2
        go_round
        case rel => exact ⟨_, _, _, _, _, ⟨k + 1, by omega, by go_num, by rw [HSK.out]; go_num⟩, rfl, rfl, rfl, rfl, rfl⟩
        case measure => simp [intOf]; omega
      · have hb := or_i32 (rv v k) (hexV c) ((c : Int) - 87) (by unfold hexV; rw [if_neg (by omega), if_neg (by omega)]; omega) hRl (by unfold hexV; rw [if_neg (by omega), if_neg (by omega)]; omega)
        have e1 : decide ((c : Int) ≤ 57) = false := decide_eq_false (by omega)
        have e2 : decide ((c : Int) ≤ 102) = true := decide_eq_true (by omega)
        go_wp2
        go_round
        case rel => exact ⟨_, _, _, _, _, ⟨k + 1, by omega, by go_num, by rw [HSK.out]; go_num⟩, rfl, rfl, rfl, rfl, rfl⟩
        case measure => simp [intOf]; omega
    · obtain rfl : k = 4 := by omega
      go_wp2
      go_ret2
      refine ⟨ret2 (by rw [rv_four]), _, rfl⟩
end Go.Proofs.Qxb6603107a
