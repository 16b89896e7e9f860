import Derived.Test.Qxb6602990aReads
namespace Go.Proofs.Qxb6602990a
open Go.RowKit Go.Proofs.Qxb6602990a.Plain

theorem SRd.drewN {w : World} {a : Option Addr} {ss : List ByteArray} (h : SRd w a ss) (n : Nat) : SRd (w.drewN n) a ss := h

set_option maxHeartbeats 400000 in
theorem same_any (a : Option Addr) (b : Option Addr) (ss : List ByteArray) (c d : Nat) (w : World) (hr : SRd w a ss) (hr' : SRd w b ss) (hl : ss.length ≤ 9223372036854775807) :
    Calls Try.prog 18 #[.slice a ss.length c, .slice b ss.length d] w fun e w' => e = .returned (.bool true) ∧ ∃ n, w' = w.drewN n := by
  have HR : Hid (SRd w a ss) := hr
  have HR' : Hid (SRd w b ss) := hr'
  clear hr hr'
  go_enter Try.func18, Try.ntmps18
  go_wp2
  go_loopw [5] (fun v wr => ∃ k q : Nat, k ≤ ss.length ∧ v = .int .i64 k ∧ wr = w.drewN q) (fun v _ => ss.length - (intOf v).toNat)
  case atStart => exact ⟨0, 0, Nat.zero_le _, rfl, rfl⟩
  case round =>
    obtain ⟨k, q, hk, rfl, rfl⟩ := hrel
    by_cases hlt : k < ss.length
    · obtain ⟨b1, off, ha, hc⟩ := HR.out.at_ hlt
      obtain ⟨b2, off', ha', hc'⟩ := HR'.out.at_ hlt
      have hck := hc k hlt
      have hck' := hc' k hlt
      obtain ⟨s, hs⟩ : ∃ s, s = ss.getD k ByteArray.empty := ⟨_, rfl⟩
      rw [← hs] at hck hck'
      clear hs hc hc'
      go_wp2
      go_quiet (fail)
      go_wp2
      go_roundw
      case rel => exact ⟨k + 1, q + nq, by omega, by go_num, rfl⟩
      case measure => simp [intOf]; omega
    · go_wp2
      go_ret
      exact ⟨rfl, q, rfl⟩

set_option maxHeartbeats 400000 in
theorem distinct_any (a : Option Addr) (ss : List ByteArray) (c : Nat) (w : World) (hr : SRd w a ss) (hl : ss.length ≤ 9000000000000000000)
    (hd : ∀ i j, i < j → j < ss.length → ((ss.getD i ByteArray.empty).toList == (ss.getD j ByteArray.empty).toList) = false) :
    Calls Try.prog 34 #[.slice a ss.length c] w fun e w' => e = .returned (.bool true) ∧ ∃ n, w' = w.drewN n := by
  have HR : Hid (SRd w a ss) := hr
  have HD : Hid (∀ i j, i < j → j < ss.length → ((ss.getD i ByteArray.empty).toList == (ss.getD j ByteArray.empty).toList) = false) := hd
  clear hr hd
  go_enter Try.func34, Try.ntmps34
  go_wp2
  go_loopw [3] (fun v wr => ∃ i q : Nat, i ≤ ss.length ∧ v = .int .i64 i ∧ wr = w.drewN q) (fun v _ => ss.length - (intOf v).toNat)
  case atStart => exact ⟨0, 0, Nat.zero_le _, rfl, rfl⟩
  case round =>
    obtain ⟨i, q, hi, rfl, rfl⟩ := hrel
    by_cases hlt : i < ss.length
    · go_wp2
      go_loopw [4] (fun v wr => ∃ j q : Nat, i < j ∧ j ≤ ss.length ∧ v = .int .i64 j ∧ wr = w.drewN q) (fun v _ => ss.length - (intOf v).toNat)
      case atStart => exact ⟨i + 1, q, by omega, by omega, by go_num, rfl⟩
      case round =>
        obtain ⟨j, q, hij, hj, rfl, rfl⟩ := hrel
        by_cases hlj : j < ss.length
        · obtain ⟨b1, off, ha, hc⟩ := HR.out.at_ hlt
          have hck := hc i hlt
          have hck' := hc j hlj
          have hne := HD.out i j hij hlj
          obtain ⟨s, hs⟩ : ∃ s, s = ss.getD i ByteArray.empty := ⟨_, rfl⟩
          obtain ⟨t, ht⟩ : ∃ s, s = ss.getD j ByteArray.empty := ⟨_, rfl⟩
          rw [← hs] at hck hne
          rw [← ht] at hck' hne
          clear hs ht hc
          go_wp2
          go_quiet (fail)
          go_wp2
          go_roundw
          case rel => exact ⟨j + 1, _, by omega, by omega, by go_num, rfl⟩
          case measure => simp [intOf]; omega
        · go_wp2
          go_roundw
          case rel => exact ⟨i + 1, _, by omega, by go_num, rfl⟩
          case measure => simp [intOf]; omega
    · go_wp2
      go_ret
      exact ⟨rfl, q, rfl⟩
end Go.Proofs.Qxb6602990a
