import Derived.Test.Qxb6603107aBase
namespace Go.Proofs.Qxb6603107a
open Go.RowKit

theorem BRd.cells0 {w : World} {g : Nat} {L : List Nat} (h : BRd w (some ⟨g, 0, none⟩) L) : ∀ j, j < L.length → w.cell? ⟨g, j, none⟩ = some (.int .u8 ((L.getD j 0 : Nat) : Int)) := by
  intro j hj
  obtain ⟨b, off, ha, hc⟩ := h.at_ hj
  simp at ha
  obtain ⟨rfl, rfl⟩ := ha
  have := hc j hj
  rwa [Nat.zero_add] at this

def isSp (c : Nat) : Bool := c == 32 || c == 10 || c == 9 || c == 13

theorem isSp_iff (c : Nat) : isSp c = true ↔ (c = 32 ∨ c = 10 ∨ c = 9 ∨ c = 13) := by
  unfold isSp; simp [or_assoc]
theorem ret_bool {a b : Bool} (h : a = b) : Ending.returned (.bool a) = .returned (.bool b) := by rw [h]
/-- Where skipSpace lands. -/
structure Lands (bs : List Nat) (pos q : Nat) : Prop where
  ge : pos ≤ q
  past : bs.length ≤ pos → q = pos
  le : pos < bs.length → q ≤ bs.length
  sp : ∀ j, pos ≤ j → j < q → isSp (bs.getD j 0) = true
  fin : q < bs.length → isSp (bs.getD q 0) = false

theorem sp_step {bs : List Nat} {pos k : Nat} (h : ∀ j, pos ≤ j → j < k → isSp (bs.getD j 0) = true) (hk : isSp (bs.getD k 0) = true) : ∀ j, pos ≤ j → j < k + 1 → isSp (bs.getD j 0) = true := by
  intro j h1 h2
  rcases Nat.lt_or_ge j k with c | c
  · exact h j h1 c
  · obtain rfl : j = k := by omega
    exact hk

set_option maxHeartbeats 1000000 in
theorem skip_any (P : Nat) (a : Option Addr) (bs : List Nat) (cap pos : Nat) (dv pv : Value) (w : World) (hP : w.heap[P]? = some (.cells #[.slice a bs.length cap, .int .i64 pos, dv, pv] 38 (0, 0))) (hr : BRd w a bs)
    (hl : bs.length ≤ 1048580) (hpos : pos ≤ 9223372036854775807) :
    Calls Try.prog 17 #[.pointer (some ⟨P, 0, none⟩)] w fun e w' => e = .returned (.tuple #[]) ∧ ∃ q : Nat, Lands bs pos q ∧ w' = w.setCell ⟨P, 1, none⟩ (.int .i64 q) := by
  have p0 : w.cell? ⟨P, 0, none⟩ = some (.slice a bs.length cap) := by simp [World.cell?, hP]
  have p1 : w.cell? ⟨P, 1, none⟩ = some (.int .i64 pos) := by simp [World.cell?, hP]
  have f1 : w.frozen? ⟨P, 1, none⟩ = false := by simp [World.frozen?, hP]
  have HR : Hid (BRd w a bs) := hr
  clear hP hr
  go_enter Try.func17, Try.ntmps17
  go_wp2
  go_loop [2] (fun v => ∃ k : Nat, pos ≤ k ∧ k ≤ 9223372036854775807 ∧ (bs.length ≤ pos → k = pos) ∧ (pos < bs.length → k ≤ bs.length) ∧ v = .int .i64 k ∧ ∀ j, pos ≤ j → j < k → isSp (bs.getD j 0) = true) (fun v => bs.length - (intOf v).toNat)
  case atStart => exact ⟨pos, Nat.le_refl _, hpos, fun _ => rfl, fun h => by omega, rfl, fun j h1 h2 => by omega⟩
  case round =>
    obtain ⟨k, h1, h2, h3, h4, rfl, h5⟩ := hrel
    have H3 : Hid (bs.length ≤ pos → k = pos) := h3
    have H4 : Hid (pos < bs.length → k ≤ bs.length) := h4
    have H5 : Hid (∀ j, pos ≤ j → j < k → isSp (bs.getD j 0) = true) := h5
    clear h3 h4 h5
    by_cases hlt : k < bs.length
    · have e0 : decide ((k : Int) < (bs.length : Int)) = true := decide_eq_true (by omega)
      obtain ⟨b, off, ha, hc⟩ := HR.out.at_ hlt
      have hck := hc k hlt
      obtain ⟨c, hcc⟩ : ∃ c, c = bs.getD k 0 := ⟨_, rfl⟩
      rw [← hcc] at hck
      have HC : Hid (c = bs.getD k 0) := hcc
      clear hc hcc
      by_cases hg : c = 32 ∨ c = 10 ∨ c = 9 ∨ c = 13
      · have HG : Hid (isSp (bs.getD k 0) = true) := by
          rw [← HC.out]; unfold isSp; rcases hg with rfl | rfl | rfl | rfl <;> rfl
        have q0 : decide ((c : Int) ≤ 32) = true := decide_eq_true (by omega)
        rcases hg with rfl | rfl | rfl | rfl
        · go_wp2
          go_round
          case rel => exact ⟨k + 1, by omega, by omega, fun h => by omega, fun h => by omega, by go_num, sp_step H5.out HG.out⟩
          case measure => simp [intOf]; omega
        · go_wp2
          go_round
          case rel => exact ⟨k + 1, by omega, by omega, fun h => by omega, fun h => by omega, by go_num, sp_step H5.out HG.out⟩
          case measure => simp [intOf]; omega
        · go_wp2
          go_round
          case rel => exact ⟨k + 1, by omega, by omega, fun h => by omega, fun h => by omega, by go_num, sp_step H5.out HG.out⟩
          case measure => simp [intOf]; omega
        · go_wp2
          go_round
          case rel => exact ⟨k + 1, by omega, by omega, fun h => by omega, fun h => by omega, by go_num, sp_step H5.out HG.out⟩
          case measure => simp [intOf]; omega
      · have HG : Hid (isSp (bs.getD k 0) = false) := by
          rw [← HC.out, ← Bool.not_eq_true, isSp_iff]; exact hg
        by_cases h32 : c ≤ 32
        · have q0 : decide ((c : Int) ≤ 32) = true := decide_eq_true (by omega)
          have q1 : ((c : Int) == 32) = false := eq_f (by omega)
          have q2 : ((c : Int) == 10) = false := eq_f (by omega)
          have q3 : ((c : Int) == 9) = false := eq_f (by omega)
          have q4 : ((c : Int) == 13) = false := eq_f (by omega)
          clear hg
          go_wp2
          go_end0
          exact ⟨rfl, k, ⟨h1, H3.out, H4.out, H5.out, fun _ => HG.out⟩, rfl⟩
        · have q0 : decide ((c : Int) ≤ 32) = false := decide_eq_false (by omega)
          clear hg
          go_wp2
          go_end0
          exact ⟨rfl, k, ⟨h1, H3.out, H4.out, H5.out, fun _ => HG.out⟩, rfl⟩
    · have e0 : decide ((k : Int) < (bs.length : Int)) = false := decide_eq_false (by omega)
      go_wp2
      go_end0
      exact ⟨rfl, k, ⟨h1, H3.out, H4.out, H5.out, fun h => absurd h hlt⟩, rfl⟩

set_option maxHeartbeats 400000 in
theorem zzskip_any (a : Option Addr) (bs : List Nat) (cap pos : Nat) (w : World) (hr : BRd w a bs) (hl : bs.length ≤ 1048580) (hpos : pos ≤ 9223372036854775807) :
    Calls Try.prog 11 #[.slice a bs.length cap, .int .i64 pos] w fun e w' => ∃ q : Nat, e = .returned (.int .i64 q) ∧ Lands bs pos q ∧ Below w.heap.size w w' := by
  have HR : Hid (BRd w a bs) := hr
  clear hr
  go_enter Try.func11, Try.ntmps11
  go_wp2_with fail
  refine (skip_any w.heap.size a bs cap pos _ _ _ (heap_alloc_new _ _) (HR.out.below ((Below.refl _ _).alloc (Nat.le_refl _) _)) hl hpos).mono ?_
  rintro e w1 ⟨rfl, q, hL, hw⟩
  have HL : Hid (Lands bs pos q) := hL
  have hB : Below w.heap.size w w1 := by
    rw [hw]
    exact ((Below.refl _ _).alloc (Nat.le_refl _) _).setCell (Nat.le_refl _) _
  have hc : w1.cell? ⟨w.heap.size, 1, none⟩ = some (.int .i64 q) := by
    rw [hw]
    refine World.cell?_setCell_same _ _ _ (u := .int .i64 pos) ?_
    rw [World.cell?_alloc_mark]
    rfl
  clear hw hL
  go_wp2
  go_ret
  exact ⟨q, rfl, HL.out, hB⟩

set_option maxHeartbeats 400000 in
theorem isSp_any (c : Nat) (w : World) : Calls Try.prog 14 #[.int .u8 c] w fun e w' => e = .returned (.bool (isSp c)) ∧ w' = w := by
  by_cases h : c = 32 ∨ c = 10 ∨ c = 9 ∨ c = 13
  · have HG : Hid (isSp c = true) := by unfold isSp; rcases h with rfl | rfl | rfl | rfl <;> rfl
    rcases h with rfl | rfl | rfl | rfl
    all_goals
      go_enter Try.func14, Try.ntmps14
      go_wp2
      go_ret
      exact ⟨rfl, rfl⟩
  · have HG : Hid (isSp c = false) := by rw [← Bool.not_eq_true, isSp_iff]; exact h
    have q1 : ((c : Int) == 32) = false := eq_f (by omega)
    have q2 : ((c : Int) == 10) = false := eq_f (by omega)
    have q3 : ((c : Int) == 9) = false := eq_f (by omega)
    have q4 : ((c : Int) == 13) = false := eq_f (by omega)
    clear h
    go_enter Try.func14, Try.ntmps14
    go_wp2
    go_ret
    exact ⟨ret_bool HG.out.symm, rfl⟩
theorem isSp_is (c : Nat) (b : Bool) (w : World) (h : isSp c = b) : Calls Try.prog 14 #[.int .u8 c] w fun e w' => e = .returned (.bool b) ∧ w' = w := h ▸ isSp_any c w

set_option maxHeartbeats 400000 in
theorem bytes13_yes (a : Option Addr) (n cap : Nat) (pos : Int) (w : World) (h : n ≤ 1048576) :
    Calls Try.prog 13 #[.slice a n cap, .int .i64 pos] w fun e w' => e = .returned (.bool true) ∧ w' = w := by
  go_enter Try.func13, Try.ntmps13
  go_wp2
  go_ret
  exact ⟨rfl, rfl⟩
set_option maxHeartbeats 400000 in
theorem bytes13_no (a : Option Addr) (n cap : Nat) (pos : Int) (w : World) (h : 1048576 < n) :
    Calls Try.prog 13 #[.slice a n cap, .int .i64 pos] w fun e w' => e = .returned (.bool false) ∧ w' = w := by
  go_enter Try.func13, Try.ntmps13
  go_wp2
  go_ret
  exact ⟨rfl, rfl⟩

set_option maxHeartbeats 400000 in
theorem skip_big (a : Option Addr) (n cap : Nat) (pos : Int) (w : World) (h : 1048576 < n) :
    Calls Try.prog 5 #[.slice a n cap, .int .i64 pos] w fun e w' => e = .returned (.bool true) ∧ Below w.heap.size w w' := by
  go_enter Try.func5, Try.ntmps5
  go_wp2_with fail
  refine (bytes13_no a n cap pos _ h).mono ?_
  rintro e w' ⟨rfl, hw⟩
  subst hw
  go_wp2
  go_ret
  exact ⟨rfl, Below.refl _ _⟩
set_option maxHeartbeats 400000 in
theorem skip_neg (a : Option Addr) (n cap : Nat) (pos : Int) (w : World) (h : n ≤ 1048576) (hp : pos < 0) :
    Calls Try.prog 5 #[.slice a n cap, .int .i64 pos] w fun e w' => e = .returned (.bool true) ∧ Below w.heap.size w w' := by
  go_enter Try.func5, Try.ntmps5
  go_wp2_with fail
  refine (bytes13_yes a n cap pos _ h).mono ?_
  rintro e w' ⟨rfl, hw⟩
  subst hw
  go_wp2
  go_ret
  exact ⟨rfl, Below.refl _ _⟩

set_option maxHeartbeats 1000000 in
theorem skip_walk (a : Option Addr) (bs : List Nat) (cap pos : Nat) (w : World) (hr : BRd w a bs) (hn : a = none → bs = []) (hl : bs.length ≤ 1048576) (hpos : pos ≤ 9223372036854775807) :
    Calls Try.prog 5 #[.slice a bs.length cap, .int .i64 pos] w fun e w' => e = .returned (.bool true) ∧ Below w.heap.size w w' := by
  have HR : Hid (BRd w a bs) := hr
  have HN : Hid (a = none → bs = []) := hn
  clear hr hn
  go_enter Try.func5, Try.ntmps5
  go_wp2_with fail
  refine (bytes13_yes a bs.length cap pos _ hl).mono ?_
  rintro e w' ⟨rfl, hw⟩
  subst hw
  go_wp2_with fail
  refine (clone_any a bs cap _ HR.out HN.out hl).mono ?_
  rintro e w1 ⟨a1, rfl, hr1, hcase, hb1⟩
  have HR1 : Hid (BRd w1 a1 bs) := hr1
  have HB1 : Hid (Below w'.heap.size w' w1) := hb1
  clear hr1 hb1 HR HN
  rcases hcase with ⟨rfl, rfl⟩ | rfl
  · go_wp2_with fail
    refine (zzskip_any none [] 0 pos _ HR1.out (by simp) hpos).mono ?_
    rintro e w2 ⟨q, rfl, hL, hb2⟩
    have HB2 : Hid (Below w'.heap.size w' w2) := tr HB1.out hb2
    have hq := hL.past (Nat.zero_le _)
    subst hq
    clear hL hb2
    go_wp2
    go_ret
    exact ⟨rfl, HB2.out⟩
  go_wp2_with fail
  refine (zzskip_any (some ⟨w'.heap.size, 0, none⟩) bs bs.length pos _ HR1.out (by omega) hpos).mono ?_
  rintro e w2 ⟨q, rfl, hL, hb2⟩
  have HL : Hid (Lands bs pos q) := hL
  have HB2 : Hid (Below w'.heap.size w' w2) := tr HB1.out hb2
  have HR2 : Hid (BRd w2 (some ⟨w'.heap.size, 0, none⟩) bs) := HR1.out.below hb2
  have g1 := hL.ge
  clear hL hb2 HR1 HB1
  by_cases hpl : bs.length ≤ pos
  · have hq := HL.out.past hpl
    subst hq
    go_wp2
    go_ret
    exact ⟨rfl, HB2.out⟩
  · have hql := HL.out.le (by omega)
    have d1 : decide ((q : Int) < (pos : Int)) = false := decide_eq_false (by omega)
    have d2 : decide ((bs.length : Int) < (q : Int)) = false := decide_eq_false (by omega)
    have d1' : decide (q < pos) = false := decide_eq_false (by omega)
    have d2' : decide (bs.length < q) = false := decide_eq_false (by omega)
    go_wp2_with fail
    clear d1 d2 d1' d2'
    go_loop [6] (fun v => ∃ i : Nat, pos ≤ i ∧ i ≤ q ∧ v = .int .i64 i) (fun v => q - (intOf v).toNat)
    case atStart => exact ⟨pos, Nat.le_refl _, g1, rfl⟩
    case round =>
      obtain ⟨i, h1, h2, rfl⟩ := hrel
      by_cases hiq : i < q
      · have hck := HR2.out.cells0 i (by omega)
        have hs := HL.out.sp i h1 hiq
        obtain ⟨c, hcc⟩ : ∃ c, c = bs.getD i 0 := ⟨_, rfl⟩
        rw [← hcc] at hck hs
        have HS : Hid (isSp c = true) := hs
        clear hcc hs
        go_wp2_with fail
        refine (isSp_is c true _ HS.out).mono ?_
        rintro e wz ⟨rfl, hw⟩
        subst hw
        go_wp2
        go_round
        case rel => exact ⟨i + 1, by omega, by omega, by go_num⟩
        case measure => simp [intOf]; omega
      · by_cases hqn : q < bs.length
        · have d3 : decide ((q : Int) < (bs.length : Int)) = true := decide_eq_true (by omega)
          have hck := HR2.out.cells0 q hqn
          have hs := HL.out.fin hqn
          obtain ⟨c, hcc⟩ : ∃ c, c = bs.getD q 0 := ⟨_, rfl⟩
          rw [← hcc] at hck hs
          have HS : Hid (isSp c = false) := hs
          clear hcc hs
          go_wp2_with fail
          refine (isSp_is c false _ HS.out).mono ?_
          rintro e wz ⟨rfl, hw⟩
          subst hw
          go_wp2
          go_ret
          exact ⟨rfl, HB2.out⟩
        · have d3 : decide ((q : Int) < (bs.length : Int)) = false := decide_eq_false (by omega)
          go_wp2
          go_ret
          exact ⟨rfl, HB2.out⟩
end Go.Proofs.Qxb6603107a
